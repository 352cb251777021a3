import JvmDerived
import JvmDerived.Pilot.@@N@@Statement
import JvmDerived.Pilot.@@N@@Code
set_option linter.unusedVariables false
set_option linter.unusedSimpArgs false
/- laws to paste: Road.backV, Road.eqW, Road.codOf (cut by pick.py; bodies as the Statement names them) -/
namespace Jvm.Pilot.@@N@@
namespace StrChars
open Jvm Sem ClassFile Op Lib Jvm.Stand Jvm.Free.XT Jvm.Free.ALB Jvm.Free.JM Jvm.Free
open Jvm.Lib.Cold (StaticIs)
/-- a char array whose places are chars -/
def Ch (a : Addr) (A : Cell) (U : State) : Prop := Arr .char a A U ∧ Typed .char A
theorem Ch.mv {a : Addr} {A : Cell} {U U' : State} (h : Ch a A U) (hal : U.vm.Alike U'.vm) (hh : U'.heap = U.heap) : Ch a A U' := ⟨h.1.mv hal hh, h.2⟩
theorem Ch.keep {a : Addr} {A : Cell} {U U' : State} (h : Ch a A U) (hal : U.vm.Alike U'.vm) (hk : U'.heap[a]? = some A) : Ch a A U' := ⟨h.1.keep hal hk, h.2⟩
/-- what place i of a char[]'s cell holds -/
def cv (A : Cell) (i : Nat) : Int32 := match A.slots[i]? with | some (.int x) => x | _ => 0
theorem Ch.get {a : Addr} {A : Cell} {U : State} (h : Ch a A U) {i : Nat} (hi : i < A.slots.size) : A.slots[i]? = some (.int (cv A i)) := by
  have e := Array.getElem?_eq_getElem hi
  have f := h.2 i _ e
  unfold cv; rw [e]
  generalize A.slots[i] = v at f
  cases v <;> simp [fits] at f ⊢
/-- the byte that i2b leaves of a char -/
def lo8 (x : Int32) : Int32 := x.toInt8.toInt32
theorem fits_lo8 (y : Int32) : fits .byte (.int (lo8 y)) = true := by
  have h1 := y.toInt8.le_toInt
  have h2 := y.toInt8.toInt_lt
  simp only [lo8, fits, Bool.and_eq_true, decide_eq_true_eq, Int32.le_iff_toInt_le, Int8.toInt_toInt32, show (-128 : Int32).toInt = -128 from by decide, show (127 : Int32).toInt = 127 from by decide]
  omega
/-- A' is A but that each place j of lo .. hi - 1 holds f j -/
def Laid (A A' : Cell) (lo hi : Nat) (f : Nat → Value) : Prop := A'.cls = A.cls ∧ A'.vm = A.vm ∧ A'.slots.size = A.slots.size ∧ ∀ i, A'.slots[i]? = if lo ≤ i ∧ i < hi then some (f i) else A.slots[i]?
theorem Laid.zero (A : Cell) (lo : Nat) (f : Nat → Value) : Laid A A lo (lo + 0) f := ⟨rfl, rfl, rfl, fun i => by rw [if_neg (by omega)]⟩
theorem Laid.step {A Ak : Cell} {lo k : Nat} {f : Nat → Value} {v : Value} (h : Laid A Ak lo k f) (hlo : lo ≤ k) (hk : k < Ak.slots.size) (hv : v = f k) : Laid A (Ak.setSlot k v) lo (k + 1) f := by
  refine ⟨h.1, h.2.1, by simpa [Cell.setSlot] using h.2.2.1, fun i => ?_⟩
  by_cases e : k = i
  · subst e; rw [Cell.slots_setSlot_self v hk, if_pos (by omega), hv]
  · rw [Cell.slots_setSlot_ne v e, h.2.2.2 i]
    by_cases q : lo ≤ i ∧ i < k
    · rw [if_pos q, if_pos (by omega)]
    · rw [if_neg q, if_neg (by omega)]
def U16 : String := "java/lang/StringUTF16"
namespace Cmp5
def yN : MethodName := ⟨"java/lang/StringUTF16", "compress", "([CI[BII)I"⟩
abbrev yB : ByteArray := jdk_52_method_21_code
theorem d0 : decode yB 0 = .ok (.iconst 0, 1) := by decide +kernel
theorem d1 : decode yB 1 = .ok (.istore 5, 2) := by decide +kernel
theorem d3 : decode yB 3 = .ok (.iload 5, 2) := by decide +kernel
theorem d5 : decode yB 5 = .ok (.iload 4, 2) := by decide +kernel
theorem d7 : decode yB 7 = .ok (.if_icmp (.ge) 37, 3) := by decide +kernel
theorem d10 : decode yB 10 = .ok (.aload_n 0, 1) := by decide +kernel
theorem d11 : decode yB 11 = .ok (.iload_n 1, 1) := by decide +kernel
theorem d12 : decode yB 12 = .ok (.caload, 1) := by decide +kernel
theorem d13 : decode yB 13 = .ok (.istore 6, 2) := by decide +kernel
theorem d15 : decode yB 15 = .ok (.iload 6, 2) := by decide +kernel
theorem d17 : decode yB 17 = .ok (.sipush 255, 3) := by decide +kernel
theorem d20 : decode yB 20 = .ok (.if_icmp (.le) 6, 3) := by decide +kernel
theorem d26 : decode yB 26 = .ok (.aload_n 2, 1) := by decide +kernel
theorem d27 : decode yB 27 = .ok (.iload_n 3, 1) := by decide +kernel
theorem d28 : decode yB 28 = .ok (.iload 6, 2) := by decide +kernel
theorem d30 : decode yB 30 = .ok (.i2b, 1) := by decide +kernel
theorem d31 : decode yB 31 = .ok (.bastore, 1) := by decide +kernel
theorem d32 : decode yB 32 = .ok (.iinc 1 1, 3) := by decide +kernel
theorem d35 : decode yB 35 = .ok (.iinc 3 1, 3) := by decide +kernel
theorem d38 : decode yB 38 = .ok (.iinc 5 1, 3) := by decide +kernel
theorem d41 : decode yB 41 = .ok (.goto (-38), 3) := by decide +kernel
theorem d44 : decode yB 44 = .ok (.iload 4, 2) := by decide +kernel
theorem d46 : decode yB 46 = .ok (.ireturn, 1) := by decide +kernel
def site : List Cond := []
def tab : Cond := tabOf yN yB 7 (some .int) site
def P (b : Addr) (A : Cell) (d : Addr) (B : Cell) (o q len : Nat) (args : Array Value) (s : State) : Prop := args = #[.ref b, .int (Int32.ofNat o), .ref d, .int (Int32.ofNat q), .int (Int32.ofNat len)] ∧ Ch b A s ∧ Arr .byte d B s ∧ b ≠ d ∧ o + len ≤ A.slots.size ∧ q + len ≤ B.slots.size ∧ ∀ i, i < len → ¬ 255 < cv A (o + i)
def E (b : Addr) (A : Cell) (d : Addr) (B : Cell) (o q len : Nat) (r : Option Value) (s u : State) : Prop := r = some (.int (Int32.ofNat len)) ∧ ∃ B', Put d B' s u ∧ Laid B B' q (q + len) (fun j => Value.int (lo8 (cv A (o + (j - q)))))
/-- no char of the range above 255: len; the places written hold each char's low byte -/
theorem law (l : Launch) (b : Addr) (A : Cell) (d : Addr) (B : Cell) (o q len : Nat) : Law l yN 5 5 0 0 yB 7 (some .int) site (P b A d B o q len) (E b A d B o q len) (copyLocs d q len) 0 0 := by
  refine Law.of_walk (plainFor_of_name (by decide +kernel)) (by decide +kernel) (by decide +kernel) (by decide) (fun _ _ h => by rw [h.1]; rfl) (fun _ U U' hal hh h => ⟨h.1, h.2.1.mv hal hh, h.2.2.1.mv hal hh, h.2.2.2⟩) (fun r U U' V V' h1 hal h2 h => ⟨h.1, h.2.elim fun B' q => ⟨B', q.1.mv h1 h2, q.2⟩⟩) ?_
  intro p e s m args below meth c s₁ X0 hexec hbytes hml hret hlk hnm hown hh0 W hP
  obtain ⟨rfl, hA, hB, hne, l1, l2, hp⟩ := hP
  have c1 : Steps p.tables e below (s₁.setTop (entryFrame m #[.ref b, .int (Int32.ofNat o), .ref d, .int (Int32.ofNat q), .int (Int32.ofNat len)] 7)) (s₁.setTop (mkF m 0 #[.val (.ref b), .val (.int (Int32.ofNat o)), .val (.ref d), .val (.int (Int32.ofNat q)), .val (.int (Int32.ofNat len)), .unset, .unset] [])) := entry rfl
  have hA0 := hA.1.mv X0.warmed.alike hh0
  have hB0 := hB.mv X0.warmed.alike hh0
  have a31 := hA.1.2.2.2
  have c2 : Steps p.tables e below (s₁.setTop (entryFrame m #[.ref b, .int (Int32.ofNat o), .ref d, .int (Int32.ofNat q), .int (Int32.ofNat len)] 7)) (s₁.setTop (mkF m 3 #[.val (.ref b), .val (.int (Int32.ofNat o)), .val (.ref d), .val (.int (Int32.ofNat q)), .val (.int (Int32.ofNat len)), .val (.int 0), .unset] [])) := c1.trans (by
    refine iconstV X0.here hexec rfl 0 (hb hbytes d0) (by decide) ?_
    refine XS.istore X0.here hexec rfl (hb hbytes d1) rfl rfl ?_
    exact Steps.refl _)
  have loop : ∀ (r i : Nat), i + r = len → ∀ (z : Slot), (z = .unset ∨ ∃ w, z = .val w ∧ w.category = 1) → ∀ (Tl : State) (Bk : Cell), Stand p l e { frames := 0, locals := 0, cells := 0, slots := 0 } s m #[.ref b, .int (Int32.ofNat o), .ref d, .int (Int32.ofNat q), .int (Int32.ofNat len)] below meth c Tl ([] ++ copyLocs d q i) 0 0 → Put d Bk s₁ Tl → Laid B Bk q (q + i) (fun j => Value.int (lo8 (cv A (o + (j - q))))) →
      Steps p.tables e below (s₁.setTop (entryFrame m #[.ref b, .int (Int32.ofNat o), .ref d, .int (Int32.ofNat q), .int (Int32.ofNat len)] 7)) (Tl.setTop (mkF m 3 #[.val (.ref b), .val (.int (Int32.ofNat (o + i))), .val (.ref d), .val (.int (Int32.ofNat (q + i))), .val (.int (Int32.ofNat len)), .val (.int (Int32.ofNat i)), z] [])) → ∃ (T' : State) (B' : Cell) (z' : Slot), Stand p l e { frames := 0, locals := 0, cells := 0, slots := 0 } s m #[.ref b, .int (Int32.ofNat o), .ref d, .int (Int32.ofNat q), .int (Int32.ofNat len)] below meth c T' ([] ++ copyLocs d q len) 0 0 ∧ Put d B' s₁ T' ∧ Laid B B' q (q + len) (fun j => Value.int (lo8 (cv A (o + (j - q))))) ∧
      Steps p.tables e below (s₁.setTop (entryFrame m #[.ref b, .int (Int32.ofNat o), .ref d, .int (Int32.ofNat q), .int (Int32.ofNat len)] 7)) (T'.setTop (mkF m 3 #[.val (.ref b), .val (.int (Int32.ofNat (o + len))), .val (.ref d), .val (.int (Int32.ofNat (q + len))), .val (.int (Int32.ofNat len)), .val (.int (Int32.ofNat len)), z'] [])) := by
    intro r
    induction r with
    | zero =>
      intro i hi z hz Tl Bk Xl pl fl cl
      have hil : i = len := by omega
      rw [hil] at Xl fl cl
      exact ⟨Tl, Bk, z, Xl, pl, fl, cl⟩
    | succ r ih =>
      intro i hi z hz Tl Bk Xl pl fl cl
      have all := X0.warmed.alike.symm.trans Xl.warmed.alike
      have hAl := hA0.keep all (pl.other hne hA0.1)
      have hBk := hB0.like all pl.1 fl.1 fl.2.1 fl.2.2.1
      have hlt : q + i < Bk.slots.size := by rw [fl.2.2.1]; omega
      have c3 : Steps p.tables e below (s₁.setTop (entryFrame m #[.ref b, .int (Int32.ofNat o), .ref d, .int (Int32.ofNat q), .int (Int32.ofNat len)] 7)) (Tl.setTop (mkF m 12 #[.val (.ref b), .val (.int (Int32.ofNat (o + i))), .val (.ref d), .val (.int (Int32.ofNat (q + i))), .val (.int (Int32.ofNat len)), .val (.int (Int32.ofNat i)), z] [.int (Int32.ofNat (o + i)), .ref b])) := cl.trans (by
        refine XS.iload Xl.here hexec rfl (hb hbytes d3) rfl ?_
        refine XS.iload Xl.here hexec rfl (hb hbytes d5) rfl ?_
        refine XS.icmpNo Xl.here hexec rfl (hb hbytes d7) rfl (ii_ge_f (lt32 (by omega) (by omega))) ?_
        refine XS.aloadN Xl.here hexec rfl (hb hbytes d10) rfl rfl ?_
        refine XS.iloadN Xl.here hexec rfl (hb hbytes d11) rfl ?_
        exact Steps.refl _)
      have c4 : Steps p.tables e below (s₁.setTop (entryFrame m #[.ref b, .int (Int32.ofNat o), .ref d, .int (Int32.ofNat q), .int (Int32.ofNat len)] 7)) (Tl.setTop (mkF m 13 #[.val (.ref b), .val (.int (Int32.ofNat (o + i))), .val (.ref d), .val (.int (Int32.ofNat (q + i))), .val (.int (Int32.ofNat len)), .val (.int (Int32.ofNat i)), z] [.int (cv A (o + i))])) := c3.trans (by
        refine Xl.aget hexec hAl rfl (hA.get (i := o + i) (by omega)) rfl rfl (hb hbytes d12) ?_
        exact Steps.refl _)
      have c5 : Steps p.tables e below (s₁.setTop (entryFrame m #[.ref b, .int (Int32.ofNat o), .ref d, .int (Int32.ofNat q), .int (Int32.ofNat len)] 7)) (Tl.setTop (mkF m 15 #[.val (.ref b), .val (.int (Int32.ofNat (o + i))), .val (.ref d), .val (.int (Int32.ofNat (q + i))), .val (.int (Int32.ofNat len)), .val (.int (Int32.ofNat i)), .val (.int (cv A (o + i)))] [])) := c4.trans (by
        refine XS.istoreS Xl.here hexec rfl (hb hbytes d13) rfl rfl hz ?_
        exact Steps.refl _)
      have c6 : Steps p.tables e below (s₁.setTop (entryFrame m #[.ref b, .int (Int32.ofNat o), .ref d, .int (Int32.ofNat q), .int (Int32.ofNat len)] 7)) (Tl.setTop (mkF m 31 #[.val (.ref b), .val (.int (Int32.ofNat (o + i))), .val (.ref d), .val (.int (Int32.ofNat (q + i))), .val (.int (Int32.ofNat len)), .val (.int (Int32.ofNat i)), .val (.int (cv A (o + i)))] [.int (lo8 (cv A (o + i))), .int (Int32.ofNat (q + i)), .ref d])) := c5.trans (by
        refine XS.iload Xl.here hexec rfl (hb hbytes d15) rfl ?_
        refine sipushV Xl.here hexec rfl 255 (hb hbytes d17) (by decide) ?_
        refine XS.icmpYes Xl.here hexec rfl (pc0 := 20) rfl (hb hbytes d20) rfl (ii_le_t (hp i (by omega))) (by decide) rfl ?_
        refine XS.aloadN Xl.here hexec rfl (hb hbytes d26) rfl rfl ?_
        refine XS.iloadN Xl.here hexec rfl (hb hbytes d27) rfl ?_
        refine XS.iload Xl.here hexec rfl (hb hbytes d28) rfl ?_
        refine i2b Xl.here hexec rfl (hb hbytes d30) rfl ?_
        exact Steps.refl _)
      obtain ⟨T7, X7, p7, st7⟩ := Xl.aput hexec hBk rfl hlt rfl (fits_lo8 (cv A (o + i))) (g := (mkF m 31 #[.val (.ref b), .val (.int (Int32.ofNat (o + i))), .val (.ref d), .val (.int (Int32.ofNat (q + i))), .val (.int (Int32.ofNat len)), .val (.int (Int32.ofNat i)), .val (.int (cv A (o + i)))] [.int (lo8 (cv A (o + i))), .int (Int32.ofNat (q + i)), .ref d])) rfl (rest := []) rfl (hb hbytes d31)
      have c8 : Steps p.tables e below (s₁.setTop (entryFrame m #[.ref b, .int (Int32.ofNat o), .ref d, .int (Int32.ofNat q), .int (Int32.ofNat len)] 7)) (T7.setTop (mkF m 32 #[.val (.ref b), .val (.int (Int32.ofNat (o + i))), .val (.ref d), .val (.int (Int32.ofNat (q + i))), .val (.int (Int32.ofNat len)), .val (.int (Int32.ofNat i)), .val (.int (cv A (o + i)))] [])) := c6.trans (st7 _ (Steps.refl _))
      have c9 : Steps p.tables e below (s₁.setTop (entryFrame m #[.ref b, .int (Int32.ofNat o), .ref d, .int (Int32.ofNat q), .int (Int32.ofNat len)] 7)) (T7.setTop (mkF m 3 #[.val (.ref b), .val (.int (Int32.ofNat (o + i) + 1)), .val (.ref d), .val (.int (Int32.ofNat (q + i) + 1)), .val (.int (Int32.ofNat len)), .val (.int (Int32.ofNat i + 1)), .val (.int (cv A (o + i)))] [])) := c8.trans (by
        refine iincV X7.here hexec rfl 1 (hb hbytes d32) (by decide) rfl rfl ?_
        refine iincV X7.here hexec rfl 1 (hb hbytes d35) (by decide) rfl rfl ?_
        refine iincV X7.here hexec rfl 1 (hb hbytes d38) (by decide) rfl rfl ?_
        refine XS.goto X7.here hexec rfl (pc0 := 41) rfl (hb hbytes d41) (by decide) rfl ?_
        exact Steps.refl _)
      have c10 : Steps p.tables e below (s₁.setTop (entryFrame m #[.ref b, .int (Int32.ofNat o), .ref d, .int (Int32.ofNat q), .int (Int32.ofNat len)] 7)) (T7.setTop (mkF m 3 #[.val (.ref b), .val (.int (Int32.ofNat (o + (i + 1)))), .val (.ref d), .val (.int (Int32.ofNat (q + (i + 1)))), .val (.int (Int32.ofNat len)), .val (.int (Int32.ofNat (i + 1))), .val (.int (cv A (o + i)))] [])) := by
        have := c9
        rw [succ32, succ32, succ32] at this
        exact this
      exact ih (i + 1) (by omega) _ (Or.inr ⟨_, rfl, rfl⟩) T7 _ (by rw [copyLocs_step, ← List.append_assoc]; exact X7) (pl.trans p7) (fl.step (by omega) hlt (by simp)) c10
  obtain ⟨T9, B9, z9, X9, p9, f9, g9⟩ := loop len 0 (by omega) .unset (Or.inl rfl) s₁ B (by simpa [copyLocs] using X0) ⟨hB0.1, fun _ _ => rfl, rfl⟩ (Laid.zero _ _ _) c2
  have c11 : Steps p.tables e below (s₁.setTop (entryFrame m #[.ref b, .int (Int32.ofNat o), .ref d, .int (Int32.ofNat q), .int (Int32.ofNat len)] 7)) (T9.setTop (mkF m 46 #[.val (.ref b), .val (.int (Int32.ofNat (o + len))), .val (.ref d), .val (.int (Int32.ofNat (q + len))), .val (.int (Int32.ofNat len)), .val (.int (Int32.ofNat len)), z9] [.int (Int32.ofNat len)])) := g9.trans (by
    refine XS.iload X9.here hexec rfl (hb hbytes d3) rfl ?_
    refine XS.iload X9.here hexec rfl (hb hbytes d5) rfl ?_
    refine XS.icmpYes X9.here hexec rfl (pc0 := 7) rfl (hb hbytes d7) rfl (ii_ge_t (nlt32 (by omega) (Nat.le_refl _))) (by decide) rfl ?_
    refine XS.iload X9.here hexec rfl (hb hbytes d44) rfl ?_
    exact Steps.refl _)
  exact ⟨T9, some (.int (Int32.ofNat len)), _, _, _, X9, by simp, rfl, rfl, (fun h => by cases h), ⟨rfl, B9, p9.from hh0, f9⟩, fun fs hl => c11.trans (X9.ireturnOut hexec hret rfl (Or.inl rfl) (hb hbytes d46) hl)⟩
end Cmp5
namespace Cmp3
def yN : MethodName := ⟨"java/lang/StringUTF16", "compress", "([CII)[B"⟩
abbrev yB : ByteArray := jdk_52_method_16_code
theorem d0 : decode yB 0 = .ok (.iload_n 2, 1) := by decide +kernel
theorem d1 : decode yB 1 = .ok (.newarray .byte, 2) := by decide +kernel
theorem d3 : decode yB 3 = .ok (.astore_n 3, 1) := by decide +kernel
theorem d4 : decode yB 4 = .ok (.aload_n 0, 1) := by decide +kernel
theorem d5 : decode yB 5 = .ok (.iload_n 1, 1) := by decide +kernel
theorem d6 : decode yB 6 = .ok (.aload_n 3, 1) := by decide +kernel
theorem d7 : decode yB 7 = .ok (.iconst 0, 1) := by decide +kernel
theorem d8 : decode yB 8 = .ok (.iload_n 2, 1) := by decide +kernel
theorem d9 : decode yB 9 = .ok (.invokestatic 115, 3) := by decide +kernel
theorem d12 : decode yB 12 = .ok (.istore 4, 2) := by decide +kernel
theorem d14 : decode yB 14 = .ok (.iload 4, 2) := by decide +kernel
theorem d16 : decode yB 16 = .ok (.iload_n 2, 1) := by decide +kernel
theorem d17 : decode yB 17 = .ok (.if_icmp (.eq) 40, 3) := by decide +kernel
theorem d57 : decode yB 57 = .ok (.aload_n 3, 1) := by decide +kernel
theorem d58 : decode yB 58 = .ok (.areturn, 1) := by decide +kernel
def site : List Cond := [.arrayClass .byte, Cmp5.tab] ++ staticW U16 115 Cmp5.yN
def tab : Cond := tabOf yN yB 6 (some (.array .byte)) site
def P (b : Addr) (A : Cell) (o len : Nat) (args : Array Value) (s : State) : Prop := args = #[.ref b, .int (Int32.ofNat o), .int (Int32.ofNat len)] ∧ Ch b A s ∧ o + len ≤ A.slots.size ∧ len ≤ 536870912 ∧ ∀ i, i < len → ¬ 255 < cv A (o + i)
def E (b : Addr) (A : Cell) (o len : Nat) (r : Option Value) (s u : State) : Prop := NewArr .byte "[B" len (fun j => .int (lo8 (cv A (o + j)))) r s u ∧ u.heap.size = s.heap.size + 1
/-- no char of the range above 255: a new byte[] of their low bytes -/
theorem law (l : Launch) (b : Addr) (A : Cell) (o len : Nat) : Law l yN 3 3 1 18 yB 6 (some (.array .byte)) site (P b A o len) (E b A o len) [] 1 len := by
  refine Law.of_walk (plainFor_of_name (by decide +kernel)) (by decide +kernel) (by decide +kernel) (by decide) (fun _ _ h => by rw [h.1]; rfl) (fun _ U U' hal hh h => ⟨h.1, h.2.1.mv hal hh, h.2.2⟩) (fun r U U' V V' h1 hal h2 h => ⟨NewArr.mv r U U' V V' h1 hal h2 h.1, by rw [h1, h2]; exact h.2⟩) ?_
  intro p e s m args below meth c s₁ X0 hexec hbytes hml hret hlk hnm hown hh0 W hP
  obtain ⟨rfl, hA, l1, l2, hp⟩ := hP
  have a31 := hA.1.2.2.2
  have c1 : Steps p.tables e below (s₁.setTop (entryFrame m #[.ref b, .int (Int32.ofNat o), .int (Int32.ofNat len)] 6)) (s₁.setTop (mkF m 0 #[.val (.ref b), .val (.int (Int32.ofNat o)), .val (.int (Int32.ofNat len)), .unset, .unset, .unset] [])) := entry rfl
  have c2 : Steps p.tables e below (s₁.setTop (entryFrame m #[.ref b, .int (Int32.ofNat o), .int (Int32.ofNat len)] 6)) (s₁.setTop (mkF m 1 #[.val (.ref b), .val (.int (Int32.ofNat o)), .val (.int (Int32.ofNat len)), .unset, .unset, .unset] [.int (Int32.ofNat len)])) := c1.trans (by
    refine XS.iloadN X0.here hexec rfl (hb hbytes d0) rfl ?_
    exact Steps.refl _)
  obtain ⟨T3, B3, X3, ba3, bs3, bv3, bh3, bf3, st3⟩ := X0.anew hexec (atype := .byte) (wk W (.arrayClass .byte)) rfl (by show len * 1 ≤ _; omega) (by omega) (g := (mkF m 1 #[.val (.ref b), .val (.int (Int32.ofNat o)), .val (.int (Int32.ofNat len)), .unset, .unset, .unset] [.int (Int32.ofNat len)])) rfl (hb hbytes d1) (rest := []) rfl (Nat.le_refl _) (by show 0 + len ≤ len; omega)
  rw [hh0] at ba3 st3
  have kp3 : XT.Kept s T3 := (XT.Kept.of_eq hh0).push bh3
  have hA3 := hA.keep X3.warmed.alike (kp3 _ _ hA.1.1)
  have hne : b ≠ s.heap.size := hA.1.ne
  have c4 : Steps p.tables e below (s₁.setTop (entryFrame m #[.ref b, .int (Int32.ofNat o), .int (Int32.ofNat len)] 6)) (T3.setTop (mkF m 3 #[.val (.ref b), .val (.int (Int32.ofNat o)), .val (.int (Int32.ofNat len)), .unset, .unset, .unset] [.ref s.heap.size])) := c2.trans (st3 _ (Steps.refl _))
  have c5 : Steps p.tables e below (s₁.setTop (entryFrame m #[.ref b, .int (Int32.ofNat o), .int (Int32.ofNat len)] 6)) (T3.setTop (mkF m 9 #[.val (.ref b), .val (.int (Int32.ofNat o)), .val (.int (Int32.ofNat len)), .val (.ref s.heap.size), .unset, .unset] [.int (Int32.ofNat len), .int 0, .ref s.heap.size, .int (Int32.ofNat o), .ref b])) := c4.trans (by
    refine XS.astoreN X3.here hexec rfl (hb hbytes d3) rfl rfl rfl ?_
    refine XS.aloadN X3.here hexec rfl (hb hbytes d4) rfl rfl ?_
    refine XS.iloadN X3.here hexec rfl (hb hbytes d5) rfl ?_
    refine XS.aloadN X3.here hexec rfl (hb hbytes d6) rfl rfl ?_
    refine iconstV X3.here hexec rfl 0 (hb hbytes d7) (by decide) ?_
    refine XS.iloadN X3.here hexec rfl (hb hbytes d8) rfl ?_
    exact Steps.refl _)
  obtain ⟨v6, T6, X6, E6, g6⟩ := X3.callS hexec (Cmp5.law l b A s.heap.size B3 o 0 len) hown (wks W (staticW U16 115 Cmp5.yN)) (wk W Cmp5.tab) (W := 0) (Nat.le_of_ble_eq_true rfl) (Nat.le_of_ble_eq_true rfl) (Nat.le_refl _) (by show 0 + len + 0 ≤ len; omega) (g := (mkF m 9 #[.val (.ref b), .val (.int (Int32.ofNat o)), .val (.int (Int32.ofNat len)), .val (.ref s.heap.size), .unset, .unset] [.int (Int32.ofNat len), .int (Int32.ofNat 0), .ref s.heap.size, .int (Int32.ofNat o), .ref b])) rfl (by rw [hml]; rfl) c5 (argsL := [.ref b, .int (Int32.ofNat o), .ref s.heap.size, .int (Int32.ofNat 0), .int (Int32.ofNat len)]) (rest := []) rfl rfl (by show 2 * 0 + 0 ≤ _; decide) (hb hbytes d9) (⟨rfl, hA3, ba3, hne, l1, by rw [bs3]; simp, hp⟩)
  obtain ⟨rfl, B6, p6, f6⟩ := E6
  have c7 : Steps p.tables e below (s₁.setTop (entryFrame m #[.ref b, .int (Int32.ofNat o), .int (Int32.ofNat len)] 6)) (T6.setTop (mkF m 12 #[.val (.ref b), .val (.int (Int32.ofNat o)), .val (.int (Int32.ofNat len)), .val (.ref s.heap.size), .unset, .unset] [.int (Int32.ofNat len)])) := g6
  have c8 : Steps p.tables e below (s₁.setTop (entryFrame m #[.ref b, .int (Int32.ofNat o), .int (Int32.ofNat len)] 6)) (T6.setTop (mkF m 58 #[.val (.ref b), .val (.int (Int32.ofNat o)), .val (.int (Int32.ofNat len)), .val (.ref s.heap.size), .val (.int (Int32.ofNat len)), .unset] [.ref s.heap.size])) := c7.trans (by
    refine XS.istore X6.here hexec rfl (hb hbytes d12) rfl rfl ?_
    refine XS.iload X6.here hexec rfl (hb hbytes d14) rfl ?_
    refine XS.iloadN X6.here hexec rfl (hb hbytes d16) rfl ?_
    refine XS.icmpYes X6.here hexec rfl (pc0 := 17) rfl (hb hbytes d17) rfl (ii_eq_t rfl) (by decide) rfl ?_
    refine XS.aloadN X6.here hexec rfl (hb hbytes d57) rfl rfl ?_
    exact Steps.refl _)
  have X8 := X6.wide (L' := []) (cells' := 1) (slots' := len) (fun x hx hlt => by
    simp only [List.nil_append, copyLocs, List.mem_map, List.mem_range] at hx
    obtain ⟨i, -, rfl⟩ := hx
    exact absurd hlt (Nat.lt_irrefl _)) (Nat.le_refl _) (by omega)
  exact ⟨T6, some (.ref s.heap.size), _, _, _, X8, rfl, rfl, rfl, (fun h => by cases h), ⟨⟨rfl, B6, ba3.like (X3.warmed.alike.symm.trans X6.warmed.alike) p6.1 f6.1 f6.2.1 f6.2.2.1, f6.2.1.trans bv3, by rw [X6.warmed.alike.findClass, f6.1]; exact bf3, by rw [f6.2.2.1, bs3]; simp, fun j hj => by rw [f6.2.2.2 j, if_pos (by omega)]; rfl, kp3.put p6 (Nat.le_refl _)⟩, by rw [p6.2.2, bh3, hh0]; simp⟩, fun fs hl => c8.trans (X8.areturnOut hexec rfl hret rfl (hb hbytes d58) hl)⟩
end Cmp3
namespace CodL
def yN : MethodName := ⟨"java/lang/StringUTF16", "coderFromArrayLen", "([BI)B"⟩
abbrev yB : ByteArray := jdk_52_method_15_code
theorem d0 : decode yB 0 = .ok (.iload_n 1, 1) := by decide +kernel
theorem d1 : decode yB 1 = .ok (.aload_n 0, 1) := by decide +kernel
theorem d2 : decode yB 2 = .ok (.arraylength, 1) := by decide +kernel
theorem d3 : decode yB 3 = .ok (.isub, 1) := by decide +kernel
theorem d4 : decode yB 4 = .ok (.bipush 31, 2) := by decide +kernel
theorem d6 : decode yB 6 = .ok (.iushr, 1) := by decide +kernel
theorem d7 : decode yB 7 = .ok (.i2b, 1) := by decide +kernel
theorem d8 : decode yB 8 = .ok (.ireturn, 1) := by decide +kernel
def site : List Cond := []
def tab : Cond := tabOf yN yB 2 (some .byte) site
def P (d : Addr) (B : Cell) (args : Array Value) (s : State) : Prop := args = #[.ref d, .int (Int32.ofNat B.slots.size)] ∧ Arr .byte d B s
def E (r : Option Value) (s u : State) : Prop := XT.PureE (some (.int 0)) r s u
/-- an array as long as the number of chars: LATIN1 -/
theorem law (l : Launch) (d : Addr) (B : Cell) : Law l yN 2 2 0 0 yB 2 (some .byte) site (P d B) E [] 0 0 := by
  refine Law.of_walk (plainFor_of_name (by decide +kernel)) (by decide +kernel) (by decide +kernel) (by decide) (fun _ _ h => by rw [h.1]; rfl) (fun _ U U' hal hh h => ⟨h.1, h.2.mv hal hh⟩) (fun r U U' V V' h1 hal h2 h => XT.PureE.mv r U U' V V' h1 hal h2 h) ?_
  intro p e s m args below meth c s₁ X0 hexec hbytes hml hret hlk hnm hown hh0 W hP
  obtain ⟨rfl, hB⟩ := hP
  have hB0 := hB.mv X0.warmed.alike hh0
  have c1 : Steps p.tables e below (s₁.setTop (entryFrame m #[.ref d, .int (Int32.ofNat B.slots.size)] 2)) (s₁.setTop (mkF m 0 #[.val (.ref d), .val (.int (Int32.ofNat B.slots.size))] [])) := entry rfl
  have c2 : Steps p.tables e below (s₁.setTop (entryFrame m #[.ref d, .int (Int32.ofNat B.slots.size)] 2)) (s₁.setTop (mkF m 2 #[.val (.ref d), .val (.int (Int32.ofNat B.slots.size))] [.ref d, .int (Int32.ofNat B.slots.size)])) := c1.trans (by
    refine XS.iloadN X0.here hexec rfl (hb hbytes d0) rfl ?_
    refine XS.aloadN X0.here hexec rfl (hb hbytes d1) rfl rfl ?_
    exact Steps.refl _)
  have c3 : Steps p.tables e below (s₁.setTop (entryFrame m #[.ref d, .int (Int32.ofNat B.slots.size)] 2)) (s₁.setTop (mkF m 8 #[.val (.ref d), .val (.int (Int32.ofNat B.slots.size))] [.int (lo8 (ushr (Int32.ofNat B.slots.size - Int32.ofNat B.slots.size) 31))])) := c2.trans (by
    refine X0.alen hexec hB0 rfl rfl (hb hbytes d2) ?_
    refine XS.isub X0.here hexec rfl (hb hbytes d3) rfl ?_
    refine bipushV X0.here hexec rfl 31 (hb hbytes d4) (by decide) ?_
    refine iushr X0.here hexec rfl (hb hbytes d6) rfl ?_
    refine i2b X0.here hexec rfl (hb hbytes d7) rfl ?_
    exact Steps.refl _)
  have e0 : lo8 (ushr (Int32.ofNat B.slots.size - Int32.ofNat B.slots.size) 31) = 0 := by rw [Int32.sub_self]; decide
  rw [e0] at c3
  exact ⟨s₁, some (.int 0), _, _, _, X0, rfl, rfl, rfl, (fun h => by cases h), ⟨rfl, hh0⟩, fun fs hl => c3.trans (X0.ireturnOut hexec hret rfl (Or.inr (Or.inr (Or.inl rfl))) (hb hbytes d8) hl)⟩
end CodL
/-- the String at a is Latin-1 over a new byte[] (the heap's one new cell): the low bytes of the len chars of A from o on; every cell but a is kept -/
def Got (a : Addr) (D : Cell) (fV fC : Field) (A : Cell) (o len : Nat) (r : Option Value) (s u : State) : Prop := r = none ∧ ∃ D' V : Cell, Blank "java/lang/String" a D' u ∧ Same D D' [fV.slot, fC.slot] ∧ D'.slots[fV.slot]? = some (.ref s.heap.size) ∧ D'.slots[fC.slot]? = some (.int 0) ∧ Arr .byte s.heap.size V u ∧ V.vm = .none ∧ u.vm.findClass "[B" = some V.cls ∧ V.slots.size = len ∧ (∀ j, j < len → V.slots[j]? = some (.int (lo8 (cv A (o + j))))) ∧ (∀ (y : Addr) (c : Cell), y ≠ a → s.heap[y]? = some c → u.heap[y]? = some c) ∧ u.heap.size = s.heap.size + 1
theorem Got.mv {a : Addr} {D A : Cell} {fV fC : Field} {o len : Nat} : ∀ r (U U' V V' : State), U'.heap = U.heap → V.vm.Alike V'.vm → V'.heap = V.heap → Got a D fV fC A o len r U V → Got a D fV fC A o len r U' V' :=
  fun r U U' V V' h1 hal h2 ⟨e0, D', X, a1, a2, a3, a4, a5, a6, a7, a8, a9, a10, a11⟩ => ⟨e0, D', X, a1.mv hal h2, a2, by rw [h1]; exact a3, a4, by rw [h1]; exact a5.mv hal h2, a6, by rw [hal.findClass]; exact a7, a8, a9, by rw [h1, h2]; exact a10, by rw [h1, h2]; exact a11⟩
namespace New4
def yN : MethodName := ⟨"java/lang/String", "<init>", "([CIILjava/lang/Void;)V"⟩
abbrev yB : ByteArray := jdk_42_method_149_code
theorem d0 : decode yB 0 = .ok (.aload_n 0, 1) := by decide +kernel
theorem d1 : decode yB 1 = .ok (.invokespecial 1, 3) := by decide +kernel
theorem d4 : decode yB 4 = .ok (.iload_n 3, 1) := by decide +kernel
theorem d5 : decode yB 5 = .ok (.ifCond (.ne) 22, 3) := by decide +kernel
theorem d27 : decode yB 27 = .ok (.getstatic 38, 3) := by decide +kernel
theorem d30 : decode yB 30 = .ok (.ifCond (.eq) 28, 3) := by decide +kernel
theorem d33 : decode yB 33 = .ok (.aload_n 1, 1) := by decide +kernel
theorem d34 : decode yB 34 = .ok (.iload_n 2, 1) := by decide +kernel
theorem d35 : decode yB 35 = .ok (.iload_n 3, 1) := by decide +kernel
theorem d36 : decode yB 36 = .ok (.invokestatic 177, 3) := by decide +kernel
theorem d39 : decode yB 39 = .ok (.astore 5, 2) := by decide +kernel
theorem d41 : decode yB 41 = .ok (.aload_n 0, 1) := by decide +kernel
theorem d42 : decode yB 42 = .ok (.aload 5, 2) := by decide +kernel
theorem d44 : decode yB 44 = .ok (.iload_n 3, 1) := by decide +kernel
theorem d45 : decode yB 45 = .ok (.invokestatic 47, 3) := by decide +kernel
theorem d48 : decode yB 48 = .ok (.putfield 15, 3) := by decide +kernel
theorem d51 : decode yB 51 = .ok (.aload_n 0, 1) := by decide +kernel
theorem d52 : decode yB 52 = .ok (.aload 5, 2) := by decide +kernel
theorem d54 : decode yB 54 = .ok (.putfield 9, 3) := by decide +kernel
theorem d57 : decode yB 57 = .ok (.return_, 1) := by decide +kernel
def site : List Cond := [.fieldLink "java/lang/String" 38 "java/lang/String" "COMPACT_STRINGS" "Z", Cmp3.tab, CodL.tab, .laysFinal "java/lang/String" "java/lang/String" "value" "[B", .fieldLink "java/lang/String" 9 "java/lang/String" "value" "[B", .laysFinal "java/lang/String" "java/lang/String" "coder" "B", .fieldLink "java/lang/String" 15 "java/lang/String" "coder" "B"] ++ objW "java/lang/String" 1 ++ staticW "java/lang/String" 177 Cmp3.yN ++ staticW "java/lang/String" 47 CodL.yN
def tab : Cond := tabOf yN yB 6 none site
def P (a : Addr) (D : Cell) (fV fC : Field) (b : Addr) (A : Cell) (z : Int32) (o len : Nat) (args : Array Value) (s : State) : Prop := args = #[.ref a, .ref b, .int (Int32.ofNat o), .int (Int32.ofNat len), .null] ∧ Blank "java/lang/String" a D s ∧ Found "java/lang/String" "value" "[B" fV s ∧ Found "java/lang/String" "coder" "B" fC s ∧ Ch b A s ∧ StaticIs s "java/lang/String" "COMPACT_STRINGS" "Z" (.int z) ∧ ¬ z = 0 ∧ 0 < len ∧ o + len ≤ A.slots.size ∧ len ≤ 536870912 ∧ ∀ i, i < len → ¬ 255 < cv A (o + i)
def E (a : Addr) (D : Cell) (fV fC : Field) (A : Cell) (o len : Nat) (r : Option Value) (s u : State) : Prop := Got a D fV fC A o len r s u
/-- len > 0, no char of the range above 255: a Latin-1 String of their low bytes -/
theorem law (l : Launch) (a : Addr) (D : Cell) (fV fC : Field) (b : Addr) (A : Cell) (z : Int32) (o len : Nat) : Law l yN 5 4 2 35 yB 6 none site (P a D fV fC b A z o len) (E a D fV fC A o len) [⟨a, fC.slot⟩, ⟨a, fV.slot⟩] 1 len := by
  refine Law.of_walk (plainFor_of_name (by decide +kernel)) (by decide +kernel) (by decide +kernel) (by decide) (fun _ _ h => by rw [h.1]; rfl) (fun _ U U' hal hh h => ⟨h.1, h.2.1.mv hal hh, h.2.2.1.al hal, h.2.2.2.1.al hal, h.2.2.2.2.1.mv hal hh, h.2.2.2.2.2.1.there hal hh, h.2.2.2.2.2.2⟩) (fun r U U' V V' h1 hal h2 h => Got.mv r U U' V V' h1 hal h2 h) ?_
  intro p e s m args below meth c s₁ X0 hexec hbytes hml hret hlk hnm hown hh0 W hP
  obtain ⟨rfl, hB, f1, f2, hA, s1, hz, l0, l1, l2, hp⟩ := hP
  have a31 := hA.1.2.2.2
  have c1 : Steps p.tables e below (s₁.setTop (entryFrame m #[.ref a, .ref b, .int (Int32.ofNat o), .int (Int32.ofNat len), .null] 6)) (s₁.setTop (mkF m 0 #[.val (.ref a), .val (.ref b), .val (.int (Int32.ofNat o)), .val (.int (Int32.ofNat len)), .val .null, .unset] [])) := entry rfl
  have c2 : Steps p.tables e below (s₁.setTop (entryFrame m #[.ref a, .ref b, .int (Int32.ofNat o), .int (Int32.ofNat len), .null] 6)) (s₁.setTop (mkF m 1 #[.val (.ref a), .val (.ref b), .val (.int (Int32.ofNat o)), .val (.int (Int32.ofNat len)), .val .null, .unset] [.ref a])) := c1.trans (by
    refine XS.aloadN X0.here hexec rfl (hb hbytes d0) rfl rfl ?_
    exact Steps.refl _)
  obtain ⟨T3, X3, q3, st3⟩ := X0.oinit hexec hown (wks W (objW "java/lang/String" 1)) (g := (mkF m 1 #[.val (.ref a), .val (.ref b), .val (.int (Int32.ofNat o)), .val (.int (Int32.ofNat len)), .val .null, .unset] [.ref a])) rfl (by rw [hml]; rfl) (rest := []) rfl (hb hbytes d1) (W := 0) (by show 2 * 0 + 0 ≤ _; decide) (Nat.le_of_ble_eq_true rfl) (Nat.le_of_ble_eq_true rfl)
  have hh3 := q3.trans hh0
  have c4 : Steps p.tables e below (s₁.setTop (entryFrame m #[.ref a, .ref b, .int (Int32.ofNat o), .int (Int32.ofNat len), .null] 6)) (T3.setTop (mkF m 27 #[.val (.ref a), .val (.ref b), .val (.int (Int32.ofNat o)), .val (.int (Int32.ofNat len)), .val .null, .unset] [])) := (c2.trans (st3 _ (Steps.refl _))).trans (by
    refine XS.iloadN X3.here hexec rfl (hb hbytes d4) rfl ?_
    refine XS.ifYes X3.here hexec rfl (pc0 := 5) rfl (hb hbytes d5) rfl (i0_ne_t (nz32 (by omega) l0)) (by decide) rfl ?_
    exact Steps.refl _)
  obtain ⟨T5, X5, q5, st5⟩ := X3.sget hexec hown (wk W (.fieldLink "java/lang/String" 38 "java/lang/String" "COMPACT_STRINGS" "Z")) s1 (fun _ _ h => by rw [hh3]; exact h) (g := (mkF m 27 #[.val (.ref a), .val (.ref b), .val (.int (Int32.ofNat o)), .val (.int (Int32.ofNat len)), .val .null, .unset] [])) rfl (hb hbytes d27)
  have hh5 := q5.trans hh3
  have c6 : Steps p.tables e below (s₁.setTop (entryFrame m #[.ref a, .ref b, .int (Int32.ofNat o), .int (Int32.ofNat len), .null] 6)) (T5.setTop (mkF m 30 #[.val (.ref a), .val (.ref b), .val (.int (Int32.ofNat o)), .val (.int (Int32.ofNat len)), .val .null, .unset] [.int z])) := c4.trans (st5 _ (Steps.refl _))
  have c7 : Steps p.tables e below (s₁.setTop (entryFrame m #[.ref a, .ref b, .int (Int32.ofNat o), .int (Int32.ofNat len), .null] 6)) (T5.setTop (mkF m 36 #[.val (.ref a), .val (.ref b), .val (.int (Int32.ofNat o)), .val (.int (Int32.ofNat len)), .val .null, .unset] [.int (Int32.ofNat len), .int (Int32.ofNat o), .ref b])) := c6.trans (by
    refine XS.ifNo X5.here hexec rfl (hb hbytes d30) rfl (i0_eq_f hz) ?_
    refine XS.aloadN X5.here hexec rfl (hb hbytes d33) rfl rfl ?_
    refine XS.iloadN X5.here hexec rfl (hb hbytes d34) rfl ?_
    refine XS.iloadN X5.here hexec rfl (hb hbytes d35) rfl ?_
    exact Steps.refl _)
  obtain ⟨v8, T8, X8, E8, g8⟩ := X5.callS hexec (Cmp3.law l b A o len) hown (wks W (staticW "java/lang/String" 177 Cmp3.yN)) (wk W Cmp3.tab) (W := 0) (Nat.le_of_ble_eq_true rfl) (Nat.le_of_ble_eq_true rfl) (Nat.le_refl _) (by show 0 + len ≤ len; omega) (g := (mkF m 36 #[.val (.ref a), .val (.ref b), .val (.int (Int32.ofNat o)), .val (.int (Int32.ofNat len)), .val .null, .unset] [.int (Int32.ofNat len), .int (Int32.ofNat o), .ref b])) rfl (by rw [hml]; rfl) c7 (argsL := [.ref b, .int (Int32.ofNat o), .int (Int32.ofNat len)]) (rest := []) rfl rfl (by show 2 * 0 + 0 ≤ _; decide) (hb hbytes d36) (⟨rfl, hA.mv X5.warmed.alike hh5, l1, l2, hp⟩)
  obtain ⟨e8, z8⟩ := E8
  obtain ⟨rfl, N, n1, n2, n3, n4, n5, n6⟩ := NewArr.mv _ T5 s _ _ hh5.symm (Vm.Alike.refl _) rfl e8
  rw [hh5] at z8
  have hB1 := hB.keep X8.warmed.alike (n6 _ _ hB.1)
  have hne : s.heap.size ≠ a := (Nat.ne_of_lt (Array.getElem?_eq_some_iff.mp hB.1).1).symm
  have c9 : Steps p.tables e below (s₁.setTop (entryFrame m #[.ref a, .ref b, .int (Int32.ofNat o), .int (Int32.ofNat len), .null] 6)) (T8.setTop (mkF m 39 #[.val (.ref a), .val (.ref b), .val (.int (Int32.ofNat o)), .val (.int (Int32.ofNat len)), .val .null, .unset] [.ref s.heap.size])) := g8
  have c10 : Steps p.tables e below (s₁.setTop (entryFrame m #[.ref a, .ref b, .int (Int32.ofNat o), .int (Int32.ofNat len), .null] 6)) (T8.setTop (mkF m 45 #[.val (.ref a), .val (.ref b), .val (.int (Int32.ofNat o)), .val (.int (Int32.ofNat len)), .val .null, .val (.ref s.heap.size)] [.int (Int32.ofNat N.slots.size), .ref s.heap.size, .ref a])) := by
    have hc : Steps p.tables e below (s₁.setTop (entryFrame m #[.ref a, .ref b, .int (Int32.ofNat o), .int (Int32.ofNat len), .null] 6)) (T8.setTop (mkF m 45 #[.val (.ref a), .val (.ref b), .val (.int (Int32.ofNat o)), .val (.int (Int32.ofNat len)), .val .null, .val (.ref s.heap.size)] [.int (Int32.ofNat len), .ref s.heap.size, .ref a])) := c9.trans (by
      refine XS.astore X8.here hexec rfl (hb hbytes d39) rfl rfl rfl ?_
      refine XS.aloadN X8.here hexec rfl (hb hbytes d41) rfl rfl ?_
      refine XS.aload X8.here hexec rfl (hb hbytes d42) rfl rfl ?_
      refine XS.iloadN X8.here hexec rfl (hb hbytes d44) rfl ?_
      exact Steps.refl _)
    rw [n4]; exact hc
  obtain ⟨v11, T11, X11, E11, g11⟩ := X8.callS hexec (CodL.law l s.heap.size N) hown (wks W (staticW "java/lang/String" 47 CodL.yN)) (wk W CodL.tab) (W := 1) (Nat.le_of_ble_eq_true rfl) (Nat.le_of_ble_eq_true rfl) (Nat.le_refl _) (by show 0 + len + 0 ≤ len; omega) (g := (mkF m 45 #[.val (.ref a), .val (.ref b), .val (.int (Int32.ofNat o)), .val (.int (Int32.ofNat len)), .val .null, .val (.ref s.heap.size)] [.int (Int32.ofNat N.slots.size), .ref s.heap.size, .ref a])) rfl (by rw [hml]; rfl) c10 (argsL := [.ref s.heap.size, .int (Int32.ofNat N.slots.size)]) (rest := [.ref a]) rfl rfl (by show 2 * 0 + (1 + 0) ≤ _; decide) (hb hbytes d45) (⟨rfl, n1⟩)
  obtain ⟨rfl, q11⟩ := E11
  have hB11 := hB1.mv (X8.warmed.alike.symm.trans X11.warmed.alike) q11
  have c12 : Steps p.tables e below (s₁.setTop (entryFrame m #[.ref a, .ref b, .int (Int32.ofNat o), .int (Int32.ofNat len), .null] 6)) (T11.setTop (mkF m 48 #[.val (.ref a), .val (.ref b), .val (.int (Int32.ofNat o)), .val (.int (Int32.ofNat len)), .val .null, .val (.ref s.heap.size)] [.int 0, .ref a])) := g11
  obtain ⟨T13, X13, p13, bl13, sl13, st13⟩ := X11.finit hexec hown (wk W (.fieldLink "java/lang/String" 15 "java/lang/String" "coder" "B")) (Or.inr ⟨_, (wk W (.laysFinal "java/lang/String" "java/lang/String" "coder" "B"))⟩) (Or.inl ⟨rfl, hnm⟩) f2 (Or.inl rfl) hB11 (t := .byte) (by decide +kernel) rfl (g := (mkF m 48 #[.val (.ref a), .val (.ref b), .val (.int (Int32.ofNat o)), .val (.int (Int32.ofNat len)), .val .null, .val (.ref s.heap.size)] [.int 0, .ref a])) rfl (rest := []) rfl (hb hbytes d48)
  have c14 : Steps p.tables e below (s₁.setTop (entryFrame m #[.ref a, .ref b, .int (Int32.ofNat o), .int (Int32.ofNat len), .null] 6)) (T13.setTop (mkF m 54 #[.val (.ref a), .val (.ref b), .val (.int (Int32.ofNat o)), .val (.int (Int32.ofNat len)), .val .null, .val (.ref s.heap.size)] [.ref s.heap.size, .ref a])) := (c12.trans (st13 _ (Steps.refl _))).trans (by
    refine XS.aloadN X13.here hexec rfl (hb hbytes d51) rfl rfl ?_
    refine XS.aload X13.here hexec rfl (hb hbytes d52) rfl rfl ?_
    exact Steps.refl _)
  obtain ⟨T15, X15, p15, bl15, sl15, st15⟩ := X13.finit hexec hown (wk W (.fieldLink "java/lang/String" 9 "java/lang/String" "value" "[B")) (Or.inr ⟨_, (wk W (.laysFinal "java/lang/String" "java/lang/String" "value" "[B"))⟩) (Or.inl ⟨rfl, hnm⟩) f1 (Or.inl rfl) bl13 (t := (.array .byte)) (by decide +kernel) rfl (g := (mkF m 54 #[.val (.ref a), .val (.ref b), .val (.int (Int32.ofNat o)), .val (.int (Int32.ofNat len)), .val .null, .val (.ref s.heap.size)] [.ref s.heap.size, .ref a])) rfl (rest := []) rfl (hb hbytes d54)
  have c16 : Steps p.tables e below (s₁.setTop (entryFrame m #[.ref a, .ref b, .int (Int32.ofNat o), .int (Int32.ofNat len), .null] 6)) (T15.setTop (mkF m 57 #[.val (.ref a), .val (.ref b), .val (.int (Int32.ofNat o)), .val (.int (Int32.ofNat len)), .val .null, .val (.ref s.heap.size)] [])) := c14.trans (st15 _ (Steps.refl _))
  have ap := apart (Or.inr ⟨_, (wk W (.laysFinal "java/lang/String" "java/lang/String" "value" "[B"))⟩) (Or.inr ⟨_, (wk W (.laysFinal "java/lang/String" "java/lang/String" "coder" "B"))⟩) f1 f2 (t₁ := .array .byte) (t₂ := .byte) (by decide +kernel) (by decide +kernel) (by decide)
  have al := X8.warmed.alike.symm.trans X15.warmed.alike
  have n7 : T11.heap[s.heap.size]? = some N := by rw [q11]; exact n1.1
  exact ⟨T15, none, _, _, _, X15, by simp, rfl, by omega, (fun _ => rfl), ⟨rfl, _, N, bl15, ((Same.refl D _).set _ (by simp)).set _ (by simp), sl15, (Cell.slots_setSlot_ne _ ap).trans sl13, n1.keep al (p15.other hne (p13.other hne n7)), n2, by rw [al.findClass]; exact n3, n4, n5, fun y c h1 h2 => p15.other h1 (p13.other h1 (by rw [q11]; exact n6 y c h2)), by rw [p15.2.2, p13.2.2, q11]; exact z8⟩, fun fs hl => c16.trans (X15.returnOut hexec hret (hb hbytes d57) hl)⟩
end New4
namespace New1
def yN : MethodName := ⟨"java/lang/String", "<init>", "([C)V"⟩
abbrev yB : ByteArray := jdk_42_method_3_code
theorem d0 : decode yB 0 = .ok (.aload_n 0, 1) := by decide +kernel
theorem d1 : decode yB 1 = .ok (.aload_n 1, 1) := by decide +kernel
theorem d2 : decode yB 2 = .ok (.iconst 0, 1) := by decide +kernel
theorem d3 : decode yB 3 = .ok (.aload_n 1, 1) := by decide +kernel
theorem d4 : decode yB 4 = .ok (.arraylength, 1) := by decide +kernel
theorem d5 : decode yB 5 = .ok (.aconst_null, 1) := by decide +kernel
theorem d6 : decode yB 6 = .ok (.invokespecial 27, 3) := by decide +kernel
theorem d9 : decode yB 9 = .ok (.return_, 1) := by decide +kernel
def site : List Cond := [New4.tab] ++ initW "java/lang/String" 27 New4.yN
def tab : Cond := tabOf yN yB 2 none site
def P (a : Addr) (D : Cell) (fV fC : Field) (b : Addr) (A : Cell) (z : Int32) (args : Array Value) (s : State) : Prop := args = #[.ref a, .ref b] ∧ Blank "java/lang/String" a D s ∧ Found "java/lang/String" "value" "[B" fV s ∧ Found "java/lang/String" "coder" "B" fC s ∧ Ch b A s ∧ StaticIs s "java/lang/String" "COMPACT_STRINGS" "Z" (.int z) ∧ ¬ z = 0 ∧ 0 < A.slots.size ∧ A.slots.size ≤ 536870912 ∧ ∀ i, i < A.slots.size → ¬ 255 < cv A i
def E (a : Addr) (D : Cell) (fV fC : Field) (A : Cell) (r : Option Value) (s u : State) : Prop := Got a D fV fC A 0 A.slots.size r s u
/-- new String(chars), not empty, no char above 255: a Latin-1 String of their low bytes -/
theorem law (l : Launch) (a : Addr) (D : Cell) (fV fC : Field) (b : Addr) (A : Cell) (z : Int32) : Law l yN 2 1 3 52 yB 2 none site (P a D fV fC b A z) (E a D fV fC A) [⟨a, fC.slot⟩, ⟨a, fV.slot⟩] 1 A.slots.size := by
  refine Law.of_walk (plainFor_of_name (by decide +kernel)) (by decide +kernel) (by decide +kernel) (by decide) (fun _ _ h => by rw [h.1]; rfl) (fun _ U U' hal hh h => ⟨h.1, h.2.1.mv hal hh, h.2.2.1.al hal, h.2.2.2.1.al hal, h.2.2.2.2.1.mv hal hh, h.2.2.2.2.2.1.there hal hh, h.2.2.2.2.2.2⟩) (fun r U U' V V' h1 hal h2 h => Got.mv r U U' V V' h1 hal h2 h) ?_
  intro p e s m args below meth c s₁ X0 hexec hbytes hml hret hlk hnm hown hh0 W hP
  obtain ⟨rfl, hB, f1, f2, hA, s1, hz, l0, l2, hp⟩ := hP
  have c1 : Steps p.tables e below (s₁.setTop (entryFrame m #[.ref a, .ref b] 2)) (s₁.setTop (mkF m 0 #[.val (.ref a), .val (.ref b)] [])) := entry rfl
  have c2 : Steps p.tables e below (s₁.setTop (entryFrame m #[.ref a, .ref b] 2)) (s₁.setTop (mkF m 6 #[.val (.ref a), .val (.ref b)] [.null, .int (Int32.ofNat A.slots.size), .int 0, .ref b, .ref a])) := c1.trans (by
    refine XS.aloadN X0.here hexec rfl (hb hbytes d0) rfl rfl ?_
    refine XS.aloadN X0.here hexec rfl (hb hbytes d1) rfl rfl ?_
    refine iconstV X0.here hexec rfl 0 (hb hbytes d2) (by decide) ?_
    refine XS.aloadN X0.here hexec rfl (hb hbytes d3) rfl rfl ?_
    refine X0.alen hexec (hA.1.mv X0.warmed.alike hh0) rfl rfl (hb hbytes d4) ?_
    refine XS.aconstNull X0.here hexec rfl (hb hbytes d5) ?_
    exact Steps.refl _)
  obtain ⟨v3, T3, X3, E3, g3⟩ := X0.callN hexec (New4.law l a D fV fC b A z 0 A.slots.size) rfl hown (wks W (initW "java/lang/String" 27 New4.yN)) (W New4.tab (by simp only [site, List.mem_cons, List.mem_append, true_or, or_true])) (W := 0) (Nat.le_of_ble_eq_true rfl) (Nat.le_of_ble_eq_true rfl) (Nat.le_refl _) (by show 0 + A.slots.size ≤ A.slots.size; omega) (g := (mkF m 6 #[.val (.ref a), .val (.ref b)] [.null, .int (Int32.ofNat A.slots.size), .int (Int32.ofNat 0), .ref b, .ref a])) rfl (by rw [hml]; rfl) c2 (argsL := [.ref b, .int (Int32.ofNat 0), .int (Int32.ofNat A.slots.size), .null]) (rest := []) rfl rfl (by show 2 * 0 + 0 ≤ _; decide) (hb hbytes d6) (⟨rfl, hB.mv X0.warmed.alike hh0, f1.al X0.warmed.alike, f2.al X0.warmed.alike, hA.mv X0.warmed.alike hh0, s1.there X0.warmed.alike hh0, hz, l0, by omega, l2, fun i hi => by rw [Nat.zero_add]; exact hp i hi⟩)
  have e0 := Got.mv _ s₁ s _ _ hh0.symm (Vm.Alike.refl _) rfl E3
  obtain rfl := e0.1
  have c4 : Steps p.tables e below (s₁.setTop (entryFrame m #[.ref a, .ref b] 2)) (T3.setTop (mkF m 9 #[.val (.ref a), .val (.ref b)] [])) := g3
  exact ⟨T3, none, _, _, _, X3, by simp, rfl, by omega, (fun _ => rfl), e0, fun fs hl => c4.trans (X3.returnOut hexec hret (hb hbytes d9) hl)⟩
theorem pays {l : Launch} {R : Room} {p : Program} {e : Env} {below : List Frame} {s : State} {sargs : Array Value} {len W : Nat} (a : Addr) (D : Cell) (fV fC : Field) (b : Addr) (A : Cell) (z : Int32) (htab : tab.before sargs s = true) (hfr : 4 ≤ R.frames) (hlo : W + 65 ≤ R.locals) :
    Back l R p e below s sargs yN len W (fun A₁ a₁ => A₁.cells + 1 ≤ R.cells ∧ A₁.slots + A.slots.size ≤ R.slots ∧ P a D fV fC b A z a₁ A₁.U) (fun A₁ _ v₁ B₁ => E a D fV fC A v₁ A₁.U B₁.U ∧ B₁.locs = A₁.locs ++ [⟨a, fC.slot⟩, ⟨a, fV.slot⟩] ∧ B₁.cells = A₁.cells + 1 ∧ B₁.slots = A₁.slots + A.slots.size) :=
  (law l a D fV fC b A z).pays htab hfr (by omega)
end New1
/-- the byte, read back as charAt reads it, is the char -/
theorem lo8_mask {x : Int32} (h0 : ¬ x < 0) (h1 : ¬ 255 < x) : lo8 x &&& 255 = x := by
  have t : ∀ k : Fin 256, lo8 (Int32.ofNat k.val) &&& 255 = Int32.ofNat k.val := by decide +kernel
  rw [Int32.lt_iff_toInt_lt] at h0 h1
  have e0 : (0 : Int32).toInt = 0 := rfl
  have e1 : (255 : Int32).toInt = 255 := rfl
  obtain ⟨k, hk⟩ : ∃ k : Nat, x.toInt = k := ⟨x.toInt.toNat, by omega⟩
  have hx : x = Int32.ofNat k := Int32.toInt_inj.mp (by rw [hk, Int32.toInt_ofNat_small (by omega)])
  rw [hx]
  exact t ⟨k, by omega⟩
end StrChars
namespace StrChars.Road
open Jvm Sem ClassFile Op Lib Jvm.Stand Jvm.Free Jvm.Free.XT
open Jvm.Lib.Cold (StaticIs)
abbrev ST : String := "java/lang/String"
/-- every table word that New1's law asks, flat -/
abbrev words : List Jvm.Cond := [.code New1.yN New1.yB 2 none, .initialized ST, .methodLink ST 27 New4.yN, .instanceMethod New4.yN,
  .code New4.yN New4.yB 6 none, .fieldLink ST 38 ST "COMPACT_STRINGS" "Z", .laysFinal ST ST "value" "[B", .fieldLink ST 9 ST "value" "[B", .laysFinal ST ST "coder" "B", .fieldLink ST 15 ST "coder" "B",
  .methodLink ST 1 Lib.objectInit, .instanceMethod Lib.objectInit, .code Lib.objectInit ⟨#[0xb1]⟩ 1 none, .methodLink ST 177 Cmp3.yN, .static Cmp3.yN, .methodLink ST 47 CodL.yN, .static CodL.yN,
  .code Cmp3.yN Cmp3.yB 6 (some (.array .byte)), .initialized U16, .arrayClass .byte, .methodLink U16 115 Cmp5.yN, .static Cmp5.yN, .code Cmp5.yN Cmp5.yB 7 (some .int), .code CodL.yN CodL.yB 2 (some .byte)]
theorem tab_of {a : Array Value} {s : State} (h : ∀ w ∈ words, w.before a s = true) : New1.tab.before a s = true := by
  have h5 : Cmp5.tab.before a s = true := unparts (wk h (.code Cmp5.yN Cmp5.yB 7 (some .int))) (wks h (.initialized Cmp5.yN.cls :: Cmp5.site))
  have hc : CodL.tab.before a s = true := unparts (wk h (.code CodL.yN CodL.yB 2 (some .byte))) (wks h (.initialized CodL.yN.cls :: CodL.site))
  have q5 : ∀ w ∈ Cmp5.tab :: words, w.before a s = true := fun w hw => (List.mem_cons.mp hw).elim (fun e => e ▸ h5) (h w)
  have h3 : Cmp3.tab.before a s = true := unparts (wk q5 (.code Cmp3.yN Cmp3.yB 6 (some (.array .byte)))) (wks q5 (.initialized Cmp3.yN.cls :: Cmp3.site))
  have q3 : ∀ w ∈ Cmp3.tab :: CodL.tab :: words, w.before a s = true := fun w hw => (List.mem_cons.mp hw).elim (fun e => e ▸ h3) fun hw => (List.mem_cons.mp hw).elim (fun e => e ▸ hc) (h w)
  have h4 : New4.tab.before a s = true := unparts (wk q3 (.code New4.yN New4.yB 6 none)) (wks q3 (.initialized New4.yN.cls :: New4.site))
  have q4 : ∀ w ∈ New4.tab :: words, w.before a s = true := fun w hw => (List.mem_cons.mp hw).elim (fun e => e ▸ h4) (h w)
  exact unparts (wk q4 (.code New1.yN New1.yB 2 none)) (wks q4 (.initialized New1.yN.cls :: New1.site))
/-- the words ride from the start Z to the walk's own state -/
theorem moved {Z s : State} {a0 args : Array Value} (hZ : Z.Warmed39 s.vm) (hw : ∀ d ∈ words, d.before a0 Z = true) : ∀ d ∈ words, d.before args s = true := fun d hd => by
  have q := hw d hd
  have t : ∀ d ∈ words, d = .arrayClass .byte ∨ (d.onTables && d.keepsFace) = true := by decide +kernel
  rcases t d hd with rfl | t
  · exact RoadKit.mvA hZ q
  · exact RoadKit.mv hZ q t
/-- WHAT COMES BACK, over the tables of the start Z: h the heap at the call, h' behind it -/
def Q (Z : State) (x : Addr) (A : Cell) (h : Heap) (v : Option Value) (h' : Heap) (L : List Loc) : Prop := v = none ∧ (∀ y ∈ L, y.base = x) ∧ RoadKit.Keep h h' [x] ∧ h'.size = h.size + 1 ∧ RoadKit.Exa Z h' x ST ∧ RoadKit.Fld Z h' x ST "value" "[B" (.ref h.size) ∧ RoadKit.Fld Z h' x ST "coder" "B" (.int 0) ∧
  (∃ V : Cell, RoadKit.Arr Z h' h.size V .byte ∧ V.vm = .none ∧ Z.vm.findClass "[B" = some V.cls ∧ V.slots.size = A.slots.size ∧ ∀ j, j < A.slots.size → V.slots[j]? = some (.int (lo8 (cv A j)))) ∧
  ∀ (O n d : String) (w : Value), RoadKit.Fld Z h x O n d w → RoadKit.slotOf Z O n d ≠ RoadKit.slotOf Z ST "value" "[B" → RoadKit.slotOf Z O n d ≠ RoadKit.slotOf Z ST "coder" "B" → RoadKit.Fld Z h' x O n d w
/-- **new String(chars) AT A CALL, IN THE ROAD'S FORM**: for specialBack behind newO: x the fresh String, b the char[] with the cell A -/
theorem back {p : Program} {l : Launch} {e : Env} {R : Room} {s : State} {args : Array Value} {below : List Frame} {len W : Nat} {Z : State} {a0 : Array Value} {h : Heap} (hZ : Z.Warmed39 s.vm) (hw : ∀ d ∈ words, d.before a0 Z = true) {kI : Nat} (wi : (Jvm.Cond.instantiable ST kI).before a0 Z = true)
    {x b : Addr} {A : Cell} {z : Int32} {v0 c0 : Value} (E : RoadKit.Exa Z h x ST) (V : RoadKit.Fld Z h x ST "value" "[B" v0) (C : RoadKit.Fld Z h x ST "coder" "B" c0) (K : RoadKit.Arr Z h b A .char) (hty : Typed .char A) (S : RoadKit.Sta Z h ST "COMPACT_STRINGS" "Z" (.int z)) (hz : ¬ z = 0)
    (l0 : 0 < A.slots.size) (l2 : A.slots.size ≤ 536870912) (hp : ∀ i, i < A.slots.size → ¬ 255 < cv A i) (hfr : 4 ≤ R.frames) (hlo : W + 65 ≤ R.locals) :
    Back l R p e below s args New1.yN len W (fun P a => a = #[.ref x, .ref b] ∧ P.U.heap = h ∧ P.cells + 1 ≤ R.cells ∧ P.slots + A.slots.size ≤ R.slots)
      (fun P _ v B => ∃ L, Q Z x A h v B.U.heap L ∧ B.locs = P.locs ++ L ∧ B.cells = P.cells + 1 ∧ B.slots = P.slots + A.slots.size) := by
  intro m meth c P g ig mk a X hg hsize hdg hW hn hp'
  obtain ⟨rfl, rfl, r1, r2⟩ := hp'
  have al : Z.vm.Alike P.U.vm := hZ.alike.trans X.warmed.alike
  obtain ⟨D, cfV, kV, iV, fV, hD, gV, stV, knV, obV, asV, slV⟩ := id V
  obtain ⟨D', cfC, kC, iC, fC, hD', gC, stC, -, -, asC, slC⟩ := id C
  cases hD.symm.trans hD'
  obtain ⟨D2, kD, e1, e2, e3, e4, e5⟩ := id E
  cases hD.symm.trans e1
  obtain ⟨c2, k2, i1, i2, i3, -⟩ := Cond.instantiable_spec wi
  cases e2.symm.trans i1
  cases e3.symm.trans i2
  obtain ⟨kU, u1, u2⟩ := al.2.2 _ _ e3
  have hB : Blank ST x D P.U := ⟨hD, ⟨knV, fun q hq => by rw [hq] at obV; cases obV⟩, by rw [al.findClass]; exact e2, kU, u1, by rw [u2]; exact i3, by rw [u2]; exact e5 i3⟩
  have F1 : Found ST "value" "[B" fV P.U := ⟨SBG.found_only al ⟨cfV, kV, iV, gV⟩, stV⟩
  have F2 : Found ST "coder" "B" fC P.U := ⟨SBG.found_only al ⟨cfC, kC, iC, gC⟩, stC⟩
  have hA : Ch b A P.U := ⟨⟨K.1, State.isArrayOf_alike al K.2.1, K.2.2, by omega⟩, hty⟩
  have hS : StaticIs P.U ST "COMPACT_STRINGS" "Z" (.int z) := by
    obtain ⟨cfS, iS, kS, fS, st, cS, t1, t2, t3, t4, t5, t6, t7⟩ := S
    exact StaticIs.there (s := { Z with heap := P.U.heap }) ⟨cfS, iS, kS, fS, st, cS, t1, t2, t3, t4, t5, (fun q => by rw [q] at t6; cases t6), t7⟩ al rfl
  obtain ⟨v, B, X', ⟨⟨hv, E', V', q1, q2, q3, q4, q5, q6, q7, q8, q9, q10, q11⟩, hl, hc, hs⟩, st⟩ := New1.pays x D fV fC b A z (tab_of (moved hZ hw)) hfr hlo m meth c P g ig mk _ X hg hsize hdg hW hn ⟨r1, r2, rfl, hB, F1, F2, hA, hS, hz, l0, l2, hp⟩
  have al' : Z.vm.Alike B.U.vm := hZ.alike.trans X'.warmed.alike
  have hsz : E'.slots.size = D.slots.size := by
    obtain ⟨-, -, -, kB, w1, w2, w3⟩ := q1
    obtain ⟨kB', y1, y2⟩ := al'.2.2 _ _ e3
    rw [q2.2.1] at w1
    cases w1.symm.trans y1
    rw [w3, e5 i3, y2]
  refine ⟨v, B, X', ⟨_, ⟨hv, ?_, ⟨by omega, fun y cy hy hn' => q10 y cy (by simpa using hn') hy, fun y cy hy => ?_⟩, q11, ⟨E', _, q1.1, by rw [q2.2.1]; exact e2, by rw [q2.2.1]; exact e3, by rw [q2.1]; exact obV, fun _ => by rw [hsz]; exact e5 i3⟩,
    ⟨E', cfV, kV, iV, fV, q1.1, gV, stV, by rw [q2.1]; exact knV, by rw [q2.1]; exact obV, by rw [q2.2.1]; exact asV, q3⟩, ⟨E', cfC, kC, iC, fC, q1.1, gC, stC, by rw [q2.1]; exact knV, by rw [q2.1]; exact obV, by rw [q2.2.1]; exact asC, q4⟩,
    ⟨V', ⟨q5.1, State.isArrayOf_alike al'.symm q5.2.1, q5.2.2.1⟩, q6, by rw [← al'.findClass]; exact q7, q8, fun j hj => by have := q9 j hj; rwa [Nat.zero_add] at this⟩, fun O n d w F n1 n2 => ?_⟩, hl, hc, hs⟩, st⟩
  · intro y hy
    simp only [List.mem_cons, List.not_mem_nil, or_false] at hy
    rcases hy with rfl | rfl <;> rfl
  · by_cases q : y = x
    · subst q
      cases hD.symm.trans hy
      exact ⟨E', q1.1, q2.2.1, q2.1, hsz⟩
    · exact ⟨cy, q10 y cy q hy, rfl, rfl, rfl⟩
  · obtain ⟨D3, cf, k, i, f, g1, g2, g3, g4, g5, g6, g7⟩ := F
    cases hD.symm.trans g1
    simp only [RoadKit.slotOf, g2, gV, gC, Option.map_some, Option.getD_some] at n1 n2
    exact ⟨E', cf, k, i, f, q1.1, g2, g3, by rw [q2.1]; exact g4, by rw [q2.1]; exact g5, by rw [q2.2.1]; exact g6, by rw [q2.2.2 f.slot (by simp [n1, n2])]; exact g7⟩
end StrChars.Road
namespace StrChars.Road
open Jvm Sem ClassFile Op Lib Jvm.Stand Jvm.Free Jvm.Free.XT
/-- WHAT COMES BACK, the byte[] as a list of values -/
def QA (Z : State) (x : Addr) (zn : Int32) (cs : List Int32) (h : Heap) (v : Option Value) (h' : Heap) (L : List Loc) : Prop := v = none ∧ (∀ y ∈ L, y.base = x) ∧ RoadKit.Keep h h' [x] ∧ h'.size = h.size + 1 ∧ RoadKit.Exa Z h' x ST ∧ RoadKit.Fld Z h' x ST "value" "[B" (.ref h.size) ∧ RoadKit.Fld Z h' x ST "coder" "B" (.int 0) ∧
  (∃ kb, Z.vm.findClass "[B" = some kb ∧ RoadKit.Arv Z h' h.size kb .byte zn (cs.map fun c => .int (lo8 c)) (.int 0)) ∧
  ∀ (O n d : String) (w : Value), RoadKit.Fld Z h x O n d w → RoadKit.slotOf Z O n d ≠ RoadKit.slotOf Z ST "value" "[B" → RoadKit.slotOf Z O n d ≠ RoadKit.slotOf Z ST "coder" "B" → RoadKit.Fld Z h' x O n d w
/-- **new String(chars) AT A CALL, THE ARRAYS AS LISTS**: the char[] at b holds cs, not empty, no char above 255 -/
theorem backArv {p : Program} {l : Launch} {e : Env} {R : Room} {s : State} {args : Array Value} {below : List Frame} {len W : Nat} {Z : State} {a0 : Array Value} {h : Heap} (hZ : Z.Warmed39 s.vm) (hw : ∀ d ∈ words, d.before a0 Z = true) {kI : Nat} (wi : (Jvm.Cond.instantiable ST kI).before a0 Z = true)
    {x b : Addr} {k : ClassId} {zn z : Int32} {cs : List Int32} {dv v0 c0 : Value} (E : RoadKit.Exa Z h x ST) (V : RoadKit.Fld Z h x ST "value" "[B" v0) (C : RoadKit.Fld Z h x ST "coder" "B" c0) (K : RoadKit.Arv Z h b k .char zn (cs.map Value.int) dv) (S : RoadKit.Sta Z h ST "COMPACT_STRINGS" "Z" (.int z)) (hz : ¬ z = 0)
    (hlen : zn.toNatClampNeg = cs.length) (h0 : 0 < cs.length) (hbig : cs.length ≤ 536870912) (hall : ∀ c ∈ cs, ¬ 255 < c) (hfr : 4 ≤ R.frames) (hlo : W + 65 ≤ R.locals) :
    Back l R p e below s args New1.yN len W (fun P a => a = #[.ref x, .ref b] ∧ P.U.heap = h ∧ P.cells + 1 ≤ R.cells ∧ P.slots + cs.length ≤ R.slots)
      (fun P _ v B => ∃ L, QA Z x zn cs h v B.U.heap L ∧ B.locs = P.locs ++ L ∧ B.cells = P.cells + 1 ∧ B.slots = P.slots + cs.length) := by
  obtain ⟨A, K1, K2, K3, K4, K5, K6⟩ := K
  have e : A.slots.size = cs.length := K3.trans hlen
  have hat : ∀ (i : Nat) (hi : i < cs.length), A.slots[i]? = some (.int cs[i]) := fun i hi => by rw [K5 i (by omega)]; simp [List.getD_eq_getElem?_getD, hi]
  have hcv : ∀ (i : Nat) (hi : i < cs.length), cv A i = cs[i] := fun i hi => by unfold cv; rw [hat i hi]
  have hty : Typed .char A := fun i v hv => by
    have hi : i < A.slots.size := (Array.getElem?_eq_some_iff.mp hv).1
    have q := K5 i hi
    rw [hv] at q
    rw [Option.some.inj q]
    exact K6 i hi
  refine Back.mono (back hZ hw wi E V C K1 hty S hz (by omega) (by omega) (fun i hi => by rw [hcv i (by omega)]; exact hall _ (List.getElem_mem _)) hfr hlo) (fun P a hp => ⟨hp.1, hp.2.1, hp.2.2.1, by rw [e]; exact hp.2.2.2⟩) (fun P a v B hp hq => ?_)
  obtain ⟨L, ⟨q1, q2, q3, q4, q5, q6, q7, ⟨V', v1, v2, v3, v4, v5⟩, q9⟩, hl, hc, hs⟩ := hq
  refine ⟨L, ⟨q1, q2, q3, q4, q5, q6, q7, ⟨V'.cls, v3, V', v1, rfl, by rw [v4, e, hlen], K4, fun i hi => ?_, fun i hi => ?_⟩, q9⟩, hl, hc, by rw [hs, e]⟩
  · have hi' : i < cs.length := by omega
    rw [v5 i (by omega), hcv i hi']; simp [List.getD_eq_getElem?_getD, hi']
  · have hi' : i < cs.length := by omega
    simp only [List.getD_eq_getElem?_getD, List.getElem?_map, List.getElem?_eq_getElem hi', Option.map_some, Option.getD_some]
    exact fits_lo8 _
end StrChars.Road
namespace StrChars.Road
open Jvm Sem ClassFile Op Lib Jvm.Stand Jvm.Free Jvm.Free.XT
/-- WHAT COMES BACK, in the writer's own shape -/
def QV (Z : State) (x : Addr) (N : Int32) (bs : List Int32) (h : Heap) (n0 : Nat) (v : Option Value) (h' : Heap) (L : List Loc) : Prop := v = none ∧ RoadKit.Fr n0 L ∧ RoadKit.Keep h h' [x] ∧ RoadKit.Exa Z h' x ST ∧ RoadKit.Fld Z h' x ST "coder" "B" (.int 0) ∧
  ∃ (t : Addr) (kb : ClassId), n0 ≤ t ∧ h.size ≤ t ∧ ¬ t = x ∧ RoadKit.Fld Z h' x ST "value" "[B" (.ref t) ∧ RoadKit.Arv Z h' t kb .byte N (bs.map Value.int) (.int 0)
/-- **new String(chars) AT A CALL, FOR THE WRITER**: a char[] of n known ints, each 0 to 255 -/
theorem backV {p : Program} {l : Launch} {e : Env} {R : Room} {s : State} {args : Array Value} {below : List Frame} {len W : Nat} {Z : State} {a0 : Array Value} {h : Heap} (hZ : Z.Warmed39 s.vm) (hw : ∀ d ∈ words, d.before a0 Z = true) {kI : Nat} (wi : (Jvm.Cond.instantiable ST kI).before a0 Z = true)
    {x b : Addr} {kC : ClassId} {cs bs : List Int32} {d v0 c0 : Value} {z N : Int32} {n n0 : Nat} (hx0 : n0 ≤ x) (hh0 : n0 ≤ h.size) (E : RoadKit.Exa Z h x ST) (V : RoadKit.Fld Z h x ST "value" "[B" v0) (C : RoadKit.Fld Z h x ST "coder" "B" c0) (K : RoadKit.Arv Z h b kC .char N (cs.map Value.int) d) (S : RoadKit.Sta Z h ST "COMPACT_STRINGS" "Z" (.int z)) (hz : ¬ z = 0)
    (hn : cs.length = n) (hN : N = Int32.ofNat n) (l0 : 0 < n) (l2 : n ≤ 4000) (hp : ∀ c ∈ cs, ¬ c < 0 ∧ ¬ (255 : Int32) < c) (hb : bs = cs.map (fun c => c.toInt8.toInt32)) (hfr : 4 ≤ R.frames) (hlo : W + 65 ≤ R.locals) :
    Back l R p e below s args (⟨"java/lang/String", "<init>", "([C)V"⟩ : MethodName) len W (fun P a => a = #[.ref x, .ref b] ∧ P.U.heap = h ∧ P.cells + 1 ≤ R.cells ∧ P.slots + n ≤ R.slots)
      (fun P _ v B => ∃ L, QV Z x N bs h n0 v B.U.heap L ∧ B.locs = P.locs ++ L ∧ B.cells = P.cells + 1 ∧ B.slots = P.slots + n) := by
  subst hn hN hb
  refine Back.mono (backArv hZ hw wi E V C K S hz (n32 (by omega)) l0 (by omega) (fun c hc => (hp c hc).2) hfr hlo) (fun P a hp => hp) (fun P a v B hp hq => ?_)
  obtain ⟨L, ⟨q1, q2, q3, q4, q5, q6, q7, ⟨kb, v1, v2⟩, q9⟩, hl, hc, hs⟩ := hq
  exact ⟨L, ⟨q1, fun y hy => by rw [q2 y hy]; exact hx0, q3, q5, q7, h.size, kb, hh0, Nat.le_refl _, Nat.ne_of_gt E.lt, q6, by rw [List.map_map]; exact v2⟩, hl, hc, hs⟩
end StrChars.Road
namespace StrChars
open Jvm Sem ClassFile Op Lib Jvm.Stand Jvm.Free.XT Jvm.Free.ALB Jvm.Free.JM Jvm.Free
open Jvm.Lib.Cold (StaticIs)
def hi8 (x : Int32) : Int32 := lo8 (x >>> ((8 : Int32) &&& 31))
/-- what StringUTF16.getChar makes of two bytes -/
def pairCh (u v : Int32) : Int32 := (((u &&& 255) <<< ((0 : Int32) &&& 31)) ||| ((v &&& 255) <<< ((8 : Int32) &&& 31))).toUInt32.toUInt16.toUInt32.toInt32
theorem lo8_and (x : Int32) : (lo8 x &&& 255).toBitVec.toNat = x.toBitVec.toNat % 256 := by
  have h : (lo8 x).toBitVec = (x.toBitVec.signExtend 8).signExtend 32 := by rw [lo8, Int8.toBitVec_toInt32, Int32.toBitVec_toInt8]
  rw [Int32.toBitVec_and, BitVec.toNat_and, h]
  have e : ((x.toBitVec.signExtend 8).signExtend 32).toNat % 256 = x.toBitVec.toNat % 256 := by
    rw [BitVec.toNat_signExtend]
    have hlt := x.toBitVec.isLt
    simp only [BitVec.toNat_setWidth, BitVec.toNat_signExtend]
    split <;> split <;> omega
  rw [← e]
  exact Nat.and_two_pow_sub_one_eq_mod _ 8
theorem pair_says {c : Int32} (h0 : ¬ c < 0) (h1 : ¬ 65535 < c) : pairCh (lo8 c) (hi8 c) = c := by
  rw [Int32.lt_iff_toInt_lt] at h0 h1
  have e0 : (0 : Int32).toInt = 0 := rfl
  have e1 : (65535 : Int32).toInt = 65535 := rfl
  have hc : c.toInt = c.toBitVec.toNat := by
    have := c.toBitVec.isLt
    have e : c.toInt = c.toBitVec.toInt := rfl
    rw [e] at h0 h1
    rw [e]
    rw [BitVec.toInt_eq_toNat_cond] at h0 h1 ⊢
    split at h0 <;> split <;> omega
  have hn : c.toBitVec.toNat < 65536 := by omega
  have a1 := lo8_and c
  have a2 : (hi8 c &&& 255).toBitVec.toNat = c.toBitVec.toNat / 256 := by
    rw [hi8, lo8_and]
    have e : ((8 : Int32) &&& 31) = 8 := by decide
    rw [e, Int32.toBitVec_shiftRight]
    have e2 : ((8 : Int32).toBitVec.smod 32) = 8#32 := by decide
    rw [e2, BitVec.sshiftRight_eq', BitVec.toNat_sshiftRight_of_msb_false (by rw [BitVec.msb_eq_false_iff_two_mul_lt]; omega)]
    show c.toBitVec.toNat >>> 8 % 256 = _
    rw [Nat.shiftRight_eq_div_pow]
    omega
  unfold pairCh
  apply Int32.toBitVec_inj.mp
  apply BitVec.eq_of_toNat_eq
  have f0 : ((0 : Int32) &&& 31) = 0 := by decide
  have f8 : ((8 : Int32) &&& 31) = 8 := by decide
  rw [f0, f8]
  have g : (((lo8 c &&& 255) <<< (0 : Int32)) ||| ((hi8 c &&& 255) <<< (8 : Int32))).toBitVec.toNat = c.toBitVec.toNat := by
    rw [Int32.toBitVec_or, Int32.toBitVec_shiftLeft, Int32.toBitVec_shiftLeft]
    have s0 : ((0 : Int32).toBitVec.smod 32) = 0#32 := by decide
    have s8 : ((8 : Int32).toBitVec.smod 32) = 8#32 := by decide
    rw [s0, s8, BitVec.toNat_or]
    simp only [BitVec.shiftLeft_eq', BitVec.toNat_shiftLeft, a1, a2]
    show (c.toBitVec.toNat % 256) <<< 0 % 2 ^ 32 ||| (c.toBitVec.toNat / 256) <<< 8 % 2 ^ 32 = _
    rw [Nat.shiftLeft_zero, Nat.mod_eq_of_lt (show c.toBitVec.toNat % 256 < 2 ^ 32 by omega), Nat.mod_eq_of_lt (show (c.toBitVec.toNat / 256) <<< 8 < 2 ^ 32 by rw [Nat.shiftLeft_eq]; omega), Nat.or_comm, ← Nat.shiftLeft_add_eq_or_of_lt (by omega), Nat.shiftLeft_eq]
    omega
  show BitVec.toNat (((((lo8 c &&& 255) <<< (0 : Int32)) ||| ((hi8 c &&& 255) <<< (8 : Int32))).toBitVec.setWidth 16).setWidth 32) = _
  rw [BitVec.toNat_setWidth, BitVec.toNat_setWidth, g]
  omega
end StrChars
namespace StrChars
open Jvm Sem ClassFile Op Lib Jvm.Stand Jvm.Free.XT Jvm.Free.ALB Jvm.Free.JM Jvm.Free
open Jvm.Lib.Cold (StaticIs)
/-- the array's cell V codes the n chars f 0 .. f (n - 1) by the coder cd, as the JDK does: coder 1 just where some char is above 255 -/
def Cod (cd : Int32) (n : Nat) (f : Nat → Int32) (V : Cell) : Prop := (cd = 0 ∧ V.slots.size = n ∧ ∀ j, j < n → V.slots[j]? = some (.int (lo8 (f j))) ∧ ¬ 255 < f j) ∨ (cd = 1 ∧ V.slots.size = 2 * n ∧ (∀ j, j < n → V.slots[2 * j]? = some (.int (lo8 (f j))) ∧ V.slots[2 * j + 1]? = some (.int (hi8 (f j)))) ∧ ∃ j, j < n ∧ 255 < f j)
/-- **x is a String of the n chars f 0 .. f (n - 1)**, Latin-1 or UTF-16; its array at t has the cell V -/
def Txt (x t : Addr) (V : Cell) (cd : Int32) (n : Nat) (f : Nat → Int32) (U : State) : Prop := Exact "java/lang/String" x U ∧ Has x "java/lang/String" "value" "[B" (.ref t) U ∧ Has x "java/lang/String" "coder" "B" (.int cd) U ∧ XT.Arr .byte t V U ∧ Cod cd n f V ∧ ∀ j, j < n → ¬ f j < 0 ∧ ¬ 65535 < f j
theorem Txt.mv {x t : Addr} {V : Cell} {cd : Int32} {n : Nat} {f : Nat → Int32} {U U' : State} (h : Txt x t V cd n f U) (hal : U.vm.Alike U'.vm) (hh : U'.heap = U.heap) : Txt x t V cd n f U' := ⟨h.1.mv hal hh, h.2.1.mv hal hh, h.2.2.1.mv hal hh, h.2.2.2.1.mv hal hh, h.2.2.2.2⟩
end StrChars
namespace StrChars.Road
open Jvm Sem ClassFile Op Lib Jvm.Stand Jvm.Free Jvm.Free.XT
open Jvm.Lib.Cold (StaticIs)
theorem consq {a : Array Value} {s : State} {c : Jvm.Cond} {L : List Jvm.Cond} (h0 : c.before a s = true) (h : ∀ w ∈ L, w.before a s = true) : ∀ w ∈ c :: L, w.before a s = true := fun w hw => (List.mem_cons.mp hw).elim (fun e => e ▸ h0) (h w)
/-- the bytes of the chars cs, low before high -/
def wideBytes : List Int32 → List Value
  | [] => []
  | c :: cs => .int (lo8 c) :: .int (hi8 c) :: wideBytes cs
theorem wide_lo (d : Value) : ∀ (cs : List Int32) (j : Nat), j < cs.length → (wideBytes cs).getD (2 * j) d = .int (lo8 (cs.getD j 0))
  | [], j, h => absurd h (Nat.not_lt_zero j)
  | c :: cs, 0, _ => rfl
  | c :: cs, j + 1, h => by
    have q := wide_lo d cs j (by simpa using h)
    rw [show 2 * (j + 1) = 2 * j + 1 + 1 from by omega]
    simpa [wideBytes] using q
theorem wide_hi (d : Value) : ∀ (cs : List Int32) (j : Nat), j < cs.length → (wideBytes cs).getD (2 * j + 1) d = .int (hi8 (cs.getD j 0))
  | [], j, h => absurd h (Nat.not_lt_zero j)
  | c :: cs, 0, _ => rfl
  | c :: cs, j + 1, h => by
    have q := wide_hi d cs j (by simpa using h)
    rw [show 2 * (j + 1) + 1 = 2 * j + 1 + 1 + 1 from by omega]
    simpa [wideBytes] using q
theorem low_at (d : Value) (cs : List Int32) (j : Nat) (h : j < cs.length) : (cs.map fun c => Value.int (lo8 c)).getD j d = .int (lo8 (cs.getD j 0)) := by
  simp [List.getD_eq_getElem?_getD, h]
/-- an array of N2 bytes vs codes the chars cs by the coder cd -/
def CodA (cs : List Int32) (cd N2 : Int32) (vs : List Value) : Prop := (cd = 0 ∧ N2 = Int32.ofNat cs.length ∧ vs = (cs.map fun c => Value.int (lo8 c)) ∧ ∀ c ∈ cs, ¬ 255 < c) ∨ (cd = 1 ∧ N2 = Int32.ofNat (2 * cs.length) ∧ vs = wideBytes cs ∧ ∃ c ∈ cs, 255 < c)
theorem CodA.cod {cs : List Int32} {cd N2 : Int32} {vs : List Value} {V : Cell} (h : CodA cs cd N2 vs) (hn : 2 * cs.length < 2 ^ 31) (hs : V.slots.size = N2.toNatClampNeg) (hv : RoadKit.Has V vs (.int 0)) : Cod cd cs.length (fun j => cs.getD j 0) V := by
  rcases h with ⟨rfl, rfl, rfl, h⟩ | ⟨rfl, rfl, rfl, c, hc, hw⟩
  · rw [n32 (by omega)] at hs
    exact Or.inl ⟨rfl, hs, fun j hj => ⟨by rw [hv j (by omega), low_at _ _ _ hj], by
      have e : cs.getD j 0 = cs[j] := by simp [List.getD_eq_getElem?_getD, hj]
      show ¬ 255 < cs.getD j 0
      rw [e]; exact h _ (List.getElem_mem _)⟩⟩
  · rw [n32 (by omega)] at hs
    obtain ⟨j, hj, rfl⟩ := List.getElem_of_mem hc
    exact Or.inr ⟨rfl, hs, fun j hj => ⟨by rw [hv _ (by omega), wide_lo _ _ _ hj], by rw [hv _ (by omega), wide_hi _ _ _ hj]⟩, j, hj, by
      have e : cs.getD j 0 = cs[j] := by simp [List.getD_eq_getElem?_getD, hj]
      show 255 < cs.getD j 0
      rw [e]; exact hw⟩
/-- an object of exactly java/lang/String, its two fields found: as the laws ask it -/
theorem strObj {Z U : State} {a0 : Array Value} {kI : Nat} (wi : (Jvm.Cond.instantiable ST kI).before a0 Z = true) (al : Z.vm.Alike U.vm) {x : Addr} {v0 c0 : Value} (E : RoadKit.Exa Z U.heap x ST) (V : RoadKit.Fld Z U.heap x ST "value" "[B" v0) (C : RoadKit.Fld Z U.heap x ST "coder" "B" c0) :
    ∃ (D : Cell) (fV fC : Field), Blank ST x D U ∧ Found ST "value" "[B" fV U ∧ Found ST "coder" "B" fC U ∧ D.slots[fV.slot]? = some v0 ∧ D.slots[fC.slot]? = some c0 ∧ RoadKit.slotOf Z ST "value" "[B" = fV.slot ∧ RoadKit.slotOf Z ST "coder" "B" = fC.slot := by
  obtain ⟨D, cfV, kV, iV, fV, hD, gV, stV, knV, obV, asV, slV⟩ := V
  obtain ⟨D', cfC, kC, iC, fC, hD', gC, stC, -, -, asC, slC⟩ := C
  cases hD.symm.trans hD'
  obtain ⟨D2, kD, e1, e2, e3, e4, e5⟩ := E
  cases hD.symm.trans e1
  obtain ⟨c2, k2, i1, i2, i3, -⟩ := Cond.instantiable_spec wi
  cases e2.symm.trans i1
  cases e3.symm.trans i2
  obtain ⟨kU, u1, u2⟩ := al.2.2 _ _ e3
  exact ⟨D, fV, fC, ⟨hD, ⟨knV, fun q hq => by rw [hq] at obV; cases obV⟩, by rw [al.findClass]; exact e2, kU, u1, by rw [u2]; exact i3, by rw [u2]; exact e5 i3⟩, ⟨SBG.found_only al ⟨cfV, kV, iV, gV⟩, stV⟩, ⟨SBG.found_only al ⟨cfC, kC, iC, gC⟩, stC⟩, slV, slC, by simp [RoadKit.slotOf, gV], by simp [RoadKit.slotOf, gC]⟩
theorem sta_is {Z U : State} (al : Z.vm.Alike U.vm) {C n d : String} {v : Value} (S : RoadKit.Sta Z U.heap C n d v) : StaticIs U C n d v := by
  obtain ⟨cfS, iS, kS, fS, st, cS, t1, t2, t3, t4, t5, t6, t7⟩ := S
  exact StaticIs.there (s := { Z with heap := U.heap }) ⟨cfS, iS, kS, fS, st, cS, t1, t2, t3, t4, t5, (fun q => by rw [q] at t6; cases t6), t7⟩ al rfl
end StrChars.Road
namespace StrChars
open Jvm Sem ClassFile Op Lib Jvm.Stand Jvm.Free.XT Jvm.Free.ALB Jvm.Free.JM Jvm.Free
open Jvm.Lib.Cold (StaticIs)
/-- what place i of a byte[]'s cell holds -/
def yv (A : Cell) (i : Nat) : Int32 := match A.slots[i]? with | some (.int x) => x | _ => 0
theorem yv_get {a : Addr} {A : Cell} {U : State} (h : XT.Arr .byte a A U) (ht : Typed .byte A) {i : Nat} (hi : i < A.slots.size) : A.slots[i]? = some (.int (yv A i)) := by
  have e := Array.getElem?_eq_getElem hi
  have f := ht i _ e
  unfold yv; rw [e]
  generalize A.slots[i] = v at f
  cases v <;> simp [fits] at f ⊢
/-- the two arrays are equal, place for place -/
def EqC (A B : Cell) : Prop := A.slots.size = B.slots.size ∧ ∀ i, i < A.slots.size → yv A i = yv B i
/-- a boolean that says whether p -/
def Says01 (q : Prop) (r : Option Value) (s u : State) : Prop := ∃ v : Int32, r = some (.int v) ∧ u.heap = s.heap ∧ ((v = 1 ∧ q) ∨ (v = 0 ∧ ¬ q))
theorem Says01.mv {q : Prop} : ∀ r (U U' V V' : State), U'.heap = U.heap → V.vm.Alike V'.vm → V'.heap = V.heap → Says01 q r U V → Says01 q r U' V' :=
  fun r U U' V V' h1 _ h2 ⟨v, a, b, c⟩ => ⟨v, a, by rw [h1, h2]; exact b, c⟩
namespace LEq
def yN : MethodName := ⟨"java/lang/StringLatin1", "equals", "([B[B)Z"⟩
abbrev yB : ByteArray := jdk_43_method_13_code
theorem d0 : decode yB 0 = .ok (.aload_n 0, 1) := by decide +kernel
theorem d1 : decode yB 1 = .ok (.arraylength, 1) := by decide +kernel
theorem d2 : decode yB 2 = .ok (.aload_n 1, 1) := by decide +kernel
theorem d3 : decode yB 3 = .ok (.arraylength, 1) := by decide +kernel
theorem d4 : decode yB 4 = .ok (.if_icmp (.ne) 30, 3) := by decide +kernel
theorem d7 : decode yB 7 = .ok (.iconst 0, 1) := by decide +kernel
theorem d8 : decode yB 8 = .ok (.istore_n 2, 1) := by decide +kernel
theorem d9 : decode yB 9 = .ok (.iload_n 2, 1) := by decide +kernel
theorem d10 : decode yB 10 = .ok (.aload_n 0, 1) := by decide +kernel
theorem d11 : decode yB 11 = .ok (.arraylength, 1) := by decide +kernel
theorem d12 : decode yB 12 = .ok (.if_icmp (.ge) 20, 3) := by decide +kernel
theorem d15 : decode yB 15 = .ok (.aload_n 0, 1) := by decide +kernel
theorem d16 : decode yB 16 = .ok (.iload_n 2, 1) := by decide +kernel
theorem d17 : decode yB 17 = .ok (.baload, 1) := by decide +kernel
theorem d18 : decode yB 18 = .ok (.aload_n 1, 1) := by decide +kernel
theorem d19 : decode yB 19 = .ok (.iload_n 2, 1) := by decide +kernel
theorem d20 : decode yB 20 = .ok (.baload, 1) := by decide +kernel
theorem d21 : decode yB 21 = .ok (.if_icmp (.eq) 5, 3) := by decide +kernel
theorem d24 : decode yB 24 = .ok (.iconst 0, 1) := by decide +kernel
theorem d25 : decode yB 25 = .ok (.ireturn, 1) := by decide +kernel
theorem d26 : decode yB 26 = .ok (.iinc 2 1, 3) := by decide +kernel
theorem d29 : decode yB 29 = .ok (.goto (-20), 3) := by decide +kernel
theorem d32 : decode yB 32 = .ok (.iconst 1, 1) := by decide +kernel
theorem d33 : decode yB 33 = .ok (.ireturn, 1) := by decide +kernel
theorem d34 : decode yB 34 = .ok (.iconst 0, 1) := by decide +kernel
theorem d35 : decode yB 35 = .ok (.ireturn, 1) := by decide +kernel
def site : List Cond := []
def tab : Cond := tabOf yN yB 3 (some .boolean) site
def P (a : Addr) (A : Cell) (b : Addr) (B : Cell) (args : Array Value) (s : State) : Prop := args = #[.ref a, .ref b] ∧ XT.Arr .byte a A s ∧ Typed .byte A ∧ XT.Arr .byte b B s ∧ Typed .byte B
/-- whether two byte[] are equal, place for place -/
theorem law (l : Launch) (a : Addr) (A : Cell) (b : Addr) (B : Cell) : Law l yN 2 2 0 0 yB 3 (some .boolean) site (P a A b B) (Says01 (EqC A B)) [] 0 0 := by
  refine Law.of_walk (plainFor_of_name (by decide +kernel)) (by decide +kernel) (by decide +kernel) (by decide) (fun _ _ h => by rw [h.1]; rfl) (fun _ U U' hal hh h => ⟨h.1, h.2.1.mv hal hh, h.2.2.1, h.2.2.2.1.mv hal hh, h.2.2.2.2⟩) (fun r U U' V V' h1 hal h2 h => Says01.mv r U U' V V' h1 hal h2 h) ?_
  intro p e s m args below meth c s₁ X0 hexec hbytes hml hret hlk hnm hown hh0 W hP
  obtain ⟨rfl, hA, tA, hB, tB⟩ := hP
  have a31 := hA.2.2.2
  have b31 := hB.2.2.2
  have hA0 := hA.mv X0.warmed.alike hh0
  have hB0 := hB.mv X0.warmed.alike hh0
  have c1 : Steps p.tables e below (s₁.setTop (entryFrame m #[.ref a, .ref b] 3)) (s₁.setTop (mkF m 0 #[.val (.ref a), .val (.ref b), .unset] [])) := entry rfl
  have c2 : Steps p.tables e below (s₁.setTop (entryFrame m #[.ref a, .ref b] 3)) (s₁.setTop (mkF m 4 #[.val (.ref a), .val (.ref b), .unset] [.int (Int32.ofNat B.slots.size), .int (Int32.ofNat A.slots.size)])) := c1.trans (by
    refine XS.aloadN X0.here hexec rfl (hb hbytes d0) rfl rfl ?_
    refine X0.alen hexec hA0 rfl rfl (hb hbytes d1) ?_
    refine XS.aloadN X0.here hexec rfl (hb hbytes d2) rfl rfl ?_
    refine X0.alen hexec hB0 rfl rfl (hb hbytes d3) ?_
    exact Steps.refl _)
  by_cases hs : A.slots.size = B.slots.size
  · have c3 : Steps p.tables e below (s₁.setTop (entryFrame m #[.ref a, .ref b] 3)) (s₁.setTop (mkF m 9 #[.val (.ref a), .val (.ref b), .val (.int 0)] [])) := c2.trans (by
      refine XS.icmpNo X0.here hexec rfl (hb hbytes d4) rfl (ii_ne_f (by rw [hs])) ?_
      refine iconstV X0.here hexec rfl 0 (hb hbytes d7) (by decide) ?_
      refine XS.istoreN X0.here hexec rfl (hb hbytes d8) rfl rfl ?_
      exact Steps.refl _)
    have loop : ∀ (r i : Nat), i + r = A.slots.size → (∀ j, j < i → yv A j = yv B j) → Steps p.tables e below (s₁.setTop (entryFrame m #[.ref a, .ref b] 3)) (s₁.setTop (mkF m 9 #[.val (.ref a), .val (.ref b), .val (.int (Int32.ofNat i))] [])) → ∃ (pc : Nat) (Ls : Array Slot) (v : Int32), (pc = 25 ∨ pc = 33) ∧ ((v = 1 ∧ EqC A B) ∨ (v = 0 ∧ ¬ EqC A B)) ∧ Steps p.tables e below (s₁.setTop (entryFrame m #[.ref a, .ref b] 3)) (s₁.setTop (mkF m pc Ls [.int v])) := by
      intro r
      induction r with
      | zero =>
        intro i hi he cl
        exact ⟨33, _, 1, Or.inr rfl, Or.inl ⟨rfl, hs, fun j hj => he j (by omega)⟩, cl.trans (by
          refine XS.iloadN X0.here hexec rfl (hb hbytes d9) rfl ?_
          refine XS.aloadN X0.here hexec rfl (hb hbytes d10) rfl rfl ?_
          refine X0.alen hexec hA0 rfl rfl (hb hbytes d11) ?_
          refine XS.icmpYes X0.here hexec rfl (pc0 := 12) rfl (hb hbytes d12) rfl (ii_ge_t (nlt32 (by omega) (by omega))) (by decide) rfl ?_
          refine iconstV X0.here hexec rfl 1 (hb hbytes d32) (by decide) ?_
          exact Steps.refl _)⟩
      | succ r ih =>
        intro i hi he cl
        have c4 : Steps p.tables e below (s₁.setTop (entryFrame m #[.ref a, .ref b] 3)) (s₁.setTop (mkF m 21 #[.val (.ref a), .val (.ref b), .val (.int (Int32.ofNat i))] [.int (yv B i), .int (yv A i)])) := cl.trans (by
          refine XS.iloadN X0.here hexec rfl (hb hbytes d9) rfl ?_
          refine XS.aloadN X0.here hexec rfl (hb hbytes d10) rfl rfl ?_
          refine X0.alen hexec hA0 rfl rfl (hb hbytes d11) ?_
          refine XS.icmpNo X0.here hexec rfl (hb hbytes d12) rfl (ii_ge_f (lt32 (by omega) (by omega))) ?_
          refine XS.aloadN X0.here hexec rfl (hb hbytes d15) rfl rfl ?_
          refine XS.iloadN X0.here hexec rfl (hb hbytes d16) rfl ?_
          refine X0.aget hexec hA0 rfl (yv_get hA tA (i := i) (by omega)) rfl rfl (hb hbytes d17) ?_
          refine XS.aloadN X0.here hexec rfl (hb hbytes d18) rfl rfl ?_
          refine XS.iloadN X0.here hexec rfl (hb hbytes d19) rfl ?_
          refine X0.aget hexec hB0 rfl (yv_get hB tB (i := i) (by omega)) rfl rfl (hb hbytes d20) ?_
          exact Steps.refl _)
        by_cases hv : yv A i = yv B i
        · have c5 : Steps p.tables e below (s₁.setTop (entryFrame m #[.ref a, .ref b] 3)) (s₁.setTop (mkF m 9 #[.val (.ref a), .val (.ref b), .val (.int (Int32.ofNat i + 1))] [])) := c4.trans (by
            refine XS.icmpYes X0.here hexec rfl (pc0 := 21) rfl (hb hbytes d21) rfl (ii_eq_t hv) (by decide) rfl ?_
            refine iincV X0.here hexec rfl 1 (hb hbytes d26) (by decide) rfl rfl ?_
            refine XS.goto X0.here hexec rfl (pc0 := 29) rfl (hb hbytes d29) (by decide) rfl ?_
            exact Steps.refl _)
          rw [succ32] at c5
          exact ih (i + 1) (by omega) (fun j hj => by
            by_cases e : j = i
            · rw [e]; exact hv
            · exact he j (by omega)) c5
        · exact ⟨25, _, 0, Or.inl rfl, Or.inr ⟨rfl, fun q => hv (q.2 i (by omega))⟩, c4.trans (by
            refine XS.icmpNo X0.here hexec rfl (hb hbytes d21) rfl (ii_eq_f hv) ?_
            refine iconstV X0.here hexec rfl 0 (hb hbytes d24) (by decide) ?_
            exact Steps.refl _)⟩
    obtain ⟨pc, Ls, v, hpc, hv, cz⟩ := loop A.slots.size 0 (by omega) (fun j hj => absurd hj (Nat.not_lt_zero j)) c3
    have nv : narrow .boolean (.int v) = .int v := by rcases hv with ⟨rfl, -⟩ | ⟨rfl, -⟩ <;> rfl
    rcases hpc with rfl | rfl
    · exact ⟨s₁, some (.int v), _, _, _, X0, rfl, rfl, rfl, (fun h => by cases h), ⟨v, rfl, hh0, hv⟩, fun fs hl => cz.trans (X0.ireturnOut hexec hret nv (Or.inr (Or.inl rfl)) (hb hbytes d25) hl)⟩
    · exact ⟨s₁, some (.int v), _, _, _, X0, rfl, rfl, rfl, (fun h => by cases h), ⟨v, rfl, hh0, hv⟩, fun fs hl => cz.trans (X0.ireturnOut hexec hret nv (Or.inr (Or.inl rfl)) (hb hbytes d33) hl)⟩
  · have c3 : Steps p.tables e below (s₁.setTop (entryFrame m #[.ref a, .ref b] 3)) (s₁.setTop (mkF m 35 #[.val (.ref a), .val (.ref b), .unset] [.int 0])) := c2.trans (by
      refine XS.icmpYes X0.here hexec rfl (pc0 := 4) rfl (hb hbytes d4) rfl (ii_ne_t (ne32 a31 b31 hs)) (by decide) rfl ?_
      refine iconstV X0.here hexec rfl 0 (hb hbytes d34) (by decide) ?_
      exact Steps.refl _)
    exact ⟨s₁, some (.int 0), _, _, _, X0, rfl, rfl, rfl, (fun h => by cases h), ⟨0, rfl, hh0, Or.inr ⟨rfl, fun q => hs q.1⟩⟩, fun fs hl => c3.trans (X0.ireturnOut hexec hret rfl (Or.inr (Or.inl rfl)) (hb hbytes d35) hl)⟩
end LEq
theorem Cod.ty {cd : Int32} {n : Nat} {f : Nat → Int32} {V : Cell} (h : Cod cd n f V) : Typed .byte V := fun i v hv => by
  have hi : i < V.slots.size := (Array.getElem?_eq_some_iff.mp hv).1
  rcases h with ⟨-, k1, k2⟩ | ⟨-, k1, k2, -⟩
  · rw [(k2 i (by omega)).1] at hv; cases hv; exact fits_lo8 _
  · rcases Nat.mod_two_eq_zero_or_one i with e | e
    · obtain ⟨j, rfl⟩ : ∃ j, i = 2 * j := ⟨i / 2, by omega⟩
      rw [(k2 j (by omega)).1] at hv; cases hv; exact fits_lo8 _
    · obtain ⟨j, rfl⟩ : ∃ j, i = 2 * j + 1 := ⟨i / 2, by omega⟩
      rw [(k2 j (by omega)).2] at hv; cases hv; exact fits_lo8 _
/-- the same text -/
def SameT (n : Nat) (f : Nat → Int32) (k : Nat) (g : Nat → Int32) : Prop := n = k ∧ ∀ j, j < n → f j = g j
theorem lo8_inj {x y : Int32} (h0 : ¬ x < 0) (h1 : ¬ 255 < x) (k0 : ¬ y < 0) (k1 : ¬ 255 < y) (h : lo8 x = lo8 y) : x = y := by
  rw [← lo8_mask h0 h1, ← lo8_mask k0 k1, h]
/-- arrays coded by one coder are equal just where the texts are -/
theorem Cod.eqv {cd : Int32} {n k : Nat} {f g : Nat → Int32} {V V' : Cell} (h : Cod cd n f V) (h' : Cod cd k g V') (hf : ∀ j, j < n → ¬ f j < 0 ∧ ¬ 65535 < f j) (hg : ∀ j, j < k → ¬ g j < 0 ∧ ¬ 65535 < g j) : EqC V V' ↔ SameT n f k g := by
  have yvv : ∀ {W : Cell} {i : Nat} {x : Int32}, W.slots[i]? = some (.int x) → yv W i = x := fun q => by unfold yv; rw [q]
  rcases h with ⟨rfl, k1, k2⟩ | ⟨rfl, k1, k2, -⟩
  · rcases h' with ⟨-, m1, m2⟩ | ⟨e, -⟩
    · constructor
      · rintro ⟨e1, e2⟩
        refine ⟨by omega, fun j hj => ?_⟩
        have q := e2 j (by omega)
        rw [yvv (k2 j hj).1, yvv (m2 j (by omega)).1] at q
        exact lo8_inj (hf j hj).1 (k2 j hj).2 (hg j (by omega)).1 (m2 j (by omega)).2 q
      · rintro ⟨rfl, e2⟩
        refine ⟨by omega, fun j hj => ?_⟩
        rw [yvv (k2 j (by omega)).1, yvv (m2 j (by omega)).1, e2 j (by omega)]
    · exact absurd e (by decide)
  · rcases h' with ⟨e, -⟩ | ⟨-, m1, m2, -⟩
    · exact absurd e (by decide)
    · constructor
      · rintro ⟨e1, e2⟩
        refine ⟨by omega, fun j hj => ?_⟩
        have q1 := e2 (2 * j) (by omega)
        have q2 := e2 (2 * j + 1) (by omega)
        rw [yvv (k2 j hj).1, yvv (m2 j (by omega)).1] at q1
        rw [yvv (k2 j hj).2, yvv (m2 j (by omega)).2] at q2
        rw [← pair_says (hf j hj).1 (hf j hj).2, ← pair_says (hg j (by omega)).1 (hg j (by omega)).2, q1, q2]
      · rintro ⟨rfl, e2⟩
        refine ⟨by omega, fun i hi => ?_⟩
        rcases Nat.mod_two_eq_zero_or_one i with e | e
        · obtain ⟨j, rfl⟩ : ∃ j, i = 2 * j := ⟨i / 2, by omega⟩
          rw [yvv (k2 j (by omega)).1, yvv (m2 j (by omega)).1, e2 j (by omega)]
        · obtain ⟨j, rfl⟩ : ∃ j, i = 2 * j + 1 := ⟨i / 2, by omega⟩
          rw [yvv (k2 j (by omega)).2, yvv (m2 j (by omega)).2, e2 j (by omega)]
/-- two codings differ: so do the texts -/
theorem Cod.dif {cd cd' : Int32} {n k : Nat} {f g : Nat → Int32} {V V' : Cell} (h : Cod cd n f V) (h' : Cod cd' k g V') (hne : ¬ cd = cd') : ¬ SameT n f k g := by
  rintro ⟨rfl, e⟩
  rcases h with ⟨rfl, -, k2⟩ | ⟨rfl, -, -, j, hj, hw⟩
  · rcases h' with ⟨rfl, -⟩ | ⟨-, -, -, j, hj, hw⟩
    · exact hne rfl
    · exact (k2 j hj).2 (by rw [e j hj]; exact hw)
  · rcases h' with ⟨-, -, m2⟩ | ⟨rfl, -⟩
    · exact (m2 j hj).2 (by rw [← e j hj]; exact hw)
    · exact hne rfl
/-- an object of exactly C is an instance of C -/
theorem cinst {p : Program} {l : Launch} {e : Env} {R : Room} {s : State} {m : MethodId} {args : Array Value} {below : List Frame} {meth : Method} {c : Code} {T : State} {locs : List Loc} {cells slots : Nat} (X : Stand p l e R s m args below meth c T locs cells slots) (hexec : p.tables.exec = Jvm.exec) {own C : String} {index : Nat} (hown : s.vm.findClass own = some m.cls) (hlink : (Cond.classLink own index C).before args s = true) {a : Addr} (hE : Exact C a T)
    {g : JFrame} (hg : g.method = m) {rest : List Value} (hstack : g.stack = .ref a :: rest) (hdg : decode c.code g.pc = .ok (.instanceof index, 3)) :
    ∃ T', Stand p l e R s m args below meth c T' locs cells slots ∧ T'.heap = T.heap ∧ ∀ target, Steps p.tables e below (T'.setTop { g with pc := g.pc + 3, stack := .int 1 :: rest }) target → Steps p.tables e below (T.setTop g) target := by
  obtain ⟨cB, h1, D, h2, h3, h4⟩ := hE
  have h1' : s.vm.findClass C = some cB := by rw [← X.warmed.alike.findClass]; exact h1
  obtain ⟨vm', X', st⟩ := X.instanceofYes hexec hown hlink h2 h4 h1' (by rw [h3]; exact Jvm.Free.SB.assignable_self _ _) hg hstack hdg
  exact ⟨_, X', rfl, st⟩
theorem cself {p : Program} {l : Launch} {e : Env} {R : Room} {s : State} {m : MethodId} {args : Array Value} {below : List Frame} {meth : Method} {c : Code} {T : State} {locs : List Loc} {cells slots : Nat} (X : Stand p l e R s m args below meth c T locs cells slots) (hexec : p.tables.exec = Jvm.exec) {own C : String} {index : Nat} (hown : s.vm.findClass own = some m.cls) (hlink : (Cond.classLink own index C).before args s = true) {a : Addr} (hE : Exact C a T)
    {g : JFrame} (hg : g.method = m) {rest : List Value} (hstack : g.stack = .ref a :: rest) (hdg : decode c.code g.pc = .ok (.checkcast index, 3)) :
    ∃ T', Stand p l e R s m args below meth c T' locs cells slots ∧ T'.heap = T.heap ∧ ∀ target, Steps p.tables e below (T'.setTop { g with pc := g.pc + 3, stack := .ref a :: rest }) target → Steps p.tables e below (T.setTop g) target := by
  obtain ⟨cB, h1, D, h2, h3, h4⟩ := hE
  have h1' : s.vm.findClass C = some cB := by rw [← X.warmed.alike.findClass]; exact h1
  obtain ⟨vm', X', st⟩ := X.checkcastYes hexec hown hlink h2 h4 h1' (by rw [h3]; exact Jvm.Free.SB.assignable_self _ _) hg hstack hdg
  exact ⟨_, X', rfl, fun t h => st t (by rw [← hstack] at h; exact h)⟩
namespace SEq
def yN : MethodName := ⟨"java/lang/String", "equals", "(Ljava/lang/Object;)Z"⟩
abbrev yB : ByteArray := jdk_42_method_66_code
theorem d0 : decode yB 0 = .ok (.aload_n 0, 1) := by decide +kernel
theorem d1 : decode yB 1 = .ok (.aload_n 1, 1) := by decide +kernel
theorem d2 : decode yB 2 = .ok (.if_acmp (.ne) 5, 3) := by decide +kernel
theorem d5 : decode yB 5 = .ok (.iconst 1, 1) := by decide +kernel
theorem d6 : decode yB 6 = .ok (.ireturn, 1) := by decide +kernel
theorem d7 : decode yB 7 = .ok (.aload_n 1, 1) := by decide +kernel
theorem d8 : decode yB 8 = .ok (.instanceof 10, 3) := by decide +kernel
theorem d11 : decode yB 11 = .ok (.ifCond (.eq) 43, 3) := by decide +kernel
theorem d14 : decode yB 14 = .ok (.aload_n 1, 1) := by decide +kernel
theorem d15 : decode yB 15 = .ok (.checkcast 10, 3) := by decide +kernel
theorem d18 : decode yB 18 = .ok (.astore_n 2, 1) := by decide +kernel
theorem d19 : decode yB 19 = .ok (.getstatic 38, 3) := by decide +kernel
theorem d22 : decode yB 22 = .ok (.ifCond (.eq) 14, 3) := by decide +kernel
theorem d25 : decode yB 25 = .ok (.aload_n 0, 1) := by decide +kernel
theorem d26 : decode yB 26 = .ok (.getfield 15, 3) := by decide +kernel
theorem d29 : decode yB 29 = .ok (.aload_n 2, 1) := by decide +kernel
theorem d30 : decode yB 30 = .ok (.getfield 15, 3) := by decide +kernel
theorem d33 : decode yB 33 = .ok (.if_icmp (.ne) 21, 3) := by decide +kernel
theorem d36 : decode yB 36 = .ok (.aload_n 0, 1) := by decide +kernel
theorem d37 : decode yB 37 = .ok (.getfield 9, 3) := by decide +kernel
theorem d40 : decode yB 40 = .ok (.aload_n 2, 1) := by decide +kernel
theorem d41 : decode yB 41 = .ok (.getfield 9, 3) := by decide +kernel
theorem d44 : decode yB 44 = .ok (.invokestatic 541, 3) := by decide +kernel
theorem d47 : decode yB 47 = .ok (.ifCond (.eq) 7, 3) := by decide +kernel
theorem d50 : decode yB 50 = .ok (.iconst 1, 1) := by decide +kernel
theorem d51 : decode yB 51 = .ok (.goto 4, 3) := by decide +kernel
theorem d54 : decode yB 54 = .ok (.iconst 0, 1) := by decide +kernel
theorem d55 : decode yB 55 = .ok (.ireturn, 1) := by decide +kernel
def site : List Cond := [.classLink "java/lang/String" 10 "java/lang/String", .fieldLink "java/lang/String" 38 "java/lang/String" "COMPACT_STRINGS" "Z", .fieldLink "java/lang/String" 15 "java/lang/String" "coder" "B", .fieldLink "java/lang/String" 9 "java/lang/String" "value" "[B", LEq.tab] ++ staticW "java/lang/String" 541 LEq.yN
def tab : Cond := tabOf yN yB 3 (some .boolean) site
def P (x t : Addr) (V : Cell) (cd : Int32) (n : Nat) (f : Nat → Int32) (y t' : Addr) (V' : Cell) (cd' : Int32) (k : Nat) (g : Nat → Int32) (z : Int32) (args : Array Value) (s : State) : Prop := args = #[.ref x, .ref y] ∧ Txt x t V cd n f s ∧ Txt y t' V' cd' k g s ∧ StaticIs s "java/lang/String" "COMPACT_STRINGS" "Z" (.int z) ∧ ¬ z = 0
/-- equals(Object) of two Strings: whether the texts are the same -/
theorem law (l : Launch) (x t : Addr) (V : Cell) (cd : Int32) (n : Nat) (f : Nat → Int32) (y t' : Addr) (V' : Cell) (cd' : Int32) (k : Nat) (g : Nat → Int32) (z : Int32) : Law l yN 2 1 1 14 yB 3 (some .boolean) site (P x t V cd n f y t' V' cd' k g z) (Says01 (SameT n f k g)) [] 0 0 := by
  refine Law.of_walk (plainFor_of_name (by decide +kernel)) (by decide +kernel) (by decide +kernel) (by decide) (fun _ _ h => by rw [h.1]; rfl) (fun _ U U' hal hh h => ⟨h.1, h.2.1.mv hal hh, h.2.2.1.mv hal hh, h.2.2.2.1.there hal hh, h.2.2.2.2⟩) (fun r U U' V V' h1 hal h2 h => Says01.mv r U U' V V' h1 hal h2 h) ?_
  intro p e s m args below meth c s₁ X0 hexec hbytes hml hret hlk hnm hown hh0 W hP
  obtain ⟨rfl, hx, hy, s1, hz⟩ := hP
  have c1 : Steps p.tables e below (s₁.setTop (entryFrame m #[.ref x, .ref y] 3)) (s₁.setTop (mkF m 2 #[.val (.ref x), .val (.ref y), .unset] [.ref y, .ref x])) := Steps.trans (entry rfl) (by
    show Steps p.tables e below (s₁.setTop (mkF m 0 #[.val (.ref x), .val (.ref y), .unset] [])) _
    refine XS.aloadN X0.here hexec rfl (hb hbytes d0) rfl rfl ?_
    refine XS.aloadN X0.here hexec rfl (hb hbytes d1) rfl rfl ?_
    exact Steps.refl _)
  by_cases hxy : x = y
  · have c2 : Steps p.tables e below (s₁.setTop (entryFrame m #[.ref x, .ref y] 3)) (s₁.setTop (mkF m 6 #[.val (.ref x), .val (.ref y), .unset] [.int 1])) := c1.trans (by
      refine acmpNo X0.here hexec rfl (hb hbytes d2) rfl rfl rfl (by simp [acmp, hxy]) ?_
      refine iconstV X0.here hexec rfl 1 (hb hbytes d5) (by decide) ?_
      exact Steps.refl _)
    subst hxy
    have ec : cd = cd' := by
      obtain ⟨D, fd, a1, a2, a3⟩ := hx.2.2.1
      obtain ⟨D', fd', b1, b2, b3⟩ := hy.2.2.1
      cases a1.symm.trans b1
      obtain ⟨q1, q2, q3, q4⟩ := a2.1
      obtain ⟨r1, r2, r3, r4⟩ := b2.1
      cases q4.symm.trans r4
      cases a3.symm.trans b3; rfl
    have et : t = t' := by
      obtain ⟨D, fd, a1, a2, a3⟩ := hx.2.1
      obtain ⟨D', fd', b1, b2, b3⟩ := hy.2.1
      cases a1.symm.trans b1
      obtain ⟨q1, q2, q3, q4⟩ := a2.1
      obtain ⟨r1, r2, r3, r4⟩ := b2.1
      cases q4.symm.trans r4
      cases a3.symm.trans b3; rfl
    subst ec et
    have ev : V = V' := by cases hx.2.2.2.1.1.symm.trans hy.2.2.2.1.1; rfl
    subst ev
    have hs : SameT n f k g := (Cod.eqv hx.2.2.2.2.1 hy.2.2.2.2.1 hx.2.2.2.2.2 hy.2.2.2.2.2).mp ⟨rfl, fun _ _ => rfl⟩
    exact ⟨s₁, some (.int 1), _, _, _, X0, rfl, rfl, rfl, (fun h => by cases h), ⟨1, rfl, hh0, Or.inl ⟨rfl, hs⟩⟩, fun fs hl => c2.trans (X0.ireturnOut hexec hret rfl (Or.inr (Or.inl rfl)) (hb hbytes d6) hl)⟩
  · have c2 : Steps p.tables e below (s₁.setTop (entryFrame m #[.ref x, .ref y] 3)) (s₁.setTop (mkF m 8 #[.val (.ref x), .val (.ref y), .unset] [.ref y])) := c1.trans (by
      refine acmpYes X0.here hexec rfl (pc0 := 2) rfl (hb hbytes d2) rfl rfl rfl (by simp [acmp, hxy]) (by decide) rfl ?_
      refine XS.aloadN X0.here hexec rfl (hb hbytes d7) rfl rfl ?_
      exact Steps.refl _)
    obtain ⟨T3, X3, q3, st3⟩ := cinst X0 hexec hown (wk W (.classLink "java/lang/String" 10 "java/lang/String")) (hy.mv X0.warmed.alike hh0).1 (g := (mkF m 8 #[.val (.ref x), .val (.ref y), .unset] [.ref y])) rfl (rest := []) rfl (hb hbytes d8)
    have hh3 := q3.trans hh0
    have c4 : Steps p.tables e below (s₁.setTop (entryFrame m #[.ref x, .ref y] 3)) (T3.setTop (mkF m 15 #[.val (.ref x), .val (.ref y), .unset] [.ref y])) := (c2.trans (st3 _ (Steps.refl _))).trans (by
      refine XS.ifNo X3.here hexec rfl (hb hbytes d11) rfl (i0_eq_f (by decide)) ?_
      refine XS.aloadN X3.here hexec rfl (hb hbytes d14) rfl rfl ?_
      exact Steps.refl _)
    obtain ⟨T5, X5, q5, st5⟩ := cself X3 hexec hown (wk W (.classLink "java/lang/String" 10 "java/lang/String")) (hy.mv X3.warmed.alike hh3).1 (g := (mkF m 15 #[.val (.ref x), .val (.ref y), .unset] [.ref y])) rfl (rest := []) rfl (hb hbytes d15)
    have hh5 := q5.trans hh3
    have c6 : Steps p.tables e below (s₁.setTop (entryFrame m #[.ref x, .ref y] 3)) (T5.setTop (mkF m 19 #[.val (.ref x), .val (.ref y), .val (.ref y)] [])) := (c4.trans (st5 _ (Steps.refl _))).trans (by
      refine XS.astoreN X5.here hexec rfl (hb hbytes d18) rfl rfl rfl ?_
      exact Steps.refl _)
    obtain ⟨T7, X7, q7, st7⟩ := X5.sget hexec hown (wk W (.fieldLink "java/lang/String" 38 "java/lang/String" "COMPACT_STRINGS" "Z")) s1 (fun _ _ h => by rw [hh5]; exact h) (g := (mkF m 19 #[.val (.ref x), .val (.ref y), .val (.ref y)] [])) rfl (hb hbytes d19)
    have hh7 := q7.trans hh5
    have c8 : Steps p.tables e below (s₁.setTop (entryFrame m #[.ref x, .ref y] 3)) (T7.setTop (mkF m 26 #[.val (.ref x), .val (.ref y), .val (.ref y)] [.ref x])) := (c6.trans (st7 _ (Steps.refl _))).trans (by
      refine XS.ifNo X7.here hexec rfl (hb hbytes d22) rfl (i0_eq_f hz) ?_
      refine XS.aloadN X7.here hexec rfl (hb hbytes d25) rfl rfl ?_
      exact Steps.refl _)
    obtain ⟨T9, X9, q9, st9⟩ := X7.hget hexec hown (wk W (.fieldLink "java/lang/String" 15 "java/lang/String" "coder" "B")) (hx.mv X7.warmed.alike hh7).2.2.1 (g := (mkF m 26 #[.val (.ref x), .val (.ref y), .val (.ref y)] [.ref x])) rfl (rest := []) rfl (hb hbytes d26)
    have hh9 := q9.trans hh7
    have c10 : Steps p.tables e below (s₁.setTop (entryFrame m #[.ref x, .ref y] 3)) (T9.setTop (mkF m 30 #[.val (.ref x), .val (.ref y), .val (.ref y)] [.ref y, .int cd])) := (c8.trans (st9 _ (Steps.refl _))).trans (by
      refine XS.aloadN X9.here hexec rfl (hb hbytes d29) rfl rfl ?_
      exact Steps.refl _)
    obtain ⟨T11, X11, q11, st11⟩ := X9.hget hexec hown (wk W (.fieldLink "java/lang/String" 15 "java/lang/String" "coder" "B")) (hy.mv X9.warmed.alike hh9).2.2.1 (g := (mkF m 30 #[.val (.ref x), .val (.ref y), .val (.ref y)] [.ref y, .int cd])) rfl (rest := [.int cd]) rfl (hb hbytes d30)
    have hh11 := q11.trans hh9
    have c12 : Steps p.tables e below (s₁.setTop (entryFrame m #[.ref x, .ref y] 3)) (T11.setTop (mkF m 33 #[.val (.ref x), .val (.ref y), .val (.ref y)] [.int cd', .int cd])) := c10.trans (st11 _ (Steps.refl _))
    by_cases hcd : cd = cd'
    · subst hcd
      have c13 : Steps p.tables e below (s₁.setTop (entryFrame m #[.ref x, .ref y] 3)) (T11.setTop (mkF m 37 #[.val (.ref x), .val (.ref y), .val (.ref y)] [.ref x])) := c12.trans (by
        refine XS.icmpNo X11.here hexec rfl (hb hbytes d33) rfl (ii_ne_f rfl) ?_
        refine XS.aloadN X11.here hexec rfl (hb hbytes d36) rfl rfl ?_
        exact Steps.refl _)
      obtain ⟨T14, X14, q14, st14⟩ := X11.hget hexec hown (wk W (.fieldLink "java/lang/String" 9 "java/lang/String" "value" "[B")) (hx.mv X11.warmed.alike hh11).2.1 (g := (mkF m 37 #[.val (.ref x), .val (.ref y), .val (.ref y)] [.ref x])) rfl (rest := []) rfl (hb hbytes d37)
      have hh14 := q14.trans hh11
      have c15 : Steps p.tables e below (s₁.setTop (entryFrame m #[.ref x, .ref y] 3)) (T14.setTop (mkF m 41 #[.val (.ref x), .val (.ref y), .val (.ref y)] [.ref y, .ref t])) := (c13.trans (st14 _ (Steps.refl _))).trans (by
        refine XS.aloadN X14.here hexec rfl (hb hbytes d40) rfl rfl ?_
        exact Steps.refl _)
      obtain ⟨T16, X16, q16, st16⟩ := X14.hget hexec hown (wk W (.fieldLink "java/lang/String" 9 "java/lang/String" "value" "[B")) (hy.mv X14.warmed.alike hh14).2.1 (g := (mkF m 41 #[.val (.ref x), .val (.ref y), .val (.ref y)] [.ref y, .ref t])) rfl (rest := [.ref t]) rfl (hb hbytes d41)
      have hh16 := q16.trans hh14
      have c17 : Steps p.tables e below (s₁.setTop (entryFrame m #[.ref x, .ref y] 3)) (T16.setTop (mkF m 44 #[.val (.ref x), .val (.ref y), .val (.ref y)] [.ref t', .ref t])) := c15.trans (st16 _ (Steps.refl _))
      obtain ⟨v18, T18, X18, E18, g18⟩ := X16.callS hexec (LEq.law l t V t' V') hown (wks W (staticW "java/lang/String" 541 LEq.yN)) (wk W LEq.tab) (W := 0) (Nat.le_of_ble_eq_true rfl) (Nat.le_of_ble_eq_true rfl) (Nat.le_refl _) (Nat.le_refl _) (g := (mkF m 44 #[.val (.ref x), .val (.ref y), .val (.ref y)] [.ref t', .ref t])) rfl (by rw [hml]; rfl) c17 (argsL := [.ref t, .ref t']) (rest := []) rfl rfl (by show 2 * 0 + 0 ≤ _; decide) (hb hbytes d44) (⟨rfl, hx.2.2.2.1.mv X16.warmed.alike hh16, hx.2.2.2.2.1.ty, hy.2.2.2.1.mv X16.warmed.alike hh16, hy.2.2.2.2.1.ty⟩)
      obtain ⟨v, rfl, q18, hv⟩ := E18
      have iff := Cod.eqv hx.2.2.2.2.1 hy.2.2.2.2.1 hx.2.2.2.2.2 hy.2.2.2.2.2
      rcases hv with ⟨rfl, he⟩ | ⟨rfl, he⟩
      · have c19 : Steps p.tables e below (s₁.setTop (entryFrame m #[.ref x, .ref y] 3)) (T18.setTop (mkF m 55 #[.val (.ref x), .val (.ref y), .val (.ref y)] [.int 1])) := Steps.trans g18 (by
          refine XS.ifNo X18.here hexec rfl (hb hbytes d47) rfl (i0_eq_f (by decide)) ?_
          refine iconstV X18.here hexec rfl 1 (hb hbytes d50) (by decide) ?_
          refine XS.goto X18.here hexec rfl (pc0 := 51) rfl (hb hbytes d51) (by decide) rfl ?_
          exact Steps.refl _)
        exact ⟨T18, some (.int 1), _, _, _, X18, rfl, rfl, rfl, (fun h => by cases h), ⟨1, rfl, q18.trans hh16, Or.inl ⟨rfl, iff.mp he⟩⟩, fun fs hl => c19.trans (X18.ireturnOut hexec hret rfl (Or.inr (Or.inl rfl)) (hb hbytes d55) hl)⟩
      · have c19 : Steps p.tables e below (s₁.setTop (entryFrame m #[.ref x, .ref y] 3)) (T18.setTop (mkF m 55 #[.val (.ref x), .val (.ref y), .val (.ref y)] [.int 0])) := Steps.trans g18 (by
          refine XS.ifYes X18.here hexec rfl (pc0 := 47) rfl (hb hbytes d47) rfl (i0_eq_t rfl) (by decide) rfl ?_
          refine iconstV X18.here hexec rfl 0 (hb hbytes d54) (by decide) ?_
          exact Steps.refl _)
        exact ⟨T18, some (.int 0), _, _, _, X18, rfl, rfl, rfl, (fun h => by cases h), ⟨0, rfl, q18.trans hh16, Or.inr ⟨rfl, fun q => he (iff.mpr q)⟩⟩, fun fs hl => c19.trans (X18.ireturnOut hexec hret rfl (Or.inr (Or.inl rfl)) (hb hbytes d55) hl)⟩
    · have c13 : Steps p.tables e below (s₁.setTop (entryFrame m #[.ref x, .ref y] 3)) (T11.setTop (mkF m 55 #[.val (.ref x), .val (.ref y), .val (.ref y)] [.int 0])) := c12.trans (by
        refine XS.icmpYes X11.here hexec rfl (pc0 := 33) rfl (hb hbytes d33) rfl (ii_ne_t hcd) (by decide) rfl ?_
        refine iconstV X11.here hexec rfl 0 (hb hbytes d54) (by decide) ?_
        exact Steps.refl _)
      exact ⟨T11, some (.int 0), _, _, _, X11, rfl, rfl, rfl, (fun h => by cases h), ⟨0, rfl, hh11, Or.inr ⟨rfl, Cod.dif hx.2.2.2.2.1 hy.2.2.2.2.1 hcd⟩⟩, fun fs hl => c13.trans (X11.ireturnOut hexec hret rfl (Or.inr (Or.inl rfl)) (hb hbytes d55) hl)⟩
theorem pays {l : Launch} {R : Room} {p : Program} {e : Env} {below : List Frame} {s : State} {sargs : Array Value} {len W : Nat} (x t : Addr) (V : Cell) (cd : Int32) (n : Nat) (f : Nat → Int32) (y t' : Addr) (V' : Cell) (cd' : Int32) (k : Nat) (g : Nat → Int32) (z : Int32) (htab : tab.before sargs s = true) (hfr : 2 ≤ R.frames) (hlo : W + 28 ≤ R.locals) :
    Back l R p e below s sargs yN len W (fun A₁ a₁ => A₁.cells + 0 ≤ R.cells ∧ A₁.slots + 0 ≤ R.slots ∧ P x t V cd n f y t' V' cd' k g z a₁ A₁.U) (fun A₁ _ v₁ B₁ => Says01 (SameT n f k g) v₁ A₁.U B₁.U ∧ B₁.locs = A₁.locs ++ [] ∧ B₁.cells = A₁.cells + 0 ∧ B₁.slots = A₁.slots + 0) :=
  (law l x t V cd n f y t' V' cd' k g z).pays htab hfr (by omega)
end SEq
end StrChars
namespace StrChars.Road
open Jvm Sem ClassFile Op Lib Jvm.Stand Jvm.Free Jvm.Free.XT
open Jvm.Lib.Cold (StaticIs)
/-- the words of String.equals(Object) -/
abbrev wordsEq : List Jvm.Cond := [.code SEq.yN SEq.yB 3 (some .boolean), .initialized ST, .classLink ST 10 ST, .fieldLink ST 38 ST "COMPACT_STRINGS" "Z", .fieldLink ST 15 ST "coder" "B", .fieldLink ST 9 ST "value" "[B", .methodLink ST 541 LEq.yN, .static LEq.yN, .code LEq.yN LEq.yB 3 (some .boolean), .initialized "java/lang/StringLatin1"]
theorem tabEq_of {a : Array Value} {s : State} (h : ∀ w ∈ wordsEq, w.before a s = true) : SEq.tab.before a s = true := by
  have hl : LEq.tab.before a s = true := unparts (wk h (.code LEq.yN LEq.yB 3 (some .boolean))) (wks h (.initialized LEq.yN.cls :: LEq.site))
  have q := consq hl h
  exact unparts (wk q (.code SEq.yN SEq.yB 3 (some .boolean))) (wks q (.initialized SEq.yN.cls :: SEq.site))
theorem movedEq {Z s : State} {a0 args : Array Value} (hZ : Z.Warmed39 s.vm) (hw : ∀ d ∈ wordsEq, d.before a0 Z = true) : ∀ d ∈ wordsEq, d.before args s = true := fun d hd => by
  have t : ∀ d ∈ wordsEq, (d.onTables && d.keepsFace) = true := by decide +kernel
  exact RoadKit.mv hZ (hw d hd) (t d hd)
/-- the road's facts of a String, as the laws ask it -/
theorem txt_of {Z U : State} {a0 : Array Value} {kI : Nat} (wi : (Jvm.Cond.instantiable ST kI).before a0 Z = true) (al : Z.vm.Alike U.vm) {x t : Addr} {kb : ClassId} {cs : List Int32} {cd N2 : Int32} {vs : List Value} (E : RoadKit.Exa Z U.heap x ST) (V : RoadKit.Fld Z U.heap x ST "value" "[B" (.ref t)) (C : RoadKit.Fld Z U.heap x ST "coder" "B" (.int cd)) (K : RoadKit.Arv Z U.heap t kb .byte N2 vs (.int 0)) (hc : CodA cs cd N2 vs) (hb : ∀ c ∈ cs, ¬ c < 0 ∧ ¬ (65535 : Int32) < c) (l2 : cs.length ≤ 4000) :
    ∃ A, Txt x t A cd cs.length (fun j => cs.getD j 0) U := by
  obtain ⟨A, K1, K2, K3, K4, K5, K6⟩ := K
  have hcod := hc.cod (by omega) K3 K5
  obtain ⟨D, fV, fC, hB, F1, F2, g1, g2, -, -⟩ := strObj wi al E V C
  exact ⟨A, ⟨_, hB.2.2.1, D, hB.1, rfl, by cases q : D.vm <;> first | rfl | exact absurd q (hB.2.1.2 _)⟩, Has.of hB F1 g1, Has.of hB F2 g2, ⟨K1.1, State.isArrayOf_alike al K1.2.1, K1.2.2, by rcases hcod with ⟨-, q, -⟩ | ⟨-, q, -⟩ <;> omega⟩, hcod, fun j hj => by
    have e : cs.getD j 0 = cs[j] := by simp [List.getD_eq_getElem?_getD, hj]
    show ¬ cs.getD j 0 < 0 ∧ ¬ 65535 < cs.getD j 0
    rw [e]; exact hb _ (List.getElem_mem _)⟩
theorem same_list (cs ds : List Int32) : SameT cs.length (fun j => cs.getD j 0) ds.length (fun j => ds.getD j 0) ↔ cs = ds := by
  constructor
  · rintro ⟨e, q⟩
    refine List.ext_getElem e fun j h1 h2 => ?_
    have := q j h1
    simpa [List.getD_eq_getElem?_getD, h1, h2] using this
  · rintro rfl
    exact ⟨rfl, fun _ _ => rfl⟩
/-- **equals(Object) OF TWO SUCH STRINGS**: 1 just where the chars are the same -/
theorem eqW {p : Program} {l : Launch} {e : Env} {R : Room} {s : State} {args : Array Value} {below : List Frame} {len W : Nat} {Z : State} {a0 : Array Value} {h : Heap} (hZ : Z.Warmed39 s.vm) (hw : ∀ d ∈ wordsEq, d.before a0 Z = true) {kI : Nat} (wi : (Jvm.Cond.instantiable ST kI).before a0 Z = true)
    {x t : Addr} {kb : ClassId} {cs : List Int32} {cd N2 : Int32} {vs : List Value} (E : RoadKit.Exa Z h x ST) (V : RoadKit.Fld Z h x ST "value" "[B" (.ref t)) (C : RoadKit.Fld Z h x ST "coder" "B" (.int cd)) (K : RoadKit.Arv Z h t kb .byte N2 vs (.int 0)) (hc : CodA cs cd N2 vs) (hb : ∀ c ∈ cs, ¬ c < 0 ∧ ¬ (65535 : Int32) < c) (l2 : cs.length ≤ 4000)
    {y t' : Addr} {kb' : ClassId} {ds : List Int32} {cd' N2' : Int32} {vs' : List Value} (E' : RoadKit.Exa Z h y ST) (V' : RoadKit.Fld Z h y ST "value" "[B" (.ref t')) (C' : RoadKit.Fld Z h y ST "coder" "B" (.int cd')) (K' : RoadKit.Arv Z h t' kb' .byte N2' vs' (.int 0)) (hc' : CodA ds cd' N2' vs') (hb' : ∀ c ∈ ds, ¬ c < 0 ∧ ¬ (65535 : Int32) < c) (l2' : ds.length ≤ 4000)
    {z : Int32} (S : RoadKit.Sta Z h ST "COMPACT_STRINGS" "Z" (.int z)) (hz : ¬ z = 0) (hfr : 2 ≤ R.frames) (hlo : W + 28 ≤ R.locals) :
    Back l R p e below s args (⟨"java/lang/String", "equals", "(Ljava/lang/Object;)Z"⟩ : MethodName) len W (fun P a => a = #[.ref x, .ref y] ∧ P.U.heap = h ∧ P.cells + 0 ≤ R.cells ∧ P.slots + 0 ≤ R.slots)
      (fun P _ v B => ∃ L, (((v = some (.int 1) ∧ cs = ds) ∨ (v = some (.int 0) ∧ ¬ cs = ds)) ∧ L = [] ∧ B.U.heap = h) ∧ B.locs = P.locs ++ L ∧ B.cells = P.cells + 0 ∧ B.slots = P.slots + 0) := by
  intro m meth c P g ig mk a X hg hsize hdg hW hn hp'
  obtain ⟨rfl, rfl, r1, r2⟩ := hp'
  have al : Z.vm.Alike P.U.vm := hZ.alike.trans X.warmed.alike
  obtain ⟨A, hx⟩ := txt_of wi al E V C K hc hb l2
  obtain ⟨A', hy⟩ := txt_of wi al E' V' C' K' hc' hb' l2'
  obtain ⟨v, B, X', ⟨⟨w, hv, hh, hq⟩, hl, hk, hs⟩, st⟩ := SEq.pays x t A cd cs.length (fun j => cs.getD j 0) y t' A' cd' ds.length (fun j => ds.getD j 0) z (tabEq_of (movedEq hZ hw)) hfr hlo m meth c P g ig mk _ X hg hsize hdg hW hn ⟨r1, r2, rfl, hx, hy, sta_is al S, hz⟩
  refine ⟨v, B, X', ⟨[], ⟨?_, rfl, hh⟩, hl, hk, hs⟩, st⟩
  rcases hq with ⟨rfl, q⟩ | ⟨rfl, q⟩
  · exact Or.inl ⟨hv, (same_list cs ds).mp q⟩
  · exact Or.inr ⟨hv, fun e => q ((same_list cs ds).mpr e)⟩
end StrChars.Road
namespace StrChars.Road
open Jvm Sem ClassFile Op Lib Jvm.Stand Jvm.Free Jvm.Free.XT
open Jvm.Lib.Cold (StaticIs)
/-- what backV says of its String, as the contracts of this text ask it: cs's low bytes, coder 0 -/
theorem codOf {cs : List Int32} {n : Nat} (hn : cs.length = n) (hb : ∀ c ∈ cs, ¬ 255 < c) : CodA cs 0 (Int32.ofNat n) ((cs.map lo8).map Value.int) := Or.inl ⟨rfl, by rw [hn], by simp [List.map_map, Function.comp_def], hb⟩
end StrChars.Road
end Jvm.Pilot.@@N@@
namespace Jvm.Pilot.@@N@@
open Jvm Jvm.ClassFile Sem Op Lib Jvm.Free Jvm.Stand Jvm.LawKit Jvm.RoadKit Bundle Jvm.Pilot.@@N@@.Jvm.D
def own_Go (tb : Tables) (e : Env) (below : List Frame) (P : State → Prop) (A : State) : Prop := ∃ t, Steps tb e below A t ∧ P t
theorem own_go {tb : Tables} {e : Env} {below : List Frame} {P : State → Prop} {A B : State} (h : ∀ t, Steps tb e below B t → Steps tb e below A t) (g : own_Go tb e below P B) : own_Go tb e below P A := by
  obtain ⟨t, h1, h2⟩ := g
  exact ⟨t, h t h1, h2⟩
theorem own_fin {tb : Tables} {e : Env} {below : List Frame} {A : State} {Qq : Outcome → State → Prop} (g : own_Go tb e below (fun t => ∃ o, t.status = .running ∧ Ended t below o ∧ Qq o t) A) : ∃ t o, Steps tb e below A t ∧ t.status = .running ∧ Ended t below o ∧ Qq o t := by
  obtain ⟨t, h1, o, h2, h3, h4⟩ := g
  exact ⟨t, o, h1, h2, h3, h4⟩
theorem own_ret {tb : Tables} {e : Env} {below : List Frame} {P : State → Prop} {A t : State} (h : Steps tb e below A t) (q : P t) : own_Go tb e below P A := ⟨t, h, q⟩
def own_M (l : Launch) (y : MethodName) (bytes : ByteArray) (maxL : Nat) (ret : Option FieldType) (ws : List Jvm.Cond) (rm : Room) (Z : State) (as : Array Value) (h0 : Heap) (Q : Option Value → Heap → List Loc → Prop) : Prop := MetFree l y (head1 (Jvm.Cond.code y bytes maxL ret :: ws) rm) (fun aR UR => aR = as ∧ Z.Warmed39 UR.vm ∧ UR.heap = h0) (fun _ _ _ _ _ => True) (fun _ UR oR UR' => ∃ vR LR, oR = .returned vR ∧ Q vR UR'.heap LR ∧ FrameEnd UR oR UR' LR rm.cells rm.slots)
theorem own_body {l : Launch} {y : MethodName} {bytes : ByteArray} {maxL : Nat} {ret : Option FieldType} {ws : List Jvm.Cond} {rm : Room} {Z : State} {as : Array Value} {h0 : Heap} {Q : Option Value → Heap → List Loc → Prop} {own : String} {f : MethodId → JFrame} (ho : y.cls = own) (hx : plainFor y = true) (ef : ∀ m, entryFrame m as maxL = f m) (k : ∀ (p : Program) (e : Env) (s : State) (m : MethodId) (below : List Frame) (meth : Method) (c : Code) (s₁ : State), BodyLoose p l y (head1 (Jvm.Cond.code y bytes maxL ret :: ws) rm) bytes maxL ret e s m as below meth c s₁ → c.maxLocals = maxL → Z.Warmed39 s.vm → s.heap = h0 → p.tables.exec = Jvm.exec → c.code = bytes → s.vm.findClass own = some m.cls → Stand p l e rm s m as below meth c s₁ [] 0 0 → s₁.heap = h0 → own_Go p.tables e below (fun t => ∃ o, t.status = .running ∧ Ended t below o ∧ ∃ vR LR, o = .returned vR ∧ Q vR t.heap LR ∧ FrameEnd s o t LR rm.cells rm.slots) (s₁.setTop (f m))) : own_M l y bytes maxL ret ws rm Z as h0 Q := by
  subst ho
  refine MetFree.of_bodySF hx hisR ?_
  intro p e s m args below meth c s₁ Bd hml hP hK
  obtain ⟨rfl, hZ, hh⟩ := hP
  exact own_fin (own_go (fun tT kK => castTop (ef m) kK) (k p e s m below meth c s₁ Bd hml hZ hh Bd.exec Bd.bytes (findClass_of_methodNamed Bd.named) (Stand.of_body Bd) (by rw [← hh, Bd.state]; rfl)))
def own_MH (l : Launch) (y : MethodName) (bytes : ByteArray) (maxL : Nat) (ret : Option FieldType) (ws : List Jvm.Cond) (rm : Room) (Z : State) (as : Array Value) (h0 : Heap) (Q : Option Value → Heap → List Loc → Prop) (EL : List (String × Nat)) : Prop := MetFree l y (head1 (Jvm.Cond.code y bytes maxL ret :: ws) rm) (fun aR UR => aR = as ∧ Z.Warmed39 UR.vm ∧ UR.heap = h0 ∧ CHv Z EL UR.vm h0) (fun _ _ _ _ _ => True) (fun _ UR oR UR' => ∃ vR LR, oR = .returned vR ∧ Q vR UR'.heap LR ∧ CHr Z EL UR.vm UR.heap UR'.vm UR'.heap ∧ ReturnedEndW UR oR UR' LR rm.cells rm.slots)
theorem own_bodyH {l : Launch} {y : MethodName} {bytes : ByteArray} {maxL : Nat} {ret : Option FieldType} {ws : List Jvm.Cond} {rm : Room} {Z : State} {as : Array Value} {h0 : Heap} {Q : Option Value → Heap → List Loc → Prop} {EL : List (String × Nat)} {own : String} {f : MethodId → JFrame} (ho : y.cls = own) (hx : plainFor y = true) (ef : ∀ m, entryFrame m as maxL = f m) (k : ∀ (p : Program) (e : Env) (s : State) (m : MethodId) (below : List Frame) (meth : Method) (c : Code) (s₁ : State), BodyLoose p l y (head1 (Jvm.Cond.code y bytes maxL ret :: ws) rm) bytes maxL ret e s m as below meth c s₁ → c.maxLocals = maxL → Z.Warmed39 s.vm → s.heap = h0 → p.tables.exec = Jvm.exec → c.code = bytes → s.vm.findClass own = some m.cls → Stand p l e rm s m as below meth c s₁ [] 0 0 → s₁.heap = h0 → s.Since s.vm h0.size → CHv Z EL s.vm h0 → own_Go p.tables e below (fun t => ∃ o, t.status = .running ∧ Ended t below o ∧ ∃ vR LR, o = .returned vR ∧ Q vR t.heap LR ∧ CHr Z EL s.vm s.heap t.vm t.heap ∧ ReturnedEndW s o t LR rm.cells rm.slots) (s₁.setTop (f m))) : own_MH l y bytes maxL ret ws rm Z as h0 Q EL := by
  subst ho
  refine MetFree.of_bodySF hx hisR ?_
  intro p e s m args below meth c s₁ Bd hml hP hK
  obtain ⟨rfl, hZ, hh, CH0⟩ := hP
  exact own_fin (own_go (fun tT kK => castTop (ef m) kK) (k p e s m below meth c s₁ Bd hml hZ hh Bd.exec Bd.bytes (findClass_of_methodNamed Bd.named) (Stand.of_body Bd) (by rw [← hh, Bd.state]; rfl) ((State.WarmedH.refl s).since _) CH0))
theorem own_sh {tb : Tables} {e : Env} {below : List Frame} {P : State → Prop} {T : State} {m : MethodId} (pc : Nat) (Ls : Array Slot) (st : List Value) (g : own_Go tb e below P (T.setTop (mkF m pc Ls st))) : own_Go tb e below P (T.setTop (mkF m pc Ls st)) := g
theorem own_nn {a b : Nat} (h : ¬ a = b) : a ≠ b := h
theorem own_ll {a b : Nat} (h : a < b) : a < b := h
theorem own_sv {a b : Int32} (h : a = b) : some (Value.int a) = some (Value.int b) := by rw [h]
theorem own_w {Z : State} {a0 : Array Value} {tab : List Jvm.Cond} (hw : ∀ d ∈ tab, d.before a0 Z = true) (i : Nat) {d : Jvm.Cond} (h : tab[i]? = some d) : d.before a0 Z = true := hw d (List.mem_of_getElem? h)
theorem own_iloadN {tb : Tables} [Ours tb] {e : Env} {below : List Frame} {T : State} {m : MethodId} {c : Code} {P : State → Prop} {pc : Nat} {Ls : Array Slot} {st : List Value} {bc : ByteArray} (h : At T m c below) (hx : tb.exec = Jvm.exec) (hby : c.code = bc) {k : Fin 4} {v : Int32} (hd : decode bc pc = .ok (.iload_n k, 1)) (hl : Ls[k.val]? = some (.val (.int v))) (g : own_Go tb e below P (T.setTop (mkF m (pc + 1) Ls ((.int v) :: st)))) : own_Go tb e below P (T.setTop (mkF m pc Ls (st))) := own_go (fun t k => XS.iloadN h hx rfl (hb hby hd) hl k) g
theorem own_lloadN {tb : Tables} [Ours tb] {e : Env} {below : List Frame} {T : State} {m : MethodId} {c : Code} {P : State → Prop} {pc : Nat} {Ls : Array Slot} {st : List Value} {bc : ByteArray} (h : At T m c below) (hx : tb.exec = Jvm.exec) (hby : c.code = bc) {k : Fin 4} {v : Int64} (hd : decode bc pc = .ok (.lload_n k, 1)) (hl : Ls[k.val]? = some (.val (.long v))) (g : own_Go tb e below P (T.setTop (mkF m (pc + 1) Ls ((.long v) :: st)))) : own_Go tb e below P (T.setTop (mkF m pc Ls (st))) := own_go (fun t k => XS.lloadN h hx rfl (hb hby hd) hl k) g
theorem own_iload {tb : Tables} [Ours tb] {e : Env} {below : List Frame} {T : State} {m : MethodId} {c : Code} {P : State → Prop} {pc : Nat} {Ls : Array Slot} {st : List Value} {bc : ByteArray} (h : At T m c below) (hx : tb.exec = Jvm.exec) (hby : c.code = bc) {k : Nat} {v : Int32} (hd : decode bc pc = .ok (.iload k, 2)) (hl : Ls[k]? = some (.val (.int v))) (g : own_Go tb e below P (T.setTop (mkF m (pc + 2) Ls ((.int v) :: st)))) : own_Go tb e below P (T.setTop (mkF m pc Ls (st))) := own_go (fun t k => XS.iload h hx rfl (hb hby hd) hl k) g
theorem own_aloadN {tb : Tables} [Ours tb] {e : Env} {below : List Frame} {T : State} {m : MethodId} {c : Code} {P : State → Prop} {pc : Nat} {Ls : Array Slot} {st : List Value} {bc : ByteArray} (h : At T m c below) (hx : tb.exec = Jvm.exec) (hby : c.code = bc) {k : Fin 4} {v : Value} (hd : decode bc pc = .ok (.aload_n k, 1)) (hl : Ls[k.val]? = some (.val v)) (hv : v.isRef = true) (g : own_Go tb e below P (T.setTop (mkF m (pc + 1) Ls (v :: st)))) : own_Go tb e below P (T.setTop (mkF m pc Ls (st))) := own_go (fun t k => XS.aloadN h hx rfl (hb hby hd) hl hv k) g
theorem own_aload {tb : Tables} [Ours tb] {e : Env} {below : List Frame} {T : State} {m : MethodId} {c : Code} {P : State → Prop} {pc : Nat} {Ls : Array Slot} {st : List Value} {bc : ByteArray} (h : At T m c below) (hx : tb.exec = Jvm.exec) (hby : c.code = bc) {k : Nat} {v : Value} (hd : decode bc pc = .ok (.aload k, 2)) (hl : Ls[k]? = some (.val v)) (hv : v.isRef = true) (g : own_Go tb e below P (T.setTop (mkF m (pc + 2) Ls (v :: st)))) : own_Go tb e below P (T.setTop (mkF m pc Ls (st))) := own_go (fun t k => XS.aload h hx rfl (hb hby hd) hl hv k) g
theorem own_istoreN {tb : Tables} [Ours tb] {e : Env} {below : List Frame} {T : State} {m : MethodId} {c : Code} {P : State → Prop} {pc : Nat} {Ls : Array Slot} {st : List Value} {bc : ByteArray} (h : At T m c below) (hx : tb.exec = Jvm.exec) (hby : c.code = bc) {k : Fin 4} {x : Int32} {l' : Array Slot} (hd : decode bc pc = .ok (.istore_n k, 1)) (hl : storeLocals Ls k.val (.int x) = some l') (g : own_Go tb e below P (T.setTop (mkF m (pc + 1) l' (st)))) : own_Go tb e below P (T.setTop (mkF m pc Ls ((.int x) :: st))) := own_go (fun t k => XS.istoreN h hx rfl (hb hby hd) rfl hl k) g
theorem own_istore {tb : Tables} [Ours tb] {e : Env} {below : List Frame} {T : State} {m : MethodId} {c : Code} {P : State → Prop} {pc : Nat} {Ls : Array Slot} {st : List Value} {bc : ByteArray} (h : At T m c below) (hx : tb.exec = Jvm.exec) (hby : c.code = bc) {k : Nat} {x : Int32} {l' : Array Slot} (hd : decode bc pc = .ok (.istore k, 2)) (hl : storeLocals Ls k (.int x) = some l') (g : own_Go tb e below P (T.setTop (mkF m (pc + 2) l' (st)))) : own_Go tb e below P (T.setTop (mkF m pc Ls ((.int x) :: st))) := own_go (fun t k => XS.istore h hx rfl (hb hby hd) rfl hl k) g
theorem own_astoreN {tb : Tables} [Ours tb] {e : Env} {below : List Frame} {T : State} {m : MethodId} {c : Code} {P : State → Prop} {pc : Nat} {Ls : Array Slot} {st : List Value} {bc : ByteArray} (h : At T m c below) (hx : tb.exec = Jvm.exec) (hby : c.code = bc) {k : Fin 4} {x : Value} {l' : Array Slot} (hd : decode bc pc = .ok (.astore_n k, 1)) (hv : x.isRef = true) (hl : storeLocals Ls k.val x = some l') (g : own_Go tb e below P (T.setTop (mkF m (pc + 1) l' (st)))) : own_Go tb e below P (T.setTop (mkF m pc Ls (x :: st))) := own_go (fun t k => XS.astoreN h hx rfl (hb hby hd) rfl hv hl k) g
theorem own_astore {tb : Tables} [Ours tb] {e : Env} {below : List Frame} {T : State} {m : MethodId} {c : Code} {P : State → Prop} {pc : Nat} {Ls : Array Slot} {st : List Value} {bc : ByteArray} (h : At T m c below) (hx : tb.exec = Jvm.exec) (hby : c.code = bc) {k : Nat} {x : Value} {l' : Array Slot} (hd : decode bc pc = .ok (.astore k, 2)) (hv : x.isRef = true) (hl : storeLocals Ls k x = some l') (g : own_Go tb e below P (T.setTop (mkF m (pc + 2) l' (st)))) : own_Go tb e below P (T.setTop (mkF m pc Ls (x :: st))) := own_go (fun t k => XS.astore h hx rfl (hb hby hd) rfl hv hl k) g
theorem own_iconst {tb : Tables} [Ours tb] {e : Env} {below : List Frame} {T : State} {m : MethodId} {c : Code} {P : State → Prop} {pc : Nat} {Ls : Array Slot} {st : List Value} {bc : ByteArray} (h : At T m c below) (hx : tb.exec = Jvm.exec) (hby : c.code = bc) {i : Int} {v : Int32} (hd : decode bc pc = .ok (.iconst i, 1)) (hv : Int32.ofInt i = v) (g : own_Go tb e below P (T.setTop (mkF m (pc + 1) Ls ((.int v) :: st)))) : own_Go tb e below P (T.setTop (mkF m pc Ls st)) := by
  subst hv
  exact own_go (fun t k => XS.iconst h hx rfl (hb hby hd) k) g
theorem own_bipush {tb : Tables} [Ours tb] {e : Env} {below : List Frame} {T : State} {m : MethodId} {c : Code} {P : State → Prop} {pc : Nat} {Ls : Array Slot} {st : List Value} {bc : ByteArray} (h : At T m c below) (hx : tb.exec = Jvm.exec) (hby : c.code = bc) {i : Int} {v : Int32} (hd : decode bc pc = .ok (.bipush i, 2)) (hv : (Int8.ofInt i).toInt32 = v) (g : own_Go tb e below P (T.setTop (mkF m (pc + 2) Ls ((.int v) :: st)))) : own_Go tb e below P (T.setTop (mkF m pc Ls st)) := by
  subst hv
  exact own_go (fun t k => XS.bipush h hx rfl (hb hby hd) k) g
theorem own_sipush {tb : Tables} [Ours tb] {e : Env} {below : List Frame} {T : State} {m : MethodId} {c : Code} {P : State → Prop} {pc : Nat} {Ls : Array Slot} {st : List Value} {bc : ByteArray} (h : At T m c below) (hx : tb.exec = Jvm.exec) (hby : c.code = bc) {i : Int} {v : Int32} (hd : decode bc pc = .ok (.sipush i, 3)) (hv : (Int16.ofInt i).toInt32 = v) (g : own_Go tb e below P (T.setTop (mkF m (pc + 3) Ls ((.int v) :: st)))) : own_Go tb e below P (T.setTop (mkF m pc Ls st)) := by
  subst hv
  exact own_go (fun t k => XS.sipush h hx rfl (hb hby hd) k) g
theorem own_aconstNull {tb : Tables} [Ours tb] {e : Env} {below : List Frame} {T : State} {m : MethodId} {c : Code} {P : State → Prop} {pc : Nat} {Ls : Array Slot} {st : List Value} {bc : ByteArray} (h : At T m c below) (hx : tb.exec = Jvm.exec) (hby : c.code = bc)  (hd : decode bc pc = .ok (.aconst_null, 1)) (g : own_Go tb e below P (T.setTop (mkF m (pc + 1) Ls (.null :: st)))) : own_Go tb e below P (T.setTop (mkF m pc Ls (st))) := own_go (fun t k => XS.aconstNull h hx rfl (hb hby hd)  k) g
theorem own_iadd {tb : Tables} [Ours tb] {e : Env} {below : List Frame} {T : State} {m : MethodId} {c : Code} {P : State → Prop} {pc : Nat} {Ls : Array Slot} {st : List Value} {bc : ByteArray} (h : At T m c below) (hx : tb.exec = Jvm.exec) (hby : c.code = bc) {x y v : Int32} (hd : decode bc pc = .ok (.iadd, 1)) (hv : (x + y) = v) (g : own_Go tb e below P (T.setTop (mkF m (pc + 1) Ls ((.int v) :: st)))) : own_Go tb e below P (T.setTop (mkF m pc Ls ((.int y) :: (.int x) :: st))) := by
  subst hv
  exact own_go (fun t k => XS.iadd h hx rfl (hb hby hd) rfl k) g
theorem own_isub {tb : Tables} [Ours tb] {e : Env} {below : List Frame} {T : State} {m : MethodId} {c : Code} {P : State → Prop} {pc : Nat} {Ls : Array Slot} {st : List Value} {bc : ByteArray} (h : At T m c below) (hx : tb.exec = Jvm.exec) (hby : c.code = bc) {x y v : Int32} (hd : decode bc pc = .ok (.isub, 1)) (hv : (x - y) = v) (g : own_Go tb e below P (T.setTop (mkF m (pc + 1) Ls ((.int v) :: st)))) : own_Go tb e below P (T.setTop (mkF m pc Ls ((.int y) :: (.int x) :: st))) := by
  subst hv
  exact own_go (fun t k => XS.isub h hx rfl (hb hby hd) rfl k) g
theorem own_imul {tb : Tables} [Ours tb] {e : Env} {below : List Frame} {T : State} {m : MethodId} {c : Code} {P : State → Prop} {pc : Nat} {Ls : Array Slot} {st : List Value} {bc : ByteArray} (h : At T m c below) (hx : tb.exec = Jvm.exec) (hby : c.code = bc) {x y v : Int32} (hd : decode bc pc = .ok (.imul, 1)) (hv : (x * y) = v) (g : own_Go tb e below P (T.setTop (mkF m (pc + 1) Ls ((.int v) :: st)))) : own_Go tb e below P (T.setTop (mkF m pc Ls ((.int y) :: (.int x) :: st))) := by
  subst hv
  exact own_go (fun t k => XS.imul h hx rfl (hb hby hd) rfl k) g
theorem own_iand {tb : Tables} [Ours tb] {e : Env} {below : List Frame} {T : State} {m : MethodId} {c : Code} {P : State → Prop} {pc : Nat} {Ls : Array Slot} {st : List Value} {bc : ByteArray} (h : At T m c below) (hx : tb.exec = Jvm.exec) (hby : c.code = bc) {x y v : Int32} (hd : decode bc pc = .ok (.iand, 1)) (hv : (x &&& y) = v) (g : own_Go tb e below P (T.setTop (mkF m (pc + 1) Ls ((.int v) :: st)))) : own_Go tb e below P (T.setTop (mkF m pc Ls ((.int y) :: (.int x) :: st))) := by
  subst hv
  exact own_go (fun t k => XS.iand h hx rfl (hb hby hd) rfl k) g
theorem own_land {tb : Tables} [Ours tb] {e : Env} {below : List Frame} {T : State} {m : MethodId} {c : Code} {P : State → Prop} {pc : Nat} {Ls : Array Slot} {st : List Value} {bc : ByteArray} (h : At T m c below) (hx : tb.exec = Jvm.exec) (hby : c.code = bc) {x y v : Int64} (hd : decode bc pc = .ok (.land, 1)) (hv : (x &&& y) = v) (g : own_Go tb e below P (T.setTop (mkF m (pc + 1) Ls ((.long v) :: st)))) : own_Go tb e below P (T.setTop (mkF m pc Ls ((.long y) :: (.long x) :: st))) := by
  subst hv
  exact own_go (fun t k => XS.land h hx rfl (hb hby hd) rfl k) g
theorem own_ishl {tb : Tables} [Ours tb] {e : Env} {below : List Frame} {T : State} {m : MethodId} {c : Code} {P : State → Prop} {pc : Nat} {Ls : Array Slot} {st : List Value} {bc : ByteArray} (h : At T m c below) (hx : tb.exec = Jvm.exec) (hby : c.code = bc) {x y v : Int32} (hd : decode bc pc = .ok (.ishl, 1)) (hv : (x <<< (y &&& 31)) = v) (g : own_Go tb e below P (T.setTop (mkF m (pc + 1) Ls ((.int v) :: st)))) : own_Go tb e below P (T.setTop (mkF m pc Ls ((.int y) :: (.int x) :: st))) := by
  subst hv
  exact own_go (fun t k => XS.ishl h hx rfl (hb hby hd) rfl k) g
theorem own_ishr {tb : Tables} [Ours tb] {e : Env} {below : List Frame} {T : State} {m : MethodId} {c : Code} {P : State → Prop} {pc : Nat} {Ls : Array Slot} {st : List Value} {bc : ByteArray} (h : At T m c below) (hx : tb.exec = Jvm.exec) (hby : c.code = bc) {x y v : Int32} (hd : decode bc pc = .ok (.ishr, 1)) (hv : (x >>> (y &&& 31)) = v) (g : own_Go tb e below P (T.setTop (mkF m (pc + 1) Ls ((.int v) :: st)))) : own_Go tb e below P (T.setTop (mkF m pc Ls ((.int y) :: (.int x) :: st))) := by
  subst hv
  exact own_go (fun t k => XS.ishr h hx rfl (hb hby hd) rfl k) g
theorem own_iushr {tb : Tables} [Ours tb] {e : Env} {below : List Frame} {T : State} {m : MethodId} {c : Code} {P : State → Prop} {pc : Nat} {Ls : Array Slot} {st : List Value} {bc : ByteArray} (h : At T m c below) (hx : tb.exec = Jvm.exec) (hby : c.code = bc) {x y v : Int32} (hd : decode bc pc = .ok (.iushr, 1)) (hv : ((x.toUInt32 >>> (y &&& 31).toUInt32).toInt32) = v) (g : own_Go tb e below P (T.setTop (mkF m (pc + 1) Ls ((.int v) :: st)))) : own_Go tb e below P (T.setTop (mkF m pc Ls ((.int y) :: (.int x) :: st))) := by
  subst hv
  exact own_go (fun t k => XS.iushr h hx rfl (hb hby hd) rfl k) g
theorem own_lushr {tb : Tables} [Ours tb] {e : Env} {below : List Frame} {T : State} {m : MethodId} {c : Code} {P : State → Prop} {pc : Nat} {Ls : Array Slot} {st : List Value} {bc : ByteArray} (h : At T m c below) (hx : tb.exec = Jvm.exec) (hby : c.code = bc) {x v : Int64} {y : Int32} (hd : decode bc pc = .ok (.lushr, 1)) (hv : ((x.toUInt64 >>> (y &&& 0x3f).toInt64.toUInt64).toInt64) = v) (g : own_Go tb e below P (T.setTop (mkF m (pc + 1) Ls ((.long v) :: st)))) : own_Go tb e below P (T.setTop (mkF m pc Ls ((.int y) :: (.long x) :: st))) := by
  subst hv
  exact own_go (fun t k => XS.lushr h hx rfl (hb hby hd) rfl k) g
theorem own_l2i {tb : Tables} [Ours tb] {e : Env} {below : List Frame} {T : State} {m : MethodId} {c : Code} {P : State → Prop} {pc : Nat} {Ls : Array Slot} {st : List Value} {bc : ByteArray} (h : At T m c below) (hx : tb.exec = Jvm.exec) (hby : c.code = bc) {x : Int64} {v : Int32} (hd : decode bc pc = .ok (.l2i, 1)) (hv : (x.toInt32) = v) (g : own_Go tb e below P (T.setTop (mkF m (pc + 1) Ls ((.int v) :: st)))) : own_Go tb e below P (T.setTop (mkF m pc Ls ((.long x) :: st))) := by
  subst hv
  exact own_go (fun t k => XS.l2i h hx rfl (hb hby hd) rfl k) g
theorem own_i2b {tb : Tables} [Ours tb] {e : Env} {below : List Frame} {T : State} {m : MethodId} {c : Code} {P : State → Prop} {pc : Nat} {Ls : Array Slot} {st : List Value} {bc : ByteArray} (h : At T m c below) (hx : tb.exec = Jvm.exec) (hby : c.code = bc) {x : Int32} {v : Int32} (hd : decode bc pc = .ok (.i2b, 1)) (hv : (x.toInt8.toInt32) = v) (g : own_Go tb e below P (T.setTop (mkF m (pc + 1) Ls ((.int v) :: st)))) : own_Go tb e below P (T.setTop (mkF m pc Ls ((.int x) :: st))) := by
  subst hv
  exact own_go (fun t k => XS.i2b h hx rfl (hb hby hd) rfl k) g
theorem own_i2c {tb : Tables} [Ours tb] {e : Env} {below : List Frame} {T : State} {m : MethodId} {c : Code} {P : State → Prop} {pc : Nat} {Ls : Array Slot} {st : List Value} {bc : ByteArray} (h : At T m c below) (hx : tb.exec = Jvm.exec) (hby : c.code = bc) {x : Int32} {v : Int32} (hd : decode bc pc = .ok (.i2c, 1)) (hv : (x.toUInt32.toUInt16.toUInt32.toInt32) = v) (g : own_Go tb e below P (T.setTop (mkF m (pc + 1) Ls ((.int v) :: st)))) : own_Go tb e below P (T.setTop (mkF m pc Ls ((.int x) :: st))) := by
  subst hv
  exact own_go (fun t k => XS.i2c h hx rfl (hb hby hd) rfl k) g
theorem own_dup {tb : Tables} [Ours tb] {e : Env} {below : List Frame} {T : State} {m : MethodId} {c : Code} {P : State → Prop} {pc : Nat} {Ls : Array Slot} {st : List Value} {bc : ByteArray} (h : At T m c below) (hx : tb.exec = Jvm.exec) (hby : c.code = bc) {x : Value} (hd : decode bc pc = .ok (.dup, 1)) (hc : x.category = 1) (g : own_Go tb e below P (T.setTop (mkF m (pc + 1) Ls (x :: x :: st)))) : own_Go tb e below P (T.setTop (mkF m pc Ls (x :: st))) := own_go (fun t k => XS.dup h hx rfl (hb hby hd) rfl hc k) g
theorem own_pop {tb : Tables} [Ours tb] {e : Env} {below : List Frame} {T : State} {m : MethodId} {c : Code} {P : State → Prop} {pc : Nat} {Ls : Array Slot} {st : List Value} {bc : ByteArray} (h : At T m c below) (hx : tb.exec = Jvm.exec) (hby : c.code = bc) {x : Value} (hd : decode bc pc = .ok (.pop, 1)) (hc : x.category = 1) (g : own_Go tb e below P (T.setTop (mkF m (pc + 1) Ls (st)))) : own_Go tb e below P (T.setTop (mkF m pc Ls (x :: st))) := own_go (fun t k => XS.pop h hx rfl (hb hby hd) rfl hc k) g
theorem own_goto {tb : Tables} [Ours tb] {e : Env} {below : List Frame} {T : State} {m : MethodId} {c : Code} {P : State → Prop} {pc : Nat} {Ls : Array Slot} {st : List Value} {bc : ByteArray} (h : At T m c below) (hx : tb.exec = Jvm.exec) (hby : c.code = bc) {o : Int} {pc' : Nat} (hd : decode bc pc = .ok (.goto o, 3)) (ho : 0 ≤ (pc : Int) + o) (hp : ((pc : Int) + o).toNat = pc') (g : own_Go tb e below P (T.setTop (mkF m pc' Ls st))) : own_Go tb e below P (T.setTop (mkF m pc Ls st)) := own_go (fun t k => XS.goto h hx rfl (pc0 := pc) rfl (hb hby hd) ho hp k) g
theorem own_ifYes {tb : Tables} [Ours tb] {e : Env} {below : List Frame} {T : State} {m : MethodId} {c : Code} {P : State → Prop} {pc : Nat} {Ls : Array Slot} {st : List Value} {bc : ByteArray} (h : At T m c below) (hx : tb.exec = Jvm.exec) (hby : c.code = bc) {cd : ClassFile.Cond} {o : Int} {pc' : Nat} {x : Int32} (hd : decode bc pc = .ok (.ifCond cd o, 3)) (hc : ifCond.holds cd x = true) (ho : 0 ≤ (pc : Int) + o) (hp : ((pc : Int) + o).toNat = pc') (g : own_Go tb e below P (T.setTop (mkF m pc' Ls st))) : own_Go tb e below P (T.setTop (mkF m pc Ls ((.int x) :: st))) := own_go (fun t k => XS.ifYes h hx rfl (pc0 := pc) rfl (hb hby hd) rfl hc ho hp k) g
theorem own_ifNo {tb : Tables} [Ours tb] {e : Env} {below : List Frame} {T : State} {m : MethodId} {c : Code} {P : State → Prop} {pc : Nat} {Ls : Array Slot} {st : List Value} {bc : ByteArray} (h : At T m c below) (hx : tb.exec = Jvm.exec) (hby : c.code = bc) {cd : ClassFile.Cond} {o : Int} {x : Int32} (hd : decode bc pc = .ok (.ifCond cd o, 3)) (hc : ifCond.holds cd x = false) (g : own_Go tb e below P (T.setTop (mkF m (pc + 3) Ls st))) : own_Go tb e below P (T.setTop (mkF m pc Ls ((.int x) :: st))) := own_go (fun t k => XS.ifNo h hx rfl (hb hby hd) rfl hc k) g
theorem own_icmpYes {tb : Tables} [Ours tb] {e : Env} {below : List Frame} {T : State} {m : MethodId} {c : Code} {P : State → Prop} {pc : Nat} {Ls : Array Slot} {st : List Value} {bc : ByteArray} (h : At T m c below) (hx : tb.exec = Jvm.exec) (hby : c.code = bc) {cd : ClassFile.Cond} {o : Int} {pc' : Nat} {x y : Int32} (hd : decode bc pc = .ok (.if_icmp cd o, 3)) (hc : if_icmp.holds cd x y = true) (ho : 0 ≤ (pc : Int) + o) (hp : ((pc : Int) + o).toNat = pc') (g : own_Go tb e below P (T.setTop (mkF m pc' Ls st))) : own_Go tb e below P (T.setTop (mkF m pc Ls ((.int y) :: (.int x) :: st))) := own_go (fun t k => XS.icmpYes h hx rfl (pc0 := pc) rfl (hb hby hd) rfl hc ho hp k) g
theorem own_icmpNo {tb : Tables} [Ours tb] {e : Env} {below : List Frame} {T : State} {m : MethodId} {c : Code} {P : State → Prop} {pc : Nat} {Ls : Array Slot} {st : List Value} {bc : ByteArray} (h : At T m c below) (hx : tb.exec = Jvm.exec) (hby : c.code = bc) {cd : ClassFile.Cond} {o : Int} {x y : Int32} (hd : decode bc pc = .ok (.if_icmp cd o, 3)) (hc : if_icmp.holds cd x y = false) (g : own_Go tb e below P (T.setTop (mkF m (pc + 3) Ls st))) : own_Go tb e below P (T.setTop (mkF m pc Ls ((.int y) :: (.int x) :: st))) := own_go (fun t k => XS.icmpNo h hx rfl (hb hby hd) rfl hc k) g
theorem own_ifnonnullYes {tb : Tables} [Ours tb] {e : Env} {below : List Frame} {T : State} {m : MethodId} {c : Code} {P : State → Prop} {pc : Nat} {Ls : Array Slot} {st : List Value} {bc : ByteArray} (h : At T m c below) (hx : tb.exec = Jvm.exec) (hby : c.code = bc) {o : Int} {pc' : Nat} {b : Addr} (hd : decode bc pc = .ok (.ifnonnull o, 3)) (ho : 0 ≤ (pc : Int) + o) (hp : ((pc : Int) + o).toNat = pc') (g : own_Go tb e below P (T.setTop (mkF m pc' Ls st))) : own_Go tb e below P (T.setTop (mkF m pc Ls ((.ref b) :: st))) := own_go (fun t k => XS.ifnonnullYes h hx rfl (pc0 := pc) rfl (hb hby hd) rfl ho hp k) g
section OwnGo
variable {p : Program} {l : Launch} {e : Env} {R : Room} {s : State} {m : MethodId} {args : Array Value} {below : List Frame} {meth : Method} {c : Code} {T : State} {locs : List Loc} {cells slots : Nat} {Z : State} {a0 : Array Value} {h : Heap} {P : State → Prop} {pc : Nat} {Ls : Array Slot} {st : List Value} {bc : ByteArray} {n0 : Nat}
theorem own_getF (X : Stand p l e R s m args below meth c T locs cells slots) (hx : p.tables.exec = Jvm.exec) (hZ : Z.Warmed39 s.vm) {own R0 O n d host : String} {index : Nat} (hown : s.vm.findClass own = some m.cls) (w : (Cond.fieldLink own index R0 n d).before a0 Z = true ∨ (Cond.fieldLinkNest own index R0 n d host).before a0 Z = true) (via : Via Z R0 O n d) (eT : T.heap = h) {a : Addr} {v : Value} (F : Fld Z h a O n d v) (hby : c.code = bc) (hd : decode bc pc = .ok (.getfield index, 3)) (k : ∀ T', Stand p l e R s m args below meth c T' locs cells slots → T'.heap = h → own_Go p.tables e below P (T'.setTop (mkF m (pc + 3) Ls (v :: st)))) : own_Go p.tables e below P (T.setTop (mkF m pc Ls ((.ref a) :: st))) := by
  obtain ⟨T', X', e', sp⟩ := getF X hx hZ hown w via eT F (g := mkF m pc Ls ((.ref a) :: st)) rfl rfl (hb hby hd)
  exact own_go sp (k T' X' e')
theorem own_getS (X : Stand p l e R s m args below meth c T locs cells slots) (hx : p.tables.exec = Jvm.exec) (hZ : Z.Warmed39 s.vm) {own R0 O n d host : String} {index : Nat} (hown : s.vm.findClass own = some m.cls) (w : (Cond.fieldLink own index R0 n d).before a0 Z = true ∨ (Cond.fieldLinkNest own index R0 n d host).before a0 Z = true) (via : Via Z R0 O n d) (eT : T.heap = h) {v : Value} (F : Sta Z h O n d v) (hby : c.code = bc) (hd : decode bc pc = .ok (.getstatic index, 3)) (k : ∀ T', Stand p l e R s m args below meth c T' locs cells slots → T'.heap = h → own_Go p.tables e below P (T'.setTop (mkF m (pc + 3) Ls (v :: st)))) : own_Go p.tables e below P (T.setTop (mkF m pc Ls st)) := by
  obtain ⟨T', X', e', sp⟩ := getS2 X hx hZ hown w via eT F (g := mkF m pc Ls st) rfl (hb hby hd)
  exact own_go sp (k T' X' e')
theorem own_putF (X : Stand p l e R s m args below meth c T locs cells slots) (hx : p.tables.exec = Jvm.exec) (hZ : Z.Warmed39 s.vm) {C : String} {kk : Nat} {ty : FieldType} {own R0 O n d host : String} {index : Nat} (hown : s.vm.findClass own = some m.cls) (w : (Cond.fieldLink own index R0 n d).before a0 Z = true ∨ (Cond.fieldLinkNest own index R0 n d host).before a0 Z = true) (via : Via Z R0 O n d) (eT : T.heap = h) {a : Addr} {v old : Value} (F : Fld Z h a O n d old) (E : Exa Z h a C) (L : (Cond.lays C O n d).before a0 Z = true ∨ ((Cond.laysFinal C O n d).before a0 Z = true ∧ own = O ∧ meth.name = "<init>")) (wi : (Cond.instantiable C kk).before a0 Z = true) (hty : parseFieldDescriptor d = some ty) (hn : narrow ty v = v) (hf : fits ty v = true) (hby : c.code = bc) (hd : decode bc pc = .ok (.putfield index, 3)) (N : Fr n0 locs) (ge : n0 ≤ a) (k : ∀ T' h' locs', Stand p l e R s m args below meth c T' locs' cells slots → T'.heap = h' → Fr n0 locs' → Wr h h' a (Jvm.RoadKit.slotOf Z O n d) v → Fld Z h' a O n d v → h.size ≤ h'.size → own_Go p.tables e below P (T'.setTop (mkF m (pc + 3) Ls st))) : own_Go p.tables e below P (T.setTop (mkF m pc Ls (v :: (.ref a) :: st))) := by
  obtain ⟨T', h', X', e', W, sp⟩ := putF X hx hZ hown w via eT F E L wi hty hn hf (g := mkF m pc Ls (v :: (.ref a) :: st)) rfl rfl (hb hby hd)
  exact own_go sp (k T' h' _ X' e' (Fr.snoc X' N ge) W (F.same W) (Keep.of_wr W).1)
theorem own_putFN (X : Stand p l e R s m args below meth c T locs cells slots) (hx : p.tables.exec = Jvm.exec) (hZ : Z.Warmed39 s.vm) {own R0 O n d C : String} {index kk : Nat} {ty : FieldType} (hown : s.vm.findClass own = some m.cls) (w : (Cond.fieldLink own index R0 n d).before a0 Z = true) (via : Via Z R0 O n d) (eT : T.heap = h) {a : Addr} {v v' old : Value} (F : Fld Z h a O n d old) (E : Exa Z h a C) (L : (Cond.lays C O n d).before a0 Z = true ∨ ((Cond.laysFinal C O n d).before a0 Z = true ∧ own = O ∧ meth.name = "<init>")) (wi : (Cond.instantiable C kk).before a0 Z = true) (hty : parseFieldDescriptor d = some ty) (hn : narrow ty v = v') (hf : fits ty v' = true) (hby : c.code = bc) (hd : decode bc pc = .ok (.putfield index, 3)) (N : Fr n0 locs) (ge : n0 ≤ a) (k : ∀ T' h' locs', Stand p l e R s m args below meth c T' locs' cells slots → T'.heap = h' → Fr n0 locs' → Wr h h' a (Jvm.RoadKit.slotOf Z O n d) v' → Fld Z h' a O n d v' → h.size ≤ h'.size → own_Go p.tables e below P (T'.setTop (mkF m (pc + 3) Ls st))) : own_Go p.tables e below P (T.setTop (mkF m pc Ls (v :: (.ref a) :: st))) := by
  obtain ⟨T', h', X', e', W, sp⟩ := putFN X hx hZ hown w via eT F E L wi hty hn hf (g := mkF m pc Ls (v :: (.ref a) :: st)) rfl rfl (hb hby hd)
  exact own_go sp (k T' h' _ X' e' (Fr.snoc X' N ge) W (F.same W) (Keep.of_wr W).1)
theorem own_newO (X : Stand p l e R s m args below meth c T locs cells slots) (hx : p.tables.exec = Jvm.exec) (hZ : Z.Warmed39 s.vm) {own C : String} {index n : Nat} (hown : s.vm.findClass own = some m.cls) (w : (Cond.classLink own index C).before a0 Z = true) (wi : (Cond.instantiable C n).before a0 Z = true) (wz : (Cond.initialized C).before a0 Z = true) (eT : T.heap = h) (hby : c.code = bc) (hd : decode bc pc = .ok (.new index, 3)) (hc : cells + 1 ≤ R.cells) (hl : slots + n ≤ R.slots) (k : ∀ T' h' b, Stand p l e R s m args below meth c T' locs (cells + 1) (slots + n) → T'.heap = h' → Ext h h' → b = h.size → Exa Z h' b C → (∀ {O nm d : String} {ty : FieldType}, Laid Z a0 C O nm d → parseFieldDescriptor d = some ty → Fld Z h' b O nm d (defaultValue ty)) → b < h'.size → own_Go p.tables e below P (T'.setTop (mkF m (pc + 3) Ls ((.ref b) :: st)))) : own_Go p.tables e below P (T.setTop (mkF m pc Ls st)) := by
  obtain ⟨T', h', X', e', E, A, D, -, sp⟩ := newO X hx hZ hown w wi wz eT (g := mkF m pc Ls st) rfl (hb hby hd) hc hl
  exact own_go sp (k T' h' _ X' e' E rfl A D A.lt)
theorem own_newP (X : Stand p l e R s m args below meth c T locs cells slots) (hx : p.tables.exec = Jvm.exec) (hZ : Z.Warmed39 s.vm) {aty : ArrayType} (w : (Cond.arrayClass (newarray.typeOf aty)).before a0 Z = true) (eT : T.heap = h) (hby : c.code = bc) (hd : decode bc pc = .ok (.newarray aty, 2)) {n : Int32} (hn : ¬ n < 0) (cap : Nat) (hcap : n.toNatClampNeg ≤ cap) (hb8 : cap * 8 ≤ 536870912) (hc : cells + 1 ≤ R.cells) (hl : slots + cap ≤ R.slots) {ad : String} (had : "[" ++ (newarray.typeOf aty).toString = ad) (k : ∀ T' h' cA b, Stand p l e R s m args below meth c T' locs (cells + 1) (slots + cap) → T'.heap = h' → Ext h h' → b = h.size → Arv Z h' b cA (newarray.typeOf aty) n [] (defaultValue (newarray.typeOf aty)) → Exa Z h' b ad → b < h'.size → own_Go p.tables e below P (T'.setTop (mkF m (pc + 2) Ls ((.ref b) :: st)))) : own_Go p.tables e below P (T.setTop (mkF m pc Ls ((.int n) :: st))) := by
  obtain ⟨T', h', cA, X', e', E, A, C, sp⟩ := newPE X hx hZ w eT (g := mkF m pc Ls ((.int n) :: st)) rfl (hb hby hd) rfl hn (cap := cap) hcap hb8 hc hl had
  exact own_go sp (k T' h' cA _ X' e' E rfl (Arv.new A hn) C C.lt)
theorem own_castore (X : Stand p l e R s m args below meth c T locs cells slots) (hx : p.tables.exec = Jvm.exec) (hZ : Z.Warmed39 s.vm) (eT : T.heap = h) {a : Addr} {kc : ClassId} {z j : Int32} {x : Int32} {w : Value} {vs : List Value} {dv : Value} (V : Arv Z h a kc .char z vs dv) (hj : ¬ j < 0 ∧ j < z) (i : Nat) (hi : j.toNatClampNeg = i) (hl : i < vs.length) (hv : (.int (nar .char x)) = w) (hby : c.code = bc) (hd : decode bc pc = .ok (.castore, 1)) (N : Fr n0 locs) (ge : n0 ≤ a) (k : ∀ T' h' locs', Stand p l e R s m args below meth c T' locs' cells slots → T'.heap = h' → Fr n0 locs' → Wr h h' a i w → Arv Z h' a kc .char z (vs.set i w) dv → h.size ≤ h'.size → own_Go p.tables e below P (T'.setTop (mkF m (pc + 1) Ls st))) : own_Go p.tables e below P (T.setTop (mkF m pc Ls ((.int x) :: (.int j) :: (.ref a) :: st))) := by
  subst hv hi
  obtain ⟨cl, A, q, S, M, H, G⟩ := V
  obtain ⟨T', h', X', e', W, sp⟩ := stC X hx hZ eT A (j := j) (inb_of S hj) (g := mkF m pc Ls ((.int x) :: (.int j) :: (.ref a) :: st)) rfl rfl (hb hby hd)
  exact own_go sp (k T' h' _ X' e' (Fr.snoc X' N ge) W (Arv.set A q S M H G (fits_nar_char _) W _ rfl hl) (Keep.of_wr W).1)
theorem own_bastore (X : Stand p l e R s m args below meth c T locs cells slots) (hx : p.tables.exec = Jvm.exec) (hZ : Z.Warmed39 s.vm) (eT : T.heap = h) {a : Addr} {kc : ClassId} {z j : Int32} {x : Int32} {w : Value} {vs : List Value} {dv : Value} (V : Arv Z h a kc .byte z vs dv) (hj : ¬ j < 0 ∧ j < z) (i : Nat) (hi : j.toNatClampNeg = i) (hl : i < vs.length) (hv : (.int (nar .byte x)) = w) (hby : c.code = bc) (hd : decode bc pc = .ok (.bastore, 1)) (N : Fr n0 locs) (ge : n0 ≤ a) (k : ∀ T' h' locs', Stand p l e R s m args below meth c T' locs' cells slots → T'.heap = h' → Fr n0 locs' → Wr h h' a i w → Arv Z h' a kc .byte z (vs.set i w) dv → h.size ≤ h'.size → own_Go p.tables e below P (T'.setTop (mkF m (pc + 1) Ls st))) : own_Go p.tables e below P (T.setTop (mkF m pc Ls ((.int x) :: (.int j) :: (.ref a) :: st))) := by
  subst hv hi
  obtain ⟨cl, A, q, S, M, H, G⟩ := V
  obtain ⟨T', h', X', e', W, sp⟩ := stB X hx hZ eT A (j := j) (inb_of S hj) (g := mkF m pc Ls ((.int x) :: (.int j) :: (.ref a) :: st)) rfl rfl (hb hby hd)
  exact own_go sp (k T' h' _ X' e' (Fr.snoc X' N ge) W (Arv.set A q S M H G (fits_nar_byte _) W _ rfl hl) (Keep.of_wr W).1)
theorem own_alen (X : Stand p l e R s m args below meth c T locs cells slots) (hx : p.tables.exec = Jvm.exec) (hZ : Z.Warmed39 s.vm) (eT : T.heap = h) {a : Addr} {kc : ClassId} {ty : FieldType} {z : Int32} {vs : List Value} {dv : Value} (V : Arv Z h a kc ty z vs dv) (hby : c.code = bc) (hd : decode bc pc = .ok (.arraylength, 1)) (k : own_Go p.tables e below P (T.setTop (mkF m (pc + 1) Ls ((.int z) :: st)))) : own_Go p.tables e below P (T.setTop (mkF m pc Ls ((.ref a) :: st))) := by
  obtain ⟨cl, A, q, S, M, H, G⟩ := V
  refine own_go (fun t q => X.arraylength hx (by rw [eT]; exact A.1) (State.isArrayOf_alike hZ.alike A.2.1) (g := mkF m pc Ls ((.ref a) :: st)) rfl rfl (hb hby hd) t q) ?_
  rw [len_of S M]; exact k
theorem own_ldc2Long (X : Stand p l e R s m args below meth c T locs cells slots) (hx : p.tables.exec = Jvm.exec) (hZ : Z.Warmed39 s.vm) {own : String} {index : Nat} {v : Int64} (hown : s.vm.findClass own = some m.cls) (w : (Cond.constantLong own index v).before a0 Z = true) (hby : c.code = bc) (hd : decode bc pc = .ok (.ldc2_w index, 3)) (k : own_Go p.tables e below P (T.setTop (mkF m (pc + 3) Ls ((.long v) :: st)))) : own_Go p.tables e below P (T.setTop (mkF m pc Ls st)) := by
  exact own_go (X.ldc2Long hx hown (mvT hZ w) (g := mkF m pc Ls st) rfl (hb hby hd)) k
theorem own_initO (X : Stand p l e R s m args below meth c T locs cells slots) (hx : p.tables.exec = Jvm.exec) (hZ : Z.Warmed39 s.vm) {own : String} {idx : Nat} (hown : s.vm.findClass own = some m.cls) (w1 : (Cond.methodLink own idx Lib.objectInit).before a0 Z = true) (w2 : (Cond.instanceMethod Lib.objectInit).before a0 Z = true) (w3 : (Cond.code Lib.objectInit ⟨#[0xb1]⟩ 1 none).before a0 Z = true) (eT : T.heap = h) (hsize : Ls.size = c.maxLocals) {a : Addr} (hby : c.code = bc) (hd : decode bc pc = .ok (.invokespecial idx, 3)) (hf : 1 ≤ R.frames) (W : Nat) (hW : 2 * 0 + (st.map fun v => v.category).sum ≤ W) (hl : W + 12 ≤ R.locals) (k : ∀ T', Stand p l e R s m args below meth c T' locs cells slots → T'.heap = h → own_Go p.tables e below P (T'.setTop (mkF m (pc + 3) Ls st))) : own_Go p.tables e below P (T.setTop (mkF m pc Ls ((.ref a) :: st))) := by
  obtain ⟨T', X', e', sp⟩ := initO X hx hZ hown w1 w2 w3 eT (g := mkF m pc Ls ((.ref a) :: st)) rfl hsize rfl (hb hby hd) hf (W := W) hW hl
  exact own_go sp (k T' X' e')
theorem own_callS (X : Stand p l e R s m args below meth c T locs cells slots) (hx : p.tables.exec = Jvm.exec) (hZ : Z.Warmed39 s.vm) {own : String} {index : Nat} {y : MethodName} {bytes : ByteArray} {maxL : Nat} {ret : Option FieldType} {rm : Room} {Qc : Option Value → Heap → List Loc → Prop} {as' : Array Value} (hown : s.vm.findClass own = some m.cls) (w1 : (Cond.methodLink own index y).before a0 Z = true) (w2 : (Cond.static y).before a0 Z = true) (w3 : (Cond.initialized y.cls).before a0 Z = true) (w4 : (Cond.code y bytes maxL ret).before a0 Z = true) (hy : y.cls ≠ "java/lang/invoke/MethodHandle" ∧ y.cls ≠ "java/lang/invoke/VarHandle") (hM : MetFree l y (head1 [Cond.code y bytes maxL ret] rm) (fun a U => a = as' ∧ Z.Warmed39 U.vm ∧ U.heap = h) (fun _ _ _ _ _ => True) (fun _ U o U' => ∃ v L, o = .returned v ∧ Qc v U'.heap L ∧ FrameEnd U o U' L rm.cells rm.slots)) (W : Nat) (hW : 2 * 0 + (st.map fun v => v.category).sum ≤ W) (hf : rm.frames + 1 ≤ R.frames) (hl : W + (maxL + 11) + rm.locals ≤ R.locals) (hsize : Ls.size = c.maxLocals) {argsL stk : List Value} (hlen : ∀ sig, parseMethodDescriptor y.desc = some sig → argsL.length = sig.parameters.length) (hstk : stk = argsL.reverse ++ st) (has : argsL.toArray = as') (hc : cells + rm.cells ≤ R.cells) (hs : slots + rm.slots ≤ R.slots) (eT : T.heap = h) (hby : c.code = bc) (hd : decode bc pc = .ok (.invokestatic index, 3)) (k : ∀ T' v L, Stand p l e R s m args below meth c T' (locs ++ L) (cells + rm.cells) (slots + rm.slots) → Qc v T'.heap L → own_Go p.tables e below P (T'.setTop (mkF m (pc + 3) Ls (v.toList ++ st)))) : own_Go p.tables e below P (T.setTop (mkF m pc Ls stk)) := by
  subst hstk
  obtain ⟨v, _, ⟨T', L', k', n'⟩, -, X', ⟨L, hQ, hl', hy', hz'⟩, sp⟩ := Jvm.LawKit.callS X hx hown (mvT hZ w1) (mvT hZ w2) (mvT hZ w3) (mvT hZ w4) hy (backOf (W := W) hM hZ w4 w3 hf hl) (g := mkF m pc Ls (argsL.reverse ++ st)) rfl hsize (argsL := argsL) (rest := st) hlen rfl hW (hb hby hd) (fun _ _ => ⟨has, eT, hc, hs⟩)
  dsimp only [Pt.U, Pt.locs, Pt.cells, Pt.slots] at X' hl' hy' hz' sp hQ
  subst hl' hy' hz'
  exact own_go sp (k T' v L X' hQ)
theorem own_special (X : Stand p l e R s m args below meth c T locs cells slots) (hx : p.tables.exec = Jvm.exec) (hZ : Z.Warmed39 s.vm) {own : String} {index : Nat} {y : MethodName} {bytes : ByteArray} {maxL : Nat} {rm : Room} {Qc : Option Value → Heap → List Loc → Prop} {as' : Array Value} (hy1 : y.name = "<init>") (hown : s.vm.findClass own = some m.cls) (w1 : (Cond.methodLink own index y).before a0 Z = true) (w2 : (Cond.instanceMethod y).before a0 Z = true) (w3 : (Cond.initialized y.cls).before a0 Z = true) (w4 : (Cond.code y bytes maxL none).before a0 Z = true) (hy : y.cls ≠ "java/lang/invoke/MethodHandle" ∧ y.cls ≠ "java/lang/invoke/VarHandle") (hM : MetFree l y (head1 [Cond.code y bytes maxL none] rm) (fun a U => a = as' ∧ Z.Warmed39 U.vm ∧ U.heap = h) (fun _ _ _ _ _ => True) (fun _ U o U' => ∃ v L, o = .returned v ∧ Qc v U'.heap L ∧ FrameEnd U o U' L rm.cells rm.slots)) (W : Nat) (hW : 2 * 0 + (st.map fun v => v.category).sum ≤ W) (hf : rm.frames + 1 ≤ R.frames) (hl : W + (maxL + 11) + rm.locals ≤ R.locals) (hsize : Ls.size = c.maxLocals) {argsL stk : List Value} {a : Addr} (hlen : ∀ sig, parseMethodDescriptor y.desc = some sig → argsL.length = sig.parameters.length) (hstk : stk = argsL.reverse ++ (.ref a) :: st) (has : ((.ref a) :: argsL).toArray = as') (hc : cells + rm.cells ≤ R.cells) (hs : slots + rm.slots ≤ R.slots) (eT : T.heap = h) (hby : c.code = bc) (hd : decode bc pc = .ok (.invokespecial index, 3)) (k : ∀ T' v L, Stand p l e R s m args below meth c T' (locs ++ L) (cells + rm.cells) (slots + rm.slots) → Qc v T'.heap L → own_Go p.tables e below P (T'.setTop (mkF m (pc + 3) Ls (v.toList ++ st)))) : own_Go p.tables e below P (T.setTop (mkF m pc Ls stk)) := by
  subst hstk
  obtain ⟨v, _, ⟨T', L', k', n'⟩, -, X', ⟨L, hQ, hl', hy', hz'⟩, sp⟩ := X.specialBack hx hy1 hown (mvT hZ w1) (mvT hZ w2) (mvT hZ w4) hy (backOf (W := W) hM hZ w4 w3 hf hl) (g := mkF m pc Ls (argsL.reverse ++ (.ref a) :: st)) rfl hsize (Steps.refl _) (a := a) (argsL := argsL) (rest := st) hlen rfl hW (hb hby hd) (fun _ _ => ⟨has, eT, hc, hs⟩)
  dsimp only [Pt.U, Pt.locs, Pt.cells, Pt.slots] at X' hl' hy' hz' sp hQ
  subst hl' hy' hz'
  exact own_go (fun t q => sp.trans q) (k T' v L X' hQ)
theorem own_virtual (X : Stand p l e R s m args below meth c T locs cells slots) (hx : p.tables.exec = Jvm.exec) (hZ : Z.Warmed39 s.vm) {own C : String} {index : Nat} {y z : MethodName} {bytes : ByteArray} {maxL : Nat} {ret : Option FieldType} {rm : Room} {Qc : Option Value → Heap → List Loc → Prop} {as' : Array Value} (hown : s.vm.findClass own = some m.cls) (w1 : (Cond.methodLink own index y).before a0 Z = true) (w2 : (Cond.declares y).before a0 Z = true) (nf : NotFace s y) (w5 : (Cond.selects C y z).before a0 Z = true) (w6 : (Cond.instanceMethod z).before a0 Z = true) (w3 : (Cond.initialized z.cls).before a0 Z = true) (w4 : (Cond.code z bytes maxL ret).before a0 Z = true) (hy : y.cls ≠ "java/lang/invoke/MethodHandle" ∧ y.cls ≠ "java/lang/invoke/VarHandle") (hM : MetFree l z (head1 [Cond.code z bytes maxL ret] rm) (fun a U => a = as' ∧ Z.Warmed39 U.vm ∧ U.heap = h) (fun _ _ _ _ _ => True) (fun _ U o U' => ∃ v L, o = .returned v ∧ Qc v U'.heap L ∧ FrameEnd U o U' L rm.cells rm.slots)) (W : Nat) (hW : 2 * 0 + (st.map fun v => v.category).sum ≤ W) (hf : rm.frames + 1 ≤ R.frames) (hl : W + (maxL + 11) + rm.locals ≤ R.locals) (hsize : Ls.size = c.maxLocals) {argsL stk : List Value} {a : Addr} (E : Exa Z h a C) (hlen : ∀ sig, parseMethodDescriptor y.desc = some sig → argsL.length = sig.parameters.length) (hstk : stk = argsL.reverse ++ (.ref a) :: st) (has : ((.ref a) :: argsL).toArray = as') (hc : cells + rm.cells ≤ R.cells) (hs : slots + rm.slots ≤ R.slots) (eT : T.heap = h) (hby : c.code = bc) (hd : decode bc pc = .ok (.invokevirtual index, 3)) (k : ∀ T' v L, Stand p l e R s m args below meth c T' (locs ++ L) (cells + rm.cells) (slots + rm.slots) → Qc v T'.heap L → own_Go p.tables e below P (T'.setTop (mkF m (pc + 3) Ls (v.toList ++ st)))) : own_Go p.tables e below P (T.setTop (mkF m pc Ls stk)) := by
  subst hstk
  obtain ⟨cq, kq, qa, qb, qc⟩ := isOf hZ eT E
  obtain ⟨v, _, ⟨T', L', k', n'⟩, -, X', ⟨L, hQ, hl', hy', hz'⟩, sp⟩ := X.virtualBack hx hown (mvT hZ w1) (mvT hZ w2) nf (mvT hZ w5) (mvT hZ w6) hy (backOf (W := W) hM hZ w4 w3 hf hl) qa qc (g := mkF m pc Ls (argsL.reverse ++ (.ref a) :: st)) rfl hsize (Steps.refl _) (argsL := argsL) (rest := st) hlen rfl hW (hb hby hd) (fun _ _ => ⟨has, eT, hc, hs⟩)
  dsimp only [Pt.U, Pt.locs, Pt.cells, Pt.slots] at X' hl' hy' hz' sp hQ
  subst hl' hy' hz'
  exact own_go (fun t q => sp.trans q) (k T' v L X' hQ)
theorem own_super (X : Stand p l e R s m args below meth c T locs cells slots) (hx : p.tables.exec = Jvm.exec) (hZ : Z.Warmed39 s.vm) {own C : String} {index : Nat} {y : MethodName} {bytes : ByteArray} {maxL : Nat} {ret : Option FieldType} {rm : Room} {Qc : Option Value → Heap → List Loc → Prop} {as' : Array Value} (hn : y.name ≠ "<init>") (hown : s.vm.findClass own = some m.cls) (w1 : (Cond.methodLink own index y).before a0 Z = true) (w2 : (Cond.sameMethod y.cls y.cls y.name y.desc).before a0 Z = true) (w6 : (Cond.instanceMethod y).before a0 Z = true) (w7 : (Cond.superclass own y.cls).before a0 Z = true) (w3 : (Cond.initialized y.cls).before a0 Z = true) (w4 : (Cond.code y bytes maxL ret).before a0 Z = true) (hM : MetFree l y (head1 [Cond.code y bytes maxL ret] rm) (fun a U => a = as' ∧ Z.Warmed39 U.vm ∧ U.heap = h) (fun _ _ _ _ _ => True) (fun _ U o U' => ∃ v L, o = .returned v ∧ Qc v U'.heap L ∧ FrameEnd U o U' L rm.cells rm.slots)) (W : Nat) (hW : 2 * 0 + (st.map fun v => v.category).sum ≤ W) (hf : rm.frames + 1 ≤ R.frames) (hl : W + (maxL + 11) + rm.locals ≤ R.locals) (hsize : Ls.size = c.maxLocals) {argsL stk : List Value} {a : Addr} (E : Exa Z h a C) (hlen : ∀ sig, parseMethodDescriptor y.desc = some sig → argsL.length = sig.parameters.length) (hstk : stk = argsL.reverse ++ (.ref a) :: st) (has : ((.ref a) :: argsL).toArray = as') (hc : cells + rm.cells ≤ R.cells) (hs : slots + rm.slots ≤ R.slots) (eT : T.heap = h) (hby : c.code = bc) (hd : decode bc pc = .ok (.invokespecial index, 3)) (k : ∀ T' v L, Stand p l e R s m args below meth c T' (locs ++ L) (cells + rm.cells) (slots + rm.slots) → Qc v T'.heap L → own_Go p.tables e below P (T'.setTop (mkF m (pc + 3) Ls (v.toList ++ st)))) : own_Go p.tables e below P (T.setTop (mkF m pc Ls stk)) := by
  subst hstk
  obtain ⟨v, _, ⟨T', L', k', n'⟩, -, X', ⟨L, hQ, hl', hy', hz'⟩, sp⟩ := superBack X hx hZ hown w1 w2 w6 w7 hn (backOf (W := W) hM hZ w4 w3 hf hl) eT (Ins.self E) (g := mkF m pc Ls (argsL.reverse ++ (.ref a) :: st)) rfl hsize w4 (argsL := argsL) (rest := st) hlen rfl hW (hb hby hd) (fun _ _ => ⟨has, eT, hc, hs⟩)
  dsimp only [Pt.U, Pt.locs, Pt.cells, Pt.slots] at X' hl' hy' hz' sp hQ
  subst hl' hy' hz'
  exact own_go (fun t q => sp.trans q) (k T' v L X' hQ)
theorem own_privateS (X : Stand p l e R s m args below meth c T locs cells slots) (hx : p.tables.exec = Jvm.exec) (hZ : Z.Warmed39 s.vm) {own C : String} {index : Nat} {y : MethodName} {bytes : ByteArray} {maxL : Nat} {ret : Option FieldType} {rm : Room} {Qc : Option Value → Heap → List Loc → Prop} {as' : Array Value} (hown : s.vm.findClass own = some m.cls) (w1 : (Cond.methodLink own index y).before a0 Z = true) (w6 : (Cond.instanceMethod y).before a0 Z = true) (w5 : (Cond.selects C y y).before a0 Z = true) (w7 : (Cond.privateMethod y).before a0 Z = true) (w3 : (Cond.initialized y.cls).before a0 Z = true) (w4 : (Cond.code y bytes maxL ret).before a0 Z = true) (hy : y.cls ≠ "java/lang/invoke/MethodHandle" ∧ y.cls ≠ "java/lang/invoke/VarHandle") (hM : MetFree l y (head1 [Cond.code y bytes maxL ret] rm) (fun a U => a = as' ∧ Z.Warmed39 U.vm ∧ U.heap = h) (fun _ _ _ _ _ => True) (fun _ U o U' => ∃ v L, o = .returned v ∧ Qc v U'.heap L ∧ FrameEnd U o U' L rm.cells rm.slots)) (W : Nat) (hW : 2 * 0 + (st.map fun v => v.category).sum ≤ W) (hf : rm.frames + 1 ≤ R.frames) (hl : W + (maxL + 11) + rm.locals ≤ R.locals) (hsize : Ls.size = c.maxLocals) {argsL stk : List Value} {a : Addr} (E : Exa Z h a C) (hlen : ∀ sig, parseMethodDescriptor y.desc = some sig → argsL.length = sig.parameters.length) (hstk : stk = argsL.reverse ++ (.ref a) :: st) (has : ((.ref a) :: argsL).toArray = as') (hc : cells + rm.cells ≤ R.cells) (hs : slots + rm.slots ≤ R.slots) (eT : T.heap = h) (hby : c.code = bc) (hd : decode bc pc = .ok (.invokevirtual index, 3)) (k : ∀ T' v L, Stand p l e R s m args below meth c T' (locs ++ L) (cells + rm.cells) (slots + rm.slots) → Qc v T'.heap L → own_Go p.tables e below P (T'.setTop (mkF m (pc + 3) Ls (v.toList ++ st)))) : own_Go p.tables e below P (T.setTop (mkF m pc Ls stk)) := by
  subst hstk
  obtain ⟨cq, q1, q2⟩ := E.cell
  have hp : s.PrivateAt y := Cond.privateMethod_at (mvP hZ w7 (args := #[]))
  obtain ⟨mk, methM, hnamed, hmethM, -, -⟩ := Cond.instanceMethod_spec (mvT (args := args) hZ w6)
  obtain ⟨kr, hkr, hni⟩ := notFace_of_selects (args := args) (mvT hZ w5) mk hnamed
  obtain ⟨v, _, ⟨T', L', k', n'⟩, -, X', ⟨L, hQ, hl', hy', hz'⟩, sp⟩ := X.privateBack hx hown (mvT hZ w1) (mvT hZ w6) (selects_self_of_private (findClass_of_methodNamed hnamed) hkr hni hp (mvT hZ w6) hy) hp (mvT hZ w4) hy (backOf (W := W) hM hZ w4 w3 hf hl) (g := mkF m pc Ls (argsL.reverse ++ (.ref a) :: st)) rfl hsize (Steps.refl _) (a := a) (by rw [eT]; exact q1) q2 (argsL := argsL) (rest := st) hlen rfl hW (hb hby hd) (fun _ _ => ⟨has, eT, hc, hs⟩)
  dsimp only [Pt.U, Pt.locs, Pt.cells, Pt.slots] at X' hl' hy' hz' sp hQ
  subst hl' hy' hz'
  exact own_go (fun t q => sp.trans q) (k T' v L X' hQ)
theorem own_specialB (X : Stand p l e R s m args below meth c T locs cells slots) (hx : p.tables.exec = Jvm.exec) (hZ : Z.Warmed39 s.vm) {own : String} {index : Nat} {y : MethodName} {bytes : ByteArray} {maxL W : Nat} (hy1 : y.name = "<init>") (hown : s.vm.findClass own = some m.cls) (w1 : (Cond.methodLink own index y).before a0 Z = true) (w2 : (Cond.instanceMethod y).before a0 Z = true) (w4 : (Cond.code y bytes maxL none).before a0 Z = true) (hy : y.cls ≠ "java/lang/invoke/MethodHandle" ∧ y.cls ≠ "java/lang/invoke/VarHandle") {Qc : Option Value → Heap → List Loc → Prop} {as' : Array Value} {kc ks : Nat} (hK : Back l R p e below s args y 3 W (fun A a => a = as' ∧ A.U.heap = h ∧ A.cells + kc ≤ R.cells ∧ A.slots + ks ≤ R.slots) (fun A _ v B => ∃ L, Qc v B.U.heap L ∧ B.locs = A.locs ++ L ∧ B.cells = A.cells + kc ∧ B.slots = A.slots + ks)) (hW : 2 * 0 + (st.map fun v => v.category).sum ≤ W) (hsize : Ls.size = c.maxLocals) {argsL stk : List Value} {a : Addr} (hlen : ∀ sig, parseMethodDescriptor y.desc = some sig → argsL.length = sig.parameters.length) (hstk : stk = argsL.reverse ++ (.ref a) :: st) (has : ((.ref a) :: argsL).toArray = as') (hc : cells + kc ≤ R.cells) (hs : slots + ks ≤ R.slots) (eT : T.heap = h) (hby : c.code = bc) (hd : decode bc pc = .ok (.invokespecial index, 3)) (k : ∀ T' v L, Stand p l e R s m args below meth c T' (locs ++ L) (cells + kc) (slots + ks) → Qc v T'.heap L → own_Go p.tables e below P (T'.setTop (mkF m (pc + 3) Ls (v.toList ++ st)))) : own_Go p.tables e below P (T.setTop (mkF m pc Ls stk)) := by
  subst hstk
  obtain ⟨v, _, ⟨T', L', k', n'⟩, -, X', ⟨L, hQ, hl', hy', hz'⟩, sp⟩ := X.specialBack hx hy1 hown (mvT hZ w1) (mvT hZ w2) (mvT hZ w4) hy hK (g := mkF m pc Ls (argsL.reverse ++ (.ref a) :: st)) rfl hsize (Steps.refl _) (a := a) (argsL := argsL) (rest := st) hlen rfl hW (hb hby hd) (fun _ _ => ⟨has, eT, hc, hs⟩)
  dsimp only [Pt.U, Pt.locs, Pt.cells, Pt.slots] at X' hl' hy' hz' sp hQ
  subst hl' hy' hz'
  exact own_go (fun t q => sp.trans q) (k T' v L X' hQ)
theorem own_virtualB (X : Stand p l e R s m args below meth c T locs cells slots) (hx : p.tables.exec = Jvm.exec) (hZ : Z.Warmed39 s.vm) {own C : String} {index : Nat} {y z : MethodName} {W : Nat} (hown : s.vm.findClass own = some m.cls) (w1 : (Cond.methodLink own index y).before a0 Z = true) (w2 : (Cond.declares y).before a0 Z = true) (nf : NotFace s y) (w5 : (Cond.selects C y z).before a0 Z = true) (w6 : (Cond.instanceMethod z).before a0 Z = true) (hy : y.cls ≠ "java/lang/invoke/MethodHandle" ∧ y.cls ≠ "java/lang/invoke/VarHandle") {Qc : Option Value → Heap → List Loc → Prop} {as' : Array Value} {kc ks : Nat} (hK : Back l R p e below s args z 3 W (fun A a => a = as' ∧ A.U.heap = h ∧ A.cells + kc ≤ R.cells ∧ A.slots + ks ≤ R.slots) (fun A _ v B => ∃ L, Qc v B.U.heap L ∧ B.locs = A.locs ++ L ∧ B.cells = A.cells + kc ∧ B.slots = A.slots + ks)) (hW : 2 * 0 + (st.map fun v => v.category).sum ≤ W) (hsize : Ls.size = c.maxLocals) {argsL stk : List Value} {a : Addr} (E : Exa Z h a C) (hlen : ∀ sig, parseMethodDescriptor y.desc = some sig → argsL.length = sig.parameters.length) (hstk : stk = argsL.reverse ++ (.ref a) :: st) (has : ((.ref a) :: argsL).toArray = as') (hc : cells + kc ≤ R.cells) (hs : slots + ks ≤ R.slots) (eT : T.heap = h) (hby : c.code = bc) (hd : decode bc pc = .ok (.invokevirtual index, 3)) (k : ∀ T' v L, Stand p l e R s m args below meth c T' (locs ++ L) (cells + kc) (slots + ks) → Qc v T'.heap L → own_Go p.tables e below P (T'.setTop (mkF m (pc + 3) Ls (v.toList ++ st)))) : own_Go p.tables e below P (T.setTop (mkF m pc Ls stk)) := by
  subst hstk
  obtain ⟨cq, kq, qa, qb, qc⟩ := isOf hZ eT E
  obtain ⟨v, _, ⟨T', L', k', n'⟩, -, X', ⟨L, hQ, hl', hy', hz'⟩, sp⟩ := X.virtualBack hx hown (mvT hZ w1) (mvT hZ w2) nf (mvT hZ w5) (mvT hZ w6) hy hK qa qc (g := mkF m pc Ls (argsL.reverse ++ (.ref a) :: st)) rfl hsize (Steps.refl _) (argsL := argsL) (rest := st) hlen rfl hW (hb hby hd) (fun _ _ => ⟨has, eT, hc, hs⟩)
  dsimp only [Pt.U, Pt.locs, Pt.cells, Pt.slots] at X' hl' hy' hz' sp hQ
  subst hl' hy' hz'
  exact own_go (fun t q => sp.trans q) (k T' v L X' hQ)
theorem own_copyL (X : Stand p l e R s m args below meth c T locs cells slots) (hx : p.tables.exec = Jvm.exec) (hZ : Z.Warmed39 s.vm) {own : String} {index : Nat} (hown : s.vm.findClass own = some m.cls) (w1 : (Cond.methodLink own index Jvm.Stand.acN).before a0 Z = true) (w2 : (Cond.native Jvm.Stand.acN).before a0 Z = true) (w3 : (Cond.static Jvm.Stand.acN).before a0 Z = true) (w4 : (Cond.initialized "java/lang/System").before a0 Z = true) (eT : T.heap = h) {a b : Addr} {ka kb : ClassId} {ty : FieldType} {z z' sp dp nn : Int32} {vs vd res : List Value} {dv dd : Value} (A : Arv Z h a ka ty z vs dv) (B : Arv Z h b kb ty z' vd dd) (hty : refKind ty = false) (i j n : Nat) (hi : sp.toNatClampNeg = i) (hj : dp.toNatClampNeg = j) (hn : nn.toNatClampNeg = n) (h1 : ¬ sp < 0) (h2 : ¬ dp < 0) (h3 : ¬ nn < 0) (h4 : i + n ≤ z.toNatClampNeg) (h5 : j + n ≤ z'.toNatClampNeg) (hl : j + n ≤ vd.length) (hres : vd.take j ++ ((List.range n).map fun q => vs.getD (i + q) dv) ++ vd.drop (j + n) = res) (N : Fr n0 locs) (ge : n0 ≤ b) (hsize : Ls.size = c.maxLocals) (hby : c.code = bc) (hd : decode bc pc = .ok (.invokestatic index, 3)) (hf : 1 ≤ R.frames) (W : Nat) (hW : 2 * 0 + (st.map fun v => v.category).sum ≤ W) (hlo : W + (nativeFrameWords "java/lang/System" "arraycopy" 5 + 11) ≤ R.locals) (k : ∀ T' h' locs', Stand p l e R s m args below meth c T' locs' cells slots → T'.heap = h' → Fr n0 locs' → Keep h h' [b] → Arv Z h' b kb ty z' res dd → h.size ≤ h'.size → own_Go p.tables e below P (T'.setTop (mkF m (pc + 3) Ls st))) : own_Go p.tables e below P (T.setTop (mkF m pc Ls ((.int nn) :: (.int dp) :: (.ref b) :: (.int sp) :: (.ref a) :: st))) := by
  subst hi hj hn hres
  obtain ⟨T', h', L', X', e', N', K', V', st'⟩ := cpA X hx hZ hown w1 w2 w3 w4 eT A B (sp := sp) (dp := dp) (nn := nn) (us := (List.range nn.toNatClampNeg).map fun q => vs.getD (sp.toNatClampNeg + q) dv) (Or.inl ⟨rfl, hty⟩) h1 h2 h3 h4 h5 rfl hl N ge (g := mkF m pc Ls ((.int nn) :: (.int dp) :: (.ref b) :: (.int sp) :: (.ref a) :: st)) rfl hsize rfl (hb hby hd) hf (W := W) hW hlo
  exact own_go st' (k T' h' L' X' e' N' K' V' K'.1)
theorem own_ldcCH {vm0 : Vm} (X : Stand p l e R (s.setVm vm0) m args below meth c T locs cells slots) (hx : p.tables.exec = Jvm.exec) (hZ : Z.Warmed39 vm0) {own text : String} {index : Nat} {EL : List (String × Nat)} (hEL : EW Z a0 EL) (hown : vm0.findClass own = some m.cls) (w : (Cond.stringLink own index text).before a0 Z = true) (wS : ∀ a ∈ Bundle.stringAtoms, a.before a0 Z = true) (eT : T.heap = h) {k0 : Nat} (hS : s.Since vm0 k0) (hk : k0 ≤ h.size) (H : CHv Z EL vm0 h) (hmem : (own, index) ∈ EL) {vs : List Value} {z : Int32} (ht : (∀ c ∈ text.toList, c.toNat < 256) ∧ text.toList.map (fun c => Value.int (Jvm.Lit.byteI c.toNat.toUInt16)) = vs) (hz : ¬ z < 0) (hl : z.toNatClampNeg = vs.length) (hby : c.code = bc) (hd : decode bc pc = .ok (.ldc index, 2)) (n : Nat) (hn : 4 * text.toList.length ≤ n) (hbig : n ≤ 536870912) (hc : cells + 2 ≤ R.cells) (hl' : slots + (n + 4) ≤ R.slots) (k : ∀ a T' h' k1 vm1 b kb, Stand p l e R (s.setVm vm1) m args below meth c T' locs (cells + 2) (slots + (n + 4)) → T'.heap = h' → Ext h h' → s.Since vm1 k1 → k1 ≤ h'.size → Z.Warmed39 vm1 → vm1.findClass own = some m.cls → Exa Z h' a "java/lang/String" → Fld Z h' a "java/lang/String" "coder" "B" (.int 0) → Fld Z h' a "java/lang/String" "value" "[B" (.ref b) → Arv Z h' b kb .byte z vs (.int 0) → a < h'.size → b < h'.size → CHr Z EL vm0 h vm1 h' → (∀ x, Safe Z EL vm1 h' x → x ≠ a ∧ x ≠ b) → own_Go p.tables e below P (T'.setTop (mkF m (pc + 2) Ls ((.ref a) :: st)))) : own_Go p.tables e below P (T.setTop (mkF m pc Ls st)) := by
  obtain ⟨a, T', h', k1, b, kb, X', e', E, hS', hk', hZ', hown', q1, q2, q3, q4, q5, q6, q7, -, q8, sp⟩ := ldcCH X hx hZ hown w wS eT hS hk hEL hmem H ht hz hl (g := mkF m pc Ls st) rfl (hb hby hd) hn hbig hc hl'
  exact own_go sp (k a T' h' k1 T'.vm b kb X' e' E hS' hk' hZ' hown' q1 q2 q3 q4 q5 q6 q7 q8)
theorem own_callSH {vm0 : Vm} (X : Stand p l e R (s.setVm vm0) m args below meth c T locs cells slots) (hx : p.tables.exec = Jvm.exec) (hZ : Z.Warmed39 vm0) {EL : List (String × Nat)} (hEL : EW Z a0 EL) {own : String} {index : Nat} {y : MethodName} {bytes : ByteArray} {maxL : Nat} {ret : Option FieldType} {rm : Room} {Qc : Option Value → Heap → List Loc → Prop} {as' : Array Value} (hown : vm0.findClass own = some m.cls) (w1 : (Cond.methodLink own index y).before a0 Z = true) (w2 : (Cond.static y).before a0 Z = true) (w3 : (Cond.initialized y.cls).before a0 Z = true) (w4 : (Cond.code y bytes maxL ret).before a0 Z = true) (hy : y.cls ≠ "java/lang/invoke/MethodHandle" ∧ y.cls ≠ "java/lang/invoke/VarHandle") (hM : MetFree l y (head1 [Cond.code y bytes maxL ret] rm) (fun a U => a = as' ∧ Z.Warmed39 U.vm ∧ U.heap = h ∧ CHv Z EL U.vm h) (fun _ _ _ _ _ => True) (fun _ U o U' => ∃ v L, o = .returned v ∧ Qc v U'.heap L ∧ CHr Z EL U.vm U.heap U'.vm U'.heap ∧ ReturnedEndW U o U' L rm.cells rm.slots)) (W : Nat) (hW : 2 * 0 + (st.map fun v => v.category).sum ≤ W) (hf : rm.frames + 1 ≤ R.frames) (hl : W + (maxL + 11) + rm.locals ≤ R.locals) (hsize : Ls.size = c.maxLocals) {argsL stk : List Value} (hlen : ∀ sig, parseMethodDescriptor y.desc = some sig → argsL.length = sig.parameters.length) (hstk : stk = argsL.reverse ++ st) (has : argsL.toArray = as') (hc : cells + rm.cells ≤ R.cells) (hs : slots + rm.slots ≤ R.slots) (eT : T.heap = h) (hby : c.code = bc) (H : CHv Z EL vm0 h) {k0 : Nat} (hS : s.Since vm0 k0) (hk : k0 ≤ h.size) (hd : decode bc pc = .ok (.invokestatic index, 3)) (k : ∀ T' v L vm1, Stand p l e R (s.setVm vm1) m args below meth c T' (locs ++ L) (cells + rm.cells) (slots + rm.slots) → s.Since vm1 T'.heap.size → Z.Warmed39 vm1 → vm1.findClass own = some m.cls → h.size ≤ T'.heap.size → CHr Z EL vm0 h vm1 T'.heap → Qc v T'.heap L → own_Go p.tables e below P (T'.setTop (mkF m (pc + 3) Ls (v.toList ++ st)))) : own_Go p.tables e below P (T.setTop (mkF m pc Ls stk)) := by
  subst hstk
  obtain ⟨v, _, ⟨T', L', k', n'⟩, -, X', h2', hg', ⟨L, hQ, hl', hy', hz', hC'⟩, sp⟩ := callSS X hx hown (mvT (s := s.setVm vm0) hZ w1) (mvT (s := s.setVm vm0) hZ w2) (mvT (s := s.setVm vm0) hZ w3) (mvT (s := s.setVm vm0) hZ w4) hy (backOfSH (s := s) (W := W) hM hZ w4 w3 hf hl hEL H) (g := mkF m pc Ls (argsL.reverse ++ st)) rfl hsize (argsL := argsL) (rest := st) hlen rfl hW (hb hby hd) (fun _ _ => ⟨has, eT, hc, hs⟩)
  dsimp only [Pt.U, Pt.locs, Pt.cells, Pt.slots] at X' h2' hg' hl' hy' hz' hC' sp hQ
  subst hl' hy' hz'
  obtain ⟨r1, r2, r3, r4⟩ := rebS (Z := Z) (own := own) hS hk X' h2' (by rw [← eT]; exact hg') hZ hown
  exact own_go (fun t q => sp.trans q) (k T' v L _ r1 r2 r3 r4 (by rw [← eT]; exact hg') hC' hQ)
theorem own_specialH {vm0 : Vm} (X : Stand p l e R (s.setVm vm0) m args below meth c T locs cells slots) (hx : p.tables.exec = Jvm.exec) (hZ : Z.Warmed39 vm0) {EL : List (String × Nat)} (hEL : EW Z a0 EL) {own : String} {index : Nat} {y : MethodName} {bytes : ByteArray} {maxL : Nat} {rm : Room} {Qc : Option Value → Heap → List Loc → Prop} {as' : Array Value} (hy1 : y.name = "<init>") (hown : vm0.findClass own = some m.cls) (w1 : (Cond.methodLink own index y).before a0 Z = true) (w2 : (Cond.instanceMethod y).before a0 Z = true) (w3 : (Cond.initialized y.cls).before a0 Z = true) (w4 : (Cond.code y bytes maxL none).before a0 Z = true) (hy : y.cls ≠ "java/lang/invoke/MethodHandle" ∧ y.cls ≠ "java/lang/invoke/VarHandle") (hM : MetFree l y (head1 [Cond.code y bytes maxL none] rm) (fun a U => a = as' ∧ Z.Warmed39 U.vm ∧ U.heap = h ∧ CHv Z EL U.vm h) (fun _ _ _ _ _ => True) (fun _ U o U' => ∃ v L, o = .returned v ∧ Qc v U'.heap L ∧ CHr Z EL U.vm U.heap U'.vm U'.heap ∧ ReturnedEndW U o U' L rm.cells rm.slots)) (W : Nat) (hW : 2 * 0 + (st.map fun v => v.category).sum ≤ W) (hf : rm.frames + 1 ≤ R.frames) (hl : W + (maxL + 11) + rm.locals ≤ R.locals) (hsize : Ls.size = c.maxLocals) {argsL stk : List Value} {a : Addr} (hlen : ∀ sig, parseMethodDescriptor y.desc = some sig → argsL.length = sig.parameters.length) (hstk : stk = argsL.reverse ++ (.ref a) :: st) (has : ((.ref a) :: argsL).toArray = as') (hc : cells + rm.cells ≤ R.cells) (hs : slots + rm.slots ≤ R.slots) (eT : T.heap = h) (hby : c.code = bc) (H : CHv Z EL vm0 h) {k0 : Nat} (hS : s.Since vm0 k0) (hk : k0 ≤ h.size) (hd : decode bc pc = .ok (.invokespecial index, 3)) (k : ∀ T' v L vm1, Stand p l e R (s.setVm vm1) m args below meth c T' (locs ++ L) (cells + rm.cells) (slots + rm.slots) → s.Since vm1 T'.heap.size → Z.Warmed39 vm1 → vm1.findClass own = some m.cls → h.size ≤ T'.heap.size → CHr Z EL vm0 h vm1 T'.heap → Qc v T'.heap L → own_Go p.tables e below P (T'.setTop (mkF m (pc + 3) Ls (v.toList ++ st)))) : own_Go p.tables e below P (T.setTop (mkF m pc Ls stk)) := by
  subst hstk
  obtain ⟨v, _, ⟨T', L', k', n'⟩, -, X', h2', hg', ⟨L, hQ, hl', hy', hz', hC'⟩, sp⟩ := X.specialBackS hx hy1 hown (mvT (s := s.setVm vm0) hZ w1) (mvT (s := s.setVm vm0) hZ w2) (mvT (s := s.setVm vm0) hZ w4) hy (backOfSH (s := s) (W := W) hM hZ w4 w3 hf hl hEL H) (g := mkF m pc Ls (argsL.reverse ++ (.ref a) :: st)) rfl hsize (Steps.refl _) (a := a) (argsL := argsL) (rest := st) hlen rfl hW (hb hby hd) (fun _ _ => ⟨has, eT, hc, hs⟩)
  dsimp only [Pt.U, Pt.locs, Pt.cells, Pt.slots] at X' h2' hg' hl' hy' hz' hC' sp hQ
  subst hl' hy' hz'
  obtain ⟨r1, r2, r3, r4⟩ := rebS (Z := Z) (own := own) hS hk X' h2' (by rw [← eT]; exact hg') hZ hown
  exact own_go (fun t q => sp.trans q) (k T' v L _ r1 r2 r3 r4 (by rw [← eT]; exact hg') hC' hQ)
theorem own_virtualH {vm0 : Vm} (X : Stand p l e R (s.setVm vm0) m args below meth c T locs cells slots) (hx : p.tables.exec = Jvm.exec) (hZ : Z.Warmed39 vm0) {EL : List (String × Nat)} (hEL : EW Z a0 EL) {own C : String} {index : Nat} {y z : MethodName} {bytes : ByteArray} {maxL : Nat} {ret : Option FieldType} {rm : Room} {Qc : Option Value → Heap → List Loc → Prop} {as' : Array Value} (hown : vm0.findClass own = some m.cls) (w1 : (Cond.methodLink own index y).before a0 Z = true) (w2 : (Cond.declares y).before a0 Z = true) (nf : NotFace (s.setVm vm0) y) (w5 : (Cond.selects C y z).before a0 Z = true) (w6 : (Cond.instanceMethod z).before a0 Z = true) (w3 : (Cond.initialized z.cls).before a0 Z = true) (w4 : (Cond.code z bytes maxL ret).before a0 Z = true) (hy : y.cls ≠ "java/lang/invoke/MethodHandle" ∧ y.cls ≠ "java/lang/invoke/VarHandle") (hM : MetFree l z (head1 [Cond.code z bytes maxL ret] rm) (fun a U => a = as' ∧ Z.Warmed39 U.vm ∧ U.heap = h ∧ CHv Z EL U.vm h) (fun _ _ _ _ _ => True) (fun _ U o U' => ∃ v L, o = .returned v ∧ Qc v U'.heap L ∧ CHr Z EL U.vm U.heap U'.vm U'.heap ∧ ReturnedEndW U o U' L rm.cells rm.slots)) (W : Nat) (hW : 2 * 0 + (st.map fun v => v.category).sum ≤ W) (hf : rm.frames + 1 ≤ R.frames) (hl : W + (maxL + 11) + rm.locals ≤ R.locals) (hsize : Ls.size = c.maxLocals) {argsL stk : List Value} {a : Addr} (E : Exa Z h a C) (hlen : ∀ sig, parseMethodDescriptor y.desc = some sig → argsL.length = sig.parameters.length) (hstk : stk = argsL.reverse ++ (.ref a) :: st) (has : ((.ref a) :: argsL).toArray = as') (hc : cells + rm.cells ≤ R.cells) (hs : slots + rm.slots ≤ R.slots) (eT : T.heap = h) (hby : c.code = bc) (H : CHv Z EL vm0 h) {k0 : Nat} (hS : s.Since vm0 k0) (hk : k0 ≤ h.size) (hd : decode bc pc = .ok (.invokevirtual index, 3)) (k : ∀ T' v L vm1, Stand p l e R (s.setVm vm1) m args below meth c T' (locs ++ L) (cells + rm.cells) (slots + rm.slots) → s.Since vm1 T'.heap.size → Z.Warmed39 vm1 → vm1.findClass own = some m.cls → h.size ≤ T'.heap.size → CHr Z EL vm0 h vm1 T'.heap → Qc v T'.heap L → own_Go p.tables e below P (T'.setTop (mkF m (pc + 3) Ls (v.toList ++ st)))) : own_Go p.tables e below P (T.setTop (mkF m pc Ls stk)) := by
  subst hstk
  obtain ⟨cq, kq, qa, qb, qc⟩ := isOf (s := s.setVm vm0) hZ eT E
  obtain ⟨v, _, ⟨T', L', k', n'⟩, -, X', h2', hg', ⟨L, hQ, hl', hy', hz', hC'⟩, sp⟩ := X.virtualBackS hx hown (mvT (s := s.setVm vm0) hZ w1) (mvT (s := s.setVm vm0) hZ w2) nf (mvT (s := s.setVm vm0) hZ w5) (mvT (s := s.setVm vm0) hZ w6) hy (backOfSH (s := s) (W := W) hM hZ w4 w3 hf hl hEL H) qa qc (g := mkF m pc Ls (argsL.reverse ++ (.ref a) :: st)) rfl hsize (Steps.refl _) (argsL := argsL) (rest := st) hlen rfl hW (hb hby hd) (fun _ _ => ⟨has, eT, hc, hs⟩)
  dsimp only [Pt.U, Pt.locs, Pt.cells, Pt.slots] at X' h2' hg' hl' hy' hz' hC' sp hQ
  subst hl' hy' hz'
  obtain ⟨r1, r2, r3, r4⟩ := rebS (Z := Z) (own := own) hS hk X' h2' (by rw [← eT]; exact hg') hZ hown
  exact own_go (fun t q => sp.trans q) (k T' v L _ r1 r2 r3 r4 (by rw [← eT]; exact hg') hC' hQ)
end OwnGo
theorem own_sta_keep {Z : State} {h h' : Heap} {C n d : String} {v : Value} {ws : List Addr} (F : Sta Z h C n d v) (K : Keep h h' ws) (q : ∀ x ∈ ws, ∀ cell : Cell, h[x]? = some cell → cell.vm.isStatics = false) : Sta Z h' C n d v := by
  obtain ⟨cf, i, k, f, st, cell, h1, h2, h3, h4, h5, h6, h7⟩ := F
  refine ⟨cf, i, k, f, st, cell, h1, h2, h3, h4, K.2.1 st cell h5 fun hm => ?_, h6, h7⟩
  rw [q st hm cell h5] at h6; cases h6
theorem own_exa_plain {Z : State} {h : Heap} {a : Addr} {C : String} (F : Exa Z h a C) : ∀ cell : Cell, h[a]? = some cell → cell.vm.isStatics = false := fun cell hc => by
  obtain ⟨c', k, h1, h2, h3, h4, h5⟩ := F
  cases h1.symm.trans hc; exact h4
theorem own_arv_plain {Z : State} {h : Heap} {a : Addr} {k : ClassId} {ty : FieldType} {n : Int32} {vs : List Value} {d : Value} (F : Arv Z h a k ty n vs d) : ∀ cell : Cell, h[a]? = some cell → cell.vm.isStatics = false := fun cell hc => by
  obtain ⟨c', A, -⟩ := F
  cases A.1.symm.trans hc; exact A.plain
theorem own_safe_null {Z : State} {EL : List (String × Nat)} {vm : Vm} {h : Heap} {x : Addr} (hal : Z.vm.Alike vm) (E : Exa Z h x "java/lang/String") (F : Fld Z h x "java/lang/String" "value" "[B" .null) : Safe Z EL vm h x := fun B => by
  obtain ⟨cell, k, e1, e2, e3, -, -⟩ := E
  have nm : ∀ {n : String} {c : ClassId}, vm.findClass n = some c → c = cell.cls → n = "java/lang/String" := fun {n c} f e => by
    subst e
    rw [hal.findClass] at f
    obtain ⟨k1, q1, q2⟩ := Vm.findClass_spec f
    obtain ⟨k2, q3, q4⟩ := Vm.findClass_spec e2
    cases q1.symm.trans q3
    exact q2.symm.trans q4
  obtain ⟨cl, c', k', i', f', g1, g2, -, -, -, -, g7⟩ := F
  obtain ⟨p, -, u, a, -, q, -, G, rfl | rfl⟩ := B
  · cases (show h[q.sa]? = some q.sC from G.ha).symm.trans g1
    obtain ⟨cS, ⟨⟨-, -, -, ⟨c1, k1, i1, f1, -⟩, -, -, -, v1, -⟩, -⟩, -⟩ := G
    obtain ⟨k3, h3, -⟩ := State.fieldFound?_setVm (s := Z) hal g2
    have e4 := (show (Wst Z vm h).fieldFound? _ _ _ = _ from h3).symm.trans f1
    simp only [Option.some.injEq, Prod.mk.injEq] at e4
    rw [← e4.2.2.2, g7] at v1
    simp at v1
  · cases (show h[q.sd]? = some q.SA from G.hd).symm.trans e1
    obtain ⟨cS, -, -, f, -⟩ := G
    exact absurd (nm f rfl) (by decide)
theorem own_sameM {Z : State} {a0 : Array Value} {C : String} {y y' : MethodName} (hc : y'.cls = y.cls) (wi : (Cond.instanceMethod y).before a0 Z = true) (ws : (Cond.selects C y' y').before a0 Z = true) (hy : y.cls ≠ "java/lang/invoke/MethodHandle" ∧ y.cls ≠ "java/lang/invoke/VarHandle") : (Cond.sameMethod y.cls y.cls y.name y.desc).before a0 Z = true := by
  obtain ⟨mk, methM, hnamed, hmethM, -, -⟩ := Cond.instanceMethod_spec wi
  obtain ⟨c2, r2, m2, q1, q2, q3, q4, kP, hkP, hkPi⟩ := Cond.selects_spec ws
  have hc1 := findClass_of_methodNamed hnamed
  have hc2 := findClass_of_methodNamed q3
  rw [hc, hc1] at hc2
  have e := Option.some.inj hc2
  have hf := State.methodFound?_of_named hnamed hy
  have hn' : Z.methodNamed? ⟨y.cls, y.name, y.desc⟩ = some mk := hnamed
  have hk : Z.vm.classes[mk.cls]? = some kP := by rw [e]; exact hkP
  simp only [Cond.before, Cond.holds, Cond.value, hc1, hf, hn', hk]
  simp [hkPi]
theorem own_notFace {s : State} {args : Array Value} {C : String} {y y' : MethodName} (hc : y'.cls = y.cls) (ws : (Cond.selects C y' y').before args s = true) : NotFace s y := fun r0 h0 => by
  obtain ⟨c2, r2, m2, q1, q2, q3, q4, kP, hkP, hkPi⟩ := Cond.selects_spec ws
  have hc1 := findClass_of_methodNamed h0
  have hc2 := findClass_of_methodNamed q3
  rw [hc, hc1] at hc2
  have e := Option.some.inj hc2
  exact ⟨kP, by rw [e]; exact hkP, hkPi⟩
theorem own_ne_oa {Z : State} {h : Heap} {a b : Addr} {C : String} {a0 : Array Value} {kk : Nat} {k : ClassId} {ty : FieldType} {n : Int32} {vs : List Value} {d : Value} (F : Exa Z h a C) (wi : (Cond.instantiable C kk).before a0 Z = true) (G : Arv Z h b k ty n vs d) : a ≠ b := by
  obtain ⟨c, A, -⟩ := G
  exact ne_arr F wi A
theorem own_narc (y : Int32) : nar .char ((y &&& (255 : Int32)).toUInt32.toUInt16.toUInt32.toInt32) = (y &&& (255 : Int32)) := by
  rw [i2c_mask]
  exact i2c_mask y
theorem own_c255 (y : Int32) : ¬ (y &&& (255 : Int32)) < 0 ∧ ¬ (255 : Int32) < (y &&& (255 : Int32)) := by
  have h := c_and y (255 : Int32) (by decide)
  have a : (255 : Int32).toInt = 255 := by decide
  have b : (0 : Int32).toInt = 0 := by decide
  rw [Int32.lt_iff_toInt_lt, Int32.lt_iff_toInt_lt, b]
  omega
theorem own_l0 {P : Int32 → Prop} : ∀ c ∈ ([] : List Int32), P c := fun _ h => nomatch h
theorem own_lS {P : Int32 → Prop} {y : Int32} {L : List Int32} (q : P y) (r : ∀ c ∈ L, P c) : ∀ c ∈ y :: L, P c := fun c h => (List.mem_cons.mp h).elim (fun e => e ▸ q) (r c)
theorem own_i2bb (c : Int32) : nar .byte (c.toInt8.toInt32) = (c.toInt8.toInt32) := by
  show c.toInt8.toInt32.toInt8.toInt32 = c.toInt8.toInt32
  rw [Int8.toInt8_toInt32]
theorem own_low8 (c : Int32) (h0 : ¬ (c < (0 : Int32))) (h1 : ¬ ((255 : Int32) < c)) : ((c.toInt8.toInt32) &&& (255 : Int32)) = c := by
  have a : (255 : Int32).toInt = 255 := by decide
  have b : (0 : Int32).toInt = 0 := by decide
  rw [Int32.lt_iff_toInt_lt, b] at h0
  rw [Int32.lt_iff_toInt_lt, a] at h1
  have h2 := c_mask (c.toInt8.toInt32) 255 8 (by decide) (by decide)
  have h3 := c_i2b c
  have h4 : ((2 ^ 8 : Nat) : Int) = 256 := by decide
  rw [h4] at h2
  apply Int32.toInt_inj.mp
  omega
theorem own_nar8 (c : Int32) (h0 : ¬ (c < (0 : Int32))) (h1 : ¬ ((255 : Int32) < c)) : nar .char c = c := by
  have e := own_low8 c h0 h1
  have q := i2c_mask (c.toInt8.toInt32)
  rw [e] at q
  exact q
theorem own_chr8 (c : Int32) (h0 : ¬ (c < (0 : Int32))) (h1 : ¬ ((255 : Int32) < c)) : nar .char ((((c.toInt8.toInt32)) &&& (255 : Int32)).toUInt32.toUInt16.toUInt32.toInt32) = c := by
  rw [i2c_mask, own_low8 c h0 h1]
  exact own_nar8 c h0 h1
def own_b (cs : List Int32) : List Value := (cs.map fun c => c.toInt8.toInt32).map Value.int
def own_bz (ws : List Int32) : List Value := own_b ws ++ List.replicate (16 - ws.length) (.int 0)
theorem own_bL (cs : List Int32) : (own_b cs).length = cs.length := by simp [own_b]
theorem own_bzL {ws : List Int32} (h : ws.length ≤ 16) : (own_bz ws).length = 16 := by
  simp only [own_bz, List.length_append, own_bL, List.length_replicate]
  omega
theorem own_bA (a b : List Int32) : own_b (a ++ b) = own_b a ++ own_b b := by simp [own_b]
theorem own_nI {k : Nat} (h : k ≤ 4000) : (Int32.ofNat k).toInt = k := Int32.toInt_ofNat_of_lt (by omega)
theorem own_nC {k : Nat} (h : k ≤ 4000) : (Int32.ofNat k).toNatClampNeg = k := by
  simp only [Int32.toNatClampNeg, own_nI h]
  rfl
theorem own_n0 {k : Nat} (h : k ≤ 4000) : ¬ (Int32.ofNat k < (0 : Int32)) := by
  have b : (0 : Int32).toInt = 0 := by decide
  rw [Int32.lt_iff_toInt_lt, own_nI h, b]
  omega
theorem own_nadd {a b : Nat} (h : a + b ≤ 4000) : Int32.ofNat a + Int32.ofNat b = Int32.ofNat (a + b) := by
  apply Int32.toInt_inj.mp
  rw [Int32.toInt_add, own_nI (by omega), own_nI (by omega), own_nI h]
  exact (Int.bmod_eq_of_le_mul_two (by omega) (by omega)).trans (by omega)
theorem own_nsub {a b : Nat} (h : b ≤ a) (h' : a ≤ 4000) : Int32.ofNat a - Int32.ofNat b = Int32.ofNat (a - b) := by
  apply Int32.toInt_inj.mp
  rw [Int32.toInt_sub, own_nI (by omega), own_nI (by omega), own_nI (by omega)]
  exact (Int.bmod_eq_of_le_mul_two (by omega) (by omega)).trans (by omega)
theorem own_nlt {a b : Nat} (ha : a ≤ 4000) (hb : b ≤ 4000) : Int32.ofNat a < Int32.ofNat b ↔ a < b := by
  rw [Int32.lt_iff_toInt_lt, own_nI ha, own_nI hb]
  omega
theorem own_neq {a b : Nat} (ha : a ≤ 4000) (hb : b ≤ 4000) : Int32.ofNat a = Int32.ofNat b ↔ a = b := by
  rw [← Int32.toInt_inj, own_nI ha, own_nI hb]
  omega
theorem own_shr0 (c : Int32) : (c >>> ((0 : Int32) &&& 31)) = c := by
  have h := c_ishr c (0 : Int32) 0 (by decide)
  have p : ((2 ^ 0 : Nat) : Int) = 1 := by decide
  rw [p] at h
  apply Int32.toInt_inj.mp
  omega
theorem own_rangeD {L : List Value} {k m : Nat} {d : Value} (h : k + m ≤ L.length) : ((List.range m).map fun q => L.getD (k + q) d) = (L.drop k).take m := by
  apply List.ext_getElem
  · simp only [List.length_map, List.length_range, List.length_take, List.length_drop]
    omega
  · intro i h1 h2
    simp only [List.length_map, List.length_range] at h1
    simp only [List.getElem_map, List.getElem_range, List.getElem_take, List.getElem_drop]
    rw [List.getD_eq_getElem?_getD, List.getElem?_eq_getElem (by omega)]
    rfl
theorem own_dropB {cs : List Int32} {k m : Nat} {d : Value} (hk : k ≤ cs.length) (hm : m = cs.length - k) : (List.replicate m d).take 0 ++ ((List.range m).map fun q => (own_b cs).getD (k + q) d) ++ (List.replicate m d).drop (0 + m) = own_b (cs.drop k) := by
  rw [own_rangeD (by rw [own_bL]; omega), List.take_zero, List.nil_append, List.take_of_length_le (l := (own_b cs).drop k) (by rw [List.length_drop, own_bL]; omega)]
  simp [own_b]
theorem own_takeB {ws : List Int32} {d : Value} (h : ws.length ≤ 16) : (List.replicate ws.length d).take 0 ++ ((List.range ws.length).map fun q => (own_bz ws).getD (0 + q) d) ++ (List.replicate ws.length d).drop (0 + ws.length) = own_b ws := by
  rw [own_rangeD (by rw [own_bzL h]; omega)]
  simp only [List.take_zero, List.nil_append, List.drop_zero, Nat.zero_add, List.drop_replicate, Nat.sub_self, List.replicate_zero, List.append_nil, own_bz]
  rw [List.take_append_of_le_length (by rw [own_bL]; omega), List.take_of_length_le (by rw [own_bL]; omega)]
theorem own_catB {ws cs : List Int32} {d : Value} (h : ws.length + cs.length ≤ 16) : (own_bz ws).take ws.length ++ ((List.range cs.length).map fun q => (own_b cs).getD (0 + q) d) ++ (own_bz ws).drop (ws.length + cs.length) = own_bz (ws ++ cs) := by
  rw [own_rangeD (by rw [own_bL]; omega), List.drop_zero, List.take_of_length_le (l := own_b cs) (by rw [own_bL]; omega)]
  have e1 : (own_bz ws).take ws.length = own_b ws := by
    unfold own_bz
    rw [List.take_append_of_le_length (by rw [own_bL]; omega), List.take_of_length_le (by rw [own_bL]; omega)]
  have e2 : (own_bz ws).drop (ws.length + cs.length) = List.replicate (16 - (ws ++ cs).length) (.int 0) := by
    unfold own_bz
    rw [List.drop_append, List.drop_of_length_le (by rw [own_bL]; omega), own_bL, List.nil_append, List.drop_replicate, List.length_append]
    congr 1
    omega
  rw [e1, e2]
  unfold own_bz
  rw [own_bA]
theorem own_pad0 {m : Nat} {d : Value} : ∀ i, (List.replicate m d).getD i d = ([] : List Value).getD i d := fun i => by
  rw [List.getD_eq_getElem?_getD, List.getElem?_replicate]
  split <;> rfl
def own_cv (q : Int64) (k : Int32) : Int32 := nar .char (((((q.toUInt64 >>> (k &&& 0x3f).toInt64.toUInt64).toInt64) &&& (255 : Int64)).toInt32).toUInt32.toUInt16.toUInt32.toInt32)
def own_cs (q : Int64) (m : Nat) : List Int32 := (List.range m).map fun i => own_cv q (Int32.ofNat (8 * i))
theorem own_csL (q : Int64) (m : Nat) : (own_cs q m).length = m := by simp [own_cs]
theorem own_csS (q : Int64) (m : Nat) : own_cs q (m + 1) = own_cs q m ++ [own_cv q (Int32.ofNat (8 * m))] := by
  simp [own_cs, List.range_succ]
def own_sets : List Value → Nat → List Value → List Value
  | L, _, [] => L
  | L, i, v :: r => own_sets (L.set i v) (i + 1) r
theorem own_setsA (r : List Value) : ∀ (L : List Value) (i : Nat) (v : Value), own_sets L i (r ++ [v]) = (own_sets L i r).set (i + r.length) v := by
  induction r with
  | nil => intro L i v; rfl
  | cons w r ih =>
    intro L i v
    show own_sets (L.set i w) (i + 1) (r ++ [v]) = _
    rw [ih]
    show (own_sets (L.set i w) (i + 1) r).set (i + 1 + r.length) v = (own_sets (L.set i w) (i + 1) r).set (i + (r.length + 1)) v
    rw [show i + 1 + r.length = i + (r.length + 1) by omega]
theorem own_setsL (r : List Value) : ∀ (L : List Value) (i : Nat), (own_sets L i r).length = L.length := by
  induction r with
  | nil => intro L i; rfl
  | cons w r ih => intro L i; show (own_sets (L.set i w) (i + 1) r).length = _; rw [ih, List.length_set]
theorem own_setsE (r : List Value) : ∀ (L : List Value) (i : Nat), i + r.length ≤ L.length → own_sets L i r = L.take i ++ r ++ L.drop (i + r.length) := by
  induction r with
  | nil => intro L i h; show L = _; simp
  | cons w r ih =>
    intro L i h
    simp only [List.length_cons] at h
    show own_sets (L.set i w) (i + 1) r = _
    rw [ih _ _ (by rw [List.length_set]; omega)]
    have e1 : (L.set i w).take (i + 1) = L.take i ++ [w] := by
      rw [List.set_eq_take_append_cons_drop, if_pos (by omega), List.take_append, List.length_take, List.take_of_length_le (by rw [List.length_take]; omega)]
      rw [show i + 1 - min i L.length = 1 by omega]
      rfl
    have e2 : (L.set i w).drop (i + 1 + r.length) = L.drop (i + (r.length + 1)) := by
      rw [List.drop_set_of_lt (by omega), show i + 1 + r.length = i + (r.length + 1) by omega]
    rw [e1, e2, List.length_cons]
    simp
theorem own_cvB (q : Int64) (k : Int32) : ¬ (own_cv q k < (0 : Int32)) ∧ ¬ ((255 : Int32) < own_cv q k) := by
  have h0 := c_maskL ((q.toUInt64 >>> (k &&& 0x3f).toInt64.toUInt64).toInt64) 255 8 (by decide) (by decide)
  have p8 : ((2 ^ 8 : Nat) : Int) = 256 := by decide
  rw [p8] at h0
  unfold own_cv
  generalize (((q.toUInt64 >>> (k &&& 0x3f).toInt64.toUInt64).toInt64) &&& (255 : Int64)) = u at h0 ⊢
  have h1 : u.toInt32.toInt = u.toInt := by
    rw [Int64.toInt_toInt32]
    exact Int.bmod_eq_of_le_mul_two (by omega) (by omega)
  have h2 := c_i2c u.toInt32
  have h3 := c_i2c (u.toInt32.toUInt32.toUInt16.toUInt32.toInt32)
  have a : (255 : Int32).toInt = 255 := by decide
  have b : (0 : Int32).toInt = 0 := by decide
  rw [Int32.lt_iff_toInt_lt, Int32.lt_iff_toInt_lt, a, b]
  show ¬ (u.toInt32.toUInt32.toUInt16.toUInt32.toInt32).toUInt32.toUInt16.toUInt32.toInt32.toInt < 0 ∧ ¬ 255 < (u.toInt32.toUInt32.toUInt16.toUInt32.toInt32).toUInt32.toUInt16.toUInt32.toInt32.toInt
  omega
theorem own_csB (q : Int64) (m : Nat) : ∀ c ∈ own_cs q m, ¬ c < 0 ∧ ¬ (255 : Int32) < c := by
  intro c hc
  simp only [own_cs, List.mem_map] at hc
  obtain ⟨i, -, rfl⟩ := hc
  exact own_cvB q _
theorem own_and7N (x : Int32) : ∃ k : Nat, k ≤ 7 ∧ (x &&& (7 : Int32)) = Int32.ofNat k := by
  obtain ⟨h1, h2⟩ := c_and x 7 (by decide)
  have h3 : (7 : Int32).toInt = 7 := by decide
  rw [h3] at h2
  refine ⟨(x &&& 7).toInt.toNat, by omega, ?_⟩
  apply Int32.toInt_inj.mp
  rw [own_nI (by omega)]
  omega
theorem own_rep1 {P : List Int32} {n : Nat} (h : P.length = n) : own_sets (List.replicate n (.int 0)) 0 (P.map Value.int) = P.map Value.int := by
  rw [own_setsE _ _ _ (by simp [h])]
  simp [h]
theorem own_rep2 {P S : List Int32} {n m : Nat} (h : P.length = n) (h' : S.length = m) : own_sets (own_sets (List.replicate (n + m) (.int 0)) 0 (P.map Value.int)) n (S.map Value.int) = (P ++ S).map Value.int := by
  rw [own_setsE _ _ _ (by rw [own_setsL]; simp [h']), own_setsE _ _ _ (by simp [h])]
  subst h
  subst h'
  simp
theorem own_rep3 {S : List Int32} {m : Nat} (h : S.length = m) : own_sets ((List.replicate (m + 1) (.int 0)).set 0 (.int 47)) 1 (S.map Value.int) = ((47 : Int32) :: S).map Value.int := by
  rw [own_setsE _ _ _ (by simp [h]; omega)]
  subst h
  simp [List.replicate_succ]
  omega
theorem own_naddL {a b : List Int32} (h : a.length + b.length ≤ 4000) : Int32.ofNat a.length + Int32.ofNat b.length = Int32.ofNat (a ++ b).length := by
  rw [own_nadd h, List.length_append]
theorem own_nsubL {a b : List Int32} (h : a.length + b.length ≤ 4000) : Int32.ofNat (a ++ b).length - Int32.ofNat a.length = Int32.ofNat b.length := by
  rw [own_nsub (by rw [List.length_append]; omega) (by rw [List.length_append]; omega), List.length_append, show a.length + b.length - a.length = b.length by omega]
theorem own_ne0 {a : List Int32} (h : a.length ≤ 4000) (h' : 0 < a.length) : ¬ (Int32.ofNat a.length = (0 : Int32)) := by
  intro e
  have q := own_nI h
  rw [e] at q
  have b : (0 : Int32).toInt = 0 := by decide
  omega
theorem own_sub0 (x : Int32) : x - (0 : Int32) = x := by
  apply Int32.toInt_inj.mp
  rw [Int32.toInt_sub, show (0 : Int32).toInt = 0 from by decide]
  have h1 := Int32.le_toInt x
  have h2 := Int32.toInt_lt x
  exact (Int.bmod_eq_of_le_mul_two (by omega) (by omega)).trans (by omega)
theorem own_subS (x : Int32) : x - x = (0 : Int32) := by
  apply Int32.toInt_inj.mp
  rw [Int32.toInt_sub, show (0 : Int32).toInt = 0 from by decide, Int.sub_self]
  decide
theorem own_shl0 (c : Int32) : (c <<< ((0 : Int32) &&& 31)) = c := by
  have h := c_ishl c (0 : Int32) 0 (by decide)
  have p : ((2 ^ 0 : Nat) : Int) = 1 := by decide
  rw [p] at h
  have h1 := Int32.le_toInt c
  have h2 := Int32.toInt_lt c
  have h3 := Int32.le_toInt (c <<< ((0 : Int32) &&& 31))
  have h4 := Int32.toInt_lt (c <<< ((0 : Int32) &&& 31))
  apply Int32.toInt_inj.mp
  omega
theorem own_cap {a : List Int32} (h : a.length ≤ 16) : ¬ ((0 : Int32) < (Int32.ofNat a.length - (16 : Int32))) := by
  have b : (0 : Int32).toInt = 0 := by decide
  have d : (16 : Int32).toInt = 16 := by decide
  rw [Int32.lt_iff_toInt_lt, Int32.toInt_sub, own_nI (by omega), b, d, Int.bmod_eq_of_le_mul_two (by omega) (by omega)]
  omega
theorem own_ne16 {a : List Int32} (h : a.length < 16) : ¬ (Int32.ofNat a.length = (16 : Int32)) := by
  intro e
  have q := own_nI (k := a.length) (by omega)
  rw [e] at q
  have b : (16 : Int32).toInt = 16 := by decide
  omega
theorem own_lt16 {a : List Int32} (h : a.length < 16) : Int32.ofNat a.length < (16 : Int32) := by
  have b : (16 : Int32).toInt = 16 := by decide
  rw [Int32.lt_iff_toInt_lt, own_nI (by omega), b]
  omega
theorem own_nltL {a b : List Int32} (h : a.length + b.length ≤ 4000) : ¬ (Int32.ofNat (a ++ b).length < Int32.ofNat a.length) := by
  rw [own_nlt (by rw [List.length_append]; omega) (by omega), List.length_append]
  omega
theorem own_sl {a k c r : Nat} (h : k ≤ c) (h2 : a + c ≤ r) : a + k ≤ r := by omega
theorem own_eqQ {v : Option Value} {cs : List Int32} {H h : Heap} {n0 : Nat} {B : List Loc → Prop} (q : ∃ L : List Loc, (((v = some (.int 1) ∧ cs = cs) ∨ (v = some (.int 0) ∧ ¬ cs = cs)) ∧ L = [] ∧ H = h) ∧ B L) : ∃ L : List Loc, (v = some (.int 1) ∧ Fr n0 L ∧ H = h) ∧ B L := by
  obtain ⟨L, ⟨hv, hL, hh⟩, r⟩ := q
  refine ⟨L, ⟨(hv.resolve_right fun z => z.2 rfl).1, ?_, hh⟩, r⟩
  rw [hL]
  exact Fr.nil n0
theorem own_gek {n k : Nat} (hn : n ≤ 7) : (¬ ((Int32.ofNat k) < (Int32.ofNat n)) → k ≤ 7 → n ≤ k) ∧ ((Int32.ofNat k) < (Int32.ofNat n) → k ≤ 7 → k < n) := by
  refine ⟨fun h hk => ?_, fun h hk => ?_⟩
  · rw [own_nlt (by omega) (by omega)] at h
    omega
  · exact (own_nlt (by omega) (by omega)).mp h
theorem own_step {L : List Value} {k i : Nat} {q : Int64} {c : Int32} (hc : c = Int32.ofNat (8 * i)) : own_sets L k ((own_cs q (i + 1)).map Value.int) = (own_sets L k ((own_cs q i).map Value.int)).set (k + i) (.int (own_cv q c)) := by
  subst hc
  rw [own_csS, List.map_append]
  show own_sets L k ((own_cs q i).map Value.int ++ [Value.int (own_cv q (Int32.ofNat (8 * i)))]) = _
  rw [own_setsA, List.length_map, own_csL]
theorem own_idx {k i : Nat} {c : Int32} (hc : c = Int32.ofNat i) (h : k + i ≤ 4000) : (Int32.ofNat k + c).toNatClampNeg = k + i := by
  subst hc
  rw [own_nadd h, own_nC h]
theorem own_idxI {k i n : Nat} {c : Int32} (hc : c = Int32.ofNat i) (h : k + i < n) (hn : n ≤ 4000) : ¬ (Int32.ofNat k + c < (0 : Int32)) ∧ (Int32.ofNat k + c) < Int32.ofNat n := by
  subst hc
  rw [own_nadd (by omega)]
  exact ⟨own_n0 (by omega), (own_nlt (by omega) hn).mpr h⟩
theorem own_idx0 {k n : Nat} (h : k < n) (hn : n ≤ 4000) : ¬ (Int32.ofNat k < (0 : Int32)) ∧ Int32.ofNat k < Int32.ofNat n := ⟨own_n0 (by omega), (own_nlt (by omega) hn).mpr h⟩
theorem own_notlt {m i : Nat} (h : m ≤ i) (hi : i ≤ 7) : ¬ (Int32.ofNat i < Int32.ofNat m) := by
  rw [own_nlt (by omega) (by omega)]
  omega
theorem own_mem2 {P S : List Int32} {p : Int32 → Prop} (h : ∀ c ∈ P, p c) (h' : ∀ c ∈ S, p c) : ∀ c ∈ P ++ S, p c := fun c hc => (List.mem_append.mp hc).elim (h c) (h' c)
theorem own_hi {P : List Int32} (h : ∀ c ∈ P, ¬ c < 0 ∧ ¬ (255 : Int32) < c) : ∀ c ∈ P, ¬ c < 0 ∧ ¬ (65535 : Int32) < c := fun c hc => ⟨(h c hc).1, fun q => (h c hc).2 (by
  have a : (65535 : Int32).toInt = 65535 := by decide
  have b : (255 : Int32).toInt = 255 := by decide
  rw [Int32.lt_iff_toInt_lt, a] at q
  rw [Int32.lt_iff_toInt_lt, b]
  omega)⟩
theorem own_n47 : ∀ c ∈ [(47 : Int32)], ¬ c < 0 ∧ ¬ (255 : Int32) < c := by
  intro c hc
  simp only [List.mem_cons, List.not_mem_nil, or_false] at hc
  subst hc
  decide
theorem own_nNil : ∀ c ∈ ([] : List Int32), ¬ c < 0 ∧ ¬ (255 : Int32) < c := fun _ h => nomatch h
theorem ef_strCoder (m : MethodId) (x0 : Nat) : entryFrame m #[(.ref x0)] 1 = mkF m 0 #[.val (.ref x0)] [] := by first | (simp [entryFrame, mkF, argsToLocals, Value.category]; done) | rfl
theorem pn_20 : plainName "java/lang/String" = true := by first | (simp [plainName, overriddenIn]; done) | decide +kernel
theorem d20_0 : decode jdk_42_method_152_code 0 = .ok (.getstatic 38, 3) := by decide +kernel
theorem d20_3 : decode jdk_42_method_152_code 3 = .ok (.ifCond .eq 10, 3) := by decide +kernel
theorem d20_6 : decode jdk_42_method_152_code 6 = .ok (.aload_n 0, 1) := by decide +kernel
theorem d20_7 : decode jdk_42_method_152_code 7 = .ok (.getfield 15, 3) := by decide +kernel
theorem d20_10 : decode jdk_42_method_152_code 10 = .ok (.goto 4, 3) := by decide +kernel
theorem d20_14 : decode jdk_42_method_152_code 14 = .ok (.ireturn, 1) := by decide +kernel
def Q_strCoder (Z : State) (x : Nat) (zc : Int32) (h0 : Heap) (n0 : Nat) (vR : Option Value) (hR : Heap) (LR : List Loc) : Prop := vR = some (.int 0) ∧ Fr n0 LR ∧ hR = h0
set_option maxRecDepth 65536 in
set_option maxHeartbeats 40000000 in
theorem strCoder (l : Launch) (Z : State) (a0 : Array Value) (hw : ∀ d ∈ tables_1, d.before a0 Z = true) (ws : List Jvm.Cond) (x : Nat) (zc : Int32) (h0 : Heap) (n0 : Nat) (Z0 : n0 ≤ h0.size) (Fc_x : Fld Z h0 x "java/lang/String" "coder" "B" (.int 0)) (S_C : Sta Z h0 "java/lang/String" "COMPACT_STRINGS" "Z" (.int zc)) (hz : ¬ (zc = (0 : Int32))) :
    own_M l (⟨"java/lang/String", "coder", "()B"⟩ : MethodName) jdk_42_method_152_code 1 (some .byte) ws ({ frames := 0, cells := 0, slots := 0, locals := 0 } : Room) Z #[(.ref x)] h0 (Q_strCoder Z x zc h0 n0) := by
  refine own_body (own := "java/lang/String") rfl (plainFor_of_name pn_20) (fun m => ef_strCoder m x) ?_
  intro p e s m below meth c s₁ Bd hml hZ hh hx hby hown X0 e0
  have N0 := Fr.nil n0
  have lt1 : h0.size > x := Fc_x.lt
  refine own_getS X0 hx hZ hown (host := "") (Or.inl (own_w hw 26 rfl)) Via.refl e0 S_C hby d20_0 ?_
  intro T2 X2 e2
  refine own_ifNo X2.here hx hby d20_3 ((if0 _ _).trans (feq hz).1) ?_
  refine own_aloadN X2.here hx hby d20_6 rfl rfl ?_
  refine own_getF X2 hx hZ hown (host := "") (Or.inl (own_w hw 25 rfl)) Via.refl e2 Fc_x hby d20_7 ?_
  intro T3 X3 e3
  refine own_goto X3.here hx hby (pc' := 14) d20_10 (by decide) (by decide) ?_
  obtain ⟨fs, hr, hrun, hended, hW, hsame⟩ := X3.leave (v := some (.int 0)) (fun h => by rw [Bd.returns] at h; cases h) Bd.notSynchronized
  refine own_ret (t := T3.setFrames fs) ?_ ⟨_, hrun, hended, _, _, rfl, ?_, ⟨_, rfl⟩, hW, hsame.mono (by decide) (by decide)⟩
  · exact retN X3 hx (t := .byte) Bd.returns (by simp) (hb hby d20_14) hr
  · show Q_strCoder Z _ _ h0 n0 _ T3.heap _
    rw [e3]
    exact ⟨rfl, N0, rfl⟩
theorem ef_strIsL (m : MethodId) (x0 : Nat) : entryFrame m #[(.ref x0)] 1 = mkF m 0 #[.val (.ref x0)] [] := by first | (simp [entryFrame, mkF, argsToLocals, Value.category]; done) | rfl
theorem pn_43 : plainName "java/lang/String" = true := by first | (simp [plainName, overriddenIn]; done) | decide +kernel
theorem d43_0 : decode jdk_42_method_154_code 0 = .ok (.getstatic 38, 3) := by decide +kernel
theorem d43_3 : decode jdk_42_method_154_code 3 = .ok (.ifCond .eq 14, 3) := by decide +kernel
theorem d43_6 : decode jdk_42_method_154_code 6 = .ok (.aload_n 0, 1) := by decide +kernel
theorem d43_7 : decode jdk_42_method_154_code 7 = .ok (.getfield 15, 3) := by decide +kernel
theorem d43_10 : decode jdk_42_method_154_code 10 = .ok (.ifCond .ne 7, 3) := by decide +kernel
theorem d43_13 : decode jdk_42_method_154_code 13 = .ok (.iconst 1, 1) := by decide +kernel
theorem d43_14 : decode jdk_42_method_154_code 14 = .ok (.goto 4, 3) := by decide +kernel
theorem d43_18 : decode jdk_42_method_154_code 18 = .ok (.ireturn, 1) := by decide +kernel
def Q_strIsL (Z : State) (x : Nat) (zc : Int32) (h0 : Heap) (n0 : Nat) (vR : Option Value) (hR : Heap) (LR : List Loc) : Prop := vR = some (.int 1) ∧ Fr n0 LR ∧ hR = h0
set_option maxRecDepth 65536 in
set_option maxHeartbeats 40000000 in
theorem strIsL (l : Launch) (Z : State) (a0 : Array Value) (hw : ∀ d ∈ tables_1, d.before a0 Z = true) (ws : List Jvm.Cond) (x : Nat) (zc : Int32) (h0 : Heap) (n0 : Nat) (Z0 : n0 ≤ h0.size) (Fc_x : Fld Z h0 x "java/lang/String" "coder" "B" (.int 0)) (S_C : Sta Z h0 "java/lang/String" "COMPACT_STRINGS" "Z" (.int zc)) (hz : ¬ (zc = (0 : Int32))) :
    own_M l (⟨"java/lang/String", "isLatin1", "()Z"⟩ : MethodName) jdk_42_method_154_code 1 (some .boolean) ws ({ frames := 0, cells := 0, slots := 0, locals := 0 } : Room) Z #[(.ref x)] h0 (Q_strIsL Z x zc h0 n0) := by
  refine own_body (own := "java/lang/String") rfl (plainFor_of_name pn_43) (fun m => ef_strIsL m x) ?_
  intro p e s m below meth c s₁ Bd hml hZ hh hx hby hown X0 e0
  have N0 := Fr.nil n0
  have lt1 : h0.size > x := Fc_x.lt
  refine own_getS X0 hx hZ hown (host := "") (Or.inl (own_w hw 26 rfl)) Via.refl e0 S_C hby d43_0 ?_
  intro T2 X2 e2
  refine own_ifNo X2.here hx hby d43_3 ((if0 _ _).trans (feq hz).1) ?_
  refine own_aloadN X2.here hx hby d43_6 rfl rfl ?_
  refine own_getF X2 hx hZ hown (host := "") (Or.inl (own_w hw 25 rfl)) Via.refl e2 Fc_x hby d43_7 ?_
  intro T3 X3 e3
  refine own_ifNo X3.here hx hby d43_10 ((if0 _ _).trans (teq (show (0 : Int32) = (0 : Int32) from (by decide))).2) ?_
  refine own_iconst X3.here hx hby d43_13 (v := (1 : Int32)) (by decide) ?_
  refine own_goto X3.here hx hby (pc' := 18) d43_14 (by decide) (by decide) ?_
  obtain ⟨fs, hr, hrun, hended, hW, hsame⟩ := X3.leave (v := some (.int 1)) (fun h => by rw [Bd.returns] at h; cases h) Bd.notSynchronized
  refine own_ret (t := T3.setFrames fs) ?_ ⟨_, hrun, hended, _, _, rfl, ?_, ⟨_, rfl⟩, hW, hsame.mono (by decide) (by decide)⟩
  · exact retN X3 hx (t := .boolean) Bd.returns (by simp) (hb hby d43_18) hr
  · show Q_strIsL Z _ _ h0 n0 _ T3.heap _
    rw [e3]
    exact ⟨rfl, N0, rfl⟩
theorem ef_lenG (m : MethodId) (x0 : Nat) : entryFrame m #[(.ref x0)] 1 = mkF m 0 #[.val (.ref x0)] [] := by first | (simp [entryFrame, mkF, argsToLocals, Value.category]; done) | rfl
theorem pn_19 : plainName "java/lang/String" = true := by first | (simp [plainName, overriddenIn]; done) | decide +kernel
theorem d19_0 : decode jdk_42_method_54_code 0 = .ok (.aload_n 0, 1) := by decide +kernel
theorem d19_1 : decode jdk_42_method_54_code 1 = .ok (.getfield 9, 3) := by decide +kernel
theorem d19_4 : decode jdk_42_method_54_code 4 = .ok (.arraylength, 1) := by decide +kernel
theorem d19_5 : decode jdk_42_method_54_code 5 = .ok (.aload_n 0, 1) := by decide +kernel
theorem d19_6 : decode jdk_42_method_54_code 6 = .ok (.invokevirtual 335, 3) := by decide +kernel
theorem pd_0 : parseMethodDescriptor "()B" = some ⟨[], some .byte⟩ := by decide +kernel
theorem d19_9 : decode jdk_42_method_54_code 9 = .ok (.ishr, 1) := by decide +kernel
theorem d19_10 : decode jdk_42_method_54_code 10 = .ok (.ireturn, 1) := by decide +kernel
def Q_lenG (Z : State) (x : Nat) (t : Nat) (kt : ClassId) (cs : List Int32) (zc : Int32) (h0 : Heap) (n0 : Nat) (vR : Option Value) (hR : Heap) (LR : List Loc) : Prop := vR = some (.int (Int32.ofNat cs.length)) ∧ Fr n0 LR ∧ hR = h0
set_option maxRecDepth 65536 in
set_option maxHeartbeats 40000000 in
theorem lenG (l : Launch) (Z : State) (a0 : Array Value) (hw : ∀ d ∈ tables_1, d.before a0 Z = true) (ws : List Jvm.Cond) (x : Nat) (t : Nat) (kt : ClassId) (cs : List Int32) (zc : Int32) (h0 : Heap) (n0 : Nat) (Z0 : n0 ≤ h0.size) (E_x : Exa Z h0 x "java/lang/String") (Fc_x : Fld Z h0 x "java/lang/String" "coder" "B" (.int 0)) (Fv_x : Fld Z h0 x "java/lang/String" "value" "[B" (.ref t)) (V_t : Arv Z h0 t kt .byte (Int32.ofNat cs.length) (own_b cs) (.int 0)) (S_C : Sta Z h0 "java/lang/String" "COMPACT_STRINGS" "Z" (.int zc)) (hz : ¬ (zc = (0 : Int32))) :
    own_M l (⟨"java/lang/String", "length", "()I"⟩ : MethodName) jdk_42_method_54_code 1 (some .int) ws ({ frames := 1, cells := 0, slots := 0, locals := 13 } : Room) Z #[(.ref x)] h0 (Q_lenG Z x t kt cs zc h0 n0) := by
  refine own_body (own := "java/lang/String") rfl (plainFor_of_name pn_19) (fun m => ef_lenG m x) ?_
  intro p e s m below meth c s₁ Bd hml hZ hh hx hby hown X0 e0
  have N0 := Fr.nil n0
  have lt1 : h0.size > x := E_x.lt
  have lt2 : h0.size > t := V_t.lt
  refine own_aloadN X0.here hx hby d19_0 rfl rfl ?_
  refine own_getF X0 hx hZ hown (host := "") (Or.inl (own_w hw 24 rfl)) Via.refl e0 Fv_x hby d19_1 ?_
  intro T3 X3 e3
  refine own_alen X3 hx hZ e3 V_t hby d19_4 ?_
  refine own_aloadN X3.here hx hby d19_5 rfl rfl ?_
  refine own_virtual X3 hx hZ hown (own_w hw 106 rfl) (own_w hw 107 rfl) (notFace_of_selects (args := #[]) (mvT hZ (own_w hw 109 rfl))) (own_w hw 109 rfl) (own_w hw 108 rfl) (own_w hw 7 rfl) (own_w hw 110 rfl) (by decide) (strCoder l Z a0 hw [] x zc h0 n0 Z0 Fc_x S_C hz) 1 (Nat.le_of_eq rfl) (by decide) (by decide) (by rw [hml]; rfl) (argsL := []) (st := [(.int (Int32.ofNat cs.length))]) E_x (lenOf pd_0 rfl) rfl rfl (by decide) (by decide) e3 hby d19_6 ?_
  intro T4 v4 L4 X4 hQ4
  obtain ⟨rfl, Nq4, eh4⟩ := hQ4
  have N4 := Fr.app N0 Nq4
  refine own_sh (T := T4) 9 #[.val (.ref x)] [(.int 0), (.int (Int32.ofNat cs.length))] ?_
  refine own_ishr X4.here hx hby d19_9 rfl ?_
  obtain ⟨fs, hr, hrun, hended, hW, hsame⟩ := X4.leave (v := some (.int ((Int32.ofNat cs.length) >>> ((0 : Int32) &&& 31)))) (fun h => by rw [Bd.returns] at h; cases h) Bd.notSynchronized
  refine own_ret (t := T4.setFrames fs) ?_ ⟨_, hrun, hended, _, _, rfl, ?_, ⟨_, rfl⟩, hW, hsame.mono (by decide) (by decide)⟩
  · exact retOut X4 hx Bd.returns rfl (Or.inl ⟨rfl, Or.inl rfl, _, rfl⟩) (hb hby d19_10) hr
  · show Q_lenG Z _ _ _ _ _ h0 n0 _ T4.heap _
    rw [eh4]
    exact ⟨(own_sv (own_shr0 _)), N4, rfl⟩
theorem ef_asbInit (m : MethodId) (x0 : Nat) (x1 : Int32) : entryFrame m #[(.ref x0), (.int x1)] 2 = mkF m 0 #[.val (.ref x0), .val (.int x1)] [] := by first | (simp [entryFrame, mkF, argsToLocals, Value.category]; done) | rfl
theorem pn_16 : plainName "java/lang/AbstractStringBuilder" = true := by first | (simp [plainName, overriddenIn]; done) | decide +kernel
theorem d16_0 : decode jdk_68_method_2_code 0 = .ok (.aload_n 0, 1) := by decide +kernel
theorem d16_1 : decode jdk_68_method_2_code 1 = .ok (.invokespecial 3, 3) := by decide +kernel
theorem d16_4 : decode jdk_68_method_2_code 4 = .ok (.getstatic 18, 3) := by decide +kernel
theorem d16_7 : decode jdk_68_method_2_code 7 = .ok (.ifCond .eq 18, 3) := by decide +kernel
theorem d16_10 : decode jdk_68_method_2_code 10 = .ok (.aload_n 0, 1) := by decide +kernel
theorem d16_11 : decode jdk_68_method_2_code 11 = .ok (.iload_n 1, 1) := by decide +kernel
theorem d16_12 : decode jdk_68_method_2_code 12 = .ok (.newarray .byte, 2) := by decide +kernel
theorem d16_14 : decode jdk_68_method_2_code 14 = .ok (.putfield 15, 3) := by decide +kernel
theorem d16_17 : decode jdk_68_method_2_code 17 = .ok (.aload_n 0, 1) := by decide +kernel
theorem d16_18 : decode jdk_68_method_2_code 18 = .ok (.iconst 0, 1) := by decide +kernel
theorem d16_19 : decode jdk_68_method_2_code 19 = .ok (.putfield 22, 3) := by decide +kernel
theorem d16_22 : decode jdk_68_method_2_code 22 = .ok (.goto 16, 3) := by decide +kernel
theorem d16_38 : decode jdk_68_method_2_code 38 = .ok (.return_, 1) := by decide +kernel
def Q_asbInit (Z : State) (sb : Nat) (zc : Int32) (h0 : Heap) (n0 : Nat) (vR : Option Value) (hR : Heap) (LR : List Loc) : Prop := ∃ (b : Nat) (kb : ClassId), vR = none ∧ Fr n0 LR ∧ Keep h0 hR [sb] ∧ (Exa Z hR sb "java/lang/StringBuilder") ∧ (Fld Z hR sb "java/lang/AbstractStringBuilder" "value" "[B" (.ref b)) ∧ (Fld Z hR sb "java/lang/AbstractStringBuilder" "coder" "B" (.int 0)) ∧ (Fld Z hR sb "java/lang/AbstractStringBuilder" "count" "I" (.int 0)) ∧ h0.size ≤ b ∧ (Arv Z hR b kb .byte (16 : Int32) [(.int 0), (.int 0), (.int 0), (.int 0), (.int 0), (.int 0), (.int 0), (.int 0), (.int 0), (.int 0), (.int 0), (.int 0), (.int 0), (.int 0), (.int 0), (.int 0)] (.int 0))
set_option maxRecDepth 65536 in
set_option maxHeartbeats 40000000 in
theorem asbInit (l : Launch) (Z : State) (a0 : Array Value) (hw : ∀ d ∈ tables_1, d.before a0 Z = true) (ws : List Jvm.Cond) (sb : Nat) (zc : Int32) (h0 : Heap) (n0 : Nat) (Z0 : n0 ≤ h0.size) (E_sb : Exa Z h0 sb "java/lang/StringBuilder") (g_sb : n0 ≤ sb) (F_value_sb : Fld Z h0 sb "java/lang/AbstractStringBuilder" "value" "[B" .null) (F_coder_sb : Fld Z h0 sb "java/lang/AbstractStringBuilder" "coder" "B" (.int 0)) (F_count_sb : Fld Z h0 sb "java/lang/AbstractStringBuilder" "count" "I" (.int 0)) (S_C : Sta Z h0 "java/lang/String" "COMPACT_STRINGS" "Z" (.int zc)) (hz : ¬ (zc = (0 : Int32))) :
    own_M l (⟨"java/lang/AbstractStringBuilder", "<init>", "(I)V"⟩ : MethodName) jdk_68_method_2_code 2 none ws ({ frames := 1, cells := 1, slots := 16, locals := 12 } : Room) Z #[(.ref sb), (.int 16)] h0 (Q_asbInit Z sb zc h0 n0) := by
  refine own_body (own := "java/lang/AbstractStringBuilder") rfl (plainFor_of_name pn_16) (fun m => ef_asbInit m sb (16 : Int32)) ?_
  intro p e s m below meth c s₁ Bd hml hZ hh hx hby hown X0 e0
  have N0 := Fr.nil n0
  have lt1 : h0.size > sb := E_sb.lt
  refine own_aloadN X0.here hx hby d16_0 rfl rfl ?_
  refine own_initO X0 hx hZ hown (own_w hw 84 rfl) (own_w hw 16 rfl) (own_w hw 17 rfl) e0 (by rw [hml]; rfl) hby d16_1 (by decide) 0 (Nat.le_of_eq rfl) (by decide) ?_
  intro T2 X2 e2
  refine own_getS X2 hx hZ hown (host := "") (Or.inl (own_w hw 85 rfl)) Via.refl e2 S_C hby d16_4 ?_
  intro T3 X3 e3
  refine own_ifNo X3.here hx hby d16_7 ((if0 _ _).trans (feq hz).1) ?_
  refine own_aloadN X3.here hx hby d16_10 rfl rfl ?_
  refine own_iloadN X3.here hx hby d16_11 rfl ?_
  refine own_newP X3 hx hZ (aty := .byte) (own_w hw 19 rfl) e3 hby d16_12 (by decide) 16 (by decide) (by decide) (by decide) (by decide) (ad := "[B") (by decide) ?_
  intro T4 h4 k4 b4 X4 e4 E4 g4 V4 C4 lt4
  have z5 : h0.size ≤ h4.size := E4.1
  have V6 : Arv Z h4 b4 k4 .byte (16 : Int32) [(.int 0), (.int 0), (.int 0), (.int 0), (.int 0), (.int 0), (.int 0), (.int 0), (.int 0), (.int 0), (.int 0), (.int 0), (.int 0), (.int 0), (.int 0), (.int 0)] (.int 0) := V4.pad (pad_rep [] (.int 0) 16)
  have f7 := (E_sb.ext E4)
  have f8 := (F_value_sb.ext E4)
  refine own_putF X4 hx hZ (ty := (.array .byte)) hown (host := "") (Or.inl (own_w hw 86 rfl)) Via.refl e4 f8 f7 (Or.inl (own_w hw 87 rfl)) (own_w hw 73 rfl) (by decide) rfl rfl hby d16_14 N0 g_sb ?_
  intro T9 h9 lo9 X9 e9 N9 W9 F9 z9
  refine own_aloadN X9.here hx hby d16_17 rfl rfl ?_
  refine own_iconst X9.here hx hby d16_18 (v := (0 : Int32)) (by decide) ?_
  have f10 := (f7.wr W9)
  have f11 := ((F_coder_sb.ext E4).other W9 (Or.inr (slot_ne (Or.inl (own_w hw 89 rfl)) (Or.inl (own_w hw 87 rfl)) (by decide) (t := .byte) (t' := (.array .byte)) (by decide) (by decide))))
  refine own_putFN X9 hx hZ (ty := .byte) (v' := (.int 0)) hown (own_w hw 88 rfl) Via.refl e9 f11 f10 (Or.inl (own_w hw 89 rfl)) (own_w hw 73 rfl) (by decide) rfl rfl hby d16_19 N9 g_sb ?_
  intro T12 h12 lo12 X12 e12 N12 W12 F12 z12
  refine own_goto X12.here hx hby (pc' := 38) d16_22 (by decide) (by decide) ?_
  have K13 : Keep h0 h12 [sb] := ((((Keep.refl h0 [sb]).ext E4).wr W9 (Or.inl (List.mem_of_getElem? (i := 0) rfl))).wr W12 (Or.inl (List.mem_of_getElem? (i := 0) rfl)))
  have f14 := (f10.wr W12)
  have f15 := (F9.other W12 (Or.inr (slot_ne (Or.inl (own_w hw 87 rfl)) (Or.inl (own_w hw 89 rfl)) (by decide) (t := (.array .byte)) (t' := .byte) (by decide) (by decide))))
  have f16 := (((F_count_sb.ext E4).other W9 (Or.inr (slot_ne (Or.inl (own_w hw 112 rfl)) (Or.inl (own_w hw 87 rfl)) (by decide) (t := .int) (t' := (.array .byte)) (by decide) (by decide)))).other W12 (Or.inr (slot_ne (Or.inl (own_w hw 112 rfl)) (Or.inl (own_w hw 89 rfl)) (by decide) (t := .int) (t' := .byte) (by decide) (by decide))))
  have f17 := ((V6.other W9 (own_nn (by omega))).other W12 (own_nn (by omega)))
  obtain ⟨fs, hr, hrun, hended, hW, hsame⟩ := X12.leave (v := none) (fun _ => rfl) Bd.notSynchronized
  refine own_ret (t := T12.setFrames fs) ?_ ⟨_, hrun, hended, _, _, rfl, ?_, ⟨_, rfl⟩, hW, hsame.mono (by decide) (by decide)⟩
  · exact X12.returnOut hx Bd.returns (hb hby d16_38) hr
  · show Q_asbInit Z _ _ h0 n0 _ T12.heap _
    rw [e12]
    exact ⟨b4, k4, rfl, N12, K13, f14, f15, F12, f16, (by omega), f17⟩
theorem ef_sbInit (m : MethodId) (x0 : Nat) : entryFrame m #[(.ref x0)] 1 = mkF m 0 #[.val (.ref x0)] [] := by first | (simp [entryFrame, mkF, argsToLocals, Value.category]; done) | rfl
theorem pn_15 : plainName "java/lang/StringBuilder" = true := by first | (simp [plainName, overriddenIn]; done) | decide +kernel
theorem d15_0 : decode jdk_67_method_1_code 0 = .ok (.aload_n 0, 1) := by decide +kernel
theorem d15_1 : decode jdk_67_method_1_code 1 = .ok (.bipush 16, 2) := by decide +kernel
theorem d15_3 : decode jdk_67_method_1_code 3 = .ok (.invokespecial 1, 3) := by decide +kernel
theorem pd_1 : parseMethodDescriptor "(I)V" = some ⟨[.int], none⟩ := by decide +kernel
theorem d15_6 : decode jdk_67_method_1_code 6 = .ok (.return_, 1) := by decide +kernel
def Q_sbInit (Z : State) (sb : Nat) (zc : Int32) (h0 : Heap) (n0 : Nat) (vR : Option Value) (hR : Heap) (LR : List Loc) : Prop := ∃ (b : Nat) (kb : ClassId), vR = none ∧ Fr n0 LR ∧ Keep h0 hR [sb] ∧ (Exa Z hR sb "java/lang/StringBuilder") ∧ (Fld Z hR sb "java/lang/AbstractStringBuilder" "value" "[B" (.ref b)) ∧ (Fld Z hR sb "java/lang/AbstractStringBuilder" "coder" "B" (.int 0)) ∧ (Fld Z hR sb "java/lang/AbstractStringBuilder" "count" "I" (.int 0)) ∧ h0.size ≤ b ∧ (Arv Z hR b kb .byte (16 : Int32) [(.int 0), (.int 0), (.int 0), (.int 0), (.int 0), (.int 0), (.int 0), (.int 0), (.int 0), (.int 0), (.int 0), (.int 0), (.int 0), (.int 0), (.int 0), (.int 0)] (.int 0))
set_option maxRecDepth 65536 in
set_option maxHeartbeats 40000000 in
theorem sbInit (l : Launch) (Z : State) (a0 : Array Value) (hw : ∀ d ∈ tables_1, d.before a0 Z = true) (ws : List Jvm.Cond) (sb : Nat) (zc : Int32) (h0 : Heap) (n0 : Nat) (Z0 : n0 ≤ h0.size) (E_sb : Exa Z h0 sb "java/lang/StringBuilder") (g_sb : n0 ≤ sb) (F_value_sb : Fld Z h0 sb "java/lang/AbstractStringBuilder" "value" "[B" .null) (F_coder_sb : Fld Z h0 sb "java/lang/AbstractStringBuilder" "coder" "B" (.int 0)) (F_count_sb : Fld Z h0 sb "java/lang/AbstractStringBuilder" "count" "I" (.int 0)) (S_C : Sta Z h0 "java/lang/String" "COMPACT_STRINGS" "Z" (.int zc)) (hz : ¬ (zc = (0 : Int32))) :
    own_M l (⟨"java/lang/StringBuilder", "<init>", "()V"⟩ : MethodName) jdk_67_method_1_code 1 none ws ({ frames := 2, cells := 1, slots := 16, locals := 25 } : Room) Z #[(.ref sb)] h0 (Q_sbInit Z sb zc h0 n0) := by
  refine own_body (own := "java/lang/StringBuilder") rfl (plainFor_of_name pn_15) (fun m => ef_sbInit m sb) ?_
  intro p e s m below meth c s₁ Bd hml hZ hh hx hby hown X0 e0
  have N0 := Fr.nil n0
  have lt1 : h0.size > sb := E_sb.lt
  refine own_aloadN X0.here hx hby d15_0 rfl rfl ?_
  refine own_bipush X0.here hx hby d15_1 (v := (16 : Int32)) (by decide) ?_
  refine own_special X0 hx hZ rfl hown (own_w hw 78 rfl) (own_w hw 79 rfl) (own_w hw 82 rfl) (own_w hw 83 rfl) (by decide) (asbInit l Z a0 hw [] sb zc h0 n0 Z0 E_sb g_sb F_value_sb F_coder_sb F_count_sb S_C hz) 0 (Nat.le_of_eq rfl) (by decide) (by decide) (by rw [hml]; rfl) (argsL := [(.int 16)]) (st := []) (a := sb) (lenOf pd_1 rfl) rfl rfl (by decide) (by decide) e0 hby d15_3 ?_
  intro T2 v2 L2 X2 hQ2
  obtain ⟨b_2, kb_2, rfl, Nq2, K2, P2_0, P2_1, P2_2, P2_3, P2_4, P2_5⟩ := hQ2
  have N2 := Fr.app N0 Nq2
  have z3 : h0.size ≤ T2.heap.size := K2.1
  have lt4 : T2.heap.size > sb := P2_0.lt
  have lt5 : T2.heap.size > b_2 := P2_5.lt
  refine own_sh (T := T2) 6 #[.val (.ref sb)] [] ?_
  have K6 : Keep h0 T2.heap [sb] := ((Keep.refl h0 [sb]).trans K2 (allS (P := fun xq_ => xq_ ∈ [sb] ∨ h0.size ≤ xq_) (Or.inl (List.mem_of_getElem? (i := 0) rfl)) all0))
  obtain ⟨fs, hr, hrun, hended, hW, hsame⟩ := X2.leave (v := none) (fun _ => rfl) Bd.notSynchronized
  refine own_ret (t := T2.setFrames fs) ?_ ⟨_, hrun, hended, _, _, rfl, ?_, ⟨_, rfl⟩, hW, hsame.mono (by decide) (by decide)⟩
  · exact X2.returnOut hx Bd.returns (hb hby d15_6) hr
  · show Q_sbInit Z _ _ h0 n0 _ T2.heap _
    exact ⟨b_2, kb_2, rfl, N2, K6, P2_0, P2_1, P2_2, P2_3, (by omega), P2_5⟩
theorem ef_asbInfl (m : MethodId) (x0 : Nat) (x1 : Nat) : entryFrame m #[(.ref x0), (.ref x1)] 2 = mkF m 0 #[.val (.ref x0), .val (.ref x1)] [] := by first | (simp [entryFrame, mkF, argsToLocals, Value.category]; done) | rfl
theorem pn_23 : plainName "java/lang/AbstractStringBuilder" = true := by first | (simp [plainName, overriddenIn]; done) | decide +kernel
theorem d23_0 : decode jdk_68_method_71_code 0 = .ok (.getstatic 18, 3) := by decide +kernel
theorem d23_3 : decode jdk_68_method_71_code 3 = .ok (.ifCond .eq 18, 3) := by decide +kernel
theorem d23_6 : decode jdk_68_method_71_code 6 = .ok (.aload_n 0, 1) := by decide +kernel
theorem d23_7 : decode jdk_68_method_71_code 7 = .ok (.getfield 22, 3) := by decide +kernel
theorem d23_10 : decode jdk_68_method_71_code 10 = .ok (.aload_n 1, 1) := by decide +kernel
theorem d23_11 : decode jdk_68_method_71_code 11 = .ok (.invokevirtual 40, 3) := by decide +kernel
theorem d23_14 : decode jdk_68_method_71_code 14 = .ok (.if_icmp .eq 7, 3) := by decide +kernel
theorem d23_21 : decode jdk_68_method_71_code 21 = .ok (.return_, 1) := by decide +kernel
def Q_asbInfl (Z : State) (sb : Nat) (x : Nat) (zc : Int32) (h0 : Heap) (n0 : Nat) (vR : Option Value) (hR : Heap) (LR : List Loc) : Prop := vR = none ∧ Fr n0 LR ∧ hR = h0
set_option maxRecDepth 65536 in
set_option maxHeartbeats 40000000 in
theorem asbInfl (l : Launch) (Z : State) (a0 : Array Value) (hw : ∀ d ∈ tables_1, d.before a0 Z = true) (ws : List Jvm.Cond) (sb : Nat) (x : Nat) (zc : Int32) (h0 : Heap) (n0 : Nat) (Z0 : n0 ≤ h0.size) (F_coder_sb : Fld Z h0 sb "java/lang/AbstractStringBuilder" "coder" "B" (.int 0)) (E_x : Exa Z h0 x "java/lang/String") (Fc_x : Fld Z h0 x "java/lang/String" "coder" "B" (.int 0)) (S_C : Sta Z h0 "java/lang/String" "COMPACT_STRINGS" "Z" (.int zc)) (hz : ¬ (zc = (0 : Int32))) :
    own_M l (⟨"java/lang/AbstractStringBuilder", "inflateIfNeededFor", "(Ljava/lang/String;)V"⟩ : MethodName) jdk_68_method_71_code 2 none ws ({ frames := 1, cells := 0, slots := 0, locals := 13 } : Room) Z #[(.ref sb), (.ref x)] h0 (Q_asbInfl Z sb x zc h0 n0) := by
  refine own_body (own := "java/lang/AbstractStringBuilder") rfl (plainFor_of_name pn_23) (fun m => ef_asbInfl m sb x) ?_
  intro p e s m below meth c s₁ Bd hml hZ hh hx hby hown X0 e0
  have N0 := Fr.nil n0
  have lt1 : h0.size > sb := F_coder_sb.lt
  have lt2 : h0.size > x := E_x.lt
  refine own_getS X0 hx hZ hown (host := "") (Or.inl (own_w hw 85 rfl)) Via.refl e0 S_C hby d23_0 ?_
  intro T3 X3 e3
  refine own_ifNo X3.here hx hby d23_3 ((if0 _ _).trans (feq hz).1) ?_
  refine own_aloadN X3.here hx hby d23_6 rfl rfl ?_
  refine own_getF X3 hx hZ hown (host := "") (Or.inl (own_w hw 88 rfl)) Via.refl e3 F_coder_sb hby d23_7 ?_
  intro T4 X4 e4
  refine own_aloadN X4.here hx hby d23_10 rfl rfl ?_
  refine own_virtual X4 hx hZ hown (own_w hw 128 rfl) (own_w hw 107 rfl) (notFace_of_selects (args := #[]) (mvT hZ (own_w hw 109 rfl))) (own_w hw 109 rfl) (own_w hw 108 rfl) (own_w hw 7 rfl) (own_w hw 110 rfl) (by decide) (strCoder l Z a0 hw [] x zc h0 n0 Z0 Fc_x S_C hz) 1 (Nat.le_of_eq rfl) (by decide) (by decide) (by rw [hml]; rfl) (argsL := []) (st := [(.int 0)]) E_x (lenOf pd_0 rfl) rfl rfl (by decide) (by decide) e4 hby d23_11 ?_
  intro T5 v5 L5 X5 hQ5
  obtain ⟨rfl, Nq5, eh5⟩ := hQ5
  have N5 := Fr.app N0 Nq5
  refine own_sh (T := T5) 14 #[.val (.ref sb), .val (.ref x)] [(.int 0), (.int 0)] ?_
  refine own_icmpYes X5.here hx hby (pc' := 21) d23_14 (teq (show (0 : Int32) = (0 : Int32) from (by decide))).1 (by decide) (by decide) ?_
  obtain ⟨fs, hr, hrun, hended, hW, hsame⟩ := X5.leave (v := none) (fun _ => rfl) Bd.notSynchronized
  refine own_ret (t := T5.setFrames fs) ?_ ⟨_, hrun, hended, _, _, rfl, ?_, ⟨_, rfl⟩, hW, hsame.mono (by decide) (by decide)⟩
  · exact X5.returnOut hx Bd.returns (hb hby d23_21) hr
  · show Q_asbInfl Z _ _ _ h0 n0 _ T5.heap _
    rw [eh5]
    exact ⟨rfl, N5, rfl⟩
theorem ef_ensG (m : MethodId) (x0 : Nat) (x1 : Int32) : entryFrame m #[(.ref x0), (.int x1)] 3 = mkF m 0 #[.val (.ref x0), .val (.int x1), .unset] [] := by first | (simp [entryFrame, mkF, argsToLocals, Value.category]; done) | rfl
theorem pn_21 : plainName "java/lang/AbstractStringBuilder" = true := by first | (simp [plainName, overriddenIn]; done) | decide +kernel
theorem d21_0 : decode jdk_68_method_9_code 0 = .ok (.aload_n 0, 1) := by decide +kernel
theorem d21_1 : decode jdk_68_method_9_code 1 = .ok (.getfield 15, 3) := by decide +kernel
theorem d21_4 : decode jdk_68_method_9_code 4 = .ok (.arraylength, 1) := by decide +kernel
theorem d21_5 : decode jdk_68_method_9_code 5 = .ok (.aload_n 0, 1) := by decide +kernel
theorem d21_6 : decode jdk_68_method_9_code 6 = .ok (.getfield 22, 3) := by decide +kernel
theorem d21_9 : decode jdk_68_method_9_code 9 = .ok (.ishr, 1) := by decide +kernel
theorem d21_10 : decode jdk_68_method_9_code 10 = .ok (.istore_n 2, 1) := by decide +kernel
theorem d21_11 : decode jdk_68_method_9_code 11 = .ok (.iload_n 1, 1) := by decide +kernel
theorem d21_12 : decode jdk_68_method_9_code 12 = .ok (.iload_n 2, 1) := by decide +kernel
theorem d21_13 : decode jdk_68_method_9_code 13 = .ok (.isub, 1) := by decide +kernel
theorem d21_14 : decode jdk_68_method_9_code 14 = .ok (.ifCond .le 24, 3) := by decide +kernel
theorem d21_38 : decode jdk_68_method_9_code 38 = .ok (.return_, 1) := by decide +kernel
def Q_ensG (Z : State) (sb : Nat) (b : Nat) (kb : ClassId) (vs_ : List Value) (mc : Int32) (h0 : Heap) (n0 : Nat) (vR : Option Value) (hR : Heap) (LR : List Loc) : Prop := vR = none ∧ Fr n0 LR ∧ hR = h0
set_option maxRecDepth 65536 in
set_option maxHeartbeats 40000000 in
theorem ensG (l : Launch) (Z : State) (a0 : Array Value) (hw : ∀ d ∈ tables_1, d.before a0 Z = true) (ws : List Jvm.Cond) (sb : Nat) (b : Nat) (kb : ClassId) (vs_ : List Value) (mc : Int32) (h0 : Heap) (n0 : Nat) (Z0 : n0 ≤ h0.size) (F_value_sb : Fld Z h0 sb "java/lang/AbstractStringBuilder" "value" "[B" (.ref b)) (F_coder_sb : Fld Z h0 sb "java/lang/AbstractStringBuilder" "coder" "B" (.int 0)) (V_b : Arv Z h0 b kb .byte (16 : Int32) vs_ (.int 0)) (hcap : ¬ ((0 : Int32) < (mc - (16 : Int32)))) :
    own_M l (⟨"java/lang/AbstractStringBuilder", "ensureCapacityInternal", "(I)V"⟩ : MethodName) jdk_68_method_9_code 3 none ws ({ frames := 0, cells := 0, slots := 0, locals := 0 } : Room) Z #[(.ref sb), (.int mc)] h0 (Q_ensG Z sb b kb vs_ mc h0 n0) := by
  refine own_body (own := "java/lang/AbstractStringBuilder") rfl (plainFor_of_name pn_21) (fun m => ef_ensG m sb mc) ?_
  intro p e s m below meth c s₁ Bd hml hZ hh hx hby hown X0 e0
  have N0 := Fr.nil n0
  have lt1 : h0.size > sb := F_value_sb.lt
  have lt2 : h0.size > b := V_b.lt
  refine own_aloadN X0.here hx hby d21_0 rfl rfl ?_
  refine own_getF X0 hx hZ hown (host := "") (Or.inl (own_w hw 86 rfl)) Via.refl e0 F_value_sb hby d21_1 ?_
  intro T3 X3 e3
  refine own_alen X3 hx hZ e3 V_b hby d21_4 ?_
  refine own_aloadN X3.here hx hby d21_5 rfl rfl ?_
  refine own_getF X3 hx hZ hown (host := "") (Or.inl (own_w hw 88 rfl)) Via.refl e3 F_coder_sb hby d21_6 ?_
  intro T4 X4 e4
  refine own_ishr X4.here hx hby d21_9 (v := (16 : Int32)) (by decide) ?_
  refine own_istoreN X4.here hx hby d21_10 (l' := #[.val (.ref sb), .val (.int mc), .val (.int 16)]) rfl ?_
  refine own_iloadN X4.here hx hby d21_11 rfl ?_
  refine own_iloadN X4.here hx hby d21_12 rfl ?_
  refine own_isub X4.here hx hby d21_13 rfl ?_
  refine own_ifYes X4.here hx hby (pc' := 38) d21_14 ((if0 _ _).trans (flt hcap).2.2.2) (by decide) (by decide) ?_
  obtain ⟨fs, hr, hrun, hended, hW, hsame⟩ := X4.leave (v := none) (fun _ => rfl) Bd.notSynchronized
  refine own_ret (t := T4.setFrames fs) ?_ ⟨_, hrun, hended, _, _, rfl, ?_, ⟨_, rfl⟩, hW, hsame.mono (by decide) (by decide)⟩
  · exact X4.returnOut hx Bd.returns (hb hby d21_38) hr
  · show Q_ensG Z _ _ _ _ _ h0 n0 _ T4.heap _
    rw [e4]
    exact ⟨rfl, N0, rfl⟩
theorem ef_getBG (m : MethodId) (x0 : Nat) (x1 : Nat) (x2 : Int32) (x3 : Int32) : entryFrame m #[(.ref x0), (.ref x1), (.int x2), (.int x3)] 4 = mkF m 0 #[.val (.ref x0), .val (.ref x1), .val (.int x2), .val (.int x3)] [] := by first | (simp [entryFrame, mkF, argsToLocals, Value.category]; done) | rfl
theorem pn_24 : plainName "java/lang/String" = true := by first | (simp [plainName, overriddenIn]; done) | decide +kernel
theorem d24_0 : decode jdk_42_method_147_code 0 = .ok (.aload_n 0, 1) := by decide +kernel
theorem d24_1 : decode jdk_42_method_147_code 1 = .ok (.invokevirtual 335, 3) := by decide +kernel
theorem d24_4 : decode jdk_42_method_147_code 4 = .ok (.iload_n 3, 1) := by decide +kernel
theorem d24_5 : decode jdk_42_method_147_code 5 = .ok (.if_icmp .ne 23, 3) := by decide +kernel
theorem d24_8 : decode jdk_42_method_147_code 8 = .ok (.aload_n 0, 1) := by decide +kernel
theorem d24_9 : decode jdk_42_method_147_code 9 = .ok (.getfield 9, 3) := by decide +kernel
theorem d24_12 : decode jdk_42_method_147_code 12 = .ok (.iconst 0, 1) := by decide +kernel
theorem d24_13 : decode jdk_42_method_147_code 13 = .ok (.aload_n 1, 1) := by decide +kernel
theorem d24_14 : decode jdk_42_method_147_code 14 = .ok (.iload_n 2, 1) := by decide +kernel
theorem d24_15 : decode jdk_42_method_147_code 15 = .ok (.iload_n 3, 1) := by decide +kernel
theorem d24_16 : decode jdk_42_method_147_code 16 = .ok (.ishl, 1) := by decide +kernel
theorem d24_17 : decode jdk_42_method_147_code 17 = .ok (.aload_n 0, 1) := by decide +kernel
theorem d24_18 : decode jdk_42_method_147_code 18 = .ok (.getfield 9, 3) := by decide +kernel
theorem d24_21 : decode jdk_42_method_147_code 21 = .ok (.arraylength, 1) := by decide +kernel
theorem d24_22 : decode jdk_42_method_147_code 22 = .ok (.invokestatic 212, 3) := by decide +kernel
theorem d24_25 : decode jdk_42_method_147_code 25 = .ok (.goto 18, 3) := by decide +kernel
theorem d24_43 : decode jdk_42_method_147_code 43 = .ok (.return_, 1) := by decide +kernel
def Q_getBG (Z : State) (x : Nat) (t : Nat) (b : Nat) (kt : ClassId) (kb : ClassId) (wl : List Int32) (cs : List Int32) (zc : Int32) (h0 : Heap) (n0 : Nat) (vR : Option Value) (hR : Heap) (LR : List Loc) : Prop := vR = none ∧ Fr n0 LR ∧ Keep h0 hR [b] ∧ (Arv Z hR b kb .byte (16 : Int32) (own_bz (wl ++ cs)) (.int 0))
set_option maxRecDepth 65536 in
set_option maxHeartbeats 40000000 in
theorem getBG (l : Launch) (Z : State) (a0 : Array Value) (hw : ∀ d ∈ tables_1, d.before a0 Z = true) (ws : List Jvm.Cond) (x : Nat) (t : Nat) (b : Nat) (kt : ClassId) (kb : ClassId) (wl : List Int32) (cs : List Int32) (zc : Int32) (h0 : Heap) (n0 : Nat) (Z0 : n0 ≤ h0.size) (E_x : Exa Z h0 x "java/lang/String") (Fc_x : Fld Z h0 x "java/lang/String" "coder" "B" (.int 0)) (Fv_x : Fld Z h0 x "java/lang/String" "value" "[B" (.ref t)) (V_t : Arv Z h0 t kt .byte (Int32.ofNat cs.length) (own_b cs) (.int 0)) (g_b : n0 ≤ b) (V_b : Arv Z h0 b kb .byte (16 : Int32) (own_bz wl) (.int 0)) (S_C : Sta Z h0 "java/lang/String" "COMPACT_STRINGS" "Z" (.int zc)) (hz : ¬ (zc = (0 : Int32))) (hl : wl.length + cs.length ≤ 16) :
    own_M l (⟨"java/lang/String", "getBytes", "([BIB)V"⟩ : MethodName) jdk_42_method_147_code 4 none ws ({ frames := 1, cells := 0, slots := 0, locals := 18 } : Room) Z #[(.ref x), (.ref b), (.int (Int32.ofNat wl.length)), (.int 0)] h0 (Q_getBG Z x t b kt kb wl cs zc h0 n0) := by
  refine own_body (own := "java/lang/String") rfl (plainFor_of_name pn_24) (fun m => ef_getBG m x b (Int32.ofNat wl.length) (0 : Int32)) ?_
  intro p e s m below meth c s₁ Bd hml hZ hh hx hby hown X0 e0
  have N0 := Fr.nil n0
  have lt1 : h0.size > x := E_x.lt
  have lt2 : h0.size > t := V_t.lt
  have lt3 : h0.size > b := V_b.lt
  refine own_aloadN X0.here hx hby d24_0 rfl rfl ?_
  refine own_virtual X0 hx hZ hown (own_w hw 106 rfl) (own_w hw 107 rfl) (notFace_of_selects (args := #[]) (mvT hZ (own_w hw 109 rfl))) (own_w hw 109 rfl) (own_w hw 108 rfl) (own_w hw 7 rfl) (own_w hw 110 rfl) (by decide) (strCoder l Z a0 hw [] x zc h0 n0 Z0 Fc_x S_C hz) 0 (Nat.le_of_eq rfl) (by decide) (by decide) (by rw [hml]; rfl) (argsL := []) (st := []) E_x (lenOf pd_0 rfl) rfl rfl (by decide) (by decide) e0 hby d24_1 ?_
  intro T4 v4 L4 X4 hQ4
  obtain ⟨rfl, Nq4, eh4⟩ := hQ4
  have N4 := Fr.app N0 Nq4
  refine own_sh (T := T4) 4 #[.val (.ref x), .val (.ref b), .val (.int (Int32.ofNat wl.length)), .val (.int 0)] [(.int 0)] ?_
  refine own_iloadN X4.here hx hby d24_4 rfl ?_
  refine own_icmpNo X4.here hx hby d24_5 (teq (show (0 : Int32) = (0 : Int32) from (by decide))).2 ?_
  refine own_aloadN X4.here hx hby d24_8 rfl rfl ?_
  refine own_getF X4 hx hZ hown (host := "") (Or.inl (own_w hw 24 rfl)) Via.refl eh4 Fv_x hby d24_9 ?_
  intro T5 X5 e5
  refine own_iconst X5.here hx hby d24_12 (v := (0 : Int32)) (by decide) ?_
  refine own_aloadN X5.here hx hby d24_13 rfl rfl ?_
  refine own_iloadN X5.here hx hby d24_14 rfl ?_
  refine own_iloadN X5.here hx hby d24_15 rfl ?_
  refine own_ishl X5.here hx hby d24_16 rfl ?_
  refine own_sh (T := T5) 17 #[.val (.ref x), .val (.ref b), .val (.int (Int32.ofNat wl.length)), .val (.int 0)] [(.int ((Int32.ofNat wl.length) <<< ((0 : Int32) &&& 31))), (.ref b), (.int 0), (.ref t)] ?_
  rw [show ((Int32.ofNat wl.length) <<< ((0 : Int32) &&& 31)) = (Int32.ofNat wl.length) from (own_shl0 _)]
  refine own_aloadN X5.here hx hby d24_17 rfl rfl ?_
  refine own_getF X5 hx hZ hown (host := "") (Or.inl (own_w hw 24 rfl)) Via.refl e5 Fv_x hby d24_18 ?_
  intro T6 X6 e6
  refine own_alen X6 hx hZ e6 V_t hby d24_21 ?_
  refine own_copyL X6 hx hZ hown (own_w hw 134 rfl) (own_w hw 137 rfl) (own_w hw 135 rfl) (own_w hw 136 rfl) e6 V_t V_b (res := (own_bz (wl ++ cs))) rfl 0 wl.length cs.length (by decide) (own_nC (by omega)) (own_nC (by omega)) (by decide) (own_n0 (by omega)) (own_n0 (by omega)) (by rw [own_nC (by omega)]; omega) (by show wl.length + cs.length ≤ 16; omega) (by rw [own_bzL (by omega)]; omega) (own_catB hl) N4 g_b (by rw [hml]; rfl) hby d24_22 (by decide) 0 (Nat.le_of_eq rfl) (by decide) ?_
  intro T7 h7 lo7 X7 e7 N7 K7 V7 z7
  refine own_goto X7.here hx hby (pc' := 43) d24_25 (by decide) (by decide) ?_
  have K8 : Keep h0 h7 [b] := ((Keep.refl h0 [b]).trans K7 (allS (P := fun xq_ => xq_ ∈ [b] ∨ h0.size ≤ xq_) (Or.inl (List.mem_of_getElem? (i := 0) rfl)) all0))
  obtain ⟨fs, hr, hrun, hended, hW, hsame⟩ := X7.leave (v := none) (fun _ => rfl) Bd.notSynchronized
  refine own_ret (t := T7.setFrames fs) ?_ ⟨_, hrun, hended, _, _, rfl, ?_, ⟨_, rfl⟩, hW, hsame.mono (by decide) (by decide)⟩
  · exact X7.returnOut hx Bd.returns (hb hby d24_43) hr
  · show Q_getBG Z _ _ _ _ _ _ _ _ h0 n0 _ T7.heap _
    rw [e7]
    exact ⟨rfl, N7, K8, V7⟩
theorem ef_putG (m : MethodId) (x0 : Nat) (x1 : Int32) (x2 : Nat) : entryFrame m #[(.ref x0), (.int x1), (.ref x2)] 3 = mkF m 0 #[.val (.ref x0), .val (.int x1), .val (.ref x2)] [] := by first | (simp [entryFrame, mkF, argsToLocals, Value.category]; done) | rfl
theorem pn_22 : plainName "java/lang/AbstractStringBuilder" = true := by first | (simp [plainName, overriddenIn]; done) | decide +kernel
theorem d22_0 : decode jdk_68_method_73_code 0 = .ok (.aload_n 0, 1) := by decide +kernel
theorem d22_1 : decode jdk_68_method_73_code 1 = .ok (.aload_n 2, 1) := by decide +kernel
theorem d22_2 : decode jdk_68_method_73_code 2 = .ok (.invokevirtual 397, 3) := by decide +kernel
theorem pd_2 : parseMethodDescriptor "(Ljava/lang/String;)V" = some ⟨[(.object "java/lang/String")], none⟩ := by decide +kernel
theorem d22_5 : decode jdk_68_method_73_code 5 = .ok (.aload_n 2, 1) := by decide +kernel
theorem d22_6 : decode jdk_68_method_73_code 6 = .ok (.aload_n 0, 1) := by decide +kernel
theorem d22_7 : decode jdk_68_method_73_code 7 = .ok (.getfield 15, 3) := by decide +kernel
theorem d22_10 : decode jdk_68_method_73_code 10 = .ok (.iload_n 1, 1) := by decide +kernel
theorem d22_11 : decode jdk_68_method_73_code 11 = .ok (.aload_n 0, 1) := by decide +kernel
theorem d22_12 : decode jdk_68_method_73_code 12 = .ok (.getfield 22, 3) := by decide +kernel
theorem d22_15 : decode jdk_68_method_73_code 15 = .ok (.invokevirtual 399, 3) := by decide +kernel
theorem pd_3 : parseMethodDescriptor "([BIB)V" = some ⟨[(.array .byte), .int, .byte], none⟩ := by decide +kernel
theorem d22_18 : decode jdk_68_method_73_code 18 = .ok (.return_, 1) := by decide +kernel
def Q_putG (Z : State) (sb : Nat) (b : Nat) (x : Nat) (t : Nat) (kb : ClassId) (kt : ClassId) (wl : List Int32) (cs : List Int32) (zc : Int32) (h0 : Heap) (n0 : Nat) (vR : Option Value) (hR : Heap) (LR : List Loc) : Prop := vR = none ∧ Fr n0 LR ∧ Keep h0 hR [b] ∧ (Arv Z hR b kb .byte (16 : Int32) (own_bz (wl ++ cs)) (.int 0))
set_option maxRecDepth 65536 in
set_option maxHeartbeats 40000000 in
theorem putG (l : Launch) (Z : State) (a0 : Array Value) (hw : ∀ d ∈ tables_1, d.before a0 Z = true) (ws : List Jvm.Cond) (sb : Nat) (b : Nat) (x : Nat) (t : Nat) (kb : ClassId) (kt : ClassId) (wl : List Int32) (cs : List Int32) (zc : Int32) (h0 : Heap) (n0 : Nat) (Z0 : n0 ≤ h0.size) (E_sb : Exa Z h0 sb "java/lang/StringBuilder") (F_value_sb : Fld Z h0 sb "java/lang/AbstractStringBuilder" "value" "[B" (.ref b)) (F_coder_sb : Fld Z h0 sb "java/lang/AbstractStringBuilder" "coder" "B" (.int 0)) (V_b : Arv Z h0 b kb .byte (16 : Int32) (own_bz wl) (.int 0)) (E_x : Exa Z h0 x "java/lang/String") (Fc_x : Fld Z h0 x "java/lang/String" "coder" "B" (.int 0)) (Fv_x : Fld Z h0 x "java/lang/String" "value" "[B" (.ref t)) (V_t : Arv Z h0 t kt .byte (Int32.ofNat cs.length) (own_b cs) (.int 0)) (g_b : n0 ≤ b) (S_C : Sta Z h0 "java/lang/String" "COMPACT_STRINGS" "Z" (.int zc)) (hz : ¬ (zc = (0 : Int32))) (hl : wl.length + cs.length ≤ 16) :
    own_M l (⟨"java/lang/AbstractStringBuilder", "putStringAt", "(ILjava/lang/String;)V"⟩ : MethodName) jdk_68_method_73_code 3 none ws ({ frames := 2, cells := 0, slots := 0, locals := 33 } : Room) Z #[(.ref sb), (.int (Int32.ofNat wl.length)), (.ref x)] h0 (Q_putG Z sb b x t kb kt wl cs zc h0 n0) := by
  refine own_body (own := "java/lang/AbstractStringBuilder") rfl (plainFor_of_name pn_22) (fun m => ef_putG m sb (Int32.ofNat wl.length) x) ?_
  intro p e s m below meth c s₁ Bd hml hZ hh hx hby hown X0 e0
  have N0 := Fr.nil n0
  have lt1 : h0.size > sb := E_sb.lt
  have lt2 : h0.size > b := V_b.lt
  have lt3 : h0.size > x := E_x.lt
  have lt4 : h0.size > t := V_t.lt
  refine own_aloadN X0.here hx hby d22_0 rfl rfl ?_
  refine own_aloadN X0.here hx hby d22_1 rfl rfl ?_
  refine own_privateS X0 hx hZ hown (own_w hw 123 rfl) (own_w hw 124 rfl) (own_w hw 126 rfl) (own_w hw 125 rfl) (own_w hw 82 rfl) (own_w hw 127 rfl) (by decide) (asbInfl l Z a0 hw [] sb x zc h0 n0 Z0 F_coder_sb E_x Fc_x S_C hz) 0 (Nat.le_of_eq rfl) (by decide) (by decide) (by rw [hml]; rfl) (argsL := [(.ref x)]) (st := []) E_sb (lenOf pd_2 rfl) rfl rfl (by decide) (by decide) e0 hby d22_2 ?_
  intro T5 v5 L5 X5 hQ5
  obtain ⟨rfl, Nq5, eh5⟩ := hQ5
  have N5 := Fr.app N0 Nq5
  refine own_sh (T := T5) 5 #[.val (.ref sb), .val (.int (Int32.ofNat wl.length)), .val (.ref x)] [] ?_
  refine own_aloadN X5.here hx hby d22_5 rfl rfl ?_
  refine own_aloadN X5.here hx hby d22_6 rfl rfl ?_
  refine own_getF X5 hx hZ hown (host := "") (Or.inl (own_w hw 86 rfl)) Via.refl eh5 F_value_sb hby d22_7 ?_
  intro T6 X6 e6
  refine own_iloadN X6.here hx hby d22_10 rfl ?_
  refine own_aloadN X6.here hx hby d22_11 rfl rfl ?_
  refine own_getF X6 hx hZ hown (host := "") (Or.inl (own_w hw 88 rfl)) Via.refl e6 F_coder_sb hby d22_12 ?_
  intro T7 X7 e7
  refine own_virtual X7 hx hZ hown (own_w hw 129 rfl) (own_w hw 130 rfl) (notFace_of_selects (args := #[]) (mvT hZ (own_w hw 132 rfl))) (own_w hw 132 rfl) (own_w hw 131 rfl) (own_w hw 7 rfl) (own_w hw 133 rfl) (by decide) (getBG l Z a0 hw [] x t b kt kb wl cs zc h0 n0 Z0 E_x Fc_x Fv_x V_t g_b V_b S_C hz hl) 0 (Nat.le_of_eq rfl) (by decide) (by decide) (by rw [hml]; rfl) (argsL := [(.ref b), (.int (Int32.ofNat wl.length)), (.int 0)]) (st := []) E_x (lenOf pd_3 rfl) rfl rfl (by decide) (by decide) e7 hby d22_15 ?_
  intro T8 v8 L8 X8 hQ8
  obtain ⟨rfl, Nq8, K8, P8_0⟩ := hQ8
  have N8 := Fr.app N5 Nq8
  have z9 : h0.size ≤ T8.heap.size := K8.1
  have lt10 : T8.heap.size > b := P8_0.lt
  refine own_sh (T := T8) 18 #[.val (.ref sb), .val (.int (Int32.ofNat wl.length)), .val (.ref x)] [] ?_
  have K11 : Keep h0 T8.heap [b] := ((Keep.refl h0 [b]).trans K8 (allS (P := fun xq_ => xq_ ∈ [b] ∨ h0.size ≤ xq_) (Or.inl (List.mem_of_getElem? (i := 0) rfl)) all0))
  obtain ⟨fs, hr, hrun, hended, hW, hsame⟩ := X8.leave (v := none) (fun _ => rfl) Bd.notSynchronized
  refine own_ret (t := T8.setFrames fs) ?_ ⟨_, hrun, hended, _, _, rfl, ?_, ⟨_, rfl⟩, hW, hsame.mono (by decide) (by decide)⟩
  · exact X8.returnOut hx Bd.returns (hb hby d22_18) hr
  · show Q_putG Z _ _ _ _ _ _ _ _ _ h0 n0 _ T8.heap _
    exact ⟨rfl, N8, K11, P8_0⟩
theorem ef_asbAppG (m : MethodId) (x0 : Nat) (x1 : Nat) : entryFrame m #[(.ref x0), (.ref x1)] 3 = mkF m 0 #[.val (.ref x0), .val (.ref x1), .unset] [] := by first | (simp [entryFrame, mkF, argsToLocals, Value.category]; done) | rfl
theorem pn_18 : plainName "java/lang/AbstractStringBuilder" = true := by first | (simp [plainName, overriddenIn]; done) | decide +kernel
theorem d18_0 : decode jdk_68_method_22_code 0 = .ok (.aload_n 1, 1) := by decide +kernel
theorem d18_1 : decode jdk_68_method_22_code 1 = .ok (.ifnonnull 8, 3) := by decide +kernel
theorem d18_9 : decode jdk_68_method_22_code 9 = .ok (.aload_n 1, 1) := by decide +kernel
theorem d18_10 : decode jdk_68_method_22_code 10 = .ok (.invokevirtual 32, 3) := by decide +kernel
theorem pd_4 : parseMethodDescriptor "()I" = some ⟨[], some .int⟩ := by decide +kernel
theorem d18_13 : decode jdk_68_method_22_code 13 = .ok (.istore_n 2, 1) := by decide +kernel
theorem d18_14 : decode jdk_68_method_22_code 14 = .ok (.aload_n 0, 1) := by decide +kernel
theorem d18_15 : decode jdk_68_method_22_code 15 = .ok (.aload_n 0, 1) := by decide +kernel
theorem d18_16 : decode jdk_68_method_22_code 16 = .ok (.getfield 79, 3) := by decide +kernel
theorem d18_19 : decode jdk_68_method_22_code 19 = .ok (.iload_n 2, 1) := by decide +kernel
theorem d18_20 : decode jdk_68_method_22_code 20 = .ok (.iadd, 1) := by decide +kernel
theorem d18_21 : decode jdk_68_method_22_code 21 = .ok (.invokevirtual 100, 3) := by decide +kernel
theorem d18_24 : decode jdk_68_method_22_code 24 = .ok (.aload_n 0, 1) := by decide +kernel
theorem d18_25 : decode jdk_68_method_22_code 25 = .ok (.aload_n 0, 1) := by decide +kernel
theorem d18_26 : decode jdk_68_method_22_code 26 = .ok (.getfield 79, 3) := by decide +kernel
theorem d18_29 : decode jdk_68_method_22_code 29 = .ok (.aload_n 1, 1) := by decide +kernel
theorem d18_30 : decode jdk_68_method_22_code 30 = .ok (.invokevirtual 208, 3) := by decide +kernel
theorem pd_5 : parseMethodDescriptor "(ILjava/lang/String;)V" = some ⟨[.int, (.object "java/lang/String")], none⟩ := by decide +kernel
theorem d18_33 : decode jdk_68_method_22_code 33 = .ok (.aload_n 0, 1) := by decide +kernel
theorem d18_34 : decode jdk_68_method_22_code 34 = .ok (.dup, 1) := by decide +kernel
theorem d18_35 : decode jdk_68_method_22_code 35 = .ok (.getfield 79, 3) := by decide +kernel
theorem d18_38 : decode jdk_68_method_22_code 38 = .ok (.iload_n 2, 1) := by decide +kernel
theorem d18_39 : decode jdk_68_method_22_code 39 = .ok (.iadd, 1) := by decide +kernel
theorem d18_40 : decode jdk_68_method_22_code 40 = .ok (.putfield 79, 3) := by decide +kernel
theorem d18_43 : decode jdk_68_method_22_code 43 = .ok (.aload_n 0, 1) := by decide +kernel
theorem d18_44 : decode jdk_68_method_22_code 44 = .ok (.areturn, 1) := by decide +kernel
def Q_asbAppG (Z : State) (sb : Nat) (b : Nat) (x : Nat) (t : Nat) (kb : ClassId) (kt : ClassId) (wl : List Int32) (cs : List Int32) (zc : Int32) (h0 : Heap) (n0 : Nat) (vR : Option Value) (hR : Heap) (LR : List Loc) : Prop := vR = some (.ref sb) ∧ Fr n0 LR ∧ Keep h0 hR [sb, b] ∧ (Exa Z hR sb "java/lang/StringBuilder") ∧ (Fld Z hR sb "java/lang/AbstractStringBuilder" "value" "[B" (.ref b)) ∧ (Fld Z hR sb "java/lang/AbstractStringBuilder" "coder" "B" (.int 0)) ∧ (Fld Z hR sb "java/lang/AbstractStringBuilder" "count" "I" (.int (Int32.ofNat (wl ++ cs).length))) ∧ (Arv Z hR b kb .byte (16 : Int32) (own_bz (wl ++ cs)) (.int 0))
set_option maxRecDepth 65536 in
set_option maxHeartbeats 40000000 in
theorem asbAppG (l : Launch) (Z : State) (a0 : Array Value) (hw : ∀ d ∈ tables_1, d.before a0 Z = true) (ws : List Jvm.Cond) (sb : Nat) (b : Nat) (x : Nat) (t : Nat) (kb : ClassId) (kt : ClassId) (wl : List Int32) (cs : List Int32) (zc : Int32) (h0 : Heap) (n0 : Nat) (Z0 : n0 ≤ h0.size) (E_sb : Exa Z h0 sb "java/lang/StringBuilder") (F_value_sb : Fld Z h0 sb "java/lang/AbstractStringBuilder" "value" "[B" (.ref b)) (F_coder_sb : Fld Z h0 sb "java/lang/AbstractStringBuilder" "coder" "B" (.int 0)) (V_b : Arv Z h0 b kb .byte (16 : Int32) (own_bz wl) (.int 0)) (E_x : Exa Z h0 x "java/lang/String") (Fc_x : Fld Z h0 x "java/lang/String" "coder" "B" (.int 0)) (Fv_x : Fld Z h0 x "java/lang/String" "value" "[B" (.ref t)) (V_t : Arv Z h0 t kt .byte (Int32.ofNat cs.length) (own_b cs) (.int 0)) (g_b : n0 ≤ b) (S_C : Sta Z h0 "java/lang/String" "COMPACT_STRINGS" "Z" (.int zc)) (hz : ¬ (zc = (0 : Int32))) (hl : wl.length + cs.length ≤ 16) (g_sb : n0 ≤ sb) (F_count_sb : Fld Z h0 sb "java/lang/AbstractStringBuilder" "count" "I" (.int (Int32.ofNat wl.length))) :
    own_M l (⟨"java/lang/AbstractStringBuilder", "append", "(Ljava/lang/String;)Ljava/lang/AbstractStringBuilder;"⟩ : MethodName) jdk_68_method_22_code 3 (some (.object "java/lang/AbstractStringBuilder")) ws ({ frames := 3, cells := 0, slots := 0, locals := 47 } : Room) Z #[(.ref sb), (.ref x)] h0 (Q_asbAppG Z sb b x t kb kt wl cs zc h0 n0) := by
  refine own_body (own := "java/lang/AbstractStringBuilder") rfl (plainFor_of_name pn_18) (fun m => ef_asbAppG m sb x) ?_
  intro p e s m below meth c s₁ Bd hml hZ hh hx hby hown X0 e0
  have N0 := Fr.nil n0
  have lt1 : h0.size > sb := E_sb.lt
  have lt2 : h0.size > b := V_b.lt
  have lt3 : h0.size > x := E_x.lt
  have lt4 : h0.size > t := V_t.lt
  refine own_aloadN X0.here hx hby d18_0 rfl rfl ?_
  refine own_ifnonnullYes X0.here hx hby (pc' := 9) d18_1 (by decide) (by decide) ?_
  refine own_aloadN X0.here hx hby d18_9 rfl rfl ?_
  refine own_virtual X0 hx hZ hown (own_w hw 101 rfl) (own_w hw 102 rfl) (notFace_of_selects (args := #[]) (mvT hZ (own_w hw 104 rfl))) (own_w hw 104 rfl) (own_w hw 103 rfl) (own_w hw 7 rfl) (own_w hw 105 rfl) (by decide) (lenG l Z a0 hw [] x t kt cs zc h0 n0 Z0 E_x Fc_x Fv_x V_t S_C hz) 0 (Nat.le_of_eq rfl) (by decide) (by decide) (by rw [hml]; rfl) (argsL := []) (st := []) E_x (lenOf pd_4 rfl) rfl rfl (by decide) (by decide) e0 hby d18_10 ?_
  intro T5 v5 L5 X5 hQ5
  obtain ⟨rfl, Nq5, eh5⟩ := hQ5
  have N5 := Fr.app N0 Nq5
  refine own_sh (T := T5) 13 #[.val (.ref sb), .val (.ref x), .unset] [(.int (Int32.ofNat cs.length))] ?_
  refine own_istoreN X5.here hx hby d18_13 (l' := #[.val (.ref sb), .val (.ref x), .val (.int (Int32.ofNat cs.length))]) rfl ?_
  refine own_aloadN X5.here hx hby d18_14 rfl rfl ?_
  refine own_aloadN X5.here hx hby d18_15 rfl rfl ?_
  refine own_getF X5 hx hZ hown (host := "") (Or.inl (own_w hw 111 rfl)) Via.refl eh5 F_count_sb hby d18_16 ?_
  intro T6 X6 e6
  refine own_iloadN X6.here hx hby d18_19 rfl ?_
  refine own_iadd X6.here hx hby d18_20 rfl ?_
  refine own_sh (T := T6) 21 #[.val (.ref sb), .val (.ref x), .val (.int (Int32.ofNat cs.length))] [(.int ((Int32.ofNat wl.length) + (Int32.ofNat cs.length))), (.ref sb)] ?_
  rw [show ((Int32.ofNat wl.length) + (Int32.ofNat cs.length)) = (Int32.ofNat (wl ++ cs).length) from (own_naddL (by omega))]
  refine own_privateS X6 hx hZ hown (own_w hw 113 rfl) (own_w hw 114 rfl) (own_w hw 116 rfl) (own_w hw 115 rfl) (own_w hw 82 rfl) (own_w hw 117 rfl) (by decide) (ensG l Z a0 hw [] sb b kb (own_bz wl) (Int32.ofNat (wl ++ cs).length) h0 n0 Z0 F_value_sb F_coder_sb V_b (own_cap (by rw [List.length_append]; omega))) 0 (Nat.le_of_eq rfl) (by decide) (by decide) (by rw [hml]; rfl) (argsL := [(.int (Int32.ofNat (wl ++ cs).length))]) (st := []) E_sb (lenOf pd_1 rfl) rfl rfl (by decide) (by decide) e6 hby d18_21 ?_
  intro T7 v7 L7 X7 hQ7
  obtain ⟨rfl, Nq7, eh7⟩ := hQ7
  have N7 := Fr.app N5 Nq7
  refine own_sh (T := T7) 24 #[.val (.ref sb), .val (.ref x), .val (.int (Int32.ofNat cs.length))] [] ?_
  refine own_aloadN X7.here hx hby d18_24 rfl rfl ?_
  refine own_aloadN X7.here hx hby d18_25 rfl rfl ?_
  refine own_getF X7 hx hZ hown (host := "") (Or.inl (own_w hw 111 rfl)) Via.refl eh7 F_count_sb hby d18_26 ?_
  intro T8 X8 e8
  refine own_aloadN X8.here hx hby d18_29 rfl rfl ?_
  refine own_privateS X8 hx hZ hown (own_w hw 118 rfl) (own_w hw 119 rfl) (own_w hw 121 rfl) (own_w hw 120 rfl) (own_w hw 82 rfl) (own_w hw 122 rfl) (by decide) (putG l Z a0 hw [] sb b x t kb kt wl cs zc h0 n0 Z0 E_sb F_value_sb F_coder_sb V_b E_x Fc_x Fv_x V_t g_b S_C hz hl) 0 (Nat.le_of_eq rfl) (by decide) (by decide) (by rw [hml]; rfl) (argsL := [(.int (Int32.ofNat wl.length)), (.ref x)]) (st := []) E_sb (lenOf pd_5 rfl) rfl rfl (by decide) (by decide) e8 hby d18_30 ?_
  intro T9 v9 L9 X9 hQ9
  obtain ⟨rfl, Nq9, K9, P9_0⟩ := hQ9
  have N9 := Fr.app N7 Nq9
  have z10 : h0.size ≤ T9.heap.size := K9.1
  have lt11 : T9.heap.size > b := P9_0.lt
  refine own_sh (T := T9) 33 #[.val (.ref sb), .val (.ref x), .val (.int (Int32.ofNat cs.length))] [] ?_
  refine own_aloadN X9.here hx hby d18_33 rfl rfl ?_
  refine own_dup X9.here hx hby d18_34 rfl ?_
  have f12 := (F_count_sb.keep K9 (ninS (own_ne_oa E_sb (own_w hw 73 rfl) V_b) nin0))
  refine own_getF X9 hx hZ hown (host := "") (Or.inl (own_w hw 111 rfl)) Via.refl rfl f12 hby d18_35 ?_
  intro T13 X13 e13
  refine own_iloadN X13.here hx hby d18_38 rfl ?_
  refine own_iadd X13.here hx hby d18_39 rfl ?_
  refine own_sh (T := T13) 40 #[.val (.ref sb), .val (.ref x), .val (.int (Int32.ofNat cs.length))] [(.int ((Int32.ofNat wl.length) + (Int32.ofNat cs.length))), (.ref sb)] ?_
  rw [show ((Int32.ofNat wl.length) + (Int32.ofNat cs.length)) = (Int32.ofNat (wl ++ cs).length) from (own_naddL (by omega))]
  have f14 := (E_sb.keep K9)
  refine own_putF X13 hx hZ (ty := .int) hown (host := "") (Or.inl (own_w hw 111 rfl)) Via.refl e13 f12 f14 (Or.inl (own_w hw 112 rfl)) (own_w hw 73 rfl) (by decide) rfl rfl hby d18_40 N9 g_sb ?_
  intro T15 h15 lo15 X15 e15 N15 W15 F15 z15
  refine own_aloadN X15.here hx hby d18_43 rfl rfl ?_
  have K16 : Keep h0 h15 [sb, b] := (((Keep.refl h0 [sb, b]).trans K9 (allS (P := fun xq_ => xq_ ∈ [sb, b] ∨ h0.size ≤ xq_) (Or.inl (List.mem_of_getElem? (i := 1) rfl)) all0)).wr W15 (Or.inl (List.mem_of_getElem? (i := 0) rfl)))
  have f17 := (f14.wr W15)
  have f18 := ((F_value_sb.keep K9 (ninS (own_ne_oa E_sb (own_w hw 73 rfl) V_b) nin0)).other W15 (Or.inr (slot_ne (Or.inl (own_w hw 87 rfl)) (Or.inl (own_w hw 112 rfl)) (by decide) (t := (.array .byte)) (t' := .int) (by decide) (by decide))))
  have f19 := ((F_coder_sb.keep K9 (ninS (own_ne_oa E_sb (own_w hw 73 rfl) V_b) nin0)).other W15 (Or.inr (slot_ne (Or.inl (own_w hw 89 rfl)) (Or.inl (own_w hw 112 rfl)) (by decide) (t := .byte) (t' := .int) (by decide) (by decide))))
  have f20 := (P9_0.other W15 (Ne.symm (own_ne_oa E_sb (own_w hw 73 rfl) V_b)))
  obtain ⟨fs, hr, hrun, hended, hW, hsame⟩ := X15.leave (v := some (.ref sb)) (fun h => by rw [Bd.returns] at h; cases h) Bd.notSynchronized
  refine own_ret (t := T15.setFrames fs) ?_ ⟨_, hrun, hended, _, _, rfl, ?_, ⟨_, rfl⟩, hW, hsame.mono (by decide) (by decide)⟩
  · exact retOut X15 hx Bd.returns rfl (Or.inr (Or.inr (Or.inr (Or.inr ⟨rfl, rfl, rfl⟩)))) (hb hby d18_44) hr
  · show Q_asbAppG Z _ _ _ _ _ _ _ _ _ h0 n0 _ T15.heap _
    rw [e15]
    exact ⟨rfl, N15, K16, f17, f18, f19, F15, f20⟩
theorem ef_sbAppG (m : MethodId) (x0 : Nat) (x1 : Nat) : entryFrame m #[(.ref x0), (.ref x1)] 2 = mkF m 0 #[.val (.ref x0), .val (.ref x1)] [] := by first | (simp [entryFrame, mkF, argsToLocals, Value.category]; done) | rfl
theorem pn_17 : plainName "java/lang/StringBuilder" = true := by first | (simp [plainName, overriddenIn]; done) | decide +kernel
theorem d17_0 : decode jdk_67_method_7_code 0 = .ok (.aload_n 0, 1) := by decide +kernel
theorem d17_1 : decode jdk_67_method_7_code 1 = .ok (.aload_n 1, 1) := by decide +kernel
theorem d17_2 : decode jdk_67_method_7_code 2 = .ok (.invokespecial 29, 3) := by decide +kernel
theorem pd_6 : parseMethodDescriptor "(Ljava/lang/String;)Ljava/lang/AbstractStringBuilder;" = some ⟨[(.object "java/lang/String")], some (.object "java/lang/AbstractStringBuilder")⟩ := by decide +kernel
theorem d17_5 : decode jdk_67_method_7_code 5 = .ok (.pop, 1) := by decide +kernel
theorem d17_6 : decode jdk_67_method_7_code 6 = .ok (.aload_n 0, 1) := by decide +kernel
theorem d17_7 : decode jdk_67_method_7_code 7 = .ok (.areturn, 1) := by decide +kernel
def Q_sbAppG (Z : State) (sb : Nat) (b : Nat) (x : Nat) (t : Nat) (kb : ClassId) (kt : ClassId) (wl : List Int32) (cs : List Int32) (zc : Int32) (h0 : Heap) (n0 : Nat) (vR : Option Value) (hR : Heap) (LR : List Loc) : Prop := vR = some (.ref sb) ∧ Fr n0 LR ∧ Keep h0 hR [sb, b] ∧ (Exa Z hR sb "java/lang/StringBuilder") ∧ (Fld Z hR sb "java/lang/AbstractStringBuilder" "value" "[B" (.ref b)) ∧ (Fld Z hR sb "java/lang/AbstractStringBuilder" "coder" "B" (.int 0)) ∧ (Fld Z hR sb "java/lang/AbstractStringBuilder" "count" "I" (.int (Int32.ofNat (wl ++ cs).length))) ∧ (Arv Z hR b kb .byte (16 : Int32) (own_bz (wl ++ cs)) (.int 0))
set_option maxRecDepth 65536 in
set_option maxHeartbeats 40000000 in
theorem sbAppG (l : Launch) (Z : State) (a0 : Array Value) (hw : ∀ d ∈ tables_1, d.before a0 Z = true) (ws : List Jvm.Cond) (sb : Nat) (b : Nat) (x : Nat) (t : Nat) (kb : ClassId) (kt : ClassId) (wl : List Int32) (cs : List Int32) (zc : Int32) (h0 : Heap) (n0 : Nat) (Z0 : n0 ≤ h0.size) (E_sb : Exa Z h0 sb "java/lang/StringBuilder") (F_value_sb : Fld Z h0 sb "java/lang/AbstractStringBuilder" "value" "[B" (.ref b)) (F_coder_sb : Fld Z h0 sb "java/lang/AbstractStringBuilder" "coder" "B" (.int 0)) (V_b : Arv Z h0 b kb .byte (16 : Int32) (own_bz wl) (.int 0)) (E_x : Exa Z h0 x "java/lang/String") (Fc_x : Fld Z h0 x "java/lang/String" "coder" "B" (.int 0)) (Fv_x : Fld Z h0 x "java/lang/String" "value" "[B" (.ref t)) (V_t : Arv Z h0 t kt .byte (Int32.ofNat cs.length) (own_b cs) (.int 0)) (g_b : n0 ≤ b) (S_C : Sta Z h0 "java/lang/String" "COMPACT_STRINGS" "Z" (.int zc)) (hz : ¬ (zc = (0 : Int32))) (hl : wl.length + cs.length ≤ 16) (g_sb : n0 ≤ sb) (F_count_sb : Fld Z h0 sb "java/lang/AbstractStringBuilder" "count" "I" (.int (Int32.ofNat wl.length))) :
    own_M l (⟨"java/lang/StringBuilder", "append", "(Ljava/lang/String;)Ljava/lang/StringBuilder;"⟩ : MethodName) jdk_67_method_7_code 2 (some (.object "java/lang/StringBuilder")) ws ({ frames := 4, cells := 0, slots := 0, locals := 61 } : Room) Z #[(.ref sb), (.ref x)] h0 (Q_sbAppG Z sb b x t kb kt wl cs zc h0 n0) := by
  refine own_body (own := "java/lang/StringBuilder") rfl (plainFor_of_name pn_17) (fun m => ef_sbAppG m sb x) ?_
  intro p e s m below meth c s₁ Bd hml hZ hh hx hby hown X0 e0
  have N0 := Fr.nil n0
  have lt1 : h0.size > sb := E_sb.lt
  have lt2 : h0.size > b := V_b.lt
  have lt3 : h0.size > x := E_x.lt
  have lt4 : h0.size > t := V_t.lt
  refine own_aloadN X0.here hx hby d17_0 rfl rfl ?_
  refine own_aloadN X0.here hx hby d17_1 rfl rfl ?_
  refine own_super X0 hx hZ (by decide) hown (own_w hw 96 rfl) (own_sameM (y := (⟨"java/lang/AbstractStringBuilder", "append", "(Ljava/lang/String;)Ljava/lang/AbstractStringBuilder;"⟩ : MethodName)) (y' := (⟨"java/lang/AbstractStringBuilder", "ensureCapacityInternal", "(I)V"⟩ : MethodName)) rfl (own_w hw 97 rfl) (own_w hw 116 rfl) (by decide)) (own_w hw 97 rfl) (own_w hw 98 rfl) (own_w hw 82 rfl) (own_w hw 100 rfl) (asbAppG l Z a0 hw [] sb b x t kb kt wl cs zc h0 n0 Z0 E_sb F_value_sb F_coder_sb V_b E_x Fc_x Fv_x V_t g_b S_C hz hl g_sb F_count_sb) 0 (Nat.le_of_eq rfl) (by decide) (by decide) (by rw [hml]; rfl) (argsL := [(.ref x)]) (st := []) E_sb (lenOf pd_6 rfl) rfl rfl (by decide) (by decide) e0 hby d17_2 ?_
  intro T5 v5 L5 X5 hQ5
  obtain ⟨rfl, Nq5, K5, P5_0, P5_1, P5_2, P5_3, P5_4⟩ := hQ5
  have N5 := Fr.app N0 Nq5
  have z6 : h0.size ≤ T5.heap.size := K5.1
  have lt7 : T5.heap.size > sb := P5_0.lt
  have lt8 : T5.heap.size > b := P5_4.lt
  refine own_sh (T := T5) 5 #[.val (.ref sb), .val (.ref x)] [(.ref sb)] ?_
  refine own_pop X5.here hx hby d17_5 rfl ?_
  refine own_aloadN X5.here hx hby d17_6 rfl rfl ?_
  have K9 : Keep h0 T5.heap [sb, b] := ((Keep.refl h0 [sb, b]).trans K5 (allS (P := fun xq_ => xq_ ∈ [sb, b] ∨ h0.size ≤ xq_) (Or.inl (List.mem_of_getElem? (i := 0) rfl)) (allS (P := fun xq_ => xq_ ∈ [sb, b] ∨ h0.size ≤ xq_) (Or.inl (List.mem_of_getElem? (i := 1) rfl)) all0)))
  obtain ⟨fs, hr, hrun, hended, hW, hsame⟩ := X5.leave (v := some (.ref sb)) (fun h => by rw [Bd.returns] at h; cases h) Bd.notSynchronized
  refine own_ret (t := T5.setFrames fs) ?_ ⟨_, hrun, hended, _, _, rfl, ?_, ⟨_, rfl⟩, hW, hsame.mono (by decide) (by decide)⟩
  · exact retOut X5 hx Bd.returns rfl (Or.inr (Or.inr (Or.inr (Or.inr ⟨rfl, rfl, rfl⟩)))) (hb hby d17_7) hr
  · show Q_sbAppG Z _ _ _ _ _ _ _ _ _ h0 n0 _ T5.heap _
    exact ⟨rfl, N5, K9, P5_0, P5_1, P5_2, P5_3, P5_4⟩
theorem ef_min16 (m : MethodId) (x0 : Int32) (x1 : Int32) : entryFrame m #[(.int x0), (.int x1)] 2 = mkF m 0 #[.val (.int x0), .val (.int x1)] [] := by first | (simp [entryFrame, mkF, argsToLocals, Value.category]; done) | rfl
theorem d39_0 : decode jdk_29_method_69_code 0 = .ok (.iload_n 0, 1) := by decide +kernel
theorem d39_1 : decode jdk_29_method_69_code 1 = .ok (.iload_n 1, 1) := by decide +kernel
theorem d39_2 : decode jdk_29_method_69_code 2 = .ok (.if_icmp .gt 7, 3) := by decide +kernel
theorem d39_9 : decode jdk_29_method_69_code 9 = .ok (.iload_n 1, 1) := by decide +kernel
theorem d39_10 : decode jdk_29_method_69_code 10 = .ok (.ireturn, 1) := by decide +kernel
def Q_min16 (Z : State) (z_ : Int32) (h0 : Heap) (n0 : Nat) (vR : Option Value) (hR : Heap) (LR : List Loc) : Prop := vR = some (.int z_) ∧ Fr n0 LR ∧ hR = h0
set_option maxRecDepth 65536 in
set_option maxHeartbeats 40000000 in
theorem min16 (l : Launch) (Z : State) (a0 : Array Value) (hw : ∀ d ∈ tables_1, d.before a0 Z = true) (ws : List Jvm.Cond) (z_ : Int32) (h0 : Heap) (n0 : Nat) (Z0 : n0 ≤ h0.size) (h16 : z_ < (16 : Int32)) :
    own_M l (⟨"java/lang/Math", "min", "(II)I"⟩ : MethodName) jdk_29_method_69_code 2 (some .int) ws ({ frames := 0, cells := 0, slots := 0, locals := 0 } : Room) Z #[(.int 16), (.int z_)] h0 (Q_min16 Z z_ h0 n0) := by
  refine own_body (own := "java/lang/Math") rfl (Jvm.Free.JP.mathPlain rfl (by decide +kernel)) (fun m => ef_min16 m (16 : Int32) z_) ?_
  intro p e s m below meth c s₁ Bd hml hZ hh hx hby hown X0 e0
  have N0 := Fr.nil n0
  refine own_iloadN X0.here hx hby d39_0 rfl ?_
  refine own_iloadN X0.here hx hby d39_1 rfl ?_
  refine own_icmpYes X0.here hx hby (pc' := 9) d39_2 (tlt h16).2.2.1 (by decide) (by decide) ?_
  refine own_iloadN X0.here hx hby d39_9 rfl ?_
  obtain ⟨fs, hr, hrun, hended, hW, hsame⟩ := X0.leave (v := some (.int z_)) (fun h => by rw [Bd.returns] at h; cases h) Bd.notSynchronized
  refine own_ret (t := s₁.setFrames fs) ?_ ⟨_, hrun, hended, _, _, rfl, ?_, ⟨_, rfl⟩, hW, hsame.mono (by decide) (by decide)⟩
  · exact retOut X0 hx Bd.returns rfl (Or.inl ⟨rfl, Or.inl rfl, _, rfl⟩) (hb hby d39_10) hr
  · show Q_min16 Z _ h0 n0 _ s₁.heap _
    rw [e0]
    exact ⟨rfl, N0, rfl⟩
theorem d39_5 : decode jdk_29_method_69_code 5 = .ok (.iload_n 0, 1) := by decide +kernel
theorem d39_6 : decode jdk_29_method_69_code 6 = .ok (.goto 4, 3) := by decide +kernel
def Q_minS (Z : State) (z_ : Int32) (h0 : Heap) (n0 : Nat) (vR : Option Value) (hR : Heap) (LR : List Loc) : Prop := vR = some (.int z_) ∧ Fr n0 LR ∧ hR = h0
set_option maxRecDepth 65536 in
set_option maxHeartbeats 40000000 in
theorem minS (l : Launch) (Z : State) (a0 : Array Value) (hw : ∀ d ∈ tables_1, d.before a0 Z = true) (ws : List Jvm.Cond) (z_ : Int32) (h0 : Heap) (n0 : Nat) (Z0 : n0 ≤ h0.size)  :
    own_M l (⟨"java/lang/Math", "min", "(II)I"⟩ : MethodName) jdk_29_method_69_code 2 (some .int) ws ({ frames := 0, cells := 0, slots := 0, locals := 0 } : Room) Z #[(.int z_), (.int z_)] h0 (Q_minS Z z_ h0 n0) := by
  refine own_body (own := "java/lang/Math") rfl (Jvm.Free.JP.mathPlain rfl (by decide +kernel)) (fun m => ef_min16 m z_ z_) ?_
  intro p e s m below meth c s₁ Bd hml hZ hh hx hby hown X0 e0
  have N0 := Fr.nil n0
  refine own_iloadN X0.here hx hby d39_0 rfl ?_
  refine own_iloadN X0.here hx hby d39_1 rfl ?_
  refine own_icmpNo X0.here hx hby d39_2 (flt Int32.lt_irrefl).2.2.1 ?_
  refine own_iloadN X0.here hx hby d39_5 rfl ?_
  refine own_goto X0.here hx hby (pc' := 10) d39_6 (by decide) (by decide) ?_
  obtain ⟨fs, hr, hrun, hended, hW, hsame⟩ := X0.leave (v := some (.int z_)) (fun h => by rw [Bd.returns] at h; cases h) Bd.notSynchronized
  refine own_ret (t := s₁.setFrames fs) ?_ ⟨_, hrun, hended, _, _, rfl, ?_, ⟨_, rfl⟩, hW, hsame.mono (by decide) (by decide)⟩
  · exact retOut X0 hx Bd.returns rfl (Or.inl ⟨rfl, Or.inl rfl, _, rfl⟩) (hb hby d39_10) hr
  · show Q_minS Z _ h0 n0 _ s₁.heap _
    rw [e0]
    exact ⟨rfl, N0, rfl⟩
theorem ef_chkL (m : MethodId) (x0 : Int32) (x1 : Int32) : entryFrame m #[(.int x0), (.int x1)] 2 = mkF m 0 #[.val (.int x0), .val (.int x1)] [] := by first | (simp [entryFrame, mkF, argsToLocals, Value.category]; done) | rfl
theorem pn_38 : plainName "java/util/Arrays" = true := by first | (simp [plainName, overriddenIn]; done) | decide +kernel
theorem d38_0 : decode jdk_65_method_131_code 0 = .ok (.iload_n 1, 1) := by decide +kernel
theorem d38_1 : decode jdk_65_method_131_code 1 = .ok (.iload_n 0, 1) := by decide +kernel
theorem d38_2 : decode jdk_65_method_131_code 2 = .ok (.if_icmp .ge 35, 3) := by decide +kernel
theorem d38_37 : decode jdk_65_method_131_code 37 = .ok (.return_, 1) := by decide +kernel
def Q_chkL (Z : State) (f_ : Int32) (t_ : Int32) (h0 : Heap) (n0 : Nat) (vR : Option Value) (hR : Heap) (LR : List Loc) : Prop := vR = none ∧ Fr n0 LR ∧ hR = h0
set_option maxRecDepth 65536 in
set_option maxHeartbeats 40000000 in
theorem chkL (l : Launch) (Z : State) (a0 : Array Value) (hw : ∀ d ∈ tables_1, d.before a0 Z = true) (ws : List Jvm.Cond) (f_ : Int32) (t_ : Int32) (h0 : Heap) (n0 : Nat) (Z0 : n0 ≤ h0.size) (hft : ¬ (t_ < f_)) :
    own_M l (⟨"java/util/Arrays", "checkLength", "(II)V"⟩ : MethodName) jdk_65_method_131_code 2 none ws ({ frames := 0, cells := 0, slots := 0, locals := 0 } : Room) Z #[(.int f_), (.int t_)] h0 (Q_chkL Z f_ t_ h0 n0) := by
  refine own_body (own := "java/util/Arrays") rfl (plainFor_of_name pn_38) (fun m => ef_chkL m f_ t_) ?_
  intro p e s m below meth c s₁ Bd hml hZ hh hx hby hown X0 e0
  have N0 := Fr.nil n0
  refine own_iloadN X0.here hx hby d38_0 rfl ?_
  refine own_iloadN X0.here hx hby d38_1 rfl ?_
  refine own_icmpYes X0.here hx hby (pc' := 37) d38_2 (flt hft).2.1 (by decide) (by decide) ?_
  obtain ⟨fs, hr, hrun, hended, hW, hsame⟩ := X0.leave (v := none) (fun _ => rfl) Bd.notSynchronized
  refine own_ret (t := s₁.setFrames fs) ?_ ⟨_, hrun, hended, _, _, rfl, ?_, ⟨_, rfl⟩, hW, hsame.mono (by decide) (by decide)⟩
  · exact X0.returnOut hx Bd.returns (hb hby d38_37) hr
  · show Q_chkL Z _ _ h0 n0 _ s₁.heap _
    rw [e0]
    exact ⟨rfl, N0, rfl⟩
theorem ef_crB0 (m : MethodId) (x0 : Nat) (x1 : Int32) (x2 : Int32) : entryFrame m #[(.ref x0), (.int x1), (.int x2)] 5 = mkF m 0 #[.val (.ref x0), .val (.int x1), .val (.int x2), .unset, .unset] [] := by first | (simp [entryFrame, mkF, argsToLocals, Value.category]; done) | rfl
theorem pn_37 : plainName "java/util/Arrays" = true := by first | (simp [plainName, overriddenIn]; done) | decide +kernel
theorem d37_0 : decode jdk_65_method_133_code 0 = .ok (.iload_n 1, 1) := by decide +kernel
theorem d37_1 : decode jdk_65_method_133_code 1 = .ok (.iload_n 2, 1) := by decide +kernel
theorem d37_2 : decode jdk_65_method_133_code 2 = .ok (.invokestatic 343, 3) := by decide +kernel
theorem pd_7 : parseMethodDescriptor "(II)V" = some ⟨[.int, .int], none⟩ := by decide +kernel
theorem d37_5 : decode jdk_65_method_133_code 5 = .ok (.iload_n 2, 1) := by decide +kernel
theorem d37_6 : decode jdk_65_method_133_code 6 = .ok (.iload_n 1, 1) := by decide +kernel
theorem d37_7 : decode jdk_65_method_133_code 7 = .ok (.isub, 1) := by decide +kernel
theorem d37_8 : decode jdk_65_method_133_code 8 = .ok (.istore_n 3, 1) := by decide +kernel
theorem d37_9 : decode jdk_65_method_133_code 9 = .ok (.iload_n 3, 1) := by decide +kernel
theorem d37_10 : decode jdk_65_method_133_code 10 = .ok (.newarray .byte, 2) := by decide +kernel
theorem d37_12 : decode jdk_65_method_133_code 12 = .ok (.astore 4, 2) := by decide +kernel
theorem d37_14 : decode jdk_65_method_133_code 14 = .ok (.aload_n 0, 1) := by decide +kernel
theorem d37_15 : decode jdk_65_method_133_code 15 = .ok (.iload_n 1, 1) := by decide +kernel
theorem d37_16 : decode jdk_65_method_133_code 16 = .ok (.aload 4, 2) := by decide +kernel
theorem d37_18 : decode jdk_65_method_133_code 18 = .ok (.iconst 0, 1) := by decide +kernel
theorem d37_19 : decode jdk_65_method_133_code 19 = .ok (.aload_n 0, 1) := by decide +kernel
theorem d37_20 : decode jdk_65_method_133_code 20 = .ok (.arraylength, 1) := by decide +kernel
theorem d37_21 : decode jdk_65_method_133_code 21 = .ok (.iload_n 1, 1) := by decide +kernel
theorem d37_22 : decode jdk_65_method_133_code 22 = .ok (.isub, 1) := by decide +kernel
theorem d37_23 : decode jdk_65_method_133_code 23 = .ok (.iload_n 3, 1) := by decide +kernel
theorem d37_24 : decode jdk_65_method_133_code 24 = .ok (.invokestatic 304, 3) := by decide +kernel
theorem pd_8 : parseMethodDescriptor "(II)I" = some ⟨[.int, .int], some .int⟩ := by decide +kernel
theorem d37_27 : decode jdk_65_method_133_code 27 = .ok (.invokestatic 150, 3) := by decide +kernel
theorem d37_30 : decode jdk_65_method_133_code 30 = .ok (.aload 4, 2) := by decide +kernel
theorem d37_32 : decode jdk_65_method_133_code 32 = .ok (.areturn, 1) := by decide +kernel
def Q_crB0 (Z : State) (t : Nat) (kt : ClassId) (wl : List Int32) (h0 : Heap) (n0 : Nat) (vR : Option Value) (hR : Heap) (LR : List Loc) : Prop := ∃ (r : Nat) (kr : ClassId), vR = some (.ref r) ∧ Fr n0 LR ∧ Keep h0 hR [] ∧ h0.size ≤ r ∧ (Arv Z hR r kr .byte (Int32.ofNat wl.length) (own_b wl) (.int 0))
set_option maxRecDepth 65536 in
set_option maxHeartbeats 40000000 in
theorem crB0 (l : Launch) (Z : State) (a0 : Array Value) (hw : ∀ d ∈ tables_1, d.before a0 Z = true) (ws : List Jvm.Cond) (t : Nat) (kt : ClassId) (wl : List Int32) (h0 : Heap) (n0 : Nat) (Z0 : n0 ≤ h0.size) (V_t : Arv Z h0 t kt .byte (16 : Int32) (own_bz wl) (.int 0)) (hw16 : wl.length < 16) :
    own_M l (⟨"java/util/Arrays", "copyOfRangeByte", "([BII)[B"⟩ : MethodName) jdk_65_method_133_code 5 (some (.array .byte)) ws ({ frames := 1, cells := 1, slots := 15, locals := 18 } : Room) Z #[(.ref t), (.int 0), (.int (Int32.ofNat wl.length))] h0 (Q_crB0 Z t kt wl h0 n0) := by
  refine own_body (own := "java/util/Arrays") rfl (plainFor_of_name pn_37) (fun m => ef_crB0 m t (0 : Int32) (Int32.ofNat wl.length)) ?_
  intro p e s m below meth c s₁ Bd hml hZ hh hx hby hown X0 e0
  have N0 := Fr.nil n0
  have lt1 : h0.size > t := V_t.lt
  refine own_iloadN X0.here hx hby d37_0 rfl ?_
  refine own_iloadN X0.here hx hby d37_1 rfl ?_
  refine own_callS X0 hx hZ hown (own_w hw 195 rfl) (own_w hw 196 rfl) (own_w hw 190 rfl) (own_w hw 197 rfl) (by decide) (chkL l Z a0 hw [] (0 : Int32) (Int32.ofNat wl.length) h0 n0 Z0 (own_n0 (by omega))) 0 (Nat.le_of_eq rfl) (by decide) (by decide) (by rw [hml]; rfl) (argsL := [(.int 0), (.int (Int32.ofNat wl.length))]) (st := []) (lenOf pd_7 rfl) rfl rfl (by decide) (by decide) e0 hby d37_2 ?_
  intro T2 v2 L2 X2 hQ2
  obtain ⟨rfl, Nq2, eh2⟩ := hQ2
  have N2 := Fr.app N0 Nq2
  refine own_sh (T := T2) 5 #[.val (.ref t), .val (.int 0), .val (.int (Int32.ofNat wl.length)), .unset, .unset] [] ?_
  refine own_iloadN X2.here hx hby d37_5 rfl ?_
  refine own_iloadN X2.here hx hby d37_6 rfl ?_
  refine own_isub X2.here hx hby d37_7 rfl ?_
  refine own_sh (T := T2) 8 #[.val (.ref t), .val (.int 0), .val (.int (Int32.ofNat wl.length)), .unset, .unset] [(.int ((Int32.ofNat wl.length) - (0 : Int32)))] ?_
  rw [show ((Int32.ofNat wl.length) - (0 : Int32)) = (Int32.ofNat wl.length) from (own_sub0 _)]
  refine own_istoreN X2.here hx hby d37_8 (l' := #[.val (.ref t), .val (.int 0), .val (.int (Int32.ofNat wl.length)), .val (.int (Int32.ofNat wl.length)), .unset]) rfl ?_
  refine own_iloadN X2.here hx hby d37_9 rfl ?_
  refine own_newP X2 hx hZ (aty := .byte) (own_w hw 19 rfl) eh2 hby d37_10 (own_n0 (by omega)) 15 (by rw [own_nC (by omega)]; omega) (by decide) (by decide) (by decide) (ad := "[B") (by decide) ?_
  intro T3 h3 k3 b3 X3 e3 E3 g3 V3 C3 lt3
  have z4 : h0.size ≤ h3.size := E3.1
  have V5 : Arv Z h3 b3 k3 .byte (Int32.ofNat wl.length) [] (.int 0) := V3
  refine own_astore X3.here hx hby d37_12 rfl (l' := #[.val (.ref t), .val (.int 0), .val (.int (Int32.ofNat wl.length)), .val (.int (Int32.ofNat wl.length)), .val (.ref b3)]) rfl ?_
  refine own_aloadN X3.here hx hby d37_14 rfl rfl ?_
  refine own_iloadN X3.here hx hby d37_15 rfl ?_
  refine own_aload X3.here hx hby d37_16 rfl rfl ?_
  refine own_iconst X3.here hx hby d37_18 (v := (0 : Int32)) (by decide) ?_
  refine own_aloadN X3.here hx hby d37_19 rfl rfl ?_
  have f6 := (V_t.ext E3)
  refine own_alen X3 hx hZ e3 f6 hby d37_20 ?_
  refine own_iloadN X3.here hx hby d37_21 rfl ?_
  refine own_isub X3.here hx hby d37_22 (v := (16 : Int32)) (by decide) ?_
  refine own_iloadN X3.here hx hby d37_23 rfl ?_
  have z8 : n0 ≤ h3.size := by omega
  refine own_callS X3 hx hZ hown (own_w hw 198 rfl) (own_w hw 199 rfl) (own_w hw 200 rfl) (own_w hw 201 rfl) (by decide) (min16 l Z a0 hw [] (Int32.ofNat wl.length) h3 n0 z8 (own_lt16 hw16)) 4 (Nat.le_of_eq rfl) (by decide) (by decide) (by rw [hml]; rfl) (argsL := [(.int 16), (.int (Int32.ofNat wl.length))]) (st := [(.int 0), (.ref b3), (.int 0), (.ref t)]) (lenOf pd_8 rfl) rfl rfl (by decide) (by decide) e3 hby d37_24 ?_
  intro T7 v7 L7 X7 hQ7
  obtain ⟨rfl, Nq7, eh7⟩ := hQ7
  have N7 := Fr.app N2 Nq7
  refine own_sh (T := T7) 27 #[.val (.ref t), .val (.int 0), .val (.int (Int32.ofNat wl.length)), .val (.int (Int32.ofNat wl.length)), .val (.ref b3)] [(.int (Int32.ofNat wl.length)), (.int 0), (.ref b3), (.int 0), (.ref t)] ?_
  have V9 : Arv Z h3 b3 k3 .byte (Int32.ofNat wl.length) (List.replicate wl.length (.int 0)) (.int 0) := V5.pad own_pad0
  refine own_copyL X7 hx hZ hown (own_w hw 202 rfl) (own_w hw 137 rfl) (own_w hw 135 rfl) (own_w hw 136 rfl) eh7 f6 V9 (res := (own_b wl)) rfl 0 0 wl.length (by decide) (by decide) (own_nC (by omega)) (by decide) (by decide) (own_n0 (by omega)) (by show 0 + wl.length ≤ 16; omega) (by rw [own_nC (by omega)]; omega) (by rw [List.length_replicate]; omega) (own_takeB (by omega)) N7 (by omega) (by rw [hml]; rfl) hby d37_27 (by decide) 0 (Nat.le_of_eq rfl) (by decide) ?_
  intro T10 h10 lo10 X10 e10 N10 K10 V10 z10
  refine own_aload X10.here hx hby d37_30 rfl rfl ?_
  have K11 : Keep h0 h10 [] := (((Keep.refl h0 []).ext E3).trans K10 (allS (P := fun xq_ => xq_ ∈ [] ∨ h0.size ≤ xq_) (Or.inr (by omega)) all0))
  obtain ⟨fs, hr, hrun, hended, hW, hsame⟩ := X10.leave (v := some (.ref b3)) (fun h => by rw [Bd.returns] at h; cases h) Bd.notSynchronized
  refine own_ret (t := T10.setFrames fs) ?_ ⟨_, hrun, hended, _, _, rfl, ?_, ⟨_, rfl⟩, hW, hsame.mono (by decide) (by decide)⟩
  · exact retOut X10 hx Bd.returns rfl (Or.inr (Or.inr (Or.inr (Or.inr ⟨rfl, rfl, rfl⟩)))) (hb hby d37_32) hr
  · show Q_crB0 Z _ _ _ h0 n0 _ T10.heap _
    rw [e10]
    exact ⟨b3, k3, rfl, N10, K11, (by omega), V10⟩
theorem ef_cr0 (m : MethodId) (x0 : Nat) (x1 : Int32) (x2 : Int32) : entryFrame m #[(.ref x0), (.int x1), (.int x2)] 3 = mkF m 0 #[.val (.ref x0), .val (.int x1), .val (.int x2)] [] := by first | (simp [entryFrame, mkF, argsToLocals, Value.category]; done) | rfl
theorem pn_36 : plainName "java/util/Arrays" = true := by first | (simp [plainName, overriddenIn]; done) | decide +kernel
theorem d36_0 : decode jdk_65_method_132_code 0 = .ok (.iload_n 1, 1) := by decide +kernel
theorem d36_1 : decode jdk_65_method_132_code 1 = .ok (.ifCond .ne 9, 3) := by decide +kernel
theorem d36_4 : decode jdk_65_method_132_code 4 = .ok (.iload_n 2, 1) := by decide +kernel
theorem d36_5 : decode jdk_65_method_132_code 5 = .ok (.aload_n 0, 1) := by decide +kernel
theorem d36_6 : decode jdk_65_method_132_code 6 = .ok (.arraylength, 1) := by decide +kernel
theorem d36_7 : decode jdk_65_method_132_code 7 = .ok (.if_icmp .eq 10, 3) := by decide +kernel
theorem d36_10 : decode jdk_65_method_132_code 10 = .ok (.aload_n 0, 1) := by decide +kernel
theorem d36_11 : decode jdk_65_method_132_code 11 = .ok (.iload_n 1, 1) := by decide +kernel
theorem d36_12 : decode jdk_65_method_132_code 12 = .ok (.iload_n 2, 1) := by decide +kernel
theorem d36_13 : decode jdk_65_method_132_code 13 = .ok (.invokestatic 339, 3) := by decide +kernel
theorem pd_9 : parseMethodDescriptor "([BII)[B" = some ⟨[(.array .byte), .int, .int], some (.array .byte)⟩ := by decide +kernel
theorem d36_16 : decode jdk_65_method_132_code 16 = .ok (.areturn, 1) := by decide +kernel
def Q_cr0 (Z : State) (t : Nat) (kt : ClassId) (wl : List Int32) (h0 : Heap) (n0 : Nat) (vR : Option Value) (hR : Heap) (LR : List Loc) : Prop := ∃ (r : Nat) (kr : ClassId), vR = some (.ref r) ∧ Fr n0 LR ∧ Keep h0 hR [] ∧ h0.size ≤ r ∧ (Arv Z hR r kr .byte (Int32.ofNat wl.length) (own_b wl) (.int 0))
set_option maxRecDepth 65536 in
set_option maxHeartbeats 40000000 in
theorem cr0 (l : Launch) (Z : State) (a0 : Array Value) (hw : ∀ d ∈ tables_1, d.before a0 Z = true) (ws : List Jvm.Cond) (t : Nat) (kt : ClassId) (wl : List Int32) (h0 : Heap) (n0 : Nat) (Z0 : n0 ≤ h0.size) (V_t : Arv Z h0 t kt .byte (16 : Int32) (own_bz wl) (.int 0)) (hw16 : wl.length < 16) :
    own_M l (⟨"java/util/Arrays", "copyOfRange", "([BII)[B"⟩ : MethodName) jdk_65_method_132_code 3 (some (.array .byte)) ws ({ frames := 2, cells := 1, slots := 15, locals := 34 } : Room) Z #[(.ref t), (.int 0), (.int (Int32.ofNat wl.length))] h0 (Q_cr0 Z t kt wl h0 n0) := by
  refine own_body (own := "java/util/Arrays") rfl (plainFor_of_name pn_36) (fun m => ef_cr0 m t (0 : Int32) (Int32.ofNat wl.length)) ?_
  intro p e s m below meth c s₁ Bd hml hZ hh hx hby hown X0 e0
  have N0 := Fr.nil n0
  have lt1 : h0.size > t := V_t.lt
  refine own_iloadN X0.here hx hby d36_0 rfl ?_
  refine own_ifNo X0.here hx hby d36_1 ((if0 _ _).trans (teq (show (0 : Int32) = (0 : Int32) from (by decide))).2) ?_
  refine own_iloadN X0.here hx hby d36_4 rfl ?_
  refine own_aloadN X0.here hx hby d36_5 rfl rfl ?_
  refine own_alen X0 hx hZ e0 V_t hby d36_6 ?_
  refine own_icmpNo X0.here hx hby d36_7 (feq (show ¬ ((Int32.ofNat wl.length) = (16 : Int32)) from own_ne16 hw16)).1 ?_
  refine own_aloadN X0.here hx hby d36_10 rfl rfl ?_
  refine own_iloadN X0.here hx hby d36_11 rfl ?_
  refine own_iloadN X0.here hx hby d36_12 rfl ?_
  refine own_callS X0 hx hZ hown (own_w hw 192 rfl) (own_w hw 193 rfl) (own_w hw 190 rfl) (own_w hw 194 rfl) (by decide) (crB0 l Z a0 hw [] t kt wl h0 n0 Z0 V_t hw16) 0 (Nat.le_of_eq rfl) (by decide) (by decide) (by rw [hml]; rfl) (argsL := [(.ref t), (.int 0), (.int (Int32.ofNat wl.length))]) (st := []) (lenOf pd_9 rfl) rfl rfl (by decide) (by decide) e0 hby d36_13 ?_
  intro T2 v2 L2 X2 hQ2
  obtain ⟨r_2, kr_2, rfl, Nq2, K2, P2_0, P2_1⟩ := hQ2
  have N2 := Fr.app N0 Nq2
  have z3 : h0.size ≤ T2.heap.size := K2.1
  have lt4 : T2.heap.size > r_2 := P2_1.lt
  refine own_sh (T := T2) 16 #[.val (.ref t), .val (.int 0), .val (.int (Int32.ofNat wl.length))] [(.ref r_2)] ?_
  have K5 : Keep h0 T2.heap [] := ((Keep.refl h0 []).trans K2 all0)
  obtain ⟨fs, hr, hrun, hended, hW, hsame⟩ := X2.leave (v := some (.ref r_2)) (fun h => by rw [Bd.returns] at h; cases h) Bd.notSynchronized
  refine own_ret (t := T2.setFrames fs) ?_ ⟨_, hrun, hended, _, _, rfl, ?_, ⟨_, rfl⟩, hW, hsame.mono (by decide) (by decide)⟩
  · exact retOut X2 hx Bd.returns rfl (Or.inr (Or.inr (Or.inr (Or.inr ⟨rfl, rfl, rfl⟩)))) (hb hby d36_16) hr
  · show Q_cr0 Z _ _ _ h0 n0 _ T2.heap _
    exact ⟨r_2, kr_2, rfl, N2, K5, (by omega), P2_1⟩
def Q_crBC (Z : State) (t : Nat) (kt : ClassId) (A : List Int32) (Bl : List Int32) (h0 : Heap) (n0 : Nat) (vR : Option Value) (hR : Heap) (LR : List Loc) : Prop := ∃ (r : Nat) (kr : ClassId), vR = some (.ref r) ∧ Fr n0 LR ∧ Keep h0 hR [] ∧ h0.size ≤ r ∧ (Arv Z hR r kr .byte (Int32.ofNat Bl.length) (own_b Bl) (.int 0))
set_option maxRecDepth 65536 in
set_option maxHeartbeats 40000000 in
theorem crBC (l : Launch) (Z : State) (a0 : Array Value) (hw : ∀ d ∈ tables_1, d.before a0 Z = true) (ws : List Jvm.Cond) (t : Nat) (kt : ClassId) (A : List Int32) (Bl : List Int32) (h0 : Heap) (n0 : Nat) (Z0 : n0 ≤ h0.size) (V_t : Arv Z h0 t kt .byte (Int32.ofNat (A ++ Bl).length) (own_b (A ++ Bl)) (.int 0)) (hA : 0 < A.length) (hAB : A.length + Bl.length ≤ 15) :
    own_M l (⟨"java/util/Arrays", "copyOfRangeByte", "([BII)[B"⟩ : MethodName) jdk_65_method_133_code 5 (some (.array .byte)) ws ({ frames := 1, cells := 1, slots := 15, locals := 18 } : Room) Z #[(.ref t), (.int (Int32.ofNat A.length)), (.int (Int32.ofNat (A ++ Bl).length))] h0 (Q_crBC Z t kt A Bl h0 n0) := by
  refine own_body (own := "java/util/Arrays") rfl (plainFor_of_name pn_37) (fun m => ef_crB0 m t (Int32.ofNat A.length) (Int32.ofNat (A ++ Bl).length)) ?_
  intro p e s m below meth c s₁ Bd hml hZ hh hx hby hown X0 e0
  have N0 := Fr.nil n0
  have lt1 : h0.size > t := V_t.lt
  refine own_iloadN X0.here hx hby d37_0 rfl ?_
  refine own_iloadN X0.here hx hby d37_1 rfl ?_
  refine own_callS X0 hx hZ hown (own_w hw 195 rfl) (own_w hw 196 rfl) (own_w hw 190 rfl) (own_w hw 197 rfl) (by decide) (chkL l Z a0 hw [] (Int32.ofNat A.length) (Int32.ofNat (A ++ Bl).length) h0 n0 Z0 (own_nltL (by omega))) 0 (Nat.le_of_eq rfl) (by decide) (by decide) (by rw [hml]; rfl) (argsL := [(.int (Int32.ofNat A.length)), (.int (Int32.ofNat (A ++ Bl).length))]) (st := []) (lenOf pd_7 rfl) rfl rfl (by decide) (by decide) e0 hby d37_2 ?_
  intro T2 v2 L2 X2 hQ2
  obtain ⟨rfl, Nq2, eh2⟩ := hQ2
  have N2 := Fr.app N0 Nq2
  refine own_sh (T := T2) 5 #[.val (.ref t), .val (.int (Int32.ofNat A.length)), .val (.int (Int32.ofNat (A ++ Bl).length)), .unset, .unset] [] ?_
  refine own_iloadN X2.here hx hby d37_5 rfl ?_
  refine own_iloadN X2.here hx hby d37_6 rfl ?_
  refine own_isub X2.here hx hby d37_7 rfl ?_
  refine own_sh (T := T2) 8 #[.val (.ref t), .val (.int (Int32.ofNat A.length)), .val (.int (Int32.ofNat (A ++ Bl).length)), .unset, .unset] [(.int ((Int32.ofNat (A ++ Bl).length) - (Int32.ofNat A.length)))] ?_
  rw [show ((Int32.ofNat (A ++ Bl).length) - (Int32.ofNat A.length)) = (Int32.ofNat Bl.length) from (own_nsubL (by omega))]
  refine own_istoreN X2.here hx hby d37_8 (l' := #[.val (.ref t), .val (.int (Int32.ofNat A.length)), .val (.int (Int32.ofNat (A ++ Bl).length)), .val (.int (Int32.ofNat Bl.length)), .unset]) rfl ?_
  refine own_iloadN X2.here hx hby d37_9 rfl ?_
  refine own_newP X2 hx hZ (aty := .byte) (own_w hw 19 rfl) eh2 hby d37_10 (own_n0 (by omega)) 15 (by rw [own_nC (by omega)]; omega) (by decide) (by decide) (by decide) (ad := "[B") (by decide) ?_
  intro T3 h3 k3 b3 X3 e3 E3 g3 V3 C3 lt3
  have z4 : h0.size ≤ h3.size := E3.1
  have V5 : Arv Z h3 b3 k3 .byte (Int32.ofNat Bl.length) [] (.int 0) := V3
  refine own_astore X3.here hx hby d37_12 rfl (l' := #[.val (.ref t), .val (.int (Int32.ofNat A.length)), .val (.int (Int32.ofNat (A ++ Bl).length)), .val (.int (Int32.ofNat Bl.length)), .val (.ref b3)]) rfl ?_
  refine own_aloadN X3.here hx hby d37_14 rfl rfl ?_
  refine own_iloadN X3.here hx hby d37_15 rfl ?_
  refine own_aload X3.here hx hby d37_16 rfl rfl ?_
  refine own_iconst X3.here hx hby d37_18 (v := (0 : Int32)) (by decide) ?_
  refine own_aloadN X3.here hx hby d37_19 rfl rfl ?_
  have f6 := (V_t.ext E3)
  refine own_alen X3 hx hZ e3 f6 hby d37_20 ?_
  refine own_iloadN X3.here hx hby d37_21 rfl ?_
  refine own_isub X3.here hx hby d37_22 rfl ?_
  refine own_sh (T := T3) 23 #[.val (.ref t), .val (.int (Int32.ofNat A.length)), .val (.int (Int32.ofNat (A ++ Bl).length)), .val (.int (Int32.ofNat Bl.length)), .val (.ref b3)] [(.int ((Int32.ofNat (A ++ Bl).length) - (Int32.ofNat A.length))), (.int 0), (.ref b3), (.int (Int32.ofNat A.length)), (.ref t)] ?_
  rw [show ((Int32.ofNat (A ++ Bl).length) - (Int32.ofNat A.length)) = (Int32.ofNat Bl.length) from (own_nsubL (by omega))]
  refine own_iloadN X3.here hx hby d37_23 rfl ?_
  have z8 : n0 ≤ h3.size := by omega
  refine own_callS X3 hx hZ hown (own_w hw 198 rfl) (own_w hw 199 rfl) (own_w hw 200 rfl) (own_w hw 201 rfl) (by decide) (minS l Z a0 hw [] (Int32.ofNat Bl.length) h3 n0 z8 ) 4 (Nat.le_of_eq rfl) (by decide) (by decide) (by rw [hml]; rfl) (argsL := [(.int (Int32.ofNat Bl.length)), (.int (Int32.ofNat Bl.length))]) (st := [(.int 0), (.ref b3), (.int (Int32.ofNat A.length)), (.ref t)]) (lenOf pd_8 rfl) rfl rfl (by decide) (by decide) e3 hby d37_24 ?_
  intro T7 v7 L7 X7 hQ7
  obtain ⟨rfl, Nq7, eh7⟩ := hQ7
  have N7 := Fr.app N2 Nq7
  refine own_sh (T := T7) 27 #[.val (.ref t), .val (.int (Int32.ofNat A.length)), .val (.int (Int32.ofNat (A ++ Bl).length)), .val (.int (Int32.ofNat Bl.length)), .val (.ref b3)] [(.int (Int32.ofNat Bl.length)), (.int 0), (.ref b3), (.int (Int32.ofNat A.length)), (.ref t)] ?_
  have V9 : Arv Z h3 b3 k3 .byte (Int32.ofNat Bl.length) (List.replicate Bl.length (.int 0)) (.int 0) := V5.pad own_pad0
  refine own_copyL X7 hx hZ hown (own_w hw 202 rfl) (own_w hw 137 rfl) (own_w hw 135 rfl) (own_w hw 136 rfl) eh7 f6 V9 (res := (own_b Bl)) rfl A.length 0 Bl.length (own_nC (by omega)) (by decide) (own_nC (by omega)) (own_n0 (by omega)) (by decide) (own_n0 (by omega)) (by rw [own_nC (by rw [List.length_append]; omega), List.length_append]; omega) (by rw [own_nC (by omega)]; omega) (by rw [List.length_replicate]; omega) ((own_dropB (by rw [List.length_append]; omega) (by rw [List.length_append]; omega)).trans (by rw [List.drop_left])) N7 (by omega) (by rw [hml]; rfl) hby d37_27 (by decide) 0 (Nat.le_of_eq rfl) (by decide) ?_
  intro T10 h10 lo10 X10 e10 N10 K10 V10 z10
  refine own_aload X10.here hx hby d37_30 rfl rfl ?_
  have K11 : Keep h0 h10 [] := (((Keep.refl h0 []).ext E3).trans K10 (allS (P := fun xq_ => xq_ ∈ [] ∨ h0.size ≤ xq_) (Or.inr (by omega)) all0))
  obtain ⟨fs, hr, hrun, hended, hW, hsame⟩ := X10.leave (v := some (.ref b3)) (fun h => by rw [Bd.returns] at h; cases h) Bd.notSynchronized
  refine own_ret (t := T10.setFrames fs) ?_ ⟨_, hrun, hended, _, _, rfl, ?_, ⟨_, rfl⟩, hW, hsame.mono (by decide) (by decide)⟩
  · exact retOut X10 hx Bd.returns rfl (Or.inr (Or.inr (Or.inr (Or.inr ⟨rfl, rfl, rfl⟩)))) (hb hby d37_32) hr
  · show Q_crBC Z _ _ _ _ h0 n0 _ T10.heap _
    rw [e10]
    exact ⟨b3, k3, rfl, N10, K11, (by omega), V10⟩
def Q_crC (Z : State) (t : Nat) (kt : ClassId) (A : List Int32) (Bl : List Int32) (h0 : Heap) (n0 : Nat) (vR : Option Value) (hR : Heap) (LR : List Loc) : Prop := ∃ (r : Nat) (kr : ClassId), vR = some (.ref r) ∧ Fr n0 LR ∧ Keep h0 hR [] ∧ h0.size ≤ r ∧ (Arv Z hR r kr .byte (Int32.ofNat Bl.length) (own_b Bl) (.int 0))
set_option maxRecDepth 65536 in
set_option maxHeartbeats 40000000 in
theorem crC (l : Launch) (Z : State) (a0 : Array Value) (hw : ∀ d ∈ tables_1, d.before a0 Z = true) (ws : List Jvm.Cond) (t : Nat) (kt : ClassId) (A : List Int32) (Bl : List Int32) (h0 : Heap) (n0 : Nat) (Z0 : n0 ≤ h0.size) (V_t : Arv Z h0 t kt .byte (Int32.ofNat (A ++ Bl).length) (own_b (A ++ Bl)) (.int 0)) (hA : 0 < A.length) (hAB : A.length + Bl.length ≤ 15) :
    own_M l (⟨"java/util/Arrays", "copyOfRange", "([BII)[B"⟩ : MethodName) jdk_65_method_132_code 3 (some (.array .byte)) ws ({ frames := 2, cells := 1, slots := 15, locals := 34 } : Room) Z #[(.ref t), (.int (Int32.ofNat A.length)), (.int (Int32.ofNat (A ++ Bl).length))] h0 (Q_crC Z t kt A Bl h0 n0) := by
  refine own_body (own := "java/util/Arrays") rfl (plainFor_of_name pn_36) (fun m => ef_cr0 m t (Int32.ofNat A.length) (Int32.ofNat (A ++ Bl).length)) ?_
  intro p e s m below meth c s₁ Bd hml hZ hh hx hby hown X0 e0
  have N0 := Fr.nil n0
  have lt1 : h0.size > t := V_t.lt
  refine own_iloadN X0.here hx hby d36_0 rfl ?_
  refine own_ifYes X0.here hx hby (pc' := 10) d36_1 ((if0 _ _).trans (feq (show ¬ ((Int32.ofNat A.length) = (0 : Int32)) from own_ne0 (by omega) hA)).2) (by decide) (by decide) ?_
  refine own_aloadN X0.here hx hby d36_10 rfl rfl ?_
  refine own_iloadN X0.here hx hby d36_11 rfl ?_
  refine own_iloadN X0.here hx hby d36_12 rfl ?_
  refine own_callS X0 hx hZ hown (own_w hw 192 rfl) (own_w hw 193 rfl) (own_w hw 190 rfl) (own_w hw 194 rfl) (by decide) (crBC l Z a0 hw [] t kt A Bl h0 n0 Z0 V_t hA hAB) 0 (Nat.le_of_eq rfl) (by decide) (by decide) (by rw [hml]; rfl) (argsL := [(.ref t), (.int (Int32.ofNat A.length)), (.int (Int32.ofNat (A ++ Bl).length))]) (st := []) (lenOf pd_9 rfl) rfl rfl (by decide) (by decide) e0 hby d36_13 ?_
  intro T2 v2 L2 X2 hQ2
  obtain ⟨r_2, kr_2, rfl, Nq2, K2, P2_0, P2_1⟩ := hQ2
  have N2 := Fr.app N0 Nq2
  have z3 : h0.size ≤ T2.heap.size := K2.1
  have lt4 : T2.heap.size > r_2 := P2_1.lt
  refine own_sh (T := T2) 16 #[.val (.ref t), .val (.int (Int32.ofNat A.length)), .val (.int (Int32.ofNat (A ++ Bl).length))] [(.ref r_2)] ?_
  have K5 : Keep h0 T2.heap [] := ((Keep.refl h0 []).trans K2 all0)
  obtain ⟨fs, hr, hrun, hended, hW, hsame⟩ := X2.leave (v := some (.ref r_2)) (fun h => by rw [Bd.returns] at h; cases h) Bd.notSynchronized
  refine own_ret (t := T2.setFrames fs) ?_ ⟨_, hrun, hended, _, _, rfl, ?_, ⟨_, rfl⟩, hW, hsame.mono (by decide) (by decide)⟩
  · exact retOut X2 hx Bd.returns rfl (Or.inr (Or.inr (Or.inr (Or.inr ⟨rfl, rfl, rfl⟩)))) (hb hby d36_16) hr
  · show Q_crC Z _ _ _ _ h0 n0 _ T2.heap _
    exact ⟨r_2, kr_2, rfl, N2, K5, (by omega), P2_1⟩
theorem ef_asbVal (m : MethodId) (x0 : Nat) : entryFrame m #[(.ref x0)] 1 = mkF m 0 #[.val (.ref x0)] [] := by first | (simp [entryFrame, mkF, argsToLocals, Value.category]; done) | rfl
theorem pn_32 : plainName "java/lang/AbstractStringBuilder" = true := by first | (simp [plainName, overriddenIn]; done) | decide +kernel
theorem d32_0 : decode jdk_68_method_64_code 0 = .ok (.aload_n 0, 1) := by decide +kernel
theorem d32_1 : decode jdk_68_method_64_code 1 = .ok (.getfield 15, 3) := by decide +kernel
theorem d32_4 : decode jdk_68_method_64_code 4 = .ok (.areturn, 1) := by decide +kernel
def Q_asbVal (Z : State) (sb : Nat) (b : Nat) (h0 : Heap) (n0 : Nat) (vR : Option Value) (hR : Heap) (LR : List Loc) : Prop := vR = some (.ref b) ∧ Fr n0 LR ∧ hR = h0
set_option maxRecDepth 65536 in
set_option maxHeartbeats 40000000 in
theorem asbVal (l : Launch) (Z : State) (a0 : Array Value) (hw : ∀ d ∈ tables_1, d.before a0 Z = true) (ws : List Jvm.Cond) (sb : Nat) (b : Nat) (h0 : Heap) (n0 : Nat) (Z0 : n0 ≤ h0.size) (F_value_sb : Fld Z h0 sb "java/lang/AbstractStringBuilder" "value" "[B" (.ref b)) :
    own_M l (⟨"java/lang/AbstractStringBuilder", "getValue", "()[B"⟩ : MethodName) jdk_68_method_64_code 1 (some (.array .byte)) ws ({ frames := 0, cells := 0, slots := 0, locals := 0 } : Room) Z #[(.ref sb)] h0 (Q_asbVal Z sb b h0 n0) := by
  refine own_body (own := "java/lang/AbstractStringBuilder") rfl (plainFor_of_name pn_32) (fun m => ef_asbVal m sb) ?_
  intro p e s m below meth c s₁ Bd hml hZ hh hx hby hown X0 e0
  have N0 := Fr.nil n0
  have lt1 : h0.size > sb := F_value_sb.lt
  refine own_aloadN X0.here hx hby d32_0 rfl rfl ?_
  refine own_getF X0 hx hZ hown (host := "") (Or.inl (own_w hw 86 rfl)) Via.refl e0 F_value_sb hby d32_1 ?_
  intro T2 X2 e2
  obtain ⟨fs, hr, hrun, hended, hW, hsame⟩ := X2.leave (v := some (.ref b)) (fun h => by rw [Bd.returns] at h; cases h) Bd.notSynchronized
  refine own_ret (t := T2.setFrames fs) ?_ ⟨_, hrun, hended, _, _, rfl, ?_, ⟨_, rfl⟩, hW, hsame.mono (by decide) (by decide)⟩
  · exact retOut X2 hx Bd.returns rfl (Or.inr (Or.inr (Or.inr (Or.inr ⟨rfl, rfl, rfl⟩)))) (hb hby d32_4) hr
  · show Q_asbVal Z _ _ h0 n0 _ T2.heap _
    rw [e2]
    exact ⟨rfl, N0, rfl⟩
theorem ef_asbLenG (m : MethodId) (x0 : Nat) : entryFrame m #[(.ref x0)] 1 = mkF m 0 #[.val (.ref x0)] [] := by first | (simp [entryFrame, mkF, argsToLocals, Value.category]; done) | rfl
theorem pn_34 : plainName "java/lang/AbstractStringBuilder" = true := by first | (simp [plainName, overriddenIn]; done) | decide +kernel
theorem d34_0 : decode jdk_68_method_6_code 0 = .ok (.aload_n 0, 1) := by decide +kernel
theorem d34_1 : decode jdk_68_method_6_code 1 = .ok (.getfield 79, 3) := by decide +kernel
theorem d34_4 : decode jdk_68_method_6_code 4 = .ok (.ireturn, 1) := by decide +kernel
def Q_asbLenG (Z : State) (sb : Nat) (z_ : Int32) (h0 : Heap) (n0 : Nat) (vR : Option Value) (hR : Heap) (LR : List Loc) : Prop := vR = some (.int z_) ∧ Fr n0 LR ∧ hR = h0
set_option maxRecDepth 65536 in
set_option maxHeartbeats 40000000 in
theorem asbLenG (l : Launch) (Z : State) (a0 : Array Value) (hw : ∀ d ∈ tables_1, d.before a0 Z = true) (ws : List Jvm.Cond) (sb : Nat) (z_ : Int32) (h0 : Heap) (n0 : Nat) (Z0 : n0 ≤ h0.size) (F_count_sb : Fld Z h0 sb "java/lang/AbstractStringBuilder" "count" "I" (.int z_)) :
    own_M l (⟨"java/lang/AbstractStringBuilder", "length", "()I"⟩ : MethodName) jdk_68_method_6_code 1 (some .int) ws ({ frames := 0, cells := 0, slots := 0, locals := 0 } : Room) Z #[(.ref sb)] h0 (Q_asbLenG Z sb z_ h0 n0) := by
  refine own_body (own := "java/lang/AbstractStringBuilder") rfl (plainFor_of_name pn_34) (fun m => ef_asbLenG m sb) ?_
  intro p e s m below meth c s₁ Bd hml hZ hh hx hby hown X0 e0
  have N0 := Fr.nil n0
  have lt1 : h0.size > sb := F_count_sb.lt
  refine own_aloadN X0.here hx hby d34_0 rfl rfl ?_
  refine own_getF X0 hx hZ hown (host := "") (Or.inl (own_w hw 111 rfl)) Via.refl e0 F_count_sb hby d34_1 ?_
  intro T2 X2 e2
  obtain ⟨fs, hr, hrun, hended, hW, hsame⟩ := X2.leave (v := some (.int z_)) (fun h => by rw [Bd.returns] at h; cases h) Bd.notSynchronized
  refine own_ret (t := T2.setFrames fs) ?_ ⟨_, hrun, hended, _, _, rfl, ?_, ⟨_, rfl⟩, hW, hsame.mono (by decide) (by decide)⟩
  · exact retOut X2 hx Bd.returns rfl (Or.inl ⟨rfl, Or.inl rfl, _, rfl⟩) (hb hby d34_4) hr
  · show Q_asbLenG Z _ _ h0 n0 _ T2.heap _
    rw [e2]
    exact ⟨rfl, N0, rfl⟩
theorem ef_sbLenG (m : MethodId) (x0 : Nat) : entryFrame m #[(.ref x0)] 1 = mkF m 0 #[.val (.ref x0)] [] := by first | (simp [entryFrame, mkF, argsToLocals, Value.category]; done) | rfl
theorem pn_33 : plainName "java/lang/StringBuilder" = true := by first | (simp [plainName, overriddenIn]; done) | decide +kernel
theorem d33_0 : decode jdk_67_method_93_code 0 = .ok (.aload_n 0, 1) := by decide +kernel
theorem d33_1 : decode jdk_67_method_93_code 1 = .ok (.invokespecial 343, 3) := by decide +kernel
theorem d33_4 : decode jdk_67_method_93_code 4 = .ok (.ireturn, 1) := by decide +kernel
def Q_sbLenG (Z : State) (sb : Nat) (z_ : Int32) (h0 : Heap) (n0 : Nat) (vR : Option Value) (hR : Heap) (LR : List Loc) : Prop := vR = some (.int z_) ∧ Fr n0 LR ∧ hR = h0
set_option maxRecDepth 65536 in
set_option maxHeartbeats 40000000 in
theorem sbLenG (l : Launch) (Z : State) (a0 : Array Value) (hw : ∀ d ∈ tables_1, d.before a0 Z = true) (ws : List Jvm.Cond) (sb : Nat) (z_ : Int32) (h0 : Heap) (n0 : Nat) (Z0 : n0 ≤ h0.size) (E_sb : Exa Z h0 sb "java/lang/StringBuilder") (F_count_sb : Fld Z h0 sb "java/lang/AbstractStringBuilder" "count" "I" (.int z_)) :
    own_M l (⟨"java/lang/StringBuilder", "length", "()I"⟩ : MethodName) jdk_67_method_93_code 1 (some .int) ws ({ frames := 1, cells := 0, slots := 0, locals := 12 } : Room) Z #[(.ref sb)] h0 (Q_sbLenG Z sb z_ h0 n0) := by
  refine own_body (own := "java/lang/StringBuilder") rfl (plainFor_of_name pn_33) (fun m => ef_sbLenG m sb) ?_
  intro p e s m below meth c s₁ Bd hml hZ hh hx hby hown X0 e0
  have N0 := Fr.nil n0
  have lt1 : h0.size > sb := E_sb.lt
  refine own_aloadN X0.here hx hby d33_0 rfl rfl ?_
  refine own_super X0 hx hZ (by decide) hown (own_w hw 181 rfl) (own_sameM (y := (⟨"java/lang/AbstractStringBuilder", "length", "()I"⟩ : MethodName)) (y' := (⟨"java/lang/AbstractStringBuilder", "ensureCapacityInternal", "(I)V"⟩ : MethodName)) rfl (own_w hw 177 rfl) (own_w hw 116 rfl) (by decide)) (own_w hw 177 rfl) (own_w hw 98 rfl) (own_w hw 82 rfl) (own_w hw 182 rfl) (asbLenG l Z a0 hw [] sb z_ h0 n0 Z0 F_count_sb) 0 (Nat.le_of_eq rfl) (by decide) (by decide) (by rw [hml]; rfl) (argsL := []) (st := []) E_sb (lenOf pd_4 rfl) rfl rfl (by decide) (by decide) e0 hby d33_1 ?_
  intro T2 v2 L2 X2 hQ2
  obtain ⟨rfl, Nq2, eh2⟩ := hQ2
  have N2 := Fr.app N0 Nq2
  refine own_sh (T := T2) 4 #[.val (.ref sb)] [(.int z_)] ?_
  obtain ⟨fs, hr, hrun, hended, hW, hsame⟩ := X2.leave (v := some (.int z_)) (fun h => by rw [Bd.returns] at h; cases h) Bd.notSynchronized
  refine own_ret (t := T2.setFrames fs) ?_ ⟨_, hrun, hended, _, _, rfl, ?_, ⟨_, rfl⟩, hW, hsame.mono (by decide) (by decide)⟩
  · exact retOut X2 hx Bd.returns rfl (Or.inl ⟨rfl, Or.inl rfl, _, rfl⟩) (hb hby d33_4) hr
  · show Q_sbLenG Z _ _ h0 n0 _ T2.heap _
    rw [eh2]
    exact ⟨rfl, N2, rfl⟩
theorem ef_asbIsL (m : MethodId) (x0 : Nat) : entryFrame m #[(.ref x0)] 1 = mkF m 0 #[.val (.ref x0)] [] := by first | (simp [entryFrame, mkF, argsToLocals, Value.category]; done) | rfl
theorem pn_35 : plainName "java/lang/AbstractStringBuilder" = true := by first | (simp [plainName, overriddenIn]; done) | decide +kernel
theorem d35_0 : decode jdk_68_method_68_code 0 = .ok (.getstatic 18, 3) := by decide +kernel
theorem d35_3 : decode jdk_68_method_68_code 3 = .ok (.ifCond .eq 14, 3) := by decide +kernel
theorem d35_6 : decode jdk_68_method_68_code 6 = .ok (.aload_n 0, 1) := by decide +kernel
theorem d35_7 : decode jdk_68_method_68_code 7 = .ok (.getfield 22, 3) := by decide +kernel
theorem d35_10 : decode jdk_68_method_68_code 10 = .ok (.ifCond .ne 7, 3) := by decide +kernel
theorem d35_13 : decode jdk_68_method_68_code 13 = .ok (.iconst 1, 1) := by decide +kernel
theorem d35_14 : decode jdk_68_method_68_code 14 = .ok (.goto 4, 3) := by decide +kernel
theorem d35_18 : decode jdk_68_method_68_code 18 = .ok (.ireturn, 1) := by decide +kernel
def Q_asbIsL (Z : State) (sb : Nat) (zc : Int32) (h0 : Heap) (n0 : Nat) (vR : Option Value) (hR : Heap) (LR : List Loc) : Prop := vR = some (.int 1) ∧ Fr n0 LR ∧ hR = h0
set_option maxRecDepth 65536 in
set_option maxHeartbeats 40000000 in
theorem asbIsL (l : Launch) (Z : State) (a0 : Array Value) (hw : ∀ d ∈ tables_1, d.before a0 Z = true) (ws : List Jvm.Cond) (sb : Nat) (zc : Int32) (h0 : Heap) (n0 : Nat) (Z0 : n0 ≤ h0.size) (F_coder_sb : Fld Z h0 sb "java/lang/AbstractStringBuilder" "coder" "B" (.int 0)) (S_C : Sta Z h0 "java/lang/String" "COMPACT_STRINGS" "Z" (.int zc)) (hz : ¬ (zc = (0 : Int32))) :
    own_M l (⟨"java/lang/AbstractStringBuilder", "isLatin1", "()Z"⟩ : MethodName) jdk_68_method_68_code 1 (some .boolean) ws ({ frames := 0, cells := 0, slots := 0, locals := 0 } : Room) Z #[(.ref sb)] h0 (Q_asbIsL Z sb zc h0 n0) := by
  refine own_body (own := "java/lang/AbstractStringBuilder") rfl (plainFor_of_name pn_35) (fun m => ef_asbIsL m sb) ?_
  intro p e s m below meth c s₁ Bd hml hZ hh hx hby hown X0 e0
  have N0 := Fr.nil n0
  have lt1 : h0.size > sb := F_coder_sb.lt
  refine own_getS X0 hx hZ hown (host := "") (Or.inl (own_w hw 85 rfl)) Via.refl e0 S_C hby d35_0 ?_
  intro T2 X2 e2
  refine own_ifNo X2.here hx hby d35_3 ((if0 _ _).trans (feq hz).1) ?_
  refine own_aloadN X2.here hx hby d35_6 rfl rfl ?_
  refine own_getF X2 hx hZ hown (host := "") (Or.inl (own_w hw 88 rfl)) Via.refl e2 F_coder_sb hby d35_7 ?_
  intro T3 X3 e3
  refine own_ifNo X3.here hx hby d35_10 ((if0 _ _).trans (teq (show (0 : Int32) = (0 : Int32) from (by decide))).2) ?_
  refine own_iconst X3.here hx hby d35_13 (v := (1 : Int32)) (by decide) ?_
  refine own_goto X3.here hx hby (pc' := 18) d35_14 (by decide) (by decide) ?_
  obtain ⟨fs, hr, hrun, hended, hW, hsame⟩ := X3.leave (v := some (.int 1)) (fun h => by rw [Bd.returns] at h; cases h) Bd.notSynchronized
  refine own_ret (t := T3.setFrames fs) ?_ ⟨_, hrun, hended, _, _, rfl, ?_, ⟨_, rfl⟩, hW, hsame.mono (by decide) (by decide)⟩
  · exact retN X3 hx (t := .boolean) Bd.returns (by simp) (hb hby d35_18) hr
  · show Q_asbIsL Z _ _ h0 n0 _ T3.heap _
    rw [e3]
    exact ⟨rfl, N0, rfl⟩
theorem ef_strOfA (m : MethodId) (x0 : Nat) (x1 : Nat) : entryFrame m #[(.ref x0), (.ref x1), .null] 5 = mkF m 0 #[.val (.ref x0), .val (.ref x1), .val .null, .unset, .unset] [] := by first | (simp [entryFrame, mkF, argsToLocals, Value.category]; done) | rfl
theorem pn_31 : plainName "java/lang/String" = true := by first | (simp [plainName, overriddenIn]; done) | decide +kernel
theorem d31_0 : decode jdk_42_method_150_code 0 = .ok (.aload_n 0, 1) := by decide +kernel
theorem d31_1 : decode jdk_42_method_150_code 1 = .ok (.invokespecial 1, 3) := by decide +kernel
theorem d31_4 : decode jdk_42_method_150_code 4 = .ok (.aload_n 1, 1) := by decide +kernel
theorem d31_5 : decode jdk_42_method_150_code 5 = .ok (.invokevirtual 552, 3) := by decide +kernel
theorem pd_10 : parseMethodDescriptor "()[B" = some ⟨[], some (.array .byte)⟩ := by decide +kernel
theorem d31_8 : decode jdk_42_method_150_code 8 = .ok (.astore_n 3, 1) := by decide +kernel
theorem d31_9 : decode jdk_42_method_150_code 9 = .ok (.aload_n 1, 1) := by decide +kernel
theorem d31_10 : decode jdk_42_method_150_code 10 = .ok (.invokevirtual 549, 3) := by decide +kernel
theorem d31_13 : decode jdk_42_method_150_code 13 = .ok (.istore 4, 2) := by decide +kernel
theorem d31_15 : decode jdk_42_method_150_code 15 = .ok (.aload_n 1, 1) := by decide +kernel
theorem d31_16 : decode jdk_42_method_150_code 16 = .ok (.invokevirtual 1047, 3) := by decide +kernel
theorem pd_11 : parseMethodDescriptor "()Z" = some ⟨[], some .boolean⟩ := by decide +kernel
theorem d31_19 : decode jdk_42_method_150_code 19 = .ok (.ifCond .eq 22, 3) := by decide +kernel
theorem d31_22 : decode jdk_42_method_150_code 22 = .ok (.aload_n 0, 1) := by decide +kernel
theorem d31_23 : decode jdk_42_method_150_code 23 = .ok (.iconst 0, 1) := by decide +kernel
theorem d31_24 : decode jdk_42_method_150_code 24 = .ok (.putfield 15, 3) := by decide +kernel
theorem d31_27 : decode jdk_42_method_150_code 27 = .ok (.aload_n 0, 1) := by decide +kernel
theorem d31_28 : decode jdk_42_method_150_code 28 = .ok (.aload_n 3, 1) := by decide +kernel
theorem d31_29 : decode jdk_42_method_150_code 29 = .ok (.iconst 0, 1) := by decide +kernel
theorem d31_30 : decode jdk_42_method_150_code 30 = .ok (.iload 4, 2) := by decide +kernel
theorem d31_32 : decode jdk_42_method_150_code 32 = .ok (.invokestatic 54, 3) := by decide +kernel
theorem d31_35 : decode jdk_42_method_150_code 35 = .ok (.putfield 9, 3) := by decide +kernel
theorem d31_38 : decode jdk_42_method_150_code 38 = .ok (.goto 59, 3) := by decide +kernel
theorem d31_97 : decode jdk_42_method_150_code 97 = .ok (.return_, 1) := by decide +kernel
def Q_strOfA (Z : State) (x : Nat) (sb : Nat) (b : Nat) (kb : ClassId) (wl : List Int32) (zc : Int32) (h0 : Heap) (n0 : Nat) (vR : Option Value) (hR : Heap) (LR : List Loc) : Prop := ∃ (t : Nat) (kt : ClassId), vR = none ∧ Fr n0 LR ∧ Keep h0 hR [x] ∧ h0.size ≤ t ∧ (Exa Z hR x "java/lang/String") ∧ (Fld Z hR x "java/lang/String" "coder" "B" (.int 0)) ∧ (Fld Z hR x "java/lang/String" "value" "[B" (.ref t)) ∧ (Arv Z hR t kt .byte (Int32.ofNat wl.length) (own_b wl) (.int 0))
set_option maxRecDepth 65536 in
set_option maxHeartbeats 40000000 in
theorem strOfA (l : Launch) (Z : State) (a0 : Array Value) (hw : ∀ d ∈ tables_1, d.before a0 Z = true) (ws : List Jvm.Cond) (x : Nat) (sb : Nat) (b : Nat) (kb : ClassId) (wl : List Int32) (zc : Int32) (h0 : Heap) (n0 : Nat) (Z0 : n0 ≤ h0.size) (E_x : Exa Z h0 x "java/lang/String") (g_x : n0 ≤ x) (Fv_x : Fld Z h0 x "java/lang/String" "value" "[B" .null) (Fc_x : Fld Z h0 x "java/lang/String" "coder" "B" (.int 0)) (E_sb : Exa Z h0 sb "java/lang/StringBuilder") (F_value_sb : Fld Z h0 sb "java/lang/AbstractStringBuilder" "value" "[B" (.ref b)) (F_coder_sb : Fld Z h0 sb "java/lang/AbstractStringBuilder" "coder" "B" (.int 0)) (F_count_sb : Fld Z h0 sb "java/lang/AbstractStringBuilder" "count" "I" (.int (Int32.ofNat wl.length))) (V_b : Arv Z h0 b kb .byte (16 : Int32) (own_bz wl) (.int 0)) (S_C : Sta Z h0 "java/lang/String" "COMPACT_STRINGS" "Z" (.int zc)) (hz : ¬ (zc = (0 : Int32))) (hw16 : wl.length < 16) :
    own_M l (⟨"java/lang/String", "<init>", "(Ljava/lang/AbstractStringBuilder;Ljava/lang/Void;)V"⟩ : MethodName) jdk_42_method_150_code 5 none ws ({ frames := 3, cells := 1, slots := 15, locals := 49 } : Room) Z #[(.ref x), (.ref sb), .null] h0 (Q_strOfA Z x sb b kb wl zc h0 n0) := by
  refine own_body (own := "java/lang/String") rfl (plainFor_of_name pn_31) (fun m => ef_strOfA m x sb) ?_
  intro p e s m below meth c s₁ Bd hml hZ hh hx hby hown X0 e0
  have N0 := Fr.nil n0
  have lt1 : h0.size > x := E_x.lt
  have lt2 : h0.size > sb := E_sb.lt
  have lt3 : h0.size > b := V_b.lt
  refine own_aloadN X0.here hx hby d31_0 rfl rfl ?_
  refine own_initO X0 hx hZ hown (own_w hw 15 rfl) (own_w hw 16 rfl) (own_w hw 17 rfl) e0 (by rw [hml]; rfl) hby d31_1 (by decide) 0 (Nat.le_of_eq rfl) (by decide) ?_
  intro T4 X4 e4
  refine own_aloadN X4.here hx hby d31_4 rfl rfl ?_
  refine own_virtual X4 hx hZ hown (own_w hw 170 rfl) (own_w hw 171 rfl) (notFace_of_selects (args := #[]) (mvT hZ (own_w hw 173 rfl))) (own_w hw 173 rfl) (own_w hw 172 rfl) (own_w hw 82 rfl) (own_w hw 174 rfl) (by decide) (asbVal l Z a0 hw [] sb b h0 n0 Z0 F_value_sb) 0 (Nat.le_of_eq rfl) (by decide) (by decide) (by rw [hml]; rfl) (argsL := []) (st := []) E_sb (lenOf pd_10 rfl) rfl rfl (by decide) (by decide) e4 hby d31_5 ?_
  intro T5 v5 L5 X5 hQ5
  obtain ⟨rfl, Nq5, eh5⟩ := hQ5
  have N5 := Fr.app N0 Nq5
  refine own_sh (T := T5) 8 #[.val (.ref x), .val (.ref sb), .val .null, .unset, .unset] [(.ref b)] ?_
  refine own_astoreN X5.here hx hby d31_8 rfl (l' := #[.val (.ref x), .val (.ref sb), .val .null, .val (.ref b), .unset]) rfl ?_
  refine own_aloadN X5.here hx hby d31_9 rfl rfl ?_
  refine own_virtual X5 hx hZ hown (own_w hw 175 rfl) (own_w hw 176 rfl) (own_notFace (args := #[]) (y := (⟨"java/lang/AbstractStringBuilder", "length", "()I"⟩ : MethodName)) (y' := (⟨"java/lang/AbstractStringBuilder", "ensureCapacityInternal", "(I)V"⟩ : MethodName)) rfl (mvT hZ (own_w hw 116 rfl))) (own_w hw 178 rfl) (own_w hw 179 rfl) (own_w hw 74 rfl) (own_w hw 180 rfl) (by decide) (sbLenG l Z a0 hw [] sb (Int32.ofNat wl.length) h0 n0 Z0 E_sb F_count_sb) 0 (Nat.le_of_eq rfl) (by decide) (by decide) (by rw [hml]; rfl) (argsL := []) (st := []) E_sb (lenOf pd_4 rfl) rfl rfl (by decide) (by decide) eh5 hby d31_10 ?_
  intro T6 v6 L6 X6 hQ6
  obtain ⟨rfl, Nq6, eh6⟩ := hQ6
  have N6 := Fr.app N5 Nq6
  refine own_sh (T := T6) 13 #[.val (.ref x), .val (.ref sb), .val .null, .val (.ref b), .unset] [(.int (Int32.ofNat wl.length))] ?_
  refine own_istore X6.here hx hby d31_13 (l' := #[.val (.ref x), .val (.ref sb), .val .null, .val (.ref b), .val (.int (Int32.ofNat wl.length))]) rfl ?_
  refine own_aloadN X6.here hx hby d31_15 rfl rfl ?_
  refine own_virtual X6 hx hZ hown (own_w hw 183 rfl) (own_w hw 184 rfl) (notFace_of_selects (args := #[]) (mvT hZ (own_w hw 186 rfl))) (own_w hw 186 rfl) (own_w hw 185 rfl) (own_w hw 82 rfl) (own_w hw 187 rfl) (by decide) (asbIsL l Z a0 hw [] sb zc h0 n0 Z0 F_coder_sb S_C hz) 0 (Nat.le_of_eq rfl) (by decide) (by decide) (by rw [hml]; rfl) (argsL := []) (st := []) E_sb (lenOf pd_11 rfl) rfl rfl (by decide) (by decide) eh6 hby d31_16 ?_
  intro T7 v7 L7 X7 hQ7
  obtain ⟨rfl, Nq7, eh7⟩ := hQ7
  have N7 := Fr.app N6 Nq7
  refine own_sh (T := T7) 19 #[.val (.ref x), .val (.ref sb), .val .null, .val (.ref b), .val (.int (Int32.ofNat wl.length))] [(.int 1)] ?_
  refine own_ifNo X7.here hx hby d31_19 ((if0 _ _).trans (feq (show ¬ ((1 : Int32) = (0 : Int32)) from (by decide))).1) ?_
  refine own_aloadN X7.here hx hby d31_22 rfl rfl ?_
  refine own_iconst X7.here hx hby d31_23 (v := (0 : Int32)) (by decide) ?_
  refine own_putFN X7 hx hZ (ty := .byte) (v' := (.int 0)) hown (own_w hw 25 rfl) Via.refl eh7 Fc_x E_x (Or.inr ⟨(own_w hw 21 rfl), rfl, (name_of_methodNamed Bd.named Bd.method).1⟩) (own_w hw 6 rfl) (by decide) rfl rfl hby d31_24 N7 g_x ?_
  intro T8 h8 lo8 X8 e8 N8 W8 F8 z8
  refine own_aloadN X8.here hx hby d31_27 rfl rfl ?_
  refine own_aloadN X8.here hx hby d31_28 rfl rfl ?_
  refine own_iconst X8.here hx hby d31_29 (v := (0 : Int32)) (by decide) ?_
  refine own_iload X8.here hx hby d31_30 rfl ?_
  have f9 := (V_b.other W8 (Ne.symm (own_ne_oa E_x (own_w hw 6 rfl) V_b)))
  have z11 : n0 ≤ h8.size := by omega
  refine own_callS X8 hx hZ hown (own_w hw 188 rfl) (own_w hw 189 rfl) (own_w hw 190 rfl) (own_w hw 191 rfl) (by decide) (cr0 l Z a0 hw [] b kb wl h8 n0 z11 f9 hw16) 1 (Nat.le_of_eq rfl) (by decide) (by decide) (by rw [hml]; rfl) (argsL := [(.ref b), (.int 0), (.int (Int32.ofNat wl.length))]) (st := [(.ref x)]) (lenOf pd_9 rfl) rfl rfl (by decide) (by decide) e8 hby d31_32 ?_
  intro T10 v10 L10 X10 hQ10
  obtain ⟨r_10, kr_10, rfl, Nq10, K10, P10_0, P10_1⟩ := hQ10
  have N10 := Fr.app N8 Nq10
  have z12 : h8.size ≤ T10.heap.size := K10.1
  have lt13 : T10.heap.size > r_10 := P10_1.lt
  refine own_sh (T := T10) 35 #[.val (.ref x), .val (.ref sb), .val .null, .val (.ref b), .val (.int (Int32.ofNat wl.length))] [(.ref r_10), (.ref x)] ?_
  have f14 := ((E_x.wr W8).keep K10)
  have f15 := ((Fv_x.other W8 (Or.inr (slot_ne (Or.inr (own_w hw 20 rfl)) (Or.inr (own_w hw 21 rfl)) (by decide) (t := (.array .byte)) (t' := .byte) (by decide) (by decide)))).keep K10 nin0)
  refine own_putF X10 hx hZ (ty := (.array .byte)) hown (host := "") (Or.inl (own_w hw 24 rfl)) Via.refl rfl f15 f14 (Or.inr ⟨(own_w hw 20 rfl), rfl, (name_of_methodNamed Bd.named Bd.method).1⟩) (own_w hw 6 rfl) (by decide) rfl rfl hby d31_35 N10 g_x ?_
  intro T16 h16 lo16 X16 e16 N16 W16 F16 z16
  refine own_goto X16.here hx hby (pc' := 97) d31_38 (by decide) (by decide) ?_
  have K17 : Keep h0 h16 [x] := ((((Keep.refl h0 [x]).wr W8 (Or.inl (List.mem_of_getElem? (i := 0) rfl))).trans K10 all0).wr W16 (Or.inl (List.mem_of_getElem? (i := 0) rfl)))
  have f18 := (f14.wr W16)
  have f19 := ((F8.keep K10 nin0).other W16 (Or.inr (slot_ne (Or.inr (own_w hw 21 rfl)) (Or.inr (own_w hw 20 rfl)) (by decide) (t := .byte) (t' := (.array .byte)) (by decide) (by decide))))
  have f20 := (P10_1.other W16 (own_nn (by omega)))
  obtain ⟨fs, hr, hrun, hended, hW, hsame⟩ := X16.leave (v := none) (fun _ => rfl) Bd.notSynchronized
  refine own_ret (t := T16.setFrames fs) ?_ ⟨_, hrun, hended, _, _, rfl, ?_, ⟨_, rfl⟩, hW, hsame.mono (by decide) (by decide)⟩
  · exact X16.returnOut hx Bd.returns (hb hby d31_97) hr
  · show Q_strOfA Z _ _ _ _ _ _ h0 n0 _ T16.heap _
    rw [e16]
    exact ⟨r_10, kr_10, rfl, N16, K17, (by omega), f18, f19, F16, f20⟩
theorem ef_strOfB (m : MethodId) (x0 : Nat) (x1 : Nat) : entryFrame m #[(.ref x0), (.ref x1)] 2 = mkF m 0 #[.val (.ref x0), .val (.ref x1)] [] := by first | (simp [entryFrame, mkF, argsToLocals, Value.category]; done) | rfl
theorem pn_30 : plainName "java/lang/String" = true := by first | (simp [plainName, overriddenIn]; done) | decide +kernel
theorem d30_0 : decode jdk_42_method_53_code 0 = .ok (.aload_n 0, 1) := by decide +kernel
theorem d30_1 : decode jdk_42_method_53_code 1 = .ok (.aload_n 1, 1) := by decide +kernel
theorem d30_2 : decode jdk_42_method_53_code 2 = .ok (.aconst_null, 1) := by decide +kernel
theorem d30_3 : decode jdk_42_method_53_code 3 = .ok (.invokespecial 489, 3) := by decide +kernel
theorem pd_12 : parseMethodDescriptor "(Ljava/lang/AbstractStringBuilder;Ljava/lang/Void;)V" = some ⟨[(.object "java/lang/AbstractStringBuilder"), (.object "java/lang/Void")], none⟩ := by decide +kernel
theorem d30_6 : decode jdk_42_method_53_code 6 = .ok (.return_, 1) := by decide +kernel
def Q_strOfB (Z : State) (x : Nat) (sb : Nat) (b : Nat) (kb : ClassId) (wl : List Int32) (zc : Int32) (h0 : Heap) (n0 : Nat) (vR : Option Value) (hR : Heap) (LR : List Loc) : Prop := ∃ (t : Nat) (kt : ClassId), vR = none ∧ Fr n0 LR ∧ Keep h0 hR [x] ∧ h0.size ≤ t ∧ (Exa Z hR x "java/lang/String") ∧ (Fld Z hR x "java/lang/String" "coder" "B" (.int 0)) ∧ (Fld Z hR x "java/lang/String" "value" "[B" (.ref t)) ∧ (Arv Z hR t kt .byte (Int32.ofNat wl.length) (own_b wl) (.int 0))
set_option maxRecDepth 65536 in
set_option maxHeartbeats 40000000 in
theorem strOfB (l : Launch) (Z : State) (a0 : Array Value) (hw : ∀ d ∈ tables_1, d.before a0 Z = true) (ws : List Jvm.Cond) (x : Nat) (sb : Nat) (b : Nat) (kb : ClassId) (wl : List Int32) (zc : Int32) (h0 : Heap) (n0 : Nat) (Z0 : n0 ≤ h0.size) (E_x : Exa Z h0 x "java/lang/String") (g_x : n0 ≤ x) (Fv_x : Fld Z h0 x "java/lang/String" "value" "[B" .null) (Fc_x : Fld Z h0 x "java/lang/String" "coder" "B" (.int 0)) (E_sb : Exa Z h0 sb "java/lang/StringBuilder") (F_value_sb : Fld Z h0 sb "java/lang/AbstractStringBuilder" "value" "[B" (.ref b)) (F_coder_sb : Fld Z h0 sb "java/lang/AbstractStringBuilder" "coder" "B" (.int 0)) (F_count_sb : Fld Z h0 sb "java/lang/AbstractStringBuilder" "count" "I" (.int (Int32.ofNat wl.length))) (V_b : Arv Z h0 b kb .byte (16 : Int32) (own_bz wl) (.int 0)) (S_C : Sta Z h0 "java/lang/String" "COMPACT_STRINGS" "Z" (.int zc)) (hz : ¬ (zc = (0 : Int32))) (hw16 : wl.length < 16) :
    own_M l (⟨"java/lang/String", "<init>", "(Ljava/lang/StringBuilder;)V"⟩ : MethodName) jdk_42_method_53_code 2 none ws ({ frames := 4, cells := 1, slots := 15, locals := 65 } : Room) Z #[(.ref x), (.ref sb)] h0 (Q_strOfB Z x sb b kb wl zc h0 n0) := by
  refine own_body (own := "java/lang/String") rfl (plainFor_of_name pn_30) (fun m => ef_strOfB m x sb) ?_
  intro p e s m below meth c s₁ Bd hml hZ hh hx hby hown X0 e0
  have N0 := Fr.nil n0
  have lt1 : h0.size > x := E_x.lt
  have lt2 : h0.size > sb := E_sb.lt
  have lt3 : h0.size > b := V_b.lt
  refine own_aloadN X0.here hx hby d30_0 rfl rfl ?_
  refine own_aloadN X0.here hx hby d30_1 rfl rfl ?_
  refine own_aconstNull X0.here hx hby d30_2 ?_
  refine own_special X0 hx hZ rfl hown (own_w hw 167 rfl) (own_w hw 168 rfl) (own_w hw 7 rfl) (own_w hw 169 rfl) (by decide) (strOfA l Z a0 hw [] x sb b kb wl zc h0 n0 Z0 E_x g_x Fv_x Fc_x E_sb F_value_sb F_coder_sb F_count_sb V_b S_C hz hw16) 0 (Nat.le_of_eq rfl) (by decide) (by decide) (by rw [hml]; rfl) (argsL := [(.ref sb), .null]) (st := []) (a := x) (lenOf pd_12 rfl) rfl rfl (by decide) (by decide) e0 hby d30_3 ?_
  intro T4 v4 L4 X4 hQ4
  obtain ⟨t_4, kt_4, rfl, Nq4, K4, P4_0, P4_1, P4_2, P4_3, P4_4⟩ := hQ4
  have N4 := Fr.app N0 Nq4
  have z5 : h0.size ≤ T4.heap.size := K4.1
  have lt6 : T4.heap.size > x := P4_1.lt
  have lt7 : T4.heap.size > t_4 := P4_4.lt
  refine own_sh (T := T4) 6 #[.val (.ref x), .val (.ref sb)] [] ?_
  have K8 : Keep h0 T4.heap [x] := ((Keep.refl h0 [x]).trans K4 (allS (P := fun xq_ => xq_ ∈ [x] ∨ h0.size ≤ xq_) (Or.inl (List.mem_of_getElem? (i := 0) rfl)) all0))
  obtain ⟨fs, hr, hrun, hended, hW, hsame⟩ := X4.leave (v := none) (fun _ => rfl) Bd.notSynchronized
  refine own_ret (t := T4.setFrames fs) ?_ ⟨_, hrun, hended, _, _, rfl, ?_, ⟨_, rfl⟩, hW, hsame.mono (by decide) (by decide)⟩
  · exact X4.returnOut hx Bd.returns (hb hby d30_6) hr
  · show Q_strOfB Z _ _ _ _ _ _ h0 n0 _ T4.heap _
    exact ⟨t_4, kt_4, rfl, N4, K8, (by omega), P4_1, P4_2, P4_3, P4_4⟩
theorem ef_sbStrG (m : MethodId) (x0 : Nat) : entryFrame m #[(.ref x0)] 1 = mkF m 0 #[.val (.ref x0)] [] := by first | (simp [entryFrame, mkF, argsToLocals, Value.category]; done) | rfl
theorem pn_29 : plainName "java/lang/StringBuilder" = true := by first | (simp [plainName, overriddenIn]; done) | decide +kernel
theorem d29_0 : decode jdk_67_method_42_code 0 = .ok (.new 18, 3) := by decide +kernel
theorem d29_3 : decode jdk_67_method_42_code 3 = .ok (.dup, 1) := by decide +kernel
theorem d29_4 : decode jdk_67_method_42_code 4 = .ok (.aload_n 0, 1) := by decide +kernel
theorem d29_5 : decode jdk_67_method_42_code 5 = .ok (.invokespecial 137, 3) := by decide +kernel
theorem pd_13 : parseMethodDescriptor "(Ljava/lang/StringBuilder;)V" = some ⟨[(.object "java/lang/StringBuilder")], none⟩ := by decide +kernel
theorem d29_8 : decode jdk_67_method_42_code 8 = .ok (.areturn, 1) := by decide +kernel
def Q_sbStrG (Z : State) (sb : Nat) (b : Nat) (kb : ClassId) (wl : List Int32) (zc : Int32) (h0 : Heap) (n0 : Nat) (vR : Option Value) (hR : Heap) (LR : List Loc) : Prop := ∃ (x : Nat) (t : Nat) (kt : ClassId), vR = some (.ref x) ∧ Fr n0 LR ∧ Keep h0 hR [] ∧ h0.size ≤ x ∧ (Exa Z hR x "java/lang/String") ∧ (Fld Z hR x "java/lang/String" "coder" "B" (.int 0)) ∧ (Fld Z hR x "java/lang/String" "value" "[B" (.ref t)) ∧ (Arv Z hR t kt .byte (Int32.ofNat wl.length) (own_b wl) (.int 0))
set_option maxRecDepth 65536 in
set_option maxHeartbeats 40000000 in
theorem sbStrG (l : Launch) (Z : State) (a0 : Array Value) (hw : ∀ d ∈ tables_1, d.before a0 Z = true) (ws : List Jvm.Cond) (sb : Nat) (b : Nat) (kb : ClassId) (wl : List Int32) (zc : Int32) (h0 : Heap) (n0 : Nat) (Z0 : n0 ≤ h0.size) (E_sb : Exa Z h0 sb "java/lang/StringBuilder") (F_value_sb : Fld Z h0 sb "java/lang/AbstractStringBuilder" "value" "[B" (.ref b)) (F_coder_sb : Fld Z h0 sb "java/lang/AbstractStringBuilder" "coder" "B" (.int 0)) (F_count_sb : Fld Z h0 sb "java/lang/AbstractStringBuilder" "count" "I" (.int (Int32.ofNat wl.length))) (V_b : Arv Z h0 b kb .byte (16 : Int32) (own_bz wl) (.int 0)) (S_C : Sta Z h0 "java/lang/String" "COMPACT_STRINGS" "Z" (.int zc)) (hz : ¬ (zc = (0 : Int32))) (hw16 : wl.length < 16) :
    own_M l (⟨"java/lang/StringBuilder", "toString", "()Ljava/lang/String;"⟩ : MethodName) jdk_67_method_42_code 1 (some (.object "java/lang/String")) ws ({ frames := 5, cells := 2, slots := 19, locals := 79 } : Room) Z #[(.ref sb)] h0 (Q_sbStrG Z sb b kb wl zc h0 n0) := by
  refine own_body (own := "java/lang/StringBuilder") rfl (plainFor_of_name pn_29) (fun m => ef_sbStrG m sb) ?_
  intro p e s m below meth c s₁ Bd hml hZ hh hx hby hown X0 e0
  have N0 := Fr.nil n0
  have lt1 : h0.size > sb := E_sb.lt
  have lt2 : h0.size > b := V_b.lt
  refine own_newO X0 hx hZ hown (own_w hw 163 rfl) (own_w hw 6 rfl) (own_w hw 7 rfl) e0 hby d29_0 (by decide) (by decide) ?_
  intro T3 h3 b3 X3 e3 E3 g3 A3 D3 lt3
  have z4 : h0.size ≤ h3.size := E3.1
  have F5 : Fld Z h3 b3 "java/lang/String" "value" "[B" .null := D3 (Or.inr (own_w hw 20 rfl)) (ty := (.array .byte)) (by decide)
  have F6 : Fld Z h3 b3 "java/lang/String" "coder" "B" (.int 0) := D3 (Or.inr (own_w hw 21 rfl)) (ty := .byte) (by decide)
  refine own_dup X3.here hx hby d29_3 rfl ?_
  refine own_aloadN X3.here hx hby d29_4 rfl rfl ?_
  have f7 := (E_sb.ext E3)
  have f8 := (F_value_sb.ext E3)
  have f9 := (F_coder_sb.ext E3)
  have f10 := (F_count_sb.ext E3)
  have f11 := (V_b.ext E3)
  have f12 := (S_C.ext E3)
  have z14 : n0 ≤ h3.size := by omega
  refine own_special X3 hx hZ rfl hown (own_w hw 164 rfl) (own_w hw 165 rfl) (own_w hw 7 rfl) (own_w hw 166 rfl) (by decide) (strOfB l Z a0 hw [] b3 sb b kb wl zc h3 n0 z14 A3 (by omega) F5 F6 f7 f8 f9 f10 f11 f12 hz hw16) 1 (Nat.le_of_eq rfl) (by decide) (by decide) (by rw [hml]; rfl) (argsL := [(.ref sb)]) (st := [(.ref b3)]) (a := b3) (lenOf pd_13 rfl) rfl rfl (by decide) (by decide) e3 hby d29_5 ?_
  intro T13 v13 L13 X13 hQ13
  obtain ⟨t_13, kt_13, rfl, Nq13, K13, P13_0, P13_1, P13_2, P13_3, P13_4⟩ := hQ13
  have N13 := Fr.app N0 Nq13
  have z15 : h3.size ≤ T13.heap.size := K13.1
  have lt16 : T13.heap.size > b3 := P13_1.lt
  have lt17 : T13.heap.size > t_13 := P13_4.lt
  refine own_sh (T := T13) 8 #[.val (.ref sb)] [(.ref b3)] ?_
  have K18 : Keep h0 T13.heap [] := (((Keep.refl h0 []).ext E3).trans K13 (allS (P := fun xq_ => xq_ ∈ [] ∨ h0.size ≤ xq_) (Or.inr (by omega)) all0))
  obtain ⟨fs, hr, hrun, hended, hW, hsame⟩ := X13.leave (v := some (.ref b3)) (fun h => by rw [Bd.returns] at h; cases h) Bd.notSynchronized
  refine own_ret (t := T13.setFrames fs) ?_ ⟨_, hrun, hended, _, _, rfl, ?_, ⟨_, rfl⟩, hW, hsame.mono (by decide) (by decide)⟩
  · exact retOut X13 hx Bd.returns rfl (Or.inr (Or.inr (Or.inr (Or.inr ⟨rfl, rfl, rfl⟩)))) (hb hby d29_8) hr
  · show Q_sbStrG Z _ _ _ _ _ h0 n0 _ T13.heap _
    exact ⟨b3, t_13, kt_13, rfl, N13, K18, (by omega), P13_1, P13_2, P13_3, P13_4⟩
theorem ef_bbInitB (m : MethodId) (x0 : Nat) (x1 : Nat) (x2 : Int32) : entryFrame m #[(.ref x0), (.ref x1), (.int x2)] 3 = mkF m 0 #[.val (.ref x0), .val (.ref x1), .val (.int x2)] [] := by first | (simp [entryFrame, mkF, argsToLocals, Value.category]; done) | rfl
theorem pn_11 : plainName "java/lang/String" = true := by first | (simp [plainName, overriddenIn]; done) | decide +kernel
theorem d11_0 : decode jdk_42_method_151_code 0 = .ok (.aload_n 0, 1) := by decide +kernel
theorem d11_1 : decode jdk_42_method_151_code 1 = .ok (.invokespecial 1, 3) := by decide +kernel
theorem d11_4 : decode jdk_42_method_151_code 4 = .ok (.aload_n 0, 1) := by decide +kernel
theorem d11_5 : decode jdk_42_method_151_code 5 = .ok (.aload_n 1, 1) := by decide +kernel
theorem d11_6 : decode jdk_42_method_151_code 6 = .ok (.putfield 9, 3) := by decide +kernel
theorem d11_9 : decode jdk_42_method_151_code 9 = .ok (.aload_n 0, 1) := by decide +kernel
theorem d11_10 : decode jdk_42_method_151_code 10 = .ok (.iload_n 2, 1) := by decide +kernel
theorem d11_11 : decode jdk_42_method_151_code 11 = .ok (.putfield 15, 3) := by decide +kernel
theorem d11_14 : decode jdk_42_method_151_code 14 = .ok (.return_, 1) := by decide +kernel
def Q_bbInitB (Z : State) (x : Nat) (t : Nat) (h0 : Heap) (n0 : Nat) (vR : Option Value) (hR : Heap) (LR : List Loc) : Prop := vR = none ∧ Fr n0 LR ∧ Keep h0 hR [x] ∧ (Exa Z hR x "java/lang/String") ∧ (Fld Z hR x "java/lang/String" "value" "[B" (.ref t)) ∧ (Fld Z hR x "java/lang/String" "coder" "B" (.int 0))
set_option maxRecDepth 65536 in
set_option maxHeartbeats 40000000 in
theorem bbInitB (l : Launch) (Z : State) (a0 : Array Value) (hw : ∀ d ∈ tables_1, d.before a0 Z = true) (ws : List Jvm.Cond) (x : Nat) (t : Nat) (h0 : Heap) (n0 : Nat) (Z0 : n0 ≤ h0.size) (E_x : Exa Z h0 x "java/lang/String") (Fv_x : Fld Z h0 x "java/lang/String" "value" "[B" .null) (Fc_x : Fld Z h0 x "java/lang/String" "coder" "B" (.int 0)) (g_x : n0 ≤ x) :
    own_M l (⟨"java/lang/String", "<init>", "([BB)V"⟩ : MethodName) jdk_42_method_151_code 3 none ws ({ frames := 1, cells := 0, slots := 0, locals := 12 } : Room) Z #[(.ref x), (.ref t), (.int 0)] h0 (Q_bbInitB Z x t h0 n0) := by
  refine own_body (own := "java/lang/String") rfl (plainFor_of_name pn_11) (fun m => ef_bbInitB m x t (0 : Int32)) ?_
  intro p e s m below meth c s₁ Bd hml hZ hh hx hby hown X0 e0
  have N0 := Fr.nil n0
  have lt1 : h0.size > x := E_x.lt
  refine own_aloadN X0.here hx hby d11_0 rfl rfl ?_
  refine own_initO X0 hx hZ hown (own_w hw 15 rfl) (own_w hw 16 rfl) (own_w hw 17 rfl) e0 (by rw [hml]; rfl) hby d11_1 (by decide) 0 (Nat.le_of_eq rfl) (by decide) ?_
  intro T2 X2 e2
  refine own_aloadN X2.here hx hby d11_4 rfl rfl ?_
  refine own_aloadN X2.here hx hby d11_5 rfl rfl ?_
  refine own_putF X2 hx hZ (ty := (.array .byte)) hown (host := "") (Or.inl (own_w hw 24 rfl)) Via.refl e2 Fv_x E_x (Or.inr ⟨(own_w hw 20 rfl), rfl, (name_of_methodNamed Bd.named Bd.method).1⟩) (own_w hw 6 rfl) (by decide) rfl rfl hby d11_6 N0 g_x ?_
  intro T3 h3 lo3 X3 e3 N3 W3 F3 z3
  refine own_aloadN X3.here hx hby d11_9 rfl rfl ?_
  refine own_iloadN X3.here hx hby d11_10 rfl ?_
  have f4 := (E_x.wr W3)
  have f5 := (Fc_x.other W3 (Or.inr (slot_ne (Or.inr (own_w hw 21 rfl)) (Or.inr (own_w hw 20 rfl)) (by decide) (t := .byte) (t' := (.array .byte)) (by decide) (by decide))))
  refine own_putFN X3 hx hZ (ty := .byte) (v' := (.int 0)) hown (own_w hw 25 rfl) Via.refl e3 f5 f4 (Or.inr ⟨(own_w hw 21 rfl), rfl, (name_of_methodNamed Bd.named Bd.method).1⟩) (own_w hw 6 rfl) (by decide) rfl rfl hby d11_11 N3 g_x ?_
  intro T6 h6 lo6 X6 e6 N6 W6 F6 z6
  have K7 : Keep h0 h6 [x] := (((Keep.refl h0 [x]).wr W3 (Or.inl (List.mem_of_getElem? (i := 0) rfl))).wr W6 (Or.inl (List.mem_of_getElem? (i := 0) rfl)))
  have f8 := (f4.wr W6)
  have f9 := (F3.other W6 (Or.inr (slot_ne (Or.inr (own_w hw 20 rfl)) (Or.inr (own_w hw 21 rfl)) (by decide) (t := (.array .byte)) (t' := .byte) (by decide) (by decide))))
  obtain ⟨fs, hr, hrun, hended, hW, hsame⟩ := X6.leave (v := none) (fun _ => rfl) Bd.notSynchronized
  refine own_ret (t := T6.setFrames fs) ?_ ⟨_, hrun, hended, _, _, rfl, ?_, ⟨_, rfl⟩, hW, hsame.mono (by decide) (by decide)⟩
  · exact X6.returnOut hx Bd.returns (hb hby d11_14) hr
  · show Q_bbInitB Z _ _ h0 n0 _ T6.heap _
    rw [e6]
    exact ⟨rfl, N6, K7, f8, f9, F6⟩
theorem ef_preFT (m : MethodId) (x0 : Int32) (x1 : Int32) (x2 : Int32) (x3 : Value) (hx3 : x3.isRef = true) : entryFrame m #[(.int x0), (.int x1), (.int x2), x3] 4 = mkF m 0 #[.val (.int x0), .val (.int x1), .val (.int x2), .val x3] [] := by cases x3 <;> first | (cases hx3; done) | (simp [entryFrame, mkF, argsToLocals, Value.category]; done) | rfl
theorem pn_28 : plainName "jdk/internal/util/Preconditions" = true := by first | (simp [plainName, overriddenIn]; done) | decide +kernel
theorem d28_0 : decode jdk_41_method_12_code 0 = .ok (.iload_n 0, 1) := by decide +kernel
theorem d28_1 : decode jdk_41_method_12_code 1 = .ok (.ifCond .lt 13, 3) := by decide +kernel
theorem d28_4 : decode jdk_41_method_12_code 4 = .ok (.iload_n 0, 1) := by decide +kernel
theorem d28_5 : decode jdk_41_method_12_code 5 = .ok (.iload_n 1, 1) := by decide +kernel
theorem d28_6 : decode jdk_41_method_12_code 6 = .ok (.if_icmp .gt 8, 3) := by decide +kernel
theorem d28_9 : decode jdk_41_method_12_code 9 = .ok (.iload_n 1, 1) := by decide +kernel
theorem d28_10 : decode jdk_41_method_12_code 10 = .ok (.iload_n 2, 1) := by decide +kernel
theorem d28_11 : decode jdk_41_method_12_code 11 = .ok (.if_icmp .le 11, 3) := by decide +kernel
theorem d28_22 : decode jdk_41_method_12_code 22 = .ok (.iload_n 0, 1) := by decide +kernel
theorem d28_23 : decode jdk_41_method_12_code 23 = .ok (.ireturn, 1) := by decide +kernel
def Q_preFT (Z : State) (b_ : Int32) (e_ : Int32) (fm : Value) (h0 : Heap) (n0 : Nat) (vR : Option Value) (hR : Heap) (LR : List Loc) : Prop := vR = some (.int b_) ∧ Fr n0 LR ∧ hR = h0
set_option maxRecDepth 65536 in
set_option maxHeartbeats 40000000 in
theorem preFT (l : Launch) (Z : State) (a0 : Array Value) (hw : ∀ d ∈ tables_1, d.before a0 Z = true) (ws : List Jvm.Cond) (b_ : Int32) (e_ : Int32) (fm : Value) (h0 : Heap) (n0 : Nat) (Z0 : n0 ≤ h0.size) (hfm : fm.isRef = true) (hb0 : ¬ (b_ < (0 : Int32))) (hb1 : ¬ (e_ < b_)) :
    own_M l (⟨"jdk/internal/util/Preconditions", "checkFromToIndex", "(IIILjava/util/function/BiFunction;)I"⟩ : MethodName) jdk_41_method_12_code 4 (some .int) ws ({ frames := 0, cells := 0, slots := 0, locals := 0 } : Room) Z #[(.int b_), (.int e_), (.int e_), fm] h0 (Q_preFT Z b_ e_ fm h0 n0) := by
  refine own_body (own := "jdk/internal/util/Preconditions") rfl (plainFor_of_name pn_28) (fun m => ef_preFT m b_ e_ e_ fm hfm) ?_
  intro p e s m below meth c s₁ Bd hml hZ hh hx hby hown X0 e0
  have N0 := Fr.nil n0
  refine own_iloadN X0.here hx hby d28_0 rfl ?_
  refine own_ifNo X0.here hx hby d28_1 ((if0 _ _).trans (flt hb0).1) ?_
  refine own_iloadN X0.here hx hby d28_4 rfl ?_
  refine own_iloadN X0.here hx hby d28_5 rfl ?_
  refine own_icmpNo X0.here hx hby d28_6 (flt hb1).2.2.1 ?_
  refine own_iloadN X0.here hx hby d28_9 rfl ?_
  refine own_iloadN X0.here hx hby d28_10 rfl ?_
  refine own_icmpYes X0.here hx hby (pc' := 22) d28_11 (flt Int32.lt_irrefl).2.2.2 (by decide) (by decide) ?_
  refine own_iloadN X0.here hx hby d28_22 rfl ?_
  obtain ⟨fs, hr, hrun, hended, hW, hsame⟩ := X0.leave (v := some (.int b_)) (fun h => by rw [Bd.returns] at h; cases h) Bd.notSynchronized
  refine own_ret (t := s₁.setFrames fs) ?_ ⟨_, hrun, hended, _, _, rfl, ?_, ⟨_, rfl⟩, hW, hsame.mono (by decide) (by decide)⟩
  · exact retOut X0 hx Bd.returns rfl (Or.inl ⟨rfl, Or.inl rfl, _, rfl⟩) (hb hby d28_23) hr
  · show Q_preFT Z _ _ _ h0 n0 _ s₁.heap _
    rw [e0]
    exact ⟨rfl, N0, rfl⟩
theorem ef_strBE (m : MethodId) (x0 : Int32) (x1 : Int32) (x2 : Int32) : entryFrame m #[(.int x0), (.int x1), (.int x2)] 3 = mkF m 0 #[.val (.int x0), .val (.int x1), .val (.int x2)] [] := by first | (simp [entryFrame, mkF, argsToLocals, Value.category]; done) | rfl
theorem pn_27 : plainName "java/lang/String" = true := by first | (simp [plainName, overriddenIn]; done) | decide +kernel
theorem d27_0 : decode jdk_42_method_158_code 0 = .ok (.iload_n 0, 1) := by decide +kernel
theorem d27_1 : decode jdk_42_method_158_code 1 = .ok (.iload_n 1, 1) := by decide +kernel
theorem d27_2 : decode jdk_42_method_158_code 2 = .ok (.iload_n 2, 1) := by decide +kernel
theorem d27_3 : decode jdk_42_method_158_code 3 = .ok (.getstatic 1053, 3) := by decide +kernel
theorem d27_6 : decode jdk_42_method_158_code 6 = .ok (.invokestatic 1062, 3) := by decide +kernel
theorem pd_14 : parseMethodDescriptor "(IIILjava/util/function/BiFunction;)I" = some ⟨[.int, .int, .int, (.object "java/util/function/BiFunction")], some .int⟩ := by decide +kernel
theorem d27_9 : decode jdk_42_method_158_code 9 = .ok (.pop, 1) := by decide +kernel
theorem d27_10 : decode jdk_42_method_158_code 10 = .ok (.return_, 1) := by decide +kernel
def Q_strBE (Z : State) (b_ : Int32) (e_ : Int32) (fm : Value) (h0 : Heap) (n0 : Nat) (vR : Option Value) (hR : Heap) (LR : List Loc) : Prop := vR = none ∧ Fr n0 LR ∧ hR = h0
set_option maxRecDepth 65536 in
set_option maxHeartbeats 40000000 in
theorem strBE (l : Launch) (Z : State) (a0 : Array Value) (hw : ∀ d ∈ tables_1, d.before a0 Z = true) (ws : List Jvm.Cond) (b_ : Int32) (e_ : Int32) (fm : Value) (h0 : Heap) (n0 : Nat) (Z0 : n0 ≤ h0.size) (S_FM : Sta Z h0 "jdk/internal/util/Preconditions" "SIOOBE_FORMATTER" "Ljava/util/function/BiFunction;" fm) (hfm : fm.isRef = true) (h0_ : ¬ (b_ < (0 : Int32))) (h1_ : ¬ (e_ < b_)) :
    own_M l (⟨"java/lang/String", "checkBoundsBeginEnd", "(III)V"⟩ : MethodName) jdk_42_method_158_code 3 none ws ({ frames := 1, cells := 0, slots := 0, locals := 15 } : Room) Z #[(.int b_), (.int e_), (.int e_)] h0 (Q_strBE Z b_ e_ fm h0 n0) := by
  refine own_body (own := "java/lang/String") rfl (plainFor_of_name pn_27) (fun m => ef_strBE m b_ e_ e_) ?_
  intro p e s m below meth c s₁ Bd hml hZ hh hx hby hown X0 e0
  have N0 := Fr.nil n0
  refine own_iloadN X0.here hx hby d27_0 rfl ?_
  refine own_iloadN X0.here hx hby d27_1 rfl ?_
  refine own_iloadN X0.here hx hby d27_2 rfl ?_
  refine own_getS X0 hx hZ hown (host := "") (Or.inl (own_w hw 153 rfl)) Via.refl e0 S_FM hby d27_3 ?_
  intro T1 X1 e1
  refine own_callS X1 hx hZ hown (own_w hw 155 rfl) (own_w hw 156 rfl) (own_w hw 154 rfl) (own_w hw 157 rfl) (by decide) (preFT l Z a0 hw [] b_ e_ fm h0 n0 Z0 hfm h0_ h1_) 0 (Nat.le_of_eq rfl) (by decide) (by decide) (by rw [hml]; rfl) (argsL := [(.int b_), (.int e_), (.int e_), fm]) (st := []) (lenOf pd_14 rfl) rfl rfl (by decide) (by decide) e1 hby d27_6 ?_
  intro T2 v2 L2 X2 hQ2
  obtain ⟨rfl, Nq2, eh2⟩ := hQ2
  have N2 := Fr.app N0 Nq2
  refine own_sh (T := T2) 9 #[.val (.int b_), .val (.int e_), .val (.int e_)] [(.int b_)] ?_
  refine own_pop X2.here hx hby d27_9 rfl ?_
  obtain ⟨fs, hr, hrun, hended, hW, hsame⟩ := X2.leave (v := none) (fun _ => rfl) Bd.notSynchronized
  refine own_ret (t := T2.setFrames fs) ?_ ⟨_, hrun, hended, _, _, rfl, ?_, ⟨_, rfl⟩, hW, hsame.mono (by decide) (by decide)⟩
  · exact X2.returnOut hx Bd.returns (hb hby d27_10) hr
  · show Q_strBE Z _ _ _ h0 n0 _ T2.heap _
    rw [eh2]
    exact ⟨rfl, N2, rfl⟩
theorem ef_l1NewE (m : MethodId) (x0 : Nat) (x1 : Int32) (x2 : Int32) : entryFrame m #[(.ref x0), (.int x1), (.int x2)] 3 = mkF m 0 #[.val (.ref x0), .val (.int x1), .val (.int x2)] [] := by first | (simp [entryFrame, mkF, argsToLocals, Value.category]; done) | rfl
theorem pn_44 : plainName "java/lang/StringLatin1" = true := by first | (simp [plainName, overriddenIn]; done) | decide +kernel
theorem own_EW {Z : State} {a0 : Array Value} (hw : ∀ d ∈ tables_1, d.before a0 Z = true) : EW Z a0 consts_1 := (EW.cons (own_w hw 90 rfl) (by decide) (EW.cons (own_w hw 18 rfl) (by decide) (EW.cons (own_w hw 224 rfl) (by decide) EW.nil)))
theorem d44_0 : decode jdk_43_method_47_code 0 = .ok (.iload_n 2, 1) := by decide +kernel
theorem d44_1 : decode jdk_43_method_47_code 1 = .ok (.ifCond .ne 6, 3) := by decide +kernel
theorem d44_4 : decode jdk_43_method_47_code 4 = .ok (.ldc 151, 2) := by decide +kernel
theorem own_wS {Z : State} {a0 : Array Value} (hw : ∀ d ∈ tables_1, d.before a0 Z = true) : ∀ a ∈ Bundle.stringAtoms, a.before a0 Z = true := by
  intro a ha
  simp only [Bundle.stringAtoms, Bundle.sN, List.mem_cons, List.not_mem_nil, or_false] at ha
  rcases ha with rfl | rfl | rfl | rfl | rfl | rfl | rfl
  · exact own_w hw 7 rfl
  · exact own_w hw 6 rfl
  · exact own_w hw 19 rfl
  · exact own_w hw 20 rfl
  · exact own_w hw 21 rfl
  · exact own_w hw 22 rfl
  · exact own_w hw 23 rfl
theorem d44_6 : decode jdk_43_method_47_code 6 = .ok (.areturn, 1) := by decide +kernel
def Q_l1NewE (Z : State) (t : Nat) (b_ : Int32) (h0 : Heap) (n0 : Nat) (vR : Option Value) (hR : Heap) (LR : List Loc) : Prop := ∃ (r : Nat) (tr : Nat) (kr : ClassId), vR = some (.ref r) ∧ Fr n0 LR ∧ Keep h0 hR [] ∧ (Exa Z hR r "java/lang/String") ∧ (Fld Z hR r "java/lang/String" "coder" "B" (.int 0)) ∧ (Fld Z hR r "java/lang/String" "value" "[B" (.ref tr)) ∧ (Arv Z hR tr kr .byte (Int32.ofNat ([] : List Int32).length) (own_b ([] : List Int32)) (.int 0))
set_option maxRecDepth 65536 in
set_option maxHeartbeats 40000000 in
theorem l1NewE (l : Launch) (Z : State) (a0 : Array Value) (hw : ∀ d ∈ tables_1, d.before a0 Z = true) (ws : List Jvm.Cond) (t : Nat) (b_ : Int32) (h0 : Heap) (n0 : Nat) (Z0 : n0 ≤ h0.size)  :
    own_MH l (⟨"java/lang/StringLatin1", "newString", "([BII)Ljava/lang/String;"⟩ : MethodName) jdk_43_method_47_code 3 (some (.object "java/lang/String")) ws ({ frames := 0, cells := 2, slots := 4, locals := 0 } : Room) Z #[(.ref t), (.int b_), (.int 0)] h0 (Q_l1NewE Z t b_ h0 n0) consts_1 := by
  refine own_bodyH (own := "java/lang/StringLatin1") rfl (plainFor_of_name pn_44) (fun m => ef_l1NewE m t b_ (0 : Int32)) ?_
  intro p e s m below meth c s₁ Bd hml hZ hh hx hby hown X0 e0 hS0 CH0
  have N0 := Fr.nil n0
  have hk0 : h0.size ≤ h0.size := Nat.le_refl _
  have Y0 : Stand p l e ({ frames := 0, cells := 2, slots := 4, locals := 0 } : Room) (s.setVm s.vm) m #[(.ref t), (.int b_), (.int 0)] below meth c s₁ [] 0 0 := X0
  have hEL := own_EW hw
  have C0 := CHr.refl CH0
  refine own_iloadN Y0.here hx hby d44_0 rfl ?_
  refine own_ifNo Y0.here hx hby d44_1 ((if0 _ _).trans (teq (show (0 : Int32) = (0 : Int32) from (by decide))).2) ?_
  have own_wS0 : ∀ a ∈ Bundle.stringAtoms, a.before a0 Z = true := own_wS hw
  refine own_ldcCH Y0 hx hZ hEL hown (own_w hw 224 rfl) own_wS0 e0 hS0 (by omega) C0.1 (List.mem_of_getElem? (i := 2) rfl) (vs := []) (z := (0 : Int32)) ⟨by decide, by decide⟩ (by decide) (by decide) hby d44_4 0 (by decide) (by decide) (by decide) (by decide) ?_
  intro a1 T1 h1 kk1 vm1 b1 kb1 X1 e1 E1 hS1 hk1 hZ1 hown1 Ea1 Fc1 Fv1 Va1 la1 lb1 Cn1 ns1
  have z2 : h0.size ≤ h1.size := E1.1
  have C3 := C0.trans Cn1
  have lt4 : h1.size > a1 := la1
  have lt5 : h1.size > b1 := lb1
  have V6 : Arv Z h1 b1 kb1 .byte (Int32.ofNat ([] : List Int32).length) (own_b ([] : List Int32)) (.int 0) := Va1
  have K7 : Keep h0 h1 [] := ((Keep.refl h0 []).ext E1)
  obtain ⟨fs, hr, hrun, hended, hRW⟩ := X1.leaveW hS1 (by rw [e1]; omega) (v := some (.ref a1)) (fun h => by rw [Bd.returns] at h; cases h) Bd.notSynchronized
  have hCf : CHr Z consts_1 s.vm s.heap T1.vm T1.heap := by
    rw [hh, e1]
    exact C3.trans (CHv.at X1 hZ1 hEL C3.1)
  refine own_ret (t := T1.setFrames fs) ?_ ⟨_, hrun, hended, _, _, rfl, ?_, hCf, hRW.1, hRW.2.1, hRW.2.2.1, hRW.2.2.2.mono (by decide) (by decide)⟩
  · exact retOut X1 hx Bd.returns rfl (Or.inr (Or.inr (Or.inr (Or.inr ⟨rfl, rfl, rfl⟩)))) (hb hby d44_6) hr
  · show Q_l1NewE Z _ _ h0 n0 _ T1.heap _
    rw [e1]
    exact ⟨a1, b1, kb1, rfl, N0, K7, Ea1, Fc1, Fv1, V6⟩
theorem d44_7 : decode jdk_43_method_47_code 7 = .ok (.new 1, 3) := by decide +kernel
theorem d44_10 : decode jdk_43_method_47_code 10 = .ok (.dup, 1) := by decide +kernel
theorem d44_11 : decode jdk_43_method_47_code 11 = .ok (.aload_n 0, 1) := by decide +kernel
theorem d44_12 : decode jdk_43_method_47_code 12 = .ok (.iload_n 1, 1) := by decide +kernel
theorem d44_13 : decode jdk_43_method_47_code 13 = .ok (.iload_n 1, 1) := by decide +kernel
theorem d44_14 : decode jdk_43_method_47_code 14 = .ok (.iload_n 2, 1) := by decide +kernel
theorem d44_15 : decode jdk_43_method_47_code 15 = .ok (.iadd, 1) := by decide +kernel
theorem d44_16 : decode jdk_43_method_47_code 16 = .ok (.invokestatic 232, 3) := by decide +kernel
theorem d44_19 : decode jdk_43_method_47_code 19 = .ok (.iconst 0, 1) := by decide +kernel
theorem d44_20 : decode jdk_43_method_47_code 20 = .ok (.invokespecial 112, 3) := by decide +kernel
theorem pd_15 : parseMethodDescriptor "([BB)V" = some ⟨[(.array .byte), .byte], none⟩ := by decide +kernel
theorem d44_23 : decode jdk_43_method_47_code 23 = .ok (.areturn, 1) := by decide +kernel
def Q_l1NewC (Z : State) (t : Nat) (kt : ClassId) (A : List Int32) (Bl : List Int32) (h0 : Heap) (n0 : Nat) (vR : Option Value) (hR : Heap) (LR : List Loc) : Prop := ∃ (r : Nat) (tr : Nat) (kr : ClassId), vR = some (.ref r) ∧ Fr n0 LR ∧ Keep h0 hR [] ∧ (Exa Z hR r "java/lang/String") ∧ (Fld Z hR r "java/lang/String" "coder" "B" (.int 0)) ∧ (Fld Z hR r "java/lang/String" "value" "[B" (.ref tr)) ∧ (Arv Z hR tr kr .byte (Int32.ofNat Bl.length) (own_b Bl) (.int 0))
set_option maxRecDepth 65536 in
set_option maxHeartbeats 40000000 in
theorem l1NewC (l : Launch) (Z : State) (a0 : Array Value) (hw : ∀ d ∈ tables_1, d.before a0 Z = true) (ws : List Jvm.Cond) (t : Nat) (kt : ClassId) (A : List Int32) (Bl : List Int32) (h0 : Heap) (n0 : Nat) (Z0 : n0 ≤ h0.size) (V_t : Arv Z h0 t kt .byte (Int32.ofNat (A ++ Bl).length) (own_b (A ++ Bl)) (.int 0)) (hA : 0 < A.length) (hB : 0 < Bl.length) (hAB : A.length + Bl.length ≤ 15) :
    own_M l (⟨"java/lang/StringLatin1", "newString", "([BII)Ljava/lang/String;"⟩ : MethodName) jdk_43_method_47_code 3 (some (.object "java/lang/String")) ws ({ frames := 3, cells := 2, slots := 19, locals := 50 } : Room) Z #[(.ref t), (.int (Int32.ofNat A.length)), (.int (Int32.ofNat Bl.length))] h0 (Q_l1NewC Z t kt A Bl h0 n0) := by
  refine own_body (own := "java/lang/StringLatin1") rfl (plainFor_of_name pn_44) (fun m => ef_l1NewE m t (Int32.ofNat A.length) (Int32.ofNat Bl.length)) ?_
  intro p e s m below meth c s₁ Bd hml hZ hh hx hby hown X0 e0
  have N0 := Fr.nil n0
  have lt1 : h0.size > t := V_t.lt
  refine own_iloadN X0.here hx hby d44_0 rfl ?_
  refine own_ifYes X0.here hx hby (pc' := 7) d44_1 ((if0 _ _).trans (feq (show ¬ ((Int32.ofNat Bl.length) = (0 : Int32)) from own_ne0 (by omega) hB)).2) (by decide) (by decide) ?_
  refine own_newO X0 hx hZ hown (own_w hw 229 rfl) (own_w hw 6 rfl) (own_w hw 7 rfl) e0 hby d44_7 (by decide) (by decide) ?_
  intro T2 h2 b2 X2 e2 E2 g2 A2 D2 lt2
  have z3 : h0.size ≤ h2.size := E2.1
  have F4 : Fld Z h2 b2 "java/lang/String" "value" "[B" .null := D2 (Or.inr (own_w hw 20 rfl)) (ty := (.array .byte)) (by decide)
  have F5 : Fld Z h2 b2 "java/lang/String" "coder" "B" (.int 0) := D2 (Or.inr (own_w hw 21 rfl)) (ty := .byte) (by decide)
  refine own_dup X2.here hx hby d44_10 rfl ?_
  refine own_aloadN X2.here hx hby d44_11 rfl rfl ?_
  refine own_iloadN X2.here hx hby d44_12 rfl ?_
  refine own_iloadN X2.here hx hby d44_13 rfl ?_
  refine own_iloadN X2.here hx hby d44_14 rfl ?_
  refine own_iadd X2.here hx hby d44_15 rfl ?_
  refine own_sh (T := T2) 16 #[.val (.ref t), .val (.int (Int32.ofNat A.length)), .val (.int (Int32.ofNat Bl.length))] [(.int ((Int32.ofNat A.length) + (Int32.ofNat Bl.length))), (.int (Int32.ofNat A.length)), (.ref t), (.ref b2), (.ref b2)] ?_
  rw [show ((Int32.ofNat A.length) + (Int32.ofNat Bl.length)) = (Int32.ofNat (A ++ Bl).length) from (own_naddL (by omega))]
  have f6 := (V_t.ext E2)
  have z8 : n0 ≤ h2.size := by omega
  refine own_callS X2 hx hZ hown (own_w hw 230 rfl) (own_w hw 189 rfl) (own_w hw 190 rfl) (own_w hw 191 rfl) (by decide) (crC l Z a0 hw [] t kt A Bl h2 n0 z8 f6 hA hAB) 2 (Nat.le_of_eq rfl) (by decide) (by decide) (by rw [hml]; rfl) (argsL := [(.ref t), (.int (Int32.ofNat A.length)), (.int (Int32.ofNat (A ++ Bl).length))]) (st := [(.ref b2), (.ref b2)]) (lenOf pd_9 rfl) rfl rfl (by decide) (by decide) e2 hby d44_16 ?_
  intro T7 v7 L7 X7 hQ7
  obtain ⟨r_7, kr_7, rfl, Nq7, K7, P7_0, P7_1⟩ := hQ7
  have N7 := Fr.app N0 Nq7
  have z9 : h2.size ≤ T7.heap.size := K7.1
  have lt10 : T7.heap.size > r_7 := P7_1.lt
  refine own_sh (T := T7) 19 #[.val (.ref t), .val (.int (Int32.ofNat A.length)), .val (.int (Int32.ofNat Bl.length))] [(.ref r_7), (.ref b2), (.ref b2)] ?_
  refine own_iconst X7.here hx hby d44_19 (v := (0 : Int32)) (by decide) ?_
  have f11 := (A2.keep K7)
  have f12 := (F4.keep K7 nin0)
  have f13 := (F5.keep K7 nin0)
  have z15 : n0 ≤ T7.heap.size := by omega
  refine own_special X7 hx hZ rfl hown (own_w hw 231 rfl) (own_w hw 52 rfl) (own_w hw 7 rfl) (own_w hw 53 rfl) (by decide) (bbInitB l Z a0 hw [] b2 r_7 T7.heap n0 z15 f11 f12 f13 (by omega)) 1 (Nat.le_of_eq rfl) (by decide) (by decide) (by rw [hml]; rfl) (argsL := [(.ref r_7), (.int 0)]) (st := [(.ref b2)]) (a := b2) (lenOf pd_15 rfl) rfl rfl (by decide) (by decide) rfl hby d44_20 ?_
  intro T14 v14 L14 X14 hQ14
  obtain ⟨rfl, Nq14, K14, P14_0, P14_1, P14_2⟩ := hQ14
  have N14 := Fr.app N7 Nq14
  have z16 : T7.heap.size ≤ T14.heap.size := K14.1
  have lt17 : T14.heap.size > b2 := P14_0.lt
  refine own_sh (T := T14) 23 #[.val (.ref t), .val (.int (Int32.ofNat A.length)), .val (.int (Int32.ofNat Bl.length))] [(.ref b2)] ?_
  have K18 : Keep h0 T14.heap [] := ((((Keep.refl h0 []).ext E2).trans K7 all0).trans K14 (allS (P := fun xq_ => xq_ ∈ [] ∨ h0.size ≤ xq_) (Or.inr (by omega)) all0))
  have f19 := (P7_1.keep K14 (ninS (own_nn (by omega)) nin0))
  obtain ⟨fs, hr, hrun, hended, hW, hsame⟩ := X14.leave (v := some (.ref b2)) (fun h => by rw [Bd.returns] at h; cases h) Bd.notSynchronized
  refine own_ret (t := T14.setFrames fs) ?_ ⟨_, hrun, hended, _, _, rfl, ?_, ⟨_, rfl⟩, hW, hsame.mono (by decide) (by decide)⟩
  · exact retOut X14 hx Bd.returns rfl (Or.inr (Or.inr (Or.inr (Or.inr ⟨rfl, rfl, rfl⟩)))) (hb hby d44_23) hr
  · show Q_l1NewC Z _ _ _ _ h0 n0 _ T14.heap _
    exact ⟨b2, r_7, kr_7, rfl, N14, K18, P14_0, P14_2, P14_1, f19⟩
theorem ef_subZ2 (m : MethodId) (x0 : Nat) (x1 : Int32) (x2 : Int32) : entryFrame m #[(.ref x0), (.int x1), (.int x2)] 5 = mkF m 0 #[.val (.ref x0), .val (.int x1), .val (.int x2), .unset, .unset] [] := by first | (simp [entryFrame, mkF, argsToLocals, Value.category]; done) | rfl
theorem pn_26 : plainName "java/lang/String" = true := by first | (simp [plainName, overriddenIn]; done) | decide +kernel
theorem d26_0 : decode jdk_42_method_92_code 0 = .ok (.aload_n 0, 1) := by decide +kernel
theorem d26_1 : decode jdk_42_method_92_code 1 = .ok (.invokevirtual 505, 3) := by decide +kernel
theorem d26_4 : decode jdk_42_method_92_code 4 = .ok (.istore_n 3, 1) := by decide +kernel
theorem d26_5 : decode jdk_42_method_92_code 5 = .ok (.iload_n 1, 1) := by decide +kernel
theorem d26_6 : decode jdk_42_method_92_code 6 = .ok (.iload_n 2, 1) := by decide +kernel
theorem d26_7 : decode jdk_42_method_92_code 7 = .ok (.iload_n 3, 1) := by decide +kernel
theorem d26_8 : decode jdk_42_method_92_code 8 = .ok (.invokestatic 521, 3) := by decide +kernel
theorem pd_16 : parseMethodDescriptor "(III)V" = some ⟨[.int, .int, .int], none⟩ := by decide +kernel
theorem d26_11 : decode jdk_42_method_92_code 11 = .ok (.iload_n 1, 1) := by decide +kernel
theorem d26_12 : decode jdk_42_method_92_code 12 = .ok (.ifCond .ne 10, 3) := by decide +kernel
theorem d26_15 : decode jdk_42_method_92_code 15 = .ok (.iload_n 2, 1) := by decide +kernel
theorem d26_16 : decode jdk_42_method_92_code 16 = .ok (.iload_n 3, 1) := by decide +kernel
theorem d26_17 : decode jdk_42_method_92_code 17 = .ok (.if_icmp .ne 5, 3) := by decide +kernel
theorem d26_20 : decode jdk_42_method_92_code 20 = .ok (.aload_n 0, 1) := by decide +kernel
theorem d26_21 : decode jdk_42_method_92_code 21 = .ok (.areturn, 1) := by decide +kernel
def Q_subZ2 (Z : State) (x : Nat) (t : Nat) (kt : ClassId) (Bl : List Int32) (zc : Int32) (fm : Value) (h0 : Heap) (n0 : Nat) (vR : Option Value) (hR : Heap) (LR : List Loc) : Prop := vR = some (.ref x) ∧ Fr n0 LR ∧ hR = h0
set_option maxRecDepth 65536 in
set_option maxHeartbeats 40000000 in
theorem subZ2 (l : Launch) (Z : State) (a0 : Array Value) (hw : ∀ d ∈ tables_1, d.before a0 Z = true) (ws : List Jvm.Cond) (x : Nat) (t : Nat) (kt : ClassId) (Bl : List Int32) (zc : Int32) (fm : Value) (h0 : Heap) (n0 : Nat) (Z0 : n0 ≤ h0.size) (E_x : Exa Z h0 x "java/lang/String") (Fc_x : Fld Z h0 x "java/lang/String" "coder" "B" (.int 0)) (Fv_x : Fld Z h0 x "java/lang/String" "value" "[B" (.ref t)) (V_t : Arv Z h0 t kt .byte (Int32.ofNat Bl.length) (own_b Bl) (.int 0)) (S_C : Sta Z h0 "java/lang/String" "COMPACT_STRINGS" "Z" (.int zc)) (hz : ¬ (zc = (0 : Int32))) (S_FM : Sta Z h0 "jdk/internal/util/Preconditions" "SIOOBE_FORMATTER" "Ljava/util/function/BiFunction;" fm) (hfm : fm.isRef = true) (hB15 : Bl.length ≤ 15) :
    own_M l (⟨"java/lang/String", "substring", "(II)Ljava/lang/String;"⟩ : MethodName) jdk_42_method_92_code 5 (some (.object "java/lang/String")) ws ({ frames := 2, cells := 0, slots := 0, locals := 29 } : Room) Z #[(.ref x), (.int 0), (.int (Int32.ofNat Bl.length))] h0 (Q_subZ2 Z x t kt Bl zc fm h0 n0) := by
  refine own_body (own := "java/lang/String") rfl (plainFor_of_name pn_26) (fun m => ef_subZ2 m x (0 : Int32) (Int32.ofNat Bl.length)) ?_
  intro p e s m below meth c s₁ Bd hml hZ hh hx hby hown X0 e0
  have N0 := Fr.nil n0
  have lt1 : h0.size > x := E_x.lt
  have lt2 : h0.size > t := V_t.lt
  refine own_aloadN X0.here hx hby d26_0 rfl rfl ?_
  refine own_virtual X0 hx hZ hown (own_w hw 144 rfl) (own_w hw 102 rfl) (notFace_of_selects (args := #[]) (mvT hZ (own_w hw 104 rfl))) (own_w hw 104 rfl) (own_w hw 103 rfl) (own_w hw 7 rfl) (own_w hw 105 rfl) (by decide) (lenG l Z a0 hw [] x t kt Bl zc h0 n0 Z0 E_x Fc_x Fv_x V_t S_C hz) 0 (Nat.le_of_eq rfl) (by decide) (by decide) (by rw [hml]; rfl) (argsL := []) (st := []) E_x (lenOf pd_4 rfl) rfl rfl (by decide) (by decide) e0 hby d26_1 ?_
  intro T3 v3 L3 X3 hQ3
  obtain ⟨rfl, Nq3, eh3⟩ := hQ3
  have N3 := Fr.app N0 Nq3
  refine own_sh (T := T3) 4 #[.val (.ref x), .val (.int 0), .val (.int (Int32.ofNat Bl.length)), .unset, .unset] [(.int (Int32.ofNat Bl.length))] ?_
  refine own_istoreN X3.here hx hby d26_4 (l' := #[.val (.ref x), .val (.int 0), .val (.int (Int32.ofNat Bl.length)), .val (.int (Int32.ofNat Bl.length)), .unset]) rfl ?_
  refine own_iloadN X3.here hx hby d26_5 rfl ?_
  refine own_iloadN X3.here hx hby d26_6 rfl ?_
  refine own_iloadN X3.here hx hby d26_7 rfl ?_
  refine own_callS X3 hx hZ hown (own_w hw 150 rfl) (own_w hw 151 rfl) (own_w hw 7 rfl) (own_w hw 152 rfl) (by decide) (strBE l Z a0 hw [] (0 : Int32) (Int32.ofNat Bl.length) fm h0 n0 Z0 S_FM hfm (by decide) (own_n0 (by omega))) 0 (Nat.le_of_eq rfl) (by decide) (by decide) (by rw [hml]; rfl) (argsL := [(.int 0), (.int (Int32.ofNat Bl.length)), (.int (Int32.ofNat Bl.length))]) (st := []) (lenOf pd_16 rfl) rfl rfl (by decide) (by decide) eh3 hby d26_8 ?_
  intro T4 v4 L4 X4 hQ4
  obtain ⟨rfl, Nq4, eh4⟩ := hQ4
  have N4 := Fr.app N3 Nq4
  refine own_sh (T := T4) 11 #[.val (.ref x), .val (.int 0), .val (.int (Int32.ofNat Bl.length)), .val (.int (Int32.ofNat Bl.length)), .unset] [] ?_
  refine own_iloadN X4.here hx hby d26_11 rfl ?_
  refine own_ifNo X4.here hx hby d26_12 ((if0 _ _).trans (teq (show (0 : Int32) = (0 : Int32) from (by decide))).2) ?_
  refine own_iloadN X4.here hx hby d26_15 rfl ?_
  refine own_iloadN X4.here hx hby d26_16 rfl ?_
  refine own_icmpNo X4.here hx hby d26_17 (teq (show (Int32.ofNat Bl.length) = (Int32.ofNat Bl.length) from rfl)).2 ?_
  refine own_aloadN X4.here hx hby d26_20 rfl rfl ?_
  obtain ⟨fs, hr, hrun, hended, hW, hsame⟩ := X4.leave (v := some (.ref x)) (fun h => by rw [Bd.returns] at h; cases h) Bd.notSynchronized
  refine own_ret (t := T4.setFrames fs) ?_ ⟨_, hrun, hended, _, _, rfl, ?_, ⟨_, rfl⟩, hW, hsame.mono (by decide) (by decide)⟩
  · exact retOut X4 hx Bd.returns rfl (Or.inr (Or.inr (Or.inr (Or.inr ⟨rfl, rfl, rfl⟩)))) (hb hby d26_21) hr
  · show Q_subZ2 Z _ _ _ _ _ _ h0 n0 _ T4.heap _
    rw [eh4]
    exact ⟨rfl, N4, rfl⟩
theorem ef_subZ (m : MethodId) (x0 : Nat) (x1 : Int32) : entryFrame m #[(.ref x0), (.int x1)] 2 = mkF m 0 #[.val (.ref x0), .val (.int x1)] [] := by first | (simp [entryFrame, mkF, argsToLocals, Value.category]; done) | rfl
theorem pn_25 : plainName "java/lang/String" = true := by first | (simp [plainName, overriddenIn]; done) | decide +kernel
theorem d25_0 : decode jdk_42_method_91_code 0 = .ok (.aload_n 0, 1) := by decide +kernel
theorem d25_1 : decode jdk_42_method_91_code 1 = .ok (.iload_n 1, 1) := by decide +kernel
theorem d25_2 : decode jdk_42_method_91_code 2 = .ok (.aload_n 0, 1) := by decide +kernel
theorem d25_3 : decode jdk_42_method_91_code 3 = .ok (.invokevirtual 505, 3) := by decide +kernel
theorem d25_6 : decode jdk_42_method_91_code 6 = .ok (.invokevirtual 681, 3) := by decide +kernel
theorem pd_17 : parseMethodDescriptor "(II)Ljava/lang/String;" = some ⟨[.int, .int], some (.object "java/lang/String")⟩ := by decide +kernel
theorem d25_9 : decode jdk_42_method_91_code 9 = .ok (.areturn, 1) := by decide +kernel
def Q_subZ (Z : State) (x : Nat) (t : Nat) (kt : ClassId) (Bl : List Int32) (zc : Int32) (fm : Value) (h0 : Heap) (n0 : Nat) (vR : Option Value) (hR : Heap) (LR : List Loc) : Prop := vR = some (.ref x) ∧ Fr n0 LR ∧ hR = h0
set_option maxRecDepth 65536 in
set_option maxHeartbeats 40000000 in
theorem subZ (l : Launch) (Z : State) (a0 : Array Value) (hw : ∀ d ∈ tables_1, d.before a0 Z = true) (ws : List Jvm.Cond) (x : Nat) (t : Nat) (kt : ClassId) (Bl : List Int32) (zc : Int32) (fm : Value) (h0 : Heap) (n0 : Nat) (Z0 : n0 ≤ h0.size) (E_x : Exa Z h0 x "java/lang/String") (Fc_x : Fld Z h0 x "java/lang/String" "coder" "B" (.int 0)) (Fv_x : Fld Z h0 x "java/lang/String" "value" "[B" (.ref t)) (V_t : Arv Z h0 t kt .byte (Int32.ofNat Bl.length) (own_b Bl) (.int 0)) (S_C : Sta Z h0 "java/lang/String" "COMPACT_STRINGS" "Z" (.int zc)) (hz : ¬ (zc = (0 : Int32))) (S_FM : Sta Z h0 "jdk/internal/util/Preconditions" "SIOOBE_FORMATTER" "Ljava/util/function/BiFunction;" fm) (hfm : fm.isRef = true) (hB15 : Bl.length ≤ 15) :
    own_M l (⟨"java/lang/String", "substring", "(I)Ljava/lang/String;"⟩ : MethodName) jdk_42_method_91_code 2 (some (.object "java/lang/String")) ws ({ frames := 3, cells := 0, slots := 0, locals := 45 } : Room) Z #[(.ref x), (.int 0)] h0 (Q_subZ Z x t kt Bl zc fm h0 n0) := by
  refine own_body (own := "java/lang/String") rfl (plainFor_of_name pn_25) (fun m => ef_subZ m x (0 : Int32)) ?_
  intro p e s m below meth c s₁ Bd hml hZ hh hx hby hown X0 e0
  have N0 := Fr.nil n0
  have lt1 : h0.size > x := E_x.lt
  have lt2 : h0.size > t := V_t.lt
  refine own_aloadN X0.here hx hby d25_0 rfl rfl ?_
  refine own_iloadN X0.here hx hby d25_1 rfl ?_
  refine own_aloadN X0.here hx hby d25_2 rfl rfl ?_
  refine own_virtual X0 hx hZ hown (own_w hw 144 rfl) (own_w hw 102 rfl) (notFace_of_selects (args := #[]) (mvT hZ (own_w hw 104 rfl))) (own_w hw 104 rfl) (own_w hw 103 rfl) (own_w hw 7 rfl) (own_w hw 105 rfl) (by decide) (lenG l Z a0 hw [] x t kt Bl zc h0 n0 Z0 E_x Fc_x Fv_x V_t S_C hz) 2 (Nat.le_of_eq rfl) (by decide) (by decide) (by rw [hml]; rfl) (argsL := []) (st := [(.int 0), (.ref x)]) E_x (lenOf pd_4 rfl) rfl rfl (by decide) (by decide) e0 hby d25_3 ?_
  intro T3 v3 L3 X3 hQ3
  obtain ⟨rfl, Nq3, eh3⟩ := hQ3
  have N3 := Fr.app N0 Nq3
  refine own_sh (T := T3) 6 #[.val (.ref x), .val (.int 0)] [(.int (Int32.ofNat Bl.length)), (.int 0), (.ref x)] ?_
  refine own_virtual X3 hx hZ hown (own_w hw 145 rfl) (own_w hw 146 rfl) (notFace_of_selects (args := #[]) (mvT hZ (own_w hw 148 rfl))) (own_w hw 148 rfl) (own_w hw 147 rfl) (own_w hw 7 rfl) (own_w hw 149 rfl) (by decide) (subZ2 l Z a0 hw [] x t kt Bl zc fm h0 n0 Z0 E_x Fc_x Fv_x V_t S_C hz S_FM hfm hB15) 0 (Nat.le_of_eq rfl) (by decide) (by decide) (by rw [hml]; rfl) (argsL := [(.int 0), (.int (Int32.ofNat Bl.length))]) (st := []) E_x (lenOf pd_17 rfl) rfl rfl (by decide) (by decide) eh3 hby d25_6 ?_
  intro T4 v4 L4 X4 hQ4
  obtain ⟨rfl, Nq4, eh4⟩ := hQ4
  have N4 := Fr.app N3 Nq4
  refine own_sh (T := T4) 9 #[.val (.ref x), .val (.int 0)] [(.ref x)] ?_
  obtain ⟨fs, hr, hrun, hended, hW, hsame⟩ := X4.leave (v := some (.ref x)) (fun h => by rw [Bd.returns] at h; cases h) Bd.notSynchronized
  refine own_ret (t := T4.setFrames fs) ?_ ⟨_, hrun, hended, _, _, rfl, ?_, ⟨_, rfl⟩, hW, hsame.mono (by decide) (by decide)⟩
  · exact retOut X4 hx Bd.returns rfl (Or.inr (Or.inr (Or.inr (Or.inr ⟨rfl, rfl, rfl⟩)))) (hb hby d25_9) hr
  · show Q_subZ Z _ _ _ _ _ _ h0 n0 _ T4.heap _
    rw [eh4]
    exact ⟨rfl, N4, rfl⟩
theorem d26_22 : decode jdk_42_method_92_code 22 = .ok (.iload_n 2, 1) := by decide +kernel
theorem d26_23 : decode jdk_42_method_92_code 23 = .ok (.iload_n 1, 1) := by decide +kernel
theorem d26_24 : decode jdk_42_method_92_code 24 = .ok (.isub, 1) := by decide +kernel
theorem d26_25 : decode jdk_42_method_92_code 25 = .ok (.istore 4, 2) := by decide +kernel
theorem d26_27 : decode jdk_42_method_92_code 27 = .ok (.aload_n 0, 1) := by decide +kernel
theorem d26_28 : decode jdk_42_method_92_code 28 = .ok (.invokevirtual 492, 3) := by decide +kernel
theorem d26_31 : decode jdk_42_method_92_code 31 = .ok (.ifCond .eq 16, 3) := by decide +kernel
theorem d26_34 : decode jdk_42_method_92_code 34 = .ok (.aload_n 0, 1) := by decide +kernel
theorem d26_35 : decode jdk_42_method_92_code 35 = .ok (.getfield 9, 3) := by decide +kernel
theorem d26_38 : decode jdk_42_method_92_code 38 = .ok (.iload_n 1, 1) := by decide +kernel
theorem d26_39 : decode jdk_42_method_92_code 39 = .ok (.iload 4, 2) := by decide +kernel
theorem d26_41 : decode jdk_42_method_92_code 41 = .ok (.invokestatic 685, 3) := by decide +kernel
theorem pd_18 : parseMethodDescriptor "([BII)Ljava/lang/String;" = some ⟨[(.array .byte), .int, .int], some (.object "java/lang/String")⟩ := by decide +kernel
theorem d26_44 : decode jdk_42_method_92_code 44 = .ok (.goto 13, 3) := by decide +kernel
theorem d26_57 : decode jdk_42_method_92_code 57 = .ok (.areturn, 1) := by decide +kernel
def Q_subE2 (Z : State) (x : Nat) (t : Nat) (kt : ClassId) (A : List Int32) (zc : Int32) (fm : Value) (h0 : Heap) (n0 : Nat) (vR : Option Value) (hR : Heap) (LR : List Loc) : Prop := ∃ (r : Nat) (tr : Nat) (kr : ClassId), vR = some (.ref r) ∧ Fr n0 LR ∧ Keep h0 hR [] ∧ (Exa Z hR r "java/lang/String") ∧ (Fld Z hR r "java/lang/String" "coder" "B" (.int 0)) ∧ (Fld Z hR r "java/lang/String" "value" "[B" (.ref tr)) ∧ (Arv Z hR tr kr .byte (Int32.ofNat ([] : List Int32).length) (own_b ([] : List Int32)) (.int 0))
set_option maxRecDepth 65536 in
set_option maxHeartbeats 40000000 in
theorem subE2 (l : Launch) (Z : State) (a0 : Array Value) (hw : ∀ d ∈ tables_1, d.before a0 Z = true) (ws : List Jvm.Cond) (x : Nat) (t : Nat) (kt : ClassId) (A : List Int32) (zc : Int32) (fm : Value) (h0 : Heap) (n0 : Nat) (Z0 : n0 ≤ h0.size) (E_x : Exa Z h0 x "java/lang/String") (Fc_x : Fld Z h0 x "java/lang/String" "coder" "B" (.int 0)) (Fv_x : Fld Z h0 x "java/lang/String" "value" "[B" (.ref t)) (V_t : Arv Z h0 t kt .byte (Int32.ofNat A.length) (own_b A) (.int 0)) (S_C : Sta Z h0 "java/lang/String" "COMPACT_STRINGS" "Z" (.int zc)) (hz : ¬ (zc = (0 : Int32))) (S_FM : Sta Z h0 "jdk/internal/util/Preconditions" "SIOOBE_FORMATTER" "Ljava/util/function/BiFunction;" fm) (hfm : fm.isRef = true) (hA : 0 < A.length) (hA15 : A.length ≤ 15) :
    own_MH l (⟨"java/lang/String", "substring", "(II)Ljava/lang/String;"⟩ : MethodName) jdk_42_method_92_code 5 (some (.object "java/lang/String")) ws ({ frames := 2, cells := 2, slots := 4, locals := 29 } : Room) Z #[(.ref x), (.int (Int32.ofNat A.length)), (.int (Int32.ofNat A.length))] h0 (Q_subE2 Z x t kt A zc fm h0 n0) consts_1 := by
  refine own_bodyH (own := "java/lang/String") rfl (plainFor_of_name pn_26) (fun m => ef_subZ2 m x (Int32.ofNat A.length) (Int32.ofNat A.length)) ?_
  intro p e s m below meth c s₁ Bd hml hZ hh hx hby hown X0 e0 hS0 CH0
  have N0 := Fr.nil n0
  have hk0 : h0.size ≤ h0.size := Nat.le_refl _
  have Y0 : Stand p l e ({ frames := 2, cells := 2, slots := 4, locals := 29 } : Room) (s.setVm s.vm) m #[(.ref x), (.int (Int32.ofNat A.length)), (.int (Int32.ofNat A.length))] below meth c s₁ [] 0 0 := X0
  have hEL := own_EW hw
  have C0 := CHr.refl CH0
  have lt1 : h0.size > x := E_x.lt
  have lt2 : h0.size > t := V_t.lt
  refine own_aloadN Y0.here hx hby d26_0 rfl rfl ?_
  refine own_virtual Y0 hx hZ hown (own_w hw 144 rfl) (own_w hw 102 rfl) (notFace_of_selects (args := #[]) (mvT hZ (own_w hw 104 rfl))) (own_w hw 104 rfl) (own_w hw 103 rfl) (own_w hw 7 rfl) (own_w hw 105 rfl) (by decide) (lenG l Z a0 hw [] x t kt A zc h0 n0 Z0 E_x Fc_x Fv_x V_t S_C hz) 0 (Nat.le_of_eq rfl) (by decide) (by decide) (by rw [hml]; rfl) (argsL := []) (st := []) E_x (lenOf pd_4 rfl) rfl rfl (by decide) (by decide) e0 hby d26_1 ?_
  intro T3 v3 L3 X3 hQ3
  obtain ⟨rfl, Nq3, eh3⟩ := hQ3
  have N3 := Fr.app N0 Nq3
  refine own_sh (T := T3) 4 #[.val (.ref x), .val (.int (Int32.ofNat A.length)), .val (.int (Int32.ofNat A.length)), .unset, .unset] [(.int (Int32.ofNat A.length))] ?_
  refine own_istoreN X3.here hx hby d26_4 (l' := #[.val (.ref x), .val (.int (Int32.ofNat A.length)), .val (.int (Int32.ofNat A.length)), .val (.int (Int32.ofNat A.length)), .unset]) rfl ?_
  refine own_iloadN X3.here hx hby d26_5 rfl ?_
  refine own_iloadN X3.here hx hby d26_6 rfl ?_
  refine own_iloadN X3.here hx hby d26_7 rfl ?_
  refine own_callS X3 hx hZ hown (own_w hw 150 rfl) (own_w hw 151 rfl) (own_w hw 7 rfl) (own_w hw 152 rfl) (by decide) (strBE l Z a0 hw [] (Int32.ofNat A.length) (Int32.ofNat A.length) fm h0 n0 Z0 S_FM hfm (own_n0 (by omega)) Int32.lt_irrefl) 0 (Nat.le_of_eq rfl) (by decide) (by decide) (by rw [hml]; rfl) (argsL := [(.int (Int32.ofNat A.length)), (.int (Int32.ofNat A.length)), (.int (Int32.ofNat A.length))]) (st := []) (lenOf pd_16 rfl) rfl rfl (by decide) (by decide) eh3 hby d26_8 ?_
  intro T4 v4 L4 X4 hQ4
  obtain ⟨rfl, Nq4, eh4⟩ := hQ4
  have N4 := Fr.app N3 Nq4
  refine own_sh (T := T4) 11 #[.val (.ref x), .val (.int (Int32.ofNat A.length)), .val (.int (Int32.ofNat A.length)), .val (.int (Int32.ofNat A.length)), .unset] [] ?_
  refine own_iloadN X4.here hx hby d26_11 rfl ?_
  refine own_ifYes X4.here hx hby (pc' := 22) d26_12 ((if0 _ _).trans (feq (show ¬ ((Int32.ofNat A.length) = (0 : Int32)) from own_ne0 (by omega) hA)).2) (by decide) (by decide) ?_
  refine own_iloadN X4.here hx hby d26_22 rfl ?_
  refine own_iloadN X4.here hx hby d26_23 rfl ?_
  refine own_isub X4.here hx hby d26_24 rfl ?_
  refine own_sh (T := T4) 25 #[.val (.ref x), .val (.int (Int32.ofNat A.length)), .val (.int (Int32.ofNat A.length)), .val (.int (Int32.ofNat A.length)), .unset] [(.int ((Int32.ofNat A.length) - (Int32.ofNat A.length)))] ?_
  rw [show ((Int32.ofNat A.length) - (Int32.ofNat A.length)) = (0 : Int32) from (own_subS _)]
  refine own_istore X4.here hx hby d26_25 (l' := #[.val (.ref x), .val (.int (Int32.ofNat A.length)), .val (.int (Int32.ofNat A.length)), .val (.int (Int32.ofNat A.length)), .val (.int 0)]) rfl ?_
  refine own_aloadN X4.here hx hby d26_27 rfl rfl ?_
  refine own_virtual X4 hx hZ hown (own_w hw 216 rfl) (own_w hw 217 rfl) (notFace_of_selects (args := #[]) (mvT hZ (own_w hw 219 rfl))) (own_w hw 219 rfl) (own_w hw 218 rfl) (own_w hw 7 rfl) (own_w hw 220 rfl) (by decide) (strIsL l Z a0 hw [] x zc h0 n0 Z0 Fc_x S_C hz) 0 (Nat.le_of_eq rfl) (by decide) (by decide) (by rw [hml]; rfl) (argsL := []) (st := []) E_x (lenOf pd_11 rfl) rfl rfl (by decide) (by decide) eh4 hby d26_28 ?_
  intro T5 v5 L5 X5 hQ5
  obtain ⟨rfl, Nq5, eh5⟩ := hQ5
  have N5 := Fr.app N4 Nq5
  refine own_sh (T := T5) 31 #[.val (.ref x), .val (.int (Int32.ofNat A.length)), .val (.int (Int32.ofNat A.length)), .val (.int (Int32.ofNat A.length)), .val (.int 0)] [(.int 1)] ?_
  refine own_ifNo X5.here hx hby d26_31 ((if0 _ _).trans (feq (show ¬ ((1 : Int32) = (0 : Int32)) from (by decide))).1) ?_
  refine own_aloadN X5.here hx hby d26_34 rfl rfl ?_
  refine own_getF X5 hx hZ hown (host := "") (Or.inl (own_w hw 24 rfl)) Via.refl eh5 Fv_x hby d26_35 ?_
  intro T6 X6 e6
  refine own_iloadN X6.here hx hby d26_38 rfl ?_
  refine own_iload X6.here hx hby d26_39 rfl ?_
  refine own_callSH X6 hx hZ hEL hown (own_w hw 221 rfl) (own_w hw 222 rfl) (own_w hw 45 rfl) (own_w hw 223 rfl) (by decide) (l1NewE l Z a0 hw [] t (Int32.ofNat A.length) h0 n0 Z0 ) 0 (Nat.le_of_eq rfl) (by decide) (by decide) (by rw [hml]; rfl) (argsL := [(.ref t), (.int (Int32.ofNat A.length)), (.int 0)]) (st := []) (lenOf pd_18 rfl) rfl rfl (by decide) (by decide) e6 hby C0.1 hS0 (by omega) d26_41 ?_
  intro T7 v7 L7 vm7 X7 hS7 hZ7 hown7 hg7 Cn7 hQ7
  obtain ⟨r_7, tr_7, kr_7, rfl, Nq7, K7, P7_0, P7_1, P7_2, P7_3⟩ := hQ7
  have N7 := Fr.app N5 Nq7
  have z8 : h0.size ≤ T7.heap.size := K7.1
  have C9 := C0.trans Cn7
  have lt10 : T7.heap.size > r_7 := P7_0.lt
  have lt11 : T7.heap.size > tr_7 := P7_3.lt
  refine own_sh (T := T7) 44 #[.val (.ref x), .val (.int (Int32.ofNat A.length)), .val (.int (Int32.ofNat A.length)), .val (.int (Int32.ofNat A.length)), .val (.int 0)] [(.ref r_7)] ?_
  refine own_goto X7.here hx hby (pc' := 57) d26_44 (by decide) (by decide) ?_
  have K12 : Keep h0 T7.heap [] := ((Keep.refl h0 []).trans K7 all0)
  obtain ⟨fs, hr, hrun, hended, hRW⟩ := X7.leaveW hS7 (by omega) (v := some (.ref r_7)) (fun h => by rw [Bd.returns] at h; cases h) Bd.notSynchronized
  have hCf : CHr Z consts_1 s.vm s.heap T7.vm T7.heap := by
    rw [hh]
    exact C9.trans (CHv.at X7 hZ7 hEL C9.1)
  refine own_ret (t := T7.setFrames fs) ?_ ⟨_, hrun, hended, _, _, rfl, ?_, hCf, hRW.1, hRW.2.1, hRW.2.2.1, hRW.2.2.2.mono (by decide) (by decide)⟩
  · exact retOut X7 hx Bd.returns rfl (Or.inr (Or.inr (Or.inr (Or.inr ⟨rfl, rfl, rfl⟩)))) (hb hby d26_57) hr
  · show Q_subE2 Z _ _ _ _ _ _ h0 n0 _ T7.heap _
    exact ⟨r_7, tr_7, kr_7, rfl, N7, K12, P7_0, P7_1, P7_2, P7_3⟩
def Q_subE (Z : State) (x : Nat) (t : Nat) (kt : ClassId) (A : List Int32) (zc : Int32) (fm : Value) (h0 : Heap) (n0 : Nat) (vR : Option Value) (hR : Heap) (LR : List Loc) : Prop := ∃ (r : Nat) (tr : Nat) (kr : ClassId), vR = some (.ref r) ∧ Fr n0 LR ∧ Keep h0 hR [] ∧ (Exa Z hR r "java/lang/String") ∧ (Fld Z hR r "java/lang/String" "coder" "B" (.int 0)) ∧ (Fld Z hR r "java/lang/String" "value" "[B" (.ref tr)) ∧ (Arv Z hR tr kr .byte (Int32.ofNat ([] : List Int32).length) (own_b ([] : List Int32)) (.int 0))
set_option maxRecDepth 65536 in
set_option maxHeartbeats 40000000 in
theorem subE (l : Launch) (Z : State) (a0 : Array Value) (hw : ∀ d ∈ tables_1, d.before a0 Z = true) (ws : List Jvm.Cond) (x : Nat) (t : Nat) (kt : ClassId) (A : List Int32) (zc : Int32) (fm : Value) (h0 : Heap) (n0 : Nat) (Z0 : n0 ≤ h0.size) (E_x : Exa Z h0 x "java/lang/String") (Fc_x : Fld Z h0 x "java/lang/String" "coder" "B" (.int 0)) (Fv_x : Fld Z h0 x "java/lang/String" "value" "[B" (.ref t)) (V_t : Arv Z h0 t kt .byte (Int32.ofNat A.length) (own_b A) (.int 0)) (S_C : Sta Z h0 "java/lang/String" "COMPACT_STRINGS" "Z" (.int zc)) (hz : ¬ (zc = (0 : Int32))) (S_FM : Sta Z h0 "jdk/internal/util/Preconditions" "SIOOBE_FORMATTER" "Ljava/util/function/BiFunction;" fm) (hfm : fm.isRef = true) (hA : 0 < A.length) (hA15 : A.length ≤ 15) :
    own_MH l (⟨"java/lang/String", "substring", "(I)Ljava/lang/String;"⟩ : MethodName) jdk_42_method_91_code 2 (some (.object "java/lang/String")) ws ({ frames := 3, cells := 2, slots := 4, locals := 45 } : Room) Z #[(.ref x), (.int (Int32.ofNat A.length))] h0 (Q_subE Z x t kt A zc fm h0 n0) consts_1 := by
  refine own_bodyH (own := "java/lang/String") rfl (plainFor_of_name pn_25) (fun m => ef_subZ m x (Int32.ofNat A.length)) ?_
  intro p e s m below meth c s₁ Bd hml hZ hh hx hby hown X0 e0 hS0 CH0
  have N0 := Fr.nil n0
  have hk0 : h0.size ≤ h0.size := Nat.le_refl _
  have Y0 : Stand p l e ({ frames := 3, cells := 2, slots := 4, locals := 45 } : Room) (s.setVm s.vm) m #[(.ref x), (.int (Int32.ofNat A.length))] below meth c s₁ [] 0 0 := X0
  have hEL := own_EW hw
  have C0 := CHr.refl CH0
  have lt1 : h0.size > x := E_x.lt
  have lt2 : h0.size > t := V_t.lt
  refine own_aloadN Y0.here hx hby d25_0 rfl rfl ?_
  refine own_iloadN Y0.here hx hby d25_1 rfl ?_
  refine own_aloadN Y0.here hx hby d25_2 rfl rfl ?_
  refine own_virtual Y0 hx hZ hown (own_w hw 144 rfl) (own_w hw 102 rfl) (notFace_of_selects (args := #[]) (mvT hZ (own_w hw 104 rfl))) (own_w hw 104 rfl) (own_w hw 103 rfl) (own_w hw 7 rfl) (own_w hw 105 rfl) (by decide) (lenG l Z a0 hw [] x t kt A zc h0 n0 Z0 E_x Fc_x Fv_x V_t S_C hz) 2 (Nat.le_of_eq rfl) (by decide) (by decide) (by rw [hml]; rfl) (argsL := []) (st := [(.int (Int32.ofNat A.length)), (.ref x)]) E_x (lenOf pd_4 rfl) rfl rfl (by decide) (by decide) e0 hby d25_3 ?_
  intro T3 v3 L3 X3 hQ3
  obtain ⟨rfl, Nq3, eh3⟩ := hQ3
  have N3 := Fr.app N0 Nq3
  refine own_sh (T := T3) 6 #[.val (.ref x), .val (.int (Int32.ofNat A.length))] [(.int (Int32.ofNat A.length)), (.int (Int32.ofNat A.length)), (.ref x)] ?_
  refine own_virtualH X3 hx hZ hEL hown (own_w hw 145 rfl) (own_w hw 146 rfl) (notFace_of_selects (args := #[]) (mvT hZ (own_w hw 148 rfl))) (own_w hw 148 rfl) (own_w hw 147 rfl) (own_w hw 7 rfl) (own_w hw 149 rfl) (by decide) (subE2 l Z a0 hw [] x t kt A zc fm h0 n0 Z0 E_x Fc_x Fv_x V_t S_C hz S_FM hfm hA hA15) 0 (Nat.le_of_eq rfl) (by decide) (by decide) (by rw [hml]; rfl) (argsL := [(.int (Int32.ofNat A.length)), (.int (Int32.ofNat A.length))]) (st := []) E_x (lenOf pd_17 rfl) rfl rfl (by decide) (by decide) eh3 hby C0.1 hS0 (by omega) d25_6 ?_
  intro T4 v4 L4 vm4 X4 hS4 hZ4 hown4 hg4 Cn4 hQ4
  obtain ⟨r_4, tr_4, kr_4, rfl, Nq4, K4, P4_0, P4_1, P4_2, P4_3⟩ := hQ4
  have N4 := Fr.app N3 Nq4
  have z5 : h0.size ≤ T4.heap.size := K4.1
  have C6 := C0.trans Cn4
  have lt7 : T4.heap.size > r_4 := P4_0.lt
  have lt8 : T4.heap.size > tr_4 := P4_3.lt
  refine own_sh (T := T4) 9 #[.val (.ref x), .val (.int (Int32.ofNat A.length))] [(.ref r_4)] ?_
  have K9 : Keep h0 T4.heap [] := ((Keep.refl h0 []).trans K4 all0)
  obtain ⟨fs, hr, hrun, hended, hRW⟩ := X4.leaveW hS4 (by omega) (v := some (.ref r_4)) (fun h => by rw [Bd.returns] at h; cases h) Bd.notSynchronized
  have hCf : CHr Z consts_1 s.vm s.heap T4.vm T4.heap := by
    rw [hh]
    exact C6.trans (CHv.at X4 hZ4 hEL C6.1)
  refine own_ret (t := T4.setFrames fs) ?_ ⟨_, hrun, hended, _, _, rfl, ?_, hCf, hRW.1, hRW.2.1, hRW.2.2.1, hRW.2.2.2.mono (by decide) (by decide)⟩
  · exact retOut X4 hx Bd.returns rfl (Or.inr (Or.inr (Or.inr (Or.inr ⟨rfl, rfl, rfl⟩)))) (hb hby d25_9) hr
  · show Q_subE Z _ _ _ _ _ _ h0 n0 _ T4.heap _
    exact ⟨r_4, tr_4, kr_4, rfl, N4, K9, P4_0, P4_1, P4_2, P4_3⟩
def Q_subC2 (Z : State) (x : Nat) (t : Nat) (kt : ClassId) (A : List Int32) (Bl : List Int32) (zc : Int32) (fm : Value) (h0 : Heap) (n0 : Nat) (vR : Option Value) (hR : Heap) (LR : List Loc) : Prop := ∃ (r : Nat) (tr : Nat) (kr : ClassId), vR = some (.ref r) ∧ Fr n0 LR ∧ Keep h0 hR [] ∧ (Exa Z hR r "java/lang/String") ∧ (Fld Z hR r "java/lang/String" "coder" "B" (.int 0)) ∧ (Fld Z hR r "java/lang/String" "value" "[B" (.ref tr)) ∧ (Arv Z hR tr kr .byte (Int32.ofNat Bl.length) (own_b Bl) (.int 0))
set_option maxRecDepth 65536 in
set_option maxHeartbeats 40000000 in
theorem subC2 (l : Launch) (Z : State) (a0 : Array Value) (hw : ∀ d ∈ tables_1, d.before a0 Z = true) (ws : List Jvm.Cond) (x : Nat) (t : Nat) (kt : ClassId) (A : List Int32) (Bl : List Int32) (zc : Int32) (fm : Value) (h0 : Heap) (n0 : Nat) (Z0 : n0 ≤ h0.size) (E_x : Exa Z h0 x "java/lang/String") (Fc_x : Fld Z h0 x "java/lang/String" "coder" "B" (.int 0)) (Fv_x : Fld Z h0 x "java/lang/String" "value" "[B" (.ref t)) (V_t : Arv Z h0 t kt .byte (Int32.ofNat (A ++ Bl).length) (own_b (A ++ Bl)) (.int 0)) (S_C : Sta Z h0 "java/lang/String" "COMPACT_STRINGS" "Z" (.int zc)) (hz : ¬ (zc = (0 : Int32))) (S_FM : Sta Z h0 "jdk/internal/util/Preconditions" "SIOOBE_FORMATTER" "Ljava/util/function/BiFunction;" fm) (hfm : fm.isRef = true) (hA : 0 < A.length) (hB : 0 < Bl.length) (hAB : A.length + Bl.length ≤ 15) :
    own_M l (⟨"java/lang/String", "substring", "(II)Ljava/lang/String;"⟩ : MethodName) jdk_42_method_92_code 5 (some (.object "java/lang/String")) ws ({ frames := 4, cells := 2, slots := 19, locals := 64 } : Room) Z #[(.ref x), (.int (Int32.ofNat A.length)), (.int (Int32.ofNat (A ++ Bl).length))] h0 (Q_subC2 Z x t kt A Bl zc fm h0 n0) := by
  refine own_body (own := "java/lang/String") rfl (plainFor_of_name pn_26) (fun m => ef_subZ2 m x (Int32.ofNat A.length) (Int32.ofNat (A ++ Bl).length)) ?_
  intro p e s m below meth c s₁ Bd hml hZ hh hx hby hown X0 e0
  have N0 := Fr.nil n0
  have lt1 : h0.size > x := E_x.lt
  have lt2 : h0.size > t := V_t.lt
  refine own_aloadN X0.here hx hby d26_0 rfl rfl ?_
  refine own_virtual X0 hx hZ hown (own_w hw 144 rfl) (own_w hw 102 rfl) (notFace_of_selects (args := #[]) (mvT hZ (own_w hw 104 rfl))) (own_w hw 104 rfl) (own_w hw 103 rfl) (own_w hw 7 rfl) (own_w hw 105 rfl) (by decide) (lenG l Z a0 hw [] x t kt (A ++ Bl) zc h0 n0 Z0 E_x Fc_x Fv_x V_t S_C hz) 0 (Nat.le_of_eq rfl) (by decide) (by decide) (by rw [hml]; rfl) (argsL := []) (st := []) E_x (lenOf pd_4 rfl) rfl rfl (by decide) (by decide) e0 hby d26_1 ?_
  intro T3 v3 L3 X3 hQ3
  obtain ⟨rfl, Nq3, eh3⟩ := hQ3
  have N3 := Fr.app N0 Nq3
  refine own_sh (T := T3) 4 #[.val (.ref x), .val (.int (Int32.ofNat A.length)), .val (.int (Int32.ofNat (A ++ Bl).length)), .unset, .unset] [(.int (Int32.ofNat (A ++ Bl).length))] ?_
  refine own_istoreN X3.here hx hby d26_4 (l' := #[.val (.ref x), .val (.int (Int32.ofNat A.length)), .val (.int (Int32.ofNat (A ++ Bl).length)), .val (.int (Int32.ofNat (A ++ Bl).length)), .unset]) rfl ?_
  refine own_iloadN X3.here hx hby d26_5 rfl ?_
  refine own_iloadN X3.here hx hby d26_6 rfl ?_
  refine own_iloadN X3.here hx hby d26_7 rfl ?_
  refine own_callS X3 hx hZ hown (own_w hw 150 rfl) (own_w hw 151 rfl) (own_w hw 7 rfl) (own_w hw 152 rfl) (by decide) (strBE l Z a0 hw [] (Int32.ofNat A.length) (Int32.ofNat (A ++ Bl).length) fm h0 n0 Z0 S_FM hfm (own_n0 (by omega)) (own_nltL (by omega))) 0 (Nat.le_of_eq rfl) (by decide) (by decide) (by rw [hml]; rfl) (argsL := [(.int (Int32.ofNat A.length)), (.int (Int32.ofNat (A ++ Bl).length)), (.int (Int32.ofNat (A ++ Bl).length))]) (st := []) (lenOf pd_16 rfl) rfl rfl (by decide) (by decide) eh3 hby d26_8 ?_
  intro T4 v4 L4 X4 hQ4
  obtain ⟨rfl, Nq4, eh4⟩ := hQ4
  have N4 := Fr.app N3 Nq4
  refine own_sh (T := T4) 11 #[.val (.ref x), .val (.int (Int32.ofNat A.length)), .val (.int (Int32.ofNat (A ++ Bl).length)), .val (.int (Int32.ofNat (A ++ Bl).length)), .unset] [] ?_
  refine own_iloadN X4.here hx hby d26_11 rfl ?_
  refine own_ifYes X4.here hx hby (pc' := 22) d26_12 ((if0 _ _).trans (feq (show ¬ ((Int32.ofNat A.length) = (0 : Int32)) from own_ne0 (by omega) hA)).2) (by decide) (by decide) ?_
  refine own_iloadN X4.here hx hby d26_22 rfl ?_
  refine own_iloadN X4.here hx hby d26_23 rfl ?_
  refine own_isub X4.here hx hby d26_24 rfl ?_
  refine own_sh (T := T4) 25 #[.val (.ref x), .val (.int (Int32.ofNat A.length)), .val (.int (Int32.ofNat (A ++ Bl).length)), .val (.int (Int32.ofNat (A ++ Bl).length)), .unset] [(.int ((Int32.ofNat (A ++ Bl).length) - (Int32.ofNat A.length)))] ?_
  rw [show ((Int32.ofNat (A ++ Bl).length) - (Int32.ofNat A.length)) = (Int32.ofNat Bl.length) from (own_nsubL (by omega))]
  refine own_istore X4.here hx hby d26_25 (l' := #[.val (.ref x), .val (.int (Int32.ofNat A.length)), .val (.int (Int32.ofNat (A ++ Bl).length)), .val (.int (Int32.ofNat (A ++ Bl).length)), .val (.int (Int32.ofNat Bl.length))]) rfl ?_
  refine own_aloadN X4.here hx hby d26_27 rfl rfl ?_
  refine own_virtual X4 hx hZ hown (own_w hw 216 rfl) (own_w hw 217 rfl) (notFace_of_selects (args := #[]) (mvT hZ (own_w hw 219 rfl))) (own_w hw 219 rfl) (own_w hw 218 rfl) (own_w hw 7 rfl) (own_w hw 220 rfl) (by decide) (strIsL l Z a0 hw [] x zc h0 n0 Z0 Fc_x S_C hz) 0 (Nat.le_of_eq rfl) (by decide) (by decide) (by rw [hml]; rfl) (argsL := []) (st := []) E_x (lenOf pd_11 rfl) rfl rfl (by decide) (by decide) eh4 hby d26_28 ?_
  intro T5 v5 L5 X5 hQ5
  obtain ⟨rfl, Nq5, eh5⟩ := hQ5
  have N5 := Fr.app N4 Nq5
  refine own_sh (T := T5) 31 #[.val (.ref x), .val (.int (Int32.ofNat A.length)), .val (.int (Int32.ofNat (A ++ Bl).length)), .val (.int (Int32.ofNat (A ++ Bl).length)), .val (.int (Int32.ofNat Bl.length))] [(.int 1)] ?_
  refine own_ifNo X5.here hx hby d26_31 ((if0 _ _).trans (feq (show ¬ ((1 : Int32) = (0 : Int32)) from (by decide))).1) ?_
  refine own_aloadN X5.here hx hby d26_34 rfl rfl ?_
  refine own_getF X5 hx hZ hown (host := "") (Or.inl (own_w hw 24 rfl)) Via.refl eh5 Fv_x hby d26_35 ?_
  intro T6 X6 e6
  refine own_iloadN X6.here hx hby d26_38 rfl ?_
  refine own_iload X6.here hx hby d26_39 rfl ?_
  refine own_callS X6 hx hZ hown (own_w hw 221 rfl) (own_w hw 222 rfl) (own_w hw 45 rfl) (own_w hw 223 rfl) (by decide) (l1NewC l Z a0 hw [] t kt A Bl h0 n0 Z0 V_t hA hB hAB) 0 (Nat.le_of_eq rfl) (by decide) (by decide) (by rw [hml]; rfl) (argsL := [(.ref t), (.int (Int32.ofNat A.length)), (.int (Int32.ofNat Bl.length))]) (st := []) (lenOf pd_18 rfl) rfl rfl (by decide) (by decide) e6 hby d26_41 ?_
  intro T7 v7 L7 X7 hQ7
  obtain ⟨r_7, tr_7, kr_7, rfl, Nq7, K7, P7_0, P7_1, P7_2, P7_3⟩ := hQ7
  have N7 := Fr.app N5 Nq7
  have z8 : h0.size ≤ T7.heap.size := K7.1
  have lt9 : T7.heap.size > r_7 := P7_0.lt
  have lt10 : T7.heap.size > tr_7 := P7_3.lt
  refine own_sh (T := T7) 44 #[.val (.ref x), .val (.int (Int32.ofNat A.length)), .val (.int (Int32.ofNat (A ++ Bl).length)), .val (.int (Int32.ofNat (A ++ Bl).length)), .val (.int (Int32.ofNat Bl.length))] [(.ref r_7)] ?_
  refine own_goto X7.here hx hby (pc' := 57) d26_44 (by decide) (by decide) ?_
  have K11 : Keep h0 T7.heap [] := ((Keep.refl h0 []).trans K7 all0)
  obtain ⟨fs, hr, hrun, hended, hW, hsame⟩ := X7.leave (v := some (.ref r_7)) (fun h => by rw [Bd.returns] at h; cases h) Bd.notSynchronized
  refine own_ret (t := T7.setFrames fs) ?_ ⟨_, hrun, hended, _, _, rfl, ?_, ⟨_, rfl⟩, hW, hsame.mono (by decide) (by decide)⟩
  · exact retOut X7 hx Bd.returns rfl (Or.inr (Or.inr (Or.inr (Or.inr ⟨rfl, rfl, rfl⟩)))) (hb hby d26_57) hr
  · show Q_subC2 Z _ _ _ _ _ _ _ h0 n0 _ T7.heap _
    exact ⟨r_7, tr_7, kr_7, rfl, N7, K11, P7_0, P7_1, P7_2, P7_3⟩
def Q_subC (Z : State) (x : Nat) (t : Nat) (kt : ClassId) (A : List Int32) (Bl : List Int32) (zc : Int32) (fm : Value) (h0 : Heap) (n0 : Nat) (vR : Option Value) (hR : Heap) (LR : List Loc) : Prop := ∃ (r : Nat) (tr : Nat) (kr : ClassId), vR = some (.ref r) ∧ Fr n0 LR ∧ Keep h0 hR [] ∧ (Exa Z hR r "java/lang/String") ∧ (Fld Z hR r "java/lang/String" "coder" "B" (.int 0)) ∧ (Fld Z hR r "java/lang/String" "value" "[B" (.ref tr)) ∧ (Arv Z hR tr kr .byte (Int32.ofNat Bl.length) (own_b Bl) (.int 0))
set_option maxRecDepth 65536 in
set_option maxHeartbeats 40000000 in
theorem subC (l : Launch) (Z : State) (a0 : Array Value) (hw : ∀ d ∈ tables_1, d.before a0 Z = true) (ws : List Jvm.Cond) (x : Nat) (t : Nat) (kt : ClassId) (A : List Int32) (Bl : List Int32) (zc : Int32) (fm : Value) (h0 : Heap) (n0 : Nat) (Z0 : n0 ≤ h0.size) (E_x : Exa Z h0 x "java/lang/String") (Fc_x : Fld Z h0 x "java/lang/String" "coder" "B" (.int 0)) (Fv_x : Fld Z h0 x "java/lang/String" "value" "[B" (.ref t)) (V_t : Arv Z h0 t kt .byte (Int32.ofNat (A ++ Bl).length) (own_b (A ++ Bl)) (.int 0)) (S_C : Sta Z h0 "java/lang/String" "COMPACT_STRINGS" "Z" (.int zc)) (hz : ¬ (zc = (0 : Int32))) (S_FM : Sta Z h0 "jdk/internal/util/Preconditions" "SIOOBE_FORMATTER" "Ljava/util/function/BiFunction;" fm) (hfm : fm.isRef = true) (hA : 0 < A.length) (hB : 0 < Bl.length) (hAB : A.length + Bl.length ≤ 15) :
    own_M l (⟨"java/lang/String", "substring", "(I)Ljava/lang/String;"⟩ : MethodName) jdk_42_method_91_code 2 (some (.object "java/lang/String")) ws ({ frames := 5, cells := 2, slots := 19, locals := 80 } : Room) Z #[(.ref x), (.int (Int32.ofNat A.length))] h0 (Q_subC Z x t kt A Bl zc fm h0 n0) := by
  refine own_body (own := "java/lang/String") rfl (plainFor_of_name pn_25) (fun m => ef_subZ m x (Int32.ofNat A.length)) ?_
  intro p e s m below meth c s₁ Bd hml hZ hh hx hby hown X0 e0
  have N0 := Fr.nil n0
  have lt1 : h0.size > x := E_x.lt
  have lt2 : h0.size > t := V_t.lt
  refine own_aloadN X0.here hx hby d25_0 rfl rfl ?_
  refine own_iloadN X0.here hx hby d25_1 rfl ?_
  refine own_aloadN X0.here hx hby d25_2 rfl rfl ?_
  refine own_virtual X0 hx hZ hown (own_w hw 144 rfl) (own_w hw 102 rfl) (notFace_of_selects (args := #[]) (mvT hZ (own_w hw 104 rfl))) (own_w hw 104 rfl) (own_w hw 103 rfl) (own_w hw 7 rfl) (own_w hw 105 rfl) (by decide) (lenG l Z a0 hw [] x t kt (A ++ Bl) zc h0 n0 Z0 E_x Fc_x Fv_x V_t S_C hz) 2 (Nat.le_of_eq rfl) (by decide) (by decide) (by rw [hml]; rfl) (argsL := []) (st := [(.int (Int32.ofNat A.length)), (.ref x)]) E_x (lenOf pd_4 rfl) rfl rfl (by decide) (by decide) e0 hby d25_3 ?_
  intro T3 v3 L3 X3 hQ3
  obtain ⟨rfl, Nq3, eh3⟩ := hQ3
  have N3 := Fr.app N0 Nq3
  refine own_sh (T := T3) 6 #[.val (.ref x), .val (.int (Int32.ofNat A.length))] [(.int (Int32.ofNat (A ++ Bl).length)), (.int (Int32.ofNat A.length)), (.ref x)] ?_
  refine own_virtual X3 hx hZ hown (own_w hw 145 rfl) (own_w hw 146 rfl) (notFace_of_selects (args := #[]) (mvT hZ (own_w hw 148 rfl))) (own_w hw 148 rfl) (own_w hw 147 rfl) (own_w hw 7 rfl) (own_w hw 149 rfl) (by decide) (subC2 l Z a0 hw [] x t kt A Bl zc fm h0 n0 Z0 E_x Fc_x Fv_x V_t S_C hz S_FM hfm hA hB hAB) 0 (Nat.le_of_eq rfl) (by decide) (by decide) (by rw [hml]; rfl) (argsL := [(.int (Int32.ofNat A.length)), (.int (Int32.ofNat (A ++ Bl).length))]) (st := []) E_x (lenOf pd_17 rfl) rfl rfl (by decide) (by decide) eh3 hby d25_6 ?_
  intro T4 v4 L4 X4 hQ4
  obtain ⟨r_4, tr_4, kr_4, rfl, Nq4, K4, P4_0, P4_1, P4_2, P4_3⟩ := hQ4
  have N4 := Fr.app N3 Nq4
  have z5 : h0.size ≤ T4.heap.size := K4.1
  have lt6 : T4.heap.size > r_4 := P4_0.lt
  have lt7 : T4.heap.size > tr_4 := P4_3.lt
  refine own_sh (T := T4) 9 #[.val (.ref x), .val (.int (Int32.ofNat A.length))] [(.ref r_4)] ?_
  have K8 : Keep h0 T4.heap [] := ((Keep.refl h0 []).trans K4 all0)
  obtain ⟨fs, hr, hrun, hended, hW, hsame⟩ := X4.leave (v := some (.ref r_4)) (fun h => by rw [Bd.returns] at h; cases h) Bd.notSynchronized
  refine own_ret (t := T4.setFrames fs) ?_ ⟨_, hrun, hended, _, _, rfl, ?_, ⟨_, rfl⟩, hW, hsame.mono (by decide) (by decide)⟩
  · exact retOut X4 hx Bd.returns rfl (Or.inr (Or.inr (Or.inr (Or.inr ⟨rfl, rfl, rfl⟩)))) (hb hby d25_9) hr
  · show Q_subC Z _ _ _ _ _ _ _ h0 n0 _ T4.heap _
    exact ⟨r_4, tr_4, kr_4, rfl, N4, K8, P4_0, P4_1, P4_2, P4_3⟩
theorem ef_recInit (m : MethodId) (x0 : Nat) : entryFrame m #[(.ref x0)] 1 = mkF m 0 #[.val (.ref x0)] [] := by first | (simp [entryFrame, mkF, argsToLocals, Value.category]; done) | rfl
theorem pn_13 : plainName "java/lang/Record" = true := by first | (simp [plainName, overriddenIn]; done) | decide +kernel
theorem d13_0 : decode jdk_30_method_1_code 0 = .ok (.aload_n 0, 1) := by decide +kernel
theorem d13_1 : decode jdk_30_method_1_code 1 = .ok (.invokespecial 1, 3) := by decide +kernel
theorem d13_4 : decode jdk_30_method_1_code 4 = .ok (.return_, 1) := by decide +kernel
def Q_recInit (Z : State) (u : Nat) (h0 : Heap) (n0 : Nat) (vR : Option Value) (hR : Heap) (LR : List Loc) : Prop := vR = none ∧ Fr n0 LR ∧ hR = h0
set_option maxRecDepth 65536 in
set_option maxHeartbeats 40000000 in
theorem recInit (l : Launch) (Z : State) (a0 : Array Value) (hw : ∀ d ∈ tables_1, d.before a0 Z = true) (ws : List Jvm.Cond) (u : Nat) (h0 : Heap) (n0 : Nat) (Z0 : n0 ≤ h0.size)  :
    own_M l (⟨"java/lang/Record", "<init>", "()V"⟩ : MethodName) jdk_30_method_1_code 1 none ws ({ frames := 1, cells := 0, slots := 0, locals := 12 } : Room) Z #[(.ref u)] h0 (Q_recInit Z u h0 n0) := by
  refine own_body (own := "java/lang/Record") rfl (plainFor_of_name pn_13) (fun m => ef_recInit m u) ?_
  intro p e s m below meth c s₁ Bd hml hZ hh hx hby hown X0 e0
  have N0 := Fr.nil n0
  refine own_aloadN X0.here hx hby d13_0 rfl rfl ?_
  refine own_initO X0 hx hZ hown (own_w hw 62 rfl) (own_w hw 16 rfl) (own_w hw 17 rfl) e0 (by rw [hml]; rfl) hby d13_1 (by decide) 0 (Nat.le_of_eq rfl) (by decide) ?_
  intro T1 X1 e1
  obtain ⟨fs, hr, hrun, hended, hW, hsame⟩ := X1.leave (v := none) (fun _ => rfl) Bd.notSynchronized
  refine own_ret (t := T1.setFrames fs) ?_ ⟨_, hrun, hended, _, _, rfl, ?_, ⟨_, rfl⟩, hW, hsame.mono (by decide) (by decide)⟩
  · exact X1.returnOut hx Bd.returns (hb hby d13_4) hr
  · show Q_recInit Z _ h0 n0 _ T1.heap _
    rw [e1]
    exact ⟨rfl, N0, rfl⟩
theorem ef_uriInit (m : MethodId) (x0 : Nat) (x1 : Nat) (x2 : Nat) : entryFrame m #[(.ref x0), (.ref x1), (.ref x2)] 3 = mkF m 0 #[.val (.ref x0), .val (.ref x1), .val (.ref x2)] [] := by first | (simp [entryFrame, mkF, argsToLocals, Value.category]; done) | rfl
theorem pn_12 : plainName "com/example/undercroft/undercroft/store/UriSpace" = true := by first | (simp [plainName, overriddenIn]; done) | decide +kernel
theorem d12_0 : decode prog_21_method_1_code 0 = .ok (.aload_n 0, 1) := by decide +kernel
theorem d12_1 : decode prog_21_method_1_code 1 = .ok (.invokespecial 1, 3) := by decide +kernel
theorem pd_19 : parseMethodDescriptor "()V" = some ⟨[], none⟩ := by decide +kernel
theorem d12_4 : decode prog_21_method_1_code 4 = .ok (.aload_n 0, 1) := by decide +kernel
theorem d12_5 : decode prog_21_method_1_code 5 = .ok (.aload_n 1, 1) := by decide +kernel
theorem d12_6 : decode prog_21_method_1_code 6 = .ok (.putfield 7, 3) := by decide +kernel
theorem d12_9 : decode prog_21_method_1_code 9 = .ok (.aload_n 0, 1) := by decide +kernel
theorem d12_10 : decode prog_21_method_1_code 10 = .ok (.aload_n 2, 1) := by decide +kernel
theorem d12_11 : decode prog_21_method_1_code 11 = .ok (.putfield 13, 3) := by decide +kernel
theorem d12_14 : decode prog_21_method_1_code 14 = .ok (.return_, 1) := by decide +kernel
def Q_uriInit (Z : State) (u : Nat) (x : Nat) (o2 : Nat) (h0 : Heap) (n0 : Nat) (vR : Option Value) (hR : Heap) (LR : List Loc) : Prop := vR = none ∧ Fr n0 LR ∧ Keep h0 hR [u] ∧ (Exa Z hR u "com/example/undercroft/undercroft/store/UriSpace") ∧ (Fld Z hR u "com/example/undercroft/undercroft/store/UriSpace" "prefix" "Ljava/lang/String;" (.ref x))
set_option maxRecDepth 65536 in
set_option maxHeartbeats 40000000 in
theorem uriInit (l : Launch) (Z : State) (a0 : Array Value) (hw : ∀ d ∈ tables_1, d.before a0 Z = true) (ws : List Jvm.Cond) (u : Nat) (x : Nat) (o2 : Nat) (h0 : Heap) (n0 : Nat) (Z0 : n0 ≤ h0.size) (E_u : Exa Z h0 u "com/example/undercroft/undercroft/store/UriSpace") (g_u : n0 ≤ u) (F_prefix_u : Fld Z h0 u "com/example/undercroft/undercroft/store/UriSpace" "prefix" "Ljava/lang/String;" .null) (F_ownSystem_u : Fld Z h0 u "com/example/undercroft/undercroft/store/UriSpace" "ownSystem" "Ljava/lang/String;" .null) :
    own_M l (⟨"com/example/undercroft/undercroft/store/UriSpace", "<init>", "(Ljava/lang/String;Ljava/lang/String;)V"⟩ : MethodName) prog_21_method_1_code 3 none ws ({ frames := 2, cells := 0, slots := 0, locals := 24 } : Room) Z #[(.ref u), (.ref x), (.ref o2)] h0 (Q_uriInit Z u x o2 h0 n0) := by
  refine own_body (own := "com/example/undercroft/undercroft/store/UriSpace") rfl (plainFor_of_name pn_12) (fun m => ef_uriInit m u x o2) ?_
  intro p e s m below meth c s₁ Bd hml hZ hh hx hby hown X0 e0
  have N0 := Fr.nil n0
  have lt1 : h0.size > u := E_u.lt
  refine own_aloadN X0.here hx hby d12_0 rfl rfl ?_
  refine own_special X0 hx hZ rfl hown (own_w hw 57 rfl) (own_w hw 58 rfl) (own_w hw 60 rfl) (own_w hw 61 rfl) (by decide) (recInit l Z a0 hw [] u h0 n0 Z0 ) 0 (Nat.le_of_eq rfl) (by decide) (by decide) (by rw [hml]; rfl) (argsL := []) (st := []) (a := u) (lenOf pd_19 rfl) rfl rfl (by decide) (by decide) e0 hby d12_1 ?_
  intro T3 v3 L3 X3 hQ3
  obtain ⟨rfl, Nq3, eh3⟩ := hQ3
  have N3 := Fr.app N0 Nq3
  refine own_sh (T := T3) 4 #[.val (.ref u), .val (.ref x), .val (.ref o2)] [] ?_
  refine own_aloadN X3.here hx hby d12_4 rfl rfl ?_
  refine own_aloadN X3.here hx hby d12_5 rfl rfl ?_
  refine own_putF X3 hx hZ (ty := (.object "java/lang/String")) hown (host := "") (Or.inl (own_w hw 63 rfl)) Via.refl eh3 F_prefix_u E_u (Or.inr ⟨(own_w hw 64 rfl), rfl, (name_of_methodNamed Bd.named Bd.method).1⟩) (own_w hw 38 rfl) (by decide) rfl rfl hby d12_6 N3 g_u ?_
  intro T4 h4 lo4 X4 e4 N4 W4 F4 z4
  refine own_aloadN X4.here hx hby d12_9 rfl rfl ?_
  refine own_aloadN X4.here hx hby d12_10 rfl rfl ?_
  have f5 := (E_u.wr W4)
  have f6 := (F_ownSystem_u.other W4 (Or.inr (slot_ne (Or.inr (own_w hw 66 rfl)) (Or.inr (own_w hw 64 rfl)) (by decide) (t := (.object "java/lang/String")) (t' := (.object "java/lang/String")) (by decide) (by decide))))
  refine own_putF X4 hx hZ (ty := (.object "java/lang/String")) hown (host := "") (Or.inl (own_w hw 65 rfl)) Via.refl e4 f6 f5 (Or.inr ⟨(own_w hw 66 rfl), rfl, (name_of_methodNamed Bd.named Bd.method).1⟩) (own_w hw 38 rfl) (by decide) rfl rfl hby d12_11 N4 g_u ?_
  intro T7 h7 lo7 X7 e7 N7 W7 F7 z7
  have K8 : Keep h0 h7 [u] := (((Keep.refl h0 [u]).wr W4 (Or.inl (List.mem_of_getElem? (i := 0) rfl))).wr W7 (Or.inl (List.mem_of_getElem? (i := 0) rfl)))
  have f9 := (f5.wr W7)
  have f10 := (F4.other W7 (Or.inr (slot_ne (Or.inr (own_w hw 64 rfl)) (Or.inr (own_w hw 66 rfl)) (by decide) (t := (.object "java/lang/String")) (t' := (.object "java/lang/String")) (by decide) (by decide))))
  obtain ⟨fs, hr, hrun, hended, hW, hsame⟩ := X7.leave (v := none) (fun _ => rfl) Bd.notSynchronized
  refine own_ret (t := T7.setFrames fs) ?_ ⟨_, hrun, hended, _, _, rfl, ?_, ⟨_, rfl⟩, hW, hsame.mono (by decide) (by decide)⟩
  · exact X7.returnOut hx Bd.returns (hb hby d12_14) hr
  · show Q_uriInit Z _ _ _ h0 n0 _ T7.heap _
    rw [e7]
    exact ⟨rfl, N7, K8, f9, f10⟩
theorem ef_pathOf_Z (m : MethodId) (x0 : Nat) (x1 : Nat) : entryFrame m #[(.ref x0), (.ref x1)] 2 = mkF m 0 #[.val (.ref x0), .val (.ref x1)] [] := by first | (simp [entryFrame, mkF, argsToLocals, Value.category]; done) | rfl
theorem pn_14 : plainName "com/example/undercroft/undercroft/store/UriSpace" = true := by first | (simp [plainName, overriddenIn]; done) | decide +kernel
theorem d14_0 : decode prog_21_method_9_code 0 = .ok (.new 16, 3) := by decide +kernel
theorem d14_3 : decode prog_21_method_9_code 3 = .ok (.dup, 1) := by decide +kernel
theorem d14_4 : decode prog_21_method_9_code 4 = .ok (.invokespecial 18, 3) := by decide +kernel
theorem d14_7 : decode prog_21_method_9_code 7 = .ok (.ldc 135, 2) := by decide +kernel
theorem d14_9 : decode prog_21_method_9_code 9 = .ok (.invokevirtual 23, 3) := by decide +kernel
theorem pd_20 : parseMethodDescriptor "(Ljava/lang/String;)Ljava/lang/StringBuilder;" = some ⟨[(.object "java/lang/String")], some (.object "java/lang/StringBuilder")⟩ := by decide +kernel
theorem d14_12 : decode prog_21_method_9_code 12 = .ok (.aload_n 1, 1) := by decide +kernel
theorem d14_13 : decode prog_21_method_9_code 13 = .ok (.aload_n 0, 1) := by decide +kernel
theorem d14_14 : decode prog_21_method_9_code 14 = .ok (.getfield 7, 3) := by decide +kernel
theorem d14_17 : decode prog_21_method_9_code 17 = .ok (.invokevirtual 92, 3) := by decide +kernel
theorem d14_20 : decode prog_21_method_9_code 20 = .ok (.invokevirtual 99, 3) := by decide +kernel
theorem pd_21 : parseMethodDescriptor "(I)Ljava/lang/String;" = some ⟨[.int], some (.object "java/lang/String")⟩ := by decide +kernel
theorem d14_23 : decode prog_21_method_9_code 23 = .ok (.invokevirtual 23, 3) := by decide +kernel
theorem d14_26 : decode prog_21_method_9_code 26 = .ok (.invokevirtual 36, 3) := by decide +kernel
theorem pd_22 : parseMethodDescriptor "()Ljava/lang/String;" = some ⟨[], some (.object "java/lang/String")⟩ := by decide +kernel
theorem d14_29 : decode prog_21_method_9_code 29 = .ok (.areturn, 1) := by decide +kernel
def Q_pathOf_Z (Z : State) (u : Nat) (x : Nat) (t : Nat) (y : Nat) (ty : Nat) (kt : ClassId) (ky : ClassId) (Sl : List Int32) (zc : Int32) (fm : Value) (h0 : Heap) (n0 : Nat) (vR : Option Value) (hR : Heap) (LR : List Loc) : Prop := ∃ (r : Nat) (tr : Nat) (kr : ClassId), vR = some (.ref r) ∧ Fr n0 LR ∧ Keep h0 hR [] ∧ h0.size ≤ r ∧ (Exa Z hR r "java/lang/String") ∧ (Fld Z hR r "java/lang/String" "coder" "B" (.int 0)) ∧ (Fld Z hR r "java/lang/String" "value" "[B" (.ref tr)) ∧ (Arv Z hR tr kr .byte (Int32.ofNat (([47] : List Int32) ++ Sl).length) (own_b (([47] : List Int32) ++ Sl)) (.int 0))
set_option maxRecDepth 65536 in
set_option maxHeartbeats 40000000 in
theorem pathOf_Z (l : Launch) (Z : State) (a0 : Array Value) (hw : ∀ d ∈ tables_1, d.before a0 Z = true) (ws : List Jvm.Cond) (u : Nat) (x : Nat) (t : Nat) (y : Nat) (ty : Nat) (kt : ClassId) (ky : ClassId) (Sl : List Int32) (zc : Int32) (fm : Value) (h0 : Heap) (n0 : Nat) (Z0 : n0 ≤ h0.size) (E_u : Exa Z h0 u "com/example/undercroft/undercroft/store/UriSpace") (F_prefix_u : Fld Z h0 u "com/example/undercroft/undercroft/store/UriSpace" "prefix" "Ljava/lang/String;" (.ref x)) (E_x : Exa Z h0 x "java/lang/String") (Fc_x : Fld Z h0 x "java/lang/String" "coder" "B" (.int 0)) (Fv_x : Fld Z h0 x "java/lang/String" "value" "[B" (.ref t)) (V_t : Arv Z h0 t kt .byte (Int32.ofNat ([] : List Int32).length) (own_b ([] : List Int32)) (.int 0)) (E_y : Exa Z h0 y "java/lang/String") (Fc_y : Fld Z h0 y "java/lang/String" "coder" "B" (.int 0)) (Fv_y : Fld Z h0 y "java/lang/String" "value" "[B" (.ref ty)) (V_ty : Arv Z h0 ty ky .byte (Int32.ofNat Sl.length) (own_b Sl) (.int 0)) (S_C : Sta Z h0 "java/lang/String" "COMPACT_STRINGS" "Z" (.int zc)) (hz : ¬ (zc = (0 : Int32))) (S_FM : Sta Z h0 "jdk/internal/util/Preconditions" "SIOOBE_FORMATTER" "Ljava/util/function/BiFunction;" fm) (hfm : fm.isRef = true) (hS7 : Sl.length ≤ 7) :
    own_MH l (⟨"com/example/undercroft/undercroft/store/UriSpace", "pathOf", "(Ljava/lang/String;)Ljava/lang/String;"⟩ : MethodName) prog_21_method_9_code 2 (some (.object "java/lang/String")) ws ({ frames := 6, cells := 6, slots := 47, locals := 91 } : Room) Z #[(.ref u), (.ref y)] h0 (Q_pathOf_Z Z u x t y ty kt ky Sl zc fm h0 n0) consts_1 := by
  refine own_bodyH (own := "com/example/undercroft/undercroft/store/UriSpace") rfl (plainFor_of_name pn_14) (fun m => ef_pathOf_Z m u y) ?_
  intro p e s m below meth c s₁ Bd hml hZ hh hx hby hown X0 e0 hS0 CH0
  have N0 := Fr.nil n0
  have hk0 : h0.size ≤ h0.size := Nat.le_refl _
  have Y0 : Stand p l e ({ frames := 6, cells := 6, slots := 47, locals := 91 } : Room) (s.setVm s.vm) m #[(.ref u), (.ref y)] below meth c s₁ [] 0 0 := X0
  have hEL := own_EW hw
  have C0 := CHr.refl CH0
  have lt1 : h0.size > u := E_u.lt
  have lt2 : h0.size > x := E_x.lt
  have lt3 : h0.size > t := V_t.lt
  have lt4 : h0.size > y := E_y.lt
  have lt5 : h0.size > ty := V_ty.lt
  refine own_newO Y0 hx hZ hown (own_w hw 72 rfl) (own_w hw 73 rfl) (own_w hw 74 rfl) e0 hby d14_0 (by decide) (by decide) ?_
  intro T6 h6 b6 X6 e6 E6 g6 A6 D6 lt6
  have z7 : h0.size ≤ h6.size := E6.1
  have C8 := C0.trans (CHr.ext E6 C0.1)
  have F9 : Fld Z h6 b6 "java/lang/AbstractStringBuilder" "value" "[B" .null := D6 (Or.inl (own_w hw 87 rfl)) (ty := (.array .byte)) (by decide)
  have F10 : Fld Z h6 b6 "java/lang/AbstractStringBuilder" "coder" "B" (.int 0) := D6 (Or.inl (own_w hw 89 rfl)) (ty := .byte) (by decide)
  have F11 : Fld Z h6 b6 "java/lang/AbstractStringBuilder" "count" "I" (.int 0) := D6 (Or.inl (own_w hw 112 rfl)) (ty := .int) (by decide)
  refine own_dup X6.here hx hby d14_3 rfl ?_
  have f12 := (S_C.ext E6)
  have z14 : n0 ≤ h6.size := by omega
  refine own_special X6 hx hZ rfl hown (own_w hw 75 rfl) (own_w hw 76 rfl) (own_w hw 74 rfl) (own_w hw 77 rfl) (by decide) (sbInit l Z a0 hw [] b6 zc h6 n0 z14 A6 (by omega) F9 F10 F11 f12 hz) 1 (Nat.le_of_eq rfl) (by decide) (by decide) (by rw [hml]; rfl) (argsL := []) (st := [(.ref b6)]) (a := b6) (lenOf pd_19 rfl) rfl rfl (by decide) (by decide) e6 hby d14_4 ?_
  intro T13 v13 L13 X13 hQ13
  obtain ⟨b_13, kb_13, rfl, Nq13, K13, P13_0, P13_1, P13_2, P13_3, P13_4, P13_5⟩ := hQ13
  have N13 := Fr.app N0 Nq13
  have z15 : h6.size ≤ T13.heap.size := K13.1
  have C16 := C8.trans (CHr.keep K13 (sfS (Safe.exa hZ.alike A6 (by decide) (by decide)) sf0) C8.1)
  have lt17 : T13.heap.size > b6 := P13_0.lt
  have lt18 : T13.heap.size > b_13 := P13_5.lt
  refine own_sh (T := T13) 7 #[.val (.ref u), .val (.ref y)] [(.ref b6)] ?_
  have V19 : Arv Z T13.heap b_13 kb_13 .byte (16 : Int32) (own_bz ([] : List Int32)) (.int 0) := P13_5
  have V20 : Fld Z T13.heap b6 "java/lang/AbstractStringBuilder" "count" "I" (.int (Int32.ofNat ([] : List Int32).length)) := P13_3
  have own_wS0 : ∀ a ∈ Bundle.stringAtoms, a.before a0 Z = true := own_wS hw
  refine own_ldcCH X13 hx hZ hEL hown (own_w hw 90 rfl) own_wS0 rfl hS0 (by omega) C16.1 (List.mem_of_getElem? (i := 0) rfl) (vs := [(.int 47)]) (z := (1 : Int32)) ⟨by decide, by decide⟩ (by decide) (by decide) hby d14_7 4 (by decide) (by decide) (by decide) (by decide) ?_
  intro a21 T21 h21 kk21 vm21 b21 kb21 X21 e21 E21 hS21 hk21 hZ21 hown21 Ea21 Fc21 Fv21 Va21 la21 lb21 Cn21 ns21
  have z22 : T13.heap.size ≤ h21.size := E21.1
  have C23 := C16.trans Cn21
  have f24 := (P13_0.ext E21)
  have nl21_b6 := ns21 b6 (Safe.exa hZ21.alike f24 (by decide) (by decide))
  have sf25 := (Cn21.safe (own_ll (by omega)) (Safe.keep K13 (sfS (Safe.exa hZ.alike A6 (by decide) (by decide)) sf0) C8.1 (Safe.new (h := h6) (x := b_13) (by omega))))
  have nl21_b_13 := ns21 b_13 sf25
  have f26 := (((E_u.ext E6).keep K13).ext E21)
  have nl21_u := ns21 u (Safe.exa hZ21.alike f26 (by decide) (by decide))
  have lt27 : h21.size > a21 := la21
  have lt28 : h21.size > b21 := lb21
  have V29 : Arv Z h21 b21 kb21 .byte (Int32.ofNat ([47] : List Int32).length) (own_b ([47] : List Int32)) (.int 0) := Va21
  have f30 := (P13_1.ext E21)
  have f31 := (P13_2.ext E21)
  have f32 := (V19.ext E21)
  have f33 := ((own_sta_keep f12 K13 (allS (own_exa_plain A6) all0)).ext E21)
  have f34 := (V20.ext E21)
  have z36 : n0 ≤ h21.size := by omega
  refine own_virtual X21 hx hZ21 hown21 (own_w hw 91 rfl) (own_w hw 92 rfl) (notFace_of_selects (args := #[]) (mvT hZ21 (own_w hw 94 rfl))) (own_w hw 94 rfl) (own_w hw 93 rfl) (own_w hw 74 rfl) (own_w hw 95 rfl) (by decide) (sbAppG l Z a0 hw [] b6 b_13 a21 b21 kb_13 kb21 ([] : List Int32) ([47] : List Int32) zc h21 n0 z36 f24 f30 f31 f32 Ea21 Fc21 Fv21 V29 (by omega) f33 hz (by decide) (by omega) f34) 0 (Nat.le_of_eq rfl) (by decide) (by decide) (by rw [hml]; rfl) (argsL := [(.ref a21)]) (st := []) f24 (lenOf pd_20 rfl) rfl rfl (by decide) (by decide) e21 hby d14_9 ?_
  intro T35 v35 L35 X35 hQ35
  obtain ⟨rfl, Nq35, K35, P35_0, P35_1, P35_2, P35_3, P35_4⟩ := hQ35
  have N35 := Fr.app N13 Nq35
  have z37 : h21.size ≤ T35.heap.size := K35.1
  have C38 := C23.trans (CHr.keep K35 (sfS (Safe.exa hZ21.alike f24 (by decide) (by decide)) (sfS sf25 sf0)) C23.1)
  have lt39 : T35.heap.size > b6 := P35_0.lt
  have lt40 : T35.heap.size > b_13 := P35_4.lt
  refine own_sh (T := T35) 12 #[.val (.ref u), .val (.ref y)] [(.ref b6)] ?_
  have V41 : Arv Z T35.heap b_13 kb_13 .byte (16 : Int32) (own_bz ([47] : List Int32)) (.int 0) := P35_4
  have V42 : Fld Z T35.heap b6 "java/lang/AbstractStringBuilder" "count" "I" (.int (Int32.ofNat ([47] : List Int32).length)) := P35_3
  refine own_aloadN X35.here hx hby d14_12 rfl rfl ?_
  refine own_aloadN X35.here hx hby d14_13 rfl rfl ?_
  have f43 := ((((F_prefix_u.ext E6).keep K13 (ninS (own_nn (by omega)) nin0)).ext E21).keep K35 (ninS (own_nn (by omega)) (ninS (own_nn (by omega)) nin0)))
  refine own_getF X35 hx hZ21 hown21 (host := "") (Or.inl (own_w hw 63 rfl)) Via.refl rfl f43 hby d14_14 ?_
  intro T44 X44 e44
  have f45 := ((((E_x.ext E6).keep K13).ext E21).keep K35)
  have f46 := ((((Fc_x.ext E6).keep K13 (ninS (own_nn (by omega)) nin0)).ext E21).keep K35 (ninS (own_nn (by omega)) (ninS (own_nn (by omega)) nin0)))
  have f47 := ((((Fv_x.ext E6).keep K13 (ninS (own_nn (by omega)) nin0)).ext E21).keep K35 (ninS (own_nn (by omega)) (ninS (own_nn (by omega)) nin0)))
  have f48 := ((((V_t.ext E6).keep K13 (ninS (own_nn (by omega)) nin0)).ext E21).keep K35 (ninS (own_nn (by omega)) (ninS (own_nn (by omega)) nin0)))
  have f49 := (own_sta_keep f33 K35 (allS (own_exa_plain f24) (allS (own_arv_plain f32) all0)))
  have z51 : n0 ≤ T35.heap.size := by omega
  refine own_virtual X44 hx hZ21 hown21 (own_w hw 138 rfl) (own_w hw 102 rfl) (notFace_of_selects (args := #[]) (mvT hZ21 (own_w hw 104 rfl))) (own_w hw 104 rfl) (own_w hw 103 rfl) (own_w hw 7 rfl) (own_w hw 105 rfl) (by decide) (lenG l Z a0 hw [] x t kt ([] : List Int32) zc T35.heap n0 z51 f45 f46 f47 f48 f49 hz) 2 (Nat.le_of_eq rfl) (by decide) (by decide) (by rw [hml]; rfl) (argsL := []) (st := [(.ref y), (.ref b6)]) f45 (lenOf pd_4 rfl) rfl rfl (by decide) (by decide) e44 hby d14_17 ?_
  intro T50 v50 L50 X50 hQ50
  obtain ⟨rfl, Nq50, eh50⟩ := hQ50
  have N50 := Fr.app N35 Nq50
  refine own_sh (T := T50) 20 #[.val (.ref u), .val (.ref y)] [(.int (Int32.ofNat ([] : List Int32).length)), (.ref y), (.ref b6)] ?_
  rw [show (Int32.ofNat ([] : List Int32).length) = (0 : Int32) from (by decide)]
  have f52 := ((((E_y.ext E6).keep K13).ext E21).keep K35)
  have f53 := ((((Fc_y.ext E6).keep K13 (ninS (own_nn (by omega)) nin0)).ext E21).keep K35 (ninS (own_nn (by omega)) (ninS (own_nn (by omega)) nin0)))
  have f54 := ((((Fv_y.ext E6).keep K13 (ninS (own_nn (by omega)) nin0)).ext E21).keep K35 (ninS (own_nn (by omega)) (ninS (own_nn (by omega)) nin0)))
  have f55 := ((((V_ty.ext E6).keep K13 (ninS (own_nn (by omega)) nin0)).ext E21).keep K35 (ninS (own_nn (by omega)) (ninS (own_nn (by omega)) nin0)))
  have f56 := (own_sta_keep ((own_sta_keep (S_FM.ext E6) K13 (allS (own_exa_plain A6) all0)).ext E21) K35 (allS (own_exa_plain f24) (allS (own_arv_plain f32) all0)))
  refine own_virtual X50 hx hZ21 hown21 (own_w hw 139 rfl) (own_w hw 140 rfl) (notFace_of_selects (args := #[]) (mvT hZ21 (own_w hw 142 rfl))) (own_w hw 142 rfl) (own_w hw 141 rfl) (own_w hw 7 rfl) (own_w hw 143 rfl) (by decide) (subZ l Z a0 hw [] y ty ky Sl zc fm T35.heap n0 z51 f52 f53 f54 f55 f49 hz f56 hfm (by omega)) 1 (Nat.le_of_eq rfl) (by decide) (by decide) (by rw [hml]; rfl) (argsL := [(.int 0)]) (st := [(.ref b6)]) f52 (lenOf pd_21 rfl) rfl rfl (by decide) (by decide) eh50 hby d14_20 ?_
  intro T57 v57 L57 X57 hQ57
  obtain ⟨rfl, Nq57, eh57⟩ := hQ57
  have N57 := Fr.app N50 Nq57
  refine own_sh (T := T57) 23 #[.val (.ref u), .val (.ref y)] [(.ref y), (.ref b6)] ?_
  refine own_virtual X57 hx hZ21 hown21 (own_w hw 91 rfl) (own_w hw 92 rfl) (notFace_of_selects (args := #[]) (mvT hZ21 (own_w hw 94 rfl))) (own_w hw 94 rfl) (own_w hw 93 rfl) (own_w hw 74 rfl) (own_w hw 95 rfl) (by decide) (sbAppG l Z a0 hw [] b6 b_13 y ty kb_13 ky ([47] : List Int32) Sl zc T35.heap n0 z51 P35_0 P35_1 P35_2 V41 f52 f53 f54 f55 (by omega) f49 hz (by simp only [List.length_cons, List.length_nil]; omega) (by omega) V42) 0 (Nat.le_of_eq rfl) (by decide) (by decide) (by rw [hml]; rfl) (argsL := [(.ref y)]) (st := []) P35_0 (lenOf pd_20 rfl) rfl rfl (by decide) (by decide) eh57 hby d14_23 ?_
  intro T58 v58 L58 X58 hQ58
  obtain ⟨rfl, Nq58, K58, P58_0, P58_1, P58_2, P58_3, P58_4⟩ := hQ58
  have N58 := Fr.app N57 Nq58
  have z59 : T35.heap.size ≤ T58.heap.size := K58.1
  have sf60 := (Safe.keep K35 (sfS (Safe.exa hZ21.alike f24 (by decide) (by decide)) (sfS sf25 sf0)) C23.1 sf25)
  have C61 := C38.trans (CHr.keep K58 (sfS (Safe.exa hZ21.alike P35_0 (by decide) (by decide)) (sfS sf60 sf0)) C38.1)
  have lt62 : T58.heap.size > b6 := P58_0.lt
  have lt63 : T58.heap.size > b_13 := P58_4.lt
  refine own_sh (T := T58) 26 #[.val (.ref u), .val (.ref y)] [(.ref b6)] ?_
  have f64 := (own_sta_keep f49 K58 (allS (own_exa_plain P35_0) (allS (own_arv_plain V41) all0)))
  have z66 : n0 ≤ T58.heap.size := by omega
  refine own_virtual X58 hx hZ21 hown21 (own_w hw 158 rfl) (own_w hw 159 rfl) (notFace_of_selects (args := #[]) (mvT hZ21 (own_w hw 161 rfl))) (own_w hw 161 rfl) (own_w hw 160 rfl) (own_w hw 74 rfl) (own_w hw 162 rfl) (by decide) (sbStrG l Z a0 hw [] b6 b_13 kb_13 (([47] : List Int32) ++ Sl) zc T58.heap n0 z66 P58_0 P58_1 P58_2 P58_3 P58_4 f64 hz (by simp only [List.length_append, List.length_cons, List.length_nil]; omega)) 0 (Nat.le_of_eq rfl) (by decide) (by decide) (by rw [hml]; rfl) (argsL := []) (st := []) P58_0 (lenOf pd_22 rfl) rfl rfl (by decide) (by decide) rfl hby d14_26 ?_
  intro T65 v65 L65 X65 hQ65
  obtain ⟨x_65, t_65, kt_65, rfl, Nq65, K65, P65_0, P65_1, P65_2, P65_3, P65_4⟩ := hQ65
  have N65 := Fr.app N58 Nq65
  have z67 : T58.heap.size ≤ T65.heap.size := K65.1
  have C68 := C61.trans (CHr.keep K65 sf0 C61.1)
  have lt69 : T65.heap.size > x_65 := P65_1.lt
  have lt70 : T65.heap.size > t_65 := P65_4.lt
  refine own_sh (T := T65) 29 #[.val (.ref u), .val (.ref y)] [(.ref x_65)] ?_
  have K71 : Keep h0 T65.heap [] := (((((((Keep.refl h0 []).ext E6).trans K13 (allS (P := fun xq_ => xq_ ∈ [] ∨ h0.size ≤ xq_) (Or.inr (by omega)) all0)).ext E21).trans K35 (allS (P := fun xq_ => xq_ ∈ [] ∨ h0.size ≤ xq_) (Or.inr (by omega)) (allS (P := fun xq_ => xq_ ∈ [] ∨ h0.size ≤ xq_) (Or.inr (by omega)) all0))).trans K58 (allS (P := fun xq_ => xq_ ∈ [] ∨ h0.size ≤ xq_) (Or.inr (by omega)) (allS (P := fun xq_ => xq_ ∈ [] ∨ h0.size ≤ xq_) (Or.inr (by omega)) all0))).trans K65 all0)
  obtain ⟨fs, hr, hrun, hended, hRW⟩ := X65.leaveW hS21 (by omega) (v := some (.ref x_65)) (fun h => by rw [Bd.returns] at h; cases h) Bd.notSynchronized
  have hCf : CHr Z consts_1 s.vm s.heap T65.vm T65.heap := by
    rw [hh]
    exact C68.trans (CHv.at X65 hZ21 hEL C68.1)
  refine own_ret (t := T65.setFrames fs) ?_ ⟨_, hrun, hended, _, _, rfl, ?_, hCf, hRW.1, hRW.2.1, hRW.2.2.1, hRW.2.2.2.mono (by decide) (by decide)⟩
  · exact retOut X65 hx Bd.returns rfl (Or.inr (Or.inr (Or.inr (Or.inr ⟨rfl, rfl, rfl⟩)))) (hb hby d14_29) hr
  · show Q_pathOf_Z Z _ _ _ _ _ _ _ _ _ _ h0 n0 _ T65.heap _
    exact ⟨x_65, t_65, kt_65, rfl, N65, K71, (by omega), P65_1, P65_2, P65_3, P65_4⟩
def Q_pathOf_E (Z : State) (u : Nat) (x : Nat) (t : Nat) (y : Nat) (ty : Nat) (kt : ClassId) (ky : ClassId) (P : List Int32) (zc : Int32) (fm : Value) (h0 : Heap) (n0 : Nat) (vR : Option Value) (hR : Heap) (LR : List Loc) : Prop := ∃ (r : Nat) (tr : Nat) (kr : ClassId), vR = some (.ref r) ∧ Fr n0 LR ∧ Keep h0 hR [] ∧ h0.size ≤ r ∧ (Exa Z hR r "java/lang/String") ∧ (Fld Z hR r "java/lang/String" "coder" "B" (.int 0)) ∧ (Fld Z hR r "java/lang/String" "value" "[B" (.ref tr)) ∧ (Arv Z hR tr kr .byte (Int32.ofNat ([47] : List Int32).length) (own_b ([47] : List Int32)) (.int 0))
set_option maxRecDepth 65536 in
set_option maxHeartbeats 40000000 in
theorem pathOf_E (l : Launch) (Z : State) (a0 : Array Value) (hw : ∀ d ∈ tables_1, d.before a0 Z = true) (ws : List Jvm.Cond) (u : Nat) (x : Nat) (t : Nat) (y : Nat) (ty : Nat) (kt : ClassId) (ky : ClassId) (P : List Int32) (zc : Int32) (fm : Value) (h0 : Heap) (n0 : Nat) (Z0 : n0 ≤ h0.size) (E_u : Exa Z h0 u "com/example/undercroft/undercroft/store/UriSpace") (F_prefix_u : Fld Z h0 u "com/example/undercroft/undercroft/store/UriSpace" "prefix" "Ljava/lang/String;" (.ref x)) (E_x : Exa Z h0 x "java/lang/String") (Fc_x : Fld Z h0 x "java/lang/String" "coder" "B" (.int 0)) (Fv_x : Fld Z h0 x "java/lang/String" "value" "[B" (.ref t)) (V_t : Arv Z h0 t kt .byte (Int32.ofNat P.length) (own_b P) (.int 0)) (E_y : Exa Z h0 y "java/lang/String") (Fc_y : Fld Z h0 y "java/lang/String" "coder" "B" (.int 0)) (Fv_y : Fld Z h0 y "java/lang/String" "value" "[B" (.ref ty)) (V_ty : Arv Z h0 ty ky .byte (Int32.ofNat P.length) (own_b P) (.int 0)) (S_C : Sta Z h0 "java/lang/String" "COMPACT_STRINGS" "Z" (.int zc)) (hz : ¬ (zc = (0 : Int32))) (S_FM : Sta Z h0 "jdk/internal/util/Preconditions" "SIOOBE_FORMATTER" "Ljava/util/function/BiFunction;" fm) (hfm : fm.isRef = true) (hP7 : P.length ≤ 7) (hP0 : 0 < P.length) :
    own_MH l (⟨"com/example/undercroft/undercroft/store/UriSpace", "pathOf", "(Ljava/lang/String;)Ljava/lang/String;"⟩ : MethodName) prog_21_method_9_code 2 (some (.object "java/lang/String")) ws ({ frames := 6, cells := 8, slots := 51, locals := 91 } : Room) Z #[(.ref u), (.ref y)] h0 (Q_pathOf_E Z u x t y ty kt ky P zc fm h0 n0) consts_1 := by
  refine own_bodyH (own := "com/example/undercroft/undercroft/store/UriSpace") rfl (plainFor_of_name pn_14) (fun m => ef_pathOf_Z m u y) ?_
  intro p e s m below meth c s₁ Bd hml hZ hh hx hby hown X0 e0 hS0 CH0
  have N0 := Fr.nil n0
  have hk0 : h0.size ≤ h0.size := Nat.le_refl _
  have Y0 : Stand p l e ({ frames := 6, cells := 8, slots := 51, locals := 91 } : Room) (s.setVm s.vm) m #[(.ref u), (.ref y)] below meth c s₁ [] 0 0 := X0
  have hEL := own_EW hw
  have C0 := CHr.refl CH0
  have lt1 : h0.size > u := E_u.lt
  have lt2 : h0.size > x := E_x.lt
  have lt3 : h0.size > t := V_t.lt
  have lt4 : h0.size > y := E_y.lt
  have lt5 : h0.size > ty := V_ty.lt
  refine own_newO Y0 hx hZ hown (own_w hw 72 rfl) (own_w hw 73 rfl) (own_w hw 74 rfl) e0 hby d14_0 (by decide) (by decide) ?_
  intro T6 h6 b6 X6 e6 E6 g6 A6 D6 lt6
  have z7 : h0.size ≤ h6.size := E6.1
  have C8 := C0.trans (CHr.ext E6 C0.1)
  have F9 : Fld Z h6 b6 "java/lang/AbstractStringBuilder" "value" "[B" .null := D6 (Or.inl (own_w hw 87 rfl)) (ty := (.array .byte)) (by decide)
  have F10 : Fld Z h6 b6 "java/lang/AbstractStringBuilder" "coder" "B" (.int 0) := D6 (Or.inl (own_w hw 89 rfl)) (ty := .byte) (by decide)
  have F11 : Fld Z h6 b6 "java/lang/AbstractStringBuilder" "count" "I" (.int 0) := D6 (Or.inl (own_w hw 112 rfl)) (ty := .int) (by decide)
  refine own_dup X6.here hx hby d14_3 rfl ?_
  have f12 := (S_C.ext E6)
  have z14 : n0 ≤ h6.size := by omega
  refine own_special X6 hx hZ rfl hown (own_w hw 75 rfl) (own_w hw 76 rfl) (own_w hw 74 rfl) (own_w hw 77 rfl) (by decide) (sbInit l Z a0 hw [] b6 zc h6 n0 z14 A6 (by omega) F9 F10 F11 f12 hz) 1 (Nat.le_of_eq rfl) (by decide) (by decide) (by rw [hml]; rfl) (argsL := []) (st := [(.ref b6)]) (a := b6) (lenOf pd_19 rfl) rfl rfl (by decide) (by decide) e6 hby d14_4 ?_
  intro T13 v13 L13 X13 hQ13
  obtain ⟨b_13, kb_13, rfl, Nq13, K13, P13_0, P13_1, P13_2, P13_3, P13_4, P13_5⟩ := hQ13
  have N13 := Fr.app N0 Nq13
  have z15 : h6.size ≤ T13.heap.size := K13.1
  have C16 := C8.trans (CHr.keep K13 (sfS (Safe.exa hZ.alike A6 (by decide) (by decide)) sf0) C8.1)
  have lt17 : T13.heap.size > b6 := P13_0.lt
  have lt18 : T13.heap.size > b_13 := P13_5.lt
  refine own_sh (T := T13) 7 #[.val (.ref u), .val (.ref y)] [(.ref b6)] ?_
  have V19 : Arv Z T13.heap b_13 kb_13 .byte (16 : Int32) (own_bz ([] : List Int32)) (.int 0) := P13_5
  have V20 : Fld Z T13.heap b6 "java/lang/AbstractStringBuilder" "count" "I" (.int (Int32.ofNat ([] : List Int32).length)) := P13_3
  have own_wS0 : ∀ a ∈ Bundle.stringAtoms, a.before a0 Z = true := own_wS hw
  refine own_ldcCH X13 hx hZ hEL hown (own_w hw 90 rfl) own_wS0 rfl hS0 (by omega) C16.1 (List.mem_of_getElem? (i := 0) rfl) (vs := [(.int 47)]) (z := (1 : Int32)) ⟨by decide, by decide⟩ (by decide) (by decide) hby d14_7 4 (by decide) (by decide) (by decide) (by decide) ?_
  intro a21 T21 h21 kk21 vm21 b21 kb21 X21 e21 E21 hS21 hk21 hZ21 hown21 Ea21 Fc21 Fv21 Va21 la21 lb21 Cn21 ns21
  have z22 : T13.heap.size ≤ h21.size := E21.1
  have C23 := C16.trans Cn21
  have f24 := (P13_0.ext E21)
  have nl21_b6 := ns21 b6 (Safe.exa hZ21.alike f24 (by decide) (by decide))
  have sf25 := (Cn21.safe (own_ll (by omega)) (Safe.keep K13 (sfS (Safe.exa hZ.alike A6 (by decide) (by decide)) sf0) C8.1 (Safe.new (h := h6) (x := b_13) (by omega))))
  have nl21_b_13 := ns21 b_13 sf25
  have f26 := (((E_u.ext E6).keep K13).ext E21)
  have nl21_u := ns21 u (Safe.exa hZ21.alike f26 (by decide) (by decide))
  have lt27 : h21.size > a21 := la21
  have lt28 : h21.size > b21 := lb21
  have V29 : Arv Z h21 b21 kb21 .byte (Int32.ofNat ([47] : List Int32).length) (own_b ([47] : List Int32)) (.int 0) := Va21
  have f30 := (P13_1.ext E21)
  have f31 := (P13_2.ext E21)
  have f32 := (V19.ext E21)
  have f33 := ((own_sta_keep f12 K13 (allS (own_exa_plain A6) all0)).ext E21)
  have f34 := (V20.ext E21)
  have z36 : n0 ≤ h21.size := by omega
  refine own_virtual X21 hx hZ21 hown21 (own_w hw 91 rfl) (own_w hw 92 rfl) (notFace_of_selects (args := #[]) (mvT hZ21 (own_w hw 94 rfl))) (own_w hw 94 rfl) (own_w hw 93 rfl) (own_w hw 74 rfl) (own_w hw 95 rfl) (by decide) (sbAppG l Z a0 hw [] b6 b_13 a21 b21 kb_13 kb21 ([] : List Int32) ([47] : List Int32) zc h21 n0 z36 f24 f30 f31 f32 Ea21 Fc21 Fv21 V29 (by omega) f33 hz (by decide) (by omega) f34) 0 (Nat.le_of_eq rfl) (by decide) (by decide) (by rw [hml]; rfl) (argsL := [(.ref a21)]) (st := []) f24 (lenOf pd_20 rfl) rfl rfl (by decide) (by decide) e21 hby d14_9 ?_
  intro T35 v35 L35 X35 hQ35
  obtain ⟨rfl, Nq35, K35, P35_0, P35_1, P35_2, P35_3, P35_4⟩ := hQ35
  have N35 := Fr.app N13 Nq35
  have z37 : h21.size ≤ T35.heap.size := K35.1
  have C38 := C23.trans (CHr.keep K35 (sfS (Safe.exa hZ21.alike f24 (by decide) (by decide)) (sfS sf25 sf0)) C23.1)
  have lt39 : T35.heap.size > b6 := P35_0.lt
  have lt40 : T35.heap.size > b_13 := P35_4.lt
  refine own_sh (T := T35) 12 #[.val (.ref u), .val (.ref y)] [(.ref b6)] ?_
  have V41 : Arv Z T35.heap b_13 kb_13 .byte (16 : Int32) (own_bz ([47] : List Int32)) (.int 0) := P35_4
  have V42 : Fld Z T35.heap b6 "java/lang/AbstractStringBuilder" "count" "I" (.int (Int32.ofNat ([47] : List Int32).length)) := P35_3
  refine own_aloadN X35.here hx hby d14_12 rfl rfl ?_
  refine own_aloadN X35.here hx hby d14_13 rfl rfl ?_
  have f43 := ((((F_prefix_u.ext E6).keep K13 (ninS (own_nn (by omega)) nin0)).ext E21).keep K35 (ninS (own_nn (by omega)) (ninS (own_nn (by omega)) nin0)))
  refine own_getF X35 hx hZ21 hown21 (host := "") (Or.inl (own_w hw 63 rfl)) Via.refl rfl f43 hby d14_14 ?_
  intro T44 X44 e44
  have f45 := ((((E_x.ext E6).keep K13).ext E21).keep K35)
  have f46 := ((((Fc_x.ext E6).keep K13 (ninS (own_nn (by omega)) nin0)).ext E21).keep K35 (ninS (own_nn (by omega)) (ninS (own_nn (by omega)) nin0)))
  have f47 := ((((Fv_x.ext E6).keep K13 (ninS (own_nn (by omega)) nin0)).ext E21).keep K35 (ninS (own_nn (by omega)) (ninS (own_nn (by omega)) nin0)))
  have f48 := ((((V_t.ext E6).keep K13 (ninS (own_nn (by omega)) nin0)).ext E21).keep K35 (ninS (own_nn (by omega)) (ninS (own_nn (by omega)) nin0)))
  have f49 := (own_sta_keep f33 K35 (allS (own_exa_plain f24) (allS (own_arv_plain f32) all0)))
  have z51 : n0 ≤ T35.heap.size := by omega
  refine own_virtual X44 hx hZ21 hown21 (own_w hw 138 rfl) (own_w hw 102 rfl) (notFace_of_selects (args := #[]) (mvT hZ21 (own_w hw 104 rfl))) (own_w hw 104 rfl) (own_w hw 103 rfl) (own_w hw 7 rfl) (own_w hw 105 rfl) (by decide) (lenG l Z a0 hw [] x t kt P zc T35.heap n0 z51 f45 f46 f47 f48 f49 hz) 2 (Nat.le_of_eq rfl) (by decide) (by decide) (by rw [hml]; rfl) (argsL := []) (st := [(.ref y), (.ref b6)]) f45 (lenOf pd_4 rfl) rfl rfl (by decide) (by decide) e44 hby d14_17 ?_
  intro T50 v50 L50 X50 hQ50
  obtain ⟨rfl, Nq50, eh50⟩ := hQ50
  have N50 := Fr.app N35 Nq50
  refine own_sh (T := T50) 20 #[.val (.ref u), .val (.ref y)] [(.int (Int32.ofNat P.length)), (.ref y), (.ref b6)] ?_
  have f52 := ((((E_y.ext E6).keep K13).ext E21).keep K35)
  have f53 := ((((Fc_y.ext E6).keep K13 (ninS (own_nn (by omega)) nin0)).ext E21).keep K35 (ninS (own_nn (by omega)) (ninS (own_nn (by omega)) nin0)))
  have f54 := ((((Fv_y.ext E6).keep K13 (ninS (own_nn (by omega)) nin0)).ext E21).keep K35 (ninS (own_nn (by omega)) (ninS (own_nn (by omega)) nin0)))
  have f55 := ((((V_ty.ext E6).keep K13 (ninS (own_nn (by omega)) nin0)).ext E21).keep K35 (ninS (own_nn (by omega)) (ninS (own_nn (by omega)) nin0)))
  have f56 := (own_sta_keep ((own_sta_keep (S_FM.ext E6) K13 (allS (own_exa_plain A6) all0)).ext E21) K35 (allS (own_exa_plain f24) (allS (own_arv_plain f32) all0)))
  refine own_virtualH X50 hx hZ21 hEL hown21 (own_w hw 139 rfl) (own_w hw 140 rfl) (notFace_of_selects (args := #[]) (mvT hZ21 (own_w hw 142 rfl))) (own_w hw 142 rfl) (own_w hw 141 rfl) (own_w hw 7 rfl) (own_w hw 143 rfl) (by decide) (subE l Z a0 hw [] y ty ky P zc fm T35.heap n0 z51 f52 f53 f54 f55 f49 hz f56 hfm hP0 (by omega)) 1 (Nat.le_of_eq rfl) (by decide) (by decide) (by rw [hml]; rfl) (argsL := [(.int (Int32.ofNat P.length))]) (st := [(.ref b6)]) f52 (lenOf pd_21 rfl) rfl rfl (by decide) (by decide) eh50 hby C38.1 hS21 (by omega) d14_20 ?_
  intro T57 v57 L57 vm57 X57 hS57 hZ57 hown57 hg57 Cn57 hQ57
  obtain ⟨r_57, tr_57, kr_57, rfl, Nq57, K57, P57_0, P57_1, P57_2, P57_3⟩ := hQ57
  have N57 := Fr.app N50 Nq57
  have z58 : T35.heap.size ≤ T57.heap.size := K57.1
  have C59 := C38.trans Cn57
  have lt60 : T57.heap.size > r_57 := P57_0.lt
  have lt61 : T57.heap.size > tr_57 := P57_3.lt
  refine own_sh (T := T57) 23 #[.val (.ref u), .val (.ref y)] [(.ref r_57), (.ref b6)] ?_
  have f62 := (P35_0.keep K57)
  have f63 := (P35_1.keep K57 nin0)
  have f64 := (P35_2.keep K57 nin0)
  have f65 := (V41.keep K57 nin0)
  have f66 := (own_sta_keep f49 K57 all0)
  have f67 := (V42.keep K57 nin0)
  have z69 : n0 ≤ T57.heap.size := by omega
  refine own_virtual X57 hx hZ57 hown57 (own_w hw 91 rfl) (own_w hw 92 rfl) (notFace_of_selects (args := #[]) (mvT hZ57 (own_w hw 94 rfl))) (own_w hw 94 rfl) (own_w hw 93 rfl) (own_w hw 74 rfl) (own_w hw 95 rfl) (by decide) (sbAppG l Z a0 hw [] b6 b_13 r_57 tr_57 kb_13 kr_57 ([47] : List Int32) ([] : List Int32) zc T57.heap n0 z69 f62 f63 f64 f65 P57_0 P57_1 P57_2 P57_3 (by omega) f66 hz (by decide) (by omega) f67) 0 (Nat.le_of_eq rfl) (by decide) (by decide) (by rw [hml]; rfl) (argsL := [(.ref r_57)]) (st := []) f62 (lenOf pd_20 rfl) rfl rfl (by decide) (by decide) rfl hby d14_23 ?_
  intro T68 v68 L68 X68 hQ68
  obtain ⟨rfl, Nq68, K68, P68_0, P68_1, P68_2, P68_3, P68_4⟩ := hQ68
  have N68 := Fr.app N57 Nq68
  have z70 : T57.heap.size ≤ T68.heap.size := K68.1
  have sf71 := (Cn57.safe (own_ll (by omega)) (Safe.keep K35 (sfS (Safe.exa hZ21.alike f24 (by decide) (by decide)) (sfS sf25 sf0)) C23.1 sf25))
  have C72 := C59.trans (CHr.keep K68 (sfS (Safe.exa hZ57.alike f62 (by decide) (by decide)) (sfS sf71 sf0)) C59.1)
  have lt73 : T68.heap.size > b6 := P68_0.lt
  have lt74 : T68.heap.size > b_13 := P68_4.lt
  refine own_sh (T := T68) 26 #[.val (.ref u), .val (.ref y)] [(.ref b6)] ?_
  have V75 : Arv Z T68.heap b_13 kb_13 .byte (16 : Int32) (own_bz ([47] : List Int32)) (.int 0) := P68_4
  have V76 : Fld Z T68.heap b6 "java/lang/AbstractStringBuilder" "count" "I" (.int (Int32.ofNat ([47] : List Int32).length)) := P68_3
  have f77 := (own_sta_keep f66 K68 (allS (own_exa_plain f62) (allS (own_arv_plain f65) all0)))
  have z79 : n0 ≤ T68.heap.size := by omega
  refine own_virtual X68 hx hZ57 hown57 (own_w hw 158 rfl) (own_w hw 159 rfl) (notFace_of_selects (args := #[]) (mvT hZ57 (own_w hw 161 rfl))) (own_w hw 161 rfl) (own_w hw 160 rfl) (own_w hw 74 rfl) (own_w hw 162 rfl) (by decide) (sbStrG l Z a0 hw [] b6 b_13 kb_13 ([47] : List Int32) zc T68.heap n0 z79 P68_0 P68_1 P68_2 V76 V75 f77 hz (by decide)) 0 (Nat.le_of_eq rfl) (by decide) (by decide) (by rw [hml]; rfl) (argsL := []) (st := []) P68_0 (lenOf pd_22 rfl) rfl rfl (by decide) (by decide) rfl hby d14_26 ?_
  intro T78 v78 L78 X78 hQ78
  obtain ⟨x_78, t_78, kt_78, rfl, Nq78, K78, P78_0, P78_1, P78_2, P78_3, P78_4⟩ := hQ78
  have N78 := Fr.app N68 Nq78
  have z80 : T68.heap.size ≤ T78.heap.size := K78.1
  have C81 := C72.trans (CHr.keep K78 sf0 C72.1)
  have lt82 : T78.heap.size > x_78 := P78_1.lt
  have lt83 : T78.heap.size > t_78 := P78_4.lt
  refine own_sh (T := T78) 29 #[.val (.ref u), .val (.ref y)] [(.ref x_78)] ?_
  have K84 : Keep h0 T78.heap [] := ((((((((Keep.refl h0 []).ext E6).trans K13 (allS (P := fun xq_ => xq_ ∈ [] ∨ h0.size ≤ xq_) (Or.inr (by omega)) all0)).ext E21).trans K35 (allS (P := fun xq_ => xq_ ∈ [] ∨ h0.size ≤ xq_) (Or.inr (by omega)) (allS (P := fun xq_ => xq_ ∈ [] ∨ h0.size ≤ xq_) (Or.inr (by omega)) all0))).trans K57 all0).trans K68 (allS (P := fun xq_ => xq_ ∈ [] ∨ h0.size ≤ xq_) (Or.inr (by omega)) (allS (P := fun xq_ => xq_ ∈ [] ∨ h0.size ≤ xq_) (Or.inr (by omega)) all0))).trans K78 all0)
  obtain ⟨fs, hr, hrun, hended, hRW⟩ := X78.leaveW hS57 (by omega) (v := some (.ref x_78)) (fun h => by rw [Bd.returns] at h; cases h) Bd.notSynchronized
  have hCf : CHr Z consts_1 s.vm s.heap T78.vm T78.heap := by
    rw [hh]
    exact C81.trans (CHv.at X78 hZ57 hEL C81.1)
  refine own_ret (t := T78.setFrames fs) ?_ ⟨_, hrun, hended, _, _, rfl, ?_, hCf, hRW.1, hRW.2.1, hRW.2.2.1, hRW.2.2.2.mono (by decide) (by decide)⟩
  · exact retOut X78 hx Bd.returns rfl (Or.inr (Or.inr (Or.inr (Or.inr ⟨rfl, rfl, rfl⟩)))) (hb hby d14_29) hr
  · show Q_pathOf_E Z _ _ _ _ _ _ _ _ _ _ h0 n0 _ T78.heap _
    exact ⟨x_78, t_78, kt_78, rfl, N78, K84, (by omega), P78_1, P78_2, P78_3, P78_4⟩
def Q_pathOf_C (Z : State) (u : Nat) (x : Nat) (t : Nat) (y : Nat) (ty : Nat) (kt : ClassId) (ky : ClassId) (P : List Int32) (Sl : List Int32) (zc : Int32) (fm : Value) (h0 : Heap) (n0 : Nat) (vR : Option Value) (hR : Heap) (LR : List Loc) : Prop := ∃ (r : Nat) (tr : Nat) (kr : ClassId), vR = some (.ref r) ∧ Fr n0 LR ∧ Keep h0 hR [] ∧ h0.size ≤ r ∧ (Exa Z hR r "java/lang/String") ∧ (Fld Z hR r "java/lang/String" "coder" "B" (.int 0)) ∧ (Fld Z hR r "java/lang/String" "value" "[B" (.ref tr)) ∧ (Arv Z hR tr kr .byte (Int32.ofNat (([47] : List Int32) ++ Sl).length) (own_b (([47] : List Int32) ++ Sl)) (.int 0))
set_option maxRecDepth 65536 in
set_option maxHeartbeats 40000000 in
theorem pathOf_C (l : Launch) (Z : State) (a0 : Array Value) (hw : ∀ d ∈ tables_1, d.before a0 Z = true) (ws : List Jvm.Cond) (u : Nat) (x : Nat) (t : Nat) (y : Nat) (ty : Nat) (kt : ClassId) (ky : ClassId) (P : List Int32) (Sl : List Int32) (zc : Int32) (fm : Value) (h0 : Heap) (n0 : Nat) (Z0 : n0 ≤ h0.size) (E_u : Exa Z h0 u "com/example/undercroft/undercroft/store/UriSpace") (F_prefix_u : Fld Z h0 u "com/example/undercroft/undercroft/store/UriSpace" "prefix" "Ljava/lang/String;" (.ref x)) (E_x : Exa Z h0 x "java/lang/String") (Fc_x : Fld Z h0 x "java/lang/String" "coder" "B" (.int 0)) (Fv_x : Fld Z h0 x "java/lang/String" "value" "[B" (.ref t)) (V_t : Arv Z h0 t kt .byte (Int32.ofNat P.length) (own_b P) (.int 0)) (E_y : Exa Z h0 y "java/lang/String") (Fc_y : Fld Z h0 y "java/lang/String" "coder" "B" (.int 0)) (Fv_y : Fld Z h0 y "java/lang/String" "value" "[B" (.ref ty)) (V_ty : Arv Z h0 ty ky .byte (Int32.ofNat (P ++ Sl).length) (own_b (P ++ Sl)) (.int 0)) (S_C : Sta Z h0 "java/lang/String" "COMPACT_STRINGS" "Z" (.int zc)) (hz : ¬ (zc = (0 : Int32))) (S_FM : Sta Z h0 "jdk/internal/util/Preconditions" "SIOOBE_FORMATTER" "Ljava/util/function/BiFunction;" fm) (hfm : fm.isRef = true) (hP7 : P.length ≤ 7) (hS7 : Sl.length ≤ 7) (hP0 : 0 < P.length) (hSn0 : 0 < Sl.length) :
    own_MH l (⟨"com/example/undercroft/undercroft/store/UriSpace", "pathOf", "(Ljava/lang/String;)Ljava/lang/String;"⟩ : MethodName) prog_21_method_9_code 2 (some (.object "java/lang/String")) ws ({ frames := 6, cells := 8, slots := 66, locals := 94 } : Room) Z #[(.ref u), (.ref y)] h0 (Q_pathOf_C Z u x t y ty kt ky P Sl zc fm h0 n0) consts_1 := by
  refine own_bodyH (own := "com/example/undercroft/undercroft/store/UriSpace") rfl (plainFor_of_name pn_14) (fun m => ef_pathOf_Z m u y) ?_
  intro p e s m below meth c s₁ Bd hml hZ hh hx hby hown X0 e0 hS0 CH0
  have N0 := Fr.nil n0
  have hk0 : h0.size ≤ h0.size := Nat.le_refl _
  have Y0 : Stand p l e ({ frames := 6, cells := 8, slots := 66, locals := 94 } : Room) (s.setVm s.vm) m #[(.ref u), (.ref y)] below meth c s₁ [] 0 0 := X0
  have hEL := own_EW hw
  have C0 := CHr.refl CH0
  have lt1 : h0.size > u := E_u.lt
  have lt2 : h0.size > x := E_x.lt
  have lt3 : h0.size > t := V_t.lt
  have lt4 : h0.size > y := E_y.lt
  have lt5 : h0.size > ty := V_ty.lt
  refine own_newO Y0 hx hZ hown (own_w hw 72 rfl) (own_w hw 73 rfl) (own_w hw 74 rfl) e0 hby d14_0 (by decide) (by decide) ?_
  intro T6 h6 b6 X6 e6 E6 g6 A6 D6 lt6
  have z7 : h0.size ≤ h6.size := E6.1
  have C8 := C0.trans (CHr.ext E6 C0.1)
  have F9 : Fld Z h6 b6 "java/lang/AbstractStringBuilder" "value" "[B" .null := D6 (Or.inl (own_w hw 87 rfl)) (ty := (.array .byte)) (by decide)
  have F10 : Fld Z h6 b6 "java/lang/AbstractStringBuilder" "coder" "B" (.int 0) := D6 (Or.inl (own_w hw 89 rfl)) (ty := .byte) (by decide)
  have F11 : Fld Z h6 b6 "java/lang/AbstractStringBuilder" "count" "I" (.int 0) := D6 (Or.inl (own_w hw 112 rfl)) (ty := .int) (by decide)
  refine own_dup X6.here hx hby d14_3 rfl ?_
  have f12 := (S_C.ext E6)
  have z14 : n0 ≤ h6.size := by omega
  refine own_special X6 hx hZ rfl hown (own_w hw 75 rfl) (own_w hw 76 rfl) (own_w hw 74 rfl) (own_w hw 77 rfl) (by decide) (sbInit l Z a0 hw [] b6 zc h6 n0 z14 A6 (by omega) F9 F10 F11 f12 hz) 1 (Nat.le_of_eq rfl) (by decide) (by decide) (by rw [hml]; rfl) (argsL := []) (st := [(.ref b6)]) (a := b6) (lenOf pd_19 rfl) rfl rfl (by decide) (by decide) e6 hby d14_4 ?_
  intro T13 v13 L13 X13 hQ13
  obtain ⟨b_13, kb_13, rfl, Nq13, K13, P13_0, P13_1, P13_2, P13_3, P13_4, P13_5⟩ := hQ13
  have N13 := Fr.app N0 Nq13
  have z15 : h6.size ≤ T13.heap.size := K13.1
  have C16 := C8.trans (CHr.keep K13 (sfS (Safe.exa hZ.alike A6 (by decide) (by decide)) sf0) C8.1)
  have lt17 : T13.heap.size > b6 := P13_0.lt
  have lt18 : T13.heap.size > b_13 := P13_5.lt
  refine own_sh (T := T13) 7 #[.val (.ref u), .val (.ref y)] [(.ref b6)] ?_
  have V19 : Arv Z T13.heap b_13 kb_13 .byte (16 : Int32) (own_bz ([] : List Int32)) (.int 0) := P13_5
  have V20 : Fld Z T13.heap b6 "java/lang/AbstractStringBuilder" "count" "I" (.int (Int32.ofNat ([] : List Int32).length)) := P13_3
  have own_wS0 : ∀ a ∈ Bundle.stringAtoms, a.before a0 Z = true := own_wS hw
  refine own_ldcCH X13 hx hZ hEL hown (own_w hw 90 rfl) own_wS0 rfl hS0 (by omega) C16.1 (List.mem_of_getElem? (i := 0) rfl) (vs := [(.int 47)]) (z := (1 : Int32)) ⟨by decide, by decide⟩ (by decide) (by decide) hby d14_7 4 (by decide) (by decide) (by decide) (by decide) ?_
  intro a21 T21 h21 kk21 vm21 b21 kb21 X21 e21 E21 hS21 hk21 hZ21 hown21 Ea21 Fc21 Fv21 Va21 la21 lb21 Cn21 ns21
  have z22 : T13.heap.size ≤ h21.size := E21.1
  have C23 := C16.trans Cn21
  have f24 := (P13_0.ext E21)
  have nl21_b6 := ns21 b6 (Safe.exa hZ21.alike f24 (by decide) (by decide))
  have sf25 := (Cn21.safe (own_ll (by omega)) (Safe.keep K13 (sfS (Safe.exa hZ.alike A6 (by decide) (by decide)) sf0) C8.1 (Safe.new (h := h6) (x := b_13) (by omega))))
  have nl21_b_13 := ns21 b_13 sf25
  have f26 := (((E_u.ext E6).keep K13).ext E21)
  have nl21_u := ns21 u (Safe.exa hZ21.alike f26 (by decide) (by decide))
  have lt27 : h21.size > a21 := la21
  have lt28 : h21.size > b21 := lb21
  have V29 : Arv Z h21 b21 kb21 .byte (Int32.ofNat ([47] : List Int32).length) (own_b ([47] : List Int32)) (.int 0) := Va21
  have f30 := (P13_1.ext E21)
  have f31 := (P13_2.ext E21)
  have f32 := (V19.ext E21)
  have f33 := ((own_sta_keep f12 K13 (allS (own_exa_plain A6) all0)).ext E21)
  have f34 := (V20.ext E21)
  have z36 : n0 ≤ h21.size := by omega
  refine own_virtual X21 hx hZ21 hown21 (own_w hw 91 rfl) (own_w hw 92 rfl) (notFace_of_selects (args := #[]) (mvT hZ21 (own_w hw 94 rfl))) (own_w hw 94 rfl) (own_w hw 93 rfl) (own_w hw 74 rfl) (own_w hw 95 rfl) (by decide) (sbAppG l Z a0 hw [] b6 b_13 a21 b21 kb_13 kb21 ([] : List Int32) ([47] : List Int32) zc h21 n0 z36 f24 f30 f31 f32 Ea21 Fc21 Fv21 V29 (by omega) f33 hz (by decide) (by omega) f34) 0 (Nat.le_of_eq rfl) (by decide) (by decide) (by rw [hml]; rfl) (argsL := [(.ref a21)]) (st := []) f24 (lenOf pd_20 rfl) rfl rfl (by decide) (by decide) e21 hby d14_9 ?_
  intro T35 v35 L35 X35 hQ35
  obtain ⟨rfl, Nq35, K35, P35_0, P35_1, P35_2, P35_3, P35_4⟩ := hQ35
  have N35 := Fr.app N13 Nq35
  have z37 : h21.size ≤ T35.heap.size := K35.1
  have C38 := C23.trans (CHr.keep K35 (sfS (Safe.exa hZ21.alike f24 (by decide) (by decide)) (sfS sf25 sf0)) C23.1)
  have lt39 : T35.heap.size > b6 := P35_0.lt
  have lt40 : T35.heap.size > b_13 := P35_4.lt
  refine own_sh (T := T35) 12 #[.val (.ref u), .val (.ref y)] [(.ref b6)] ?_
  have V41 : Arv Z T35.heap b_13 kb_13 .byte (16 : Int32) (own_bz ([47] : List Int32)) (.int 0) := P35_4
  have V42 : Fld Z T35.heap b6 "java/lang/AbstractStringBuilder" "count" "I" (.int (Int32.ofNat ([47] : List Int32).length)) := P35_3
  refine own_aloadN X35.here hx hby d14_12 rfl rfl ?_
  refine own_aloadN X35.here hx hby d14_13 rfl rfl ?_
  have f43 := ((((F_prefix_u.ext E6).keep K13 (ninS (own_nn (by omega)) nin0)).ext E21).keep K35 (ninS (own_nn (by omega)) (ninS (own_nn (by omega)) nin0)))
  refine own_getF X35 hx hZ21 hown21 (host := "") (Or.inl (own_w hw 63 rfl)) Via.refl rfl f43 hby d14_14 ?_
  intro T44 X44 e44
  have f45 := ((((E_x.ext E6).keep K13).ext E21).keep K35)
  have f46 := ((((Fc_x.ext E6).keep K13 (ninS (own_nn (by omega)) nin0)).ext E21).keep K35 (ninS (own_nn (by omega)) (ninS (own_nn (by omega)) nin0)))
  have f47 := ((((Fv_x.ext E6).keep K13 (ninS (own_nn (by omega)) nin0)).ext E21).keep K35 (ninS (own_nn (by omega)) (ninS (own_nn (by omega)) nin0)))
  have f48 := ((((V_t.ext E6).keep K13 (ninS (own_nn (by omega)) nin0)).ext E21).keep K35 (ninS (own_nn (by omega)) (ninS (own_nn (by omega)) nin0)))
  have f49 := (own_sta_keep f33 K35 (allS (own_exa_plain f24) (allS (own_arv_plain f32) all0)))
  have z51 : n0 ≤ T35.heap.size := by omega
  refine own_virtual X44 hx hZ21 hown21 (own_w hw 138 rfl) (own_w hw 102 rfl) (notFace_of_selects (args := #[]) (mvT hZ21 (own_w hw 104 rfl))) (own_w hw 104 rfl) (own_w hw 103 rfl) (own_w hw 7 rfl) (own_w hw 105 rfl) (by decide) (lenG l Z a0 hw [] x t kt P zc T35.heap n0 z51 f45 f46 f47 f48 f49 hz) 2 (Nat.le_of_eq rfl) (by decide) (by decide) (by rw [hml]; rfl) (argsL := []) (st := [(.ref y), (.ref b6)]) f45 (lenOf pd_4 rfl) rfl rfl (by decide) (by decide) e44 hby d14_17 ?_
  intro T50 v50 L50 X50 hQ50
  obtain ⟨rfl, Nq50, eh50⟩ := hQ50
  have N50 := Fr.app N35 Nq50
  refine own_sh (T := T50) 20 #[.val (.ref u), .val (.ref y)] [(.int (Int32.ofNat P.length)), (.ref y), (.ref b6)] ?_
  have f52 := ((((E_y.ext E6).keep K13).ext E21).keep K35)
  have f53 := ((((Fc_y.ext E6).keep K13 (ninS (own_nn (by omega)) nin0)).ext E21).keep K35 (ninS (own_nn (by omega)) (ninS (own_nn (by omega)) nin0)))
  have f54 := ((((Fv_y.ext E6).keep K13 (ninS (own_nn (by omega)) nin0)).ext E21).keep K35 (ninS (own_nn (by omega)) (ninS (own_nn (by omega)) nin0)))
  have f55 := ((((V_ty.ext E6).keep K13 (ninS (own_nn (by omega)) nin0)).ext E21).keep K35 (ninS (own_nn (by omega)) (ninS (own_nn (by omega)) nin0)))
  have f56 := (own_sta_keep ((own_sta_keep (S_FM.ext E6) K13 (allS (own_exa_plain A6) all0)).ext E21) K35 (allS (own_exa_plain f24) (allS (own_arv_plain f32) all0)))
  refine own_virtual X50 hx hZ21 hown21 (own_w hw 139 rfl) (own_w hw 140 rfl) (notFace_of_selects (args := #[]) (mvT hZ21 (own_w hw 142 rfl))) (own_w hw 142 rfl) (own_w hw 141 rfl) (own_w hw 7 rfl) (own_w hw 143 rfl) (by decide) (subC l Z a0 hw [] y ty ky P Sl zc fm T35.heap n0 z51 f52 f53 f54 f55 f49 hz f56 hfm hP0 hSn0 (by omega)) 1 (Nat.le_of_eq rfl) (by decide) (by decide) (by rw [hml]; rfl) (argsL := [(.int (Int32.ofNat P.length))]) (st := [(.ref b6)]) f52 (lenOf pd_21 rfl) rfl rfl (by decide) (by decide) eh50 hby d14_20 ?_
  intro T57 v57 L57 X57 hQ57
  obtain ⟨r_57, tr_57, kr_57, rfl, Nq57, K57, P57_0, P57_1, P57_2, P57_3⟩ := hQ57
  have N57 := Fr.app N50 Nq57
  have z58 : T35.heap.size ≤ T57.heap.size := K57.1
  have C59 := C38.trans (CHr.keep K57 sf0 C38.1)
  have lt60 : T57.heap.size > r_57 := P57_0.lt
  have lt61 : T57.heap.size > tr_57 := P57_3.lt
  refine own_sh (T := T57) 23 #[.val (.ref u), .val (.ref y)] [(.ref r_57), (.ref b6)] ?_
  have f62 := (P35_0.keep K57)
  have f63 := (P35_1.keep K57 nin0)
  have f64 := (P35_2.keep K57 nin0)
  have f65 := (V41.keep K57 nin0)
  have f66 := (own_sta_keep f49 K57 all0)
  have f67 := (V42.keep K57 nin0)
  have z69 : n0 ≤ T57.heap.size := by omega
  refine own_virtual X57 hx hZ21 hown21 (own_w hw 91 rfl) (own_w hw 92 rfl) (notFace_of_selects (args := #[]) (mvT hZ21 (own_w hw 94 rfl))) (own_w hw 94 rfl) (own_w hw 93 rfl) (own_w hw 74 rfl) (own_w hw 95 rfl) (by decide) (sbAppG l Z a0 hw [] b6 b_13 r_57 tr_57 kb_13 kr_57 ([47] : List Int32) Sl zc T57.heap n0 z69 f62 f63 f64 f65 P57_0 P57_1 P57_2 P57_3 (by omega) f66 hz (by simp only [List.length_cons, List.length_nil]; omega) (by omega) f67) 0 (Nat.le_of_eq rfl) (by decide) (by decide) (by rw [hml]; rfl) (argsL := [(.ref r_57)]) (st := []) f62 (lenOf pd_20 rfl) rfl rfl (by decide) (by decide) rfl hby d14_23 ?_
  intro T68 v68 L68 X68 hQ68
  obtain ⟨rfl, Nq68, K68, P68_0, P68_1, P68_2, P68_3, P68_4⟩ := hQ68
  have N68 := Fr.app N57 Nq68
  have z70 : T57.heap.size ≤ T68.heap.size := K68.1
  have sf71 := (Safe.keep K57 sf0 C38.1 (Safe.keep K35 (sfS (Safe.exa hZ21.alike f24 (by decide) (by decide)) (sfS sf25 sf0)) C23.1 sf25))
  have C72 := C59.trans (CHr.keep K68 (sfS (Safe.exa hZ21.alike f62 (by decide) (by decide)) (sfS sf71 sf0)) C59.1)
  have lt73 : T68.heap.size > b6 := P68_0.lt
  have lt74 : T68.heap.size > b_13 := P68_4.lt
  refine own_sh (T := T68) 26 #[.val (.ref u), .val (.ref y)] [(.ref b6)] ?_
  have f75 := (own_sta_keep f66 K68 (allS (own_exa_plain f62) (allS (own_arv_plain f65) all0)))
  have z77 : n0 ≤ T68.heap.size := by omega
  refine own_virtual X68 hx hZ21 hown21 (own_w hw 158 rfl) (own_w hw 159 rfl) (notFace_of_selects (args := #[]) (mvT hZ21 (own_w hw 161 rfl))) (own_w hw 161 rfl) (own_w hw 160 rfl) (own_w hw 74 rfl) (own_w hw 162 rfl) (by decide) (sbStrG l Z a0 hw [] b6 b_13 kb_13 (([47] : List Int32) ++ Sl) zc T68.heap n0 z77 P68_0 P68_1 P68_2 P68_3 P68_4 f75 hz (by simp only [List.length_append, List.length_cons, List.length_nil]; omega)) 0 (Nat.le_of_eq rfl) (by decide) (by decide) (by rw [hml]; rfl) (argsL := []) (st := []) P68_0 (lenOf pd_22 rfl) rfl rfl (by decide) (by decide) rfl hby d14_26 ?_
  intro T76 v76 L76 X76 hQ76
  obtain ⟨x_76, t_76, kt_76, rfl, Nq76, K76, P76_0, P76_1, P76_2, P76_3, P76_4⟩ := hQ76
  have N76 := Fr.app N68 Nq76
  have z78 : T68.heap.size ≤ T76.heap.size := K76.1
  have C79 := C72.trans (CHr.keep K76 sf0 C72.1)
  have lt80 : T76.heap.size > x_76 := P76_1.lt
  have lt81 : T76.heap.size > t_76 := P76_4.lt
  refine own_sh (T := T76) 29 #[.val (.ref u), .val (.ref y)] [(.ref x_76)] ?_
  have K82 : Keep h0 T76.heap [] := ((((((((Keep.refl h0 []).ext E6).trans K13 (allS (P := fun xq_ => xq_ ∈ [] ∨ h0.size ≤ xq_) (Or.inr (by omega)) all0)).ext E21).trans K35 (allS (P := fun xq_ => xq_ ∈ [] ∨ h0.size ≤ xq_) (Or.inr (by omega)) (allS (P := fun xq_ => xq_ ∈ [] ∨ h0.size ≤ xq_) (Or.inr (by omega)) all0))).trans K57 all0).trans K68 (allS (P := fun xq_ => xq_ ∈ [] ∨ h0.size ≤ xq_) (Or.inr (by omega)) (allS (P := fun xq_ => xq_ ∈ [] ∨ h0.size ≤ xq_) (Or.inr (by omega)) all0))).trans K76 all0)
  obtain ⟨fs, hr, hrun, hended, hRW⟩ := X76.leaveW hS21 (by omega) (v := some (.ref x_76)) (fun h => by rw [Bd.returns] at h; cases h) Bd.notSynchronized
  have hCf : CHr Z consts_1 s.vm s.heap T76.vm T76.heap := by
    rw [hh]
    exact C79.trans (CHv.at X76 hZ21 hEL C79.1)
  refine own_ret (t := T76.setFrames fs) ?_ ⟨_, hrun, hended, _, _, rfl, ?_, hCf, hRW.1, hRW.2.1, hRW.2.2.1, hRW.2.2.2.mono (by decide) (by decide)⟩
  · exact retOut X76 hx Bd.returns rfl (Or.inr (Or.inr (Or.inr (Or.inr ⟨rfl, rfl, rfl⟩)))) (hb hby d14_29) hr
  · show Q_pathOf_C Z _ _ _ _ _ _ _ _ _ _ _ h0 n0 _ T76.heap _
    exact ⟨x_76, t_76, kt_76, rfl, N76, K82, (by omega), P76_1, P76_2, P76_3, P76_4⟩
theorem ef_uriOf_E (m : MethodId) (x0 : Nat) (x1 : Nat) : entryFrame m #[(.ref x0), (.ref x1)] 2 = mkF m 0 #[.val (.ref x0), .val (.ref x1)] [] := by first | (simp [entryFrame, mkF, argsToLocals, Value.category]; done) | rfl
theorem pn_42 : plainName "com/example/undercroft/undercroft/store/UriSpace" = true := by first | (simp [plainName, overriddenIn]; done) | decide +kernel
theorem d42_0 : decode prog_21_method_8_code 0 = .ok (.new 16, 3) := by decide +kernel
theorem d42_3 : decode prog_21_method_8_code 3 = .ok (.dup, 1) := by decide +kernel
theorem d42_4 : decode prog_21_method_8_code 4 = .ok (.invokespecial 18, 3) := by decide +kernel
theorem d42_7 : decode prog_21_method_8_code 7 = .ok (.aload_n 0, 1) := by decide +kernel
theorem d42_8 : decode prog_21_method_8_code 8 = .ok (.getfield 7, 3) := by decide +kernel
theorem d42_11 : decode prog_21_method_8_code 11 = .ok (.invokevirtual 23, 3) := by decide +kernel
theorem d42_14 : decode prog_21_method_8_code 14 = .ok (.aload_n 1, 1) := by decide +kernel
theorem d42_15 : decode prog_21_method_8_code 15 = .ok (.iconst 1, 1) := by decide +kernel
theorem d42_16 : decode prog_21_method_8_code 16 = .ok (.invokevirtual 99, 3) := by decide +kernel
theorem d42_19 : decode prog_21_method_8_code 19 = .ok (.invokevirtual 23, 3) := by decide +kernel
theorem d42_22 : decode prog_21_method_8_code 22 = .ok (.invokevirtual 36, 3) := by decide +kernel
theorem d42_25 : decode prog_21_method_8_code 25 = .ok (.areturn, 1) := by decide +kernel
def Q_uriOf_E (Z : State) (u : Nat) (x : Nat) (t : Nat) (y : Nat) (ty : Nat) (kt : ClassId) (ky : ClassId) (P : List Int32) (zc : Int32) (fm : Value) (h0 : Heap) (n0 : Nat) (vR : Option Value) (hR : Heap) (LR : List Loc) : Prop := ∃ (r : Nat) (tr : Nat) (kr : ClassId), vR = some (.ref r) ∧ Fr n0 LR ∧ Keep h0 hR [] ∧ h0.size ≤ r ∧ (Exa Z hR r "java/lang/String") ∧ (Fld Z hR r "java/lang/String" "coder" "B" (.int 0)) ∧ (Fld Z hR r "java/lang/String" "value" "[B" (.ref tr)) ∧ (Arv Z hR tr kr .byte (Int32.ofNat P.length) (own_b P) (.int 0))
set_option maxRecDepth 65536 in
set_option maxHeartbeats 40000000 in
theorem uriOf_E (l : Launch) (Z : State) (a0 : Array Value) (hw : ∀ d ∈ tables_1, d.before a0 Z = true) (ws : List Jvm.Cond) (u : Nat) (x : Nat) (t : Nat) (y : Nat) (ty : Nat) (kt : ClassId) (ky : ClassId) (P : List Int32) (zc : Int32) (fm : Value) (h0 : Heap) (n0 : Nat) (Z0 : n0 ≤ h0.size) (E_u : Exa Z h0 u "com/example/undercroft/undercroft/store/UriSpace") (F_prefix_u : Fld Z h0 u "com/example/undercroft/undercroft/store/UriSpace" "prefix" "Ljava/lang/String;" (.ref x)) (E_x : Exa Z h0 x "java/lang/String") (Fc_x : Fld Z h0 x "java/lang/String" "coder" "B" (.int 0)) (Fv_x : Fld Z h0 x "java/lang/String" "value" "[B" (.ref t)) (V_t : Arv Z h0 t kt .byte (Int32.ofNat P.length) (own_b P) (.int 0)) (E_y : Exa Z h0 y "java/lang/String") (Fc_y : Fld Z h0 y "java/lang/String" "coder" "B" (.int 0)) (Fv_y : Fld Z h0 y "java/lang/String" "value" "[B" (.ref ty)) (V_ty : Arv Z h0 ty ky .byte (Int32.ofNat ([47] : List Int32).length) (own_b ([47] : List Int32)) (.int 0)) (S_C : Sta Z h0 "java/lang/String" "COMPACT_STRINGS" "Z" (.int zc)) (hz : ¬ (zc = (0 : Int32))) (S_FM : Sta Z h0 "jdk/internal/util/Preconditions" "SIOOBE_FORMATTER" "Ljava/util/function/BiFunction;" fm) (hfm : fm.isRef = true) (hP7 : P.length ≤ 7) :
    own_MH l (⟨"com/example/undercroft/undercroft/store/UriSpace", "uriOfPath", "(Ljava/lang/String;)Ljava/lang/String;"⟩ : MethodName) prog_21_method_8_code 2 (some (.object "java/lang/String")) ws ({ frames := 6, cells := 6, slots := 43, locals := 91 } : Room) Z #[(.ref u), (.ref y)] h0 (Q_uriOf_E Z u x t y ty kt ky P zc fm h0 n0) consts_1 := by
  refine own_bodyH (own := "com/example/undercroft/undercroft/store/UriSpace") rfl (plainFor_of_name pn_42) (fun m => ef_uriOf_E m u y) ?_
  intro p e s m below meth c s₁ Bd hml hZ hh hx hby hown X0 e0 hS0 CH0
  have N0 := Fr.nil n0
  have hk0 : h0.size ≤ h0.size := Nat.le_refl _
  have Y0 : Stand p l e ({ frames := 6, cells := 6, slots := 43, locals := 91 } : Room) (s.setVm s.vm) m #[(.ref u), (.ref y)] below meth c s₁ [] 0 0 := X0
  have hEL := own_EW hw
  have C0 := CHr.refl CH0
  have lt1 : h0.size > u := E_u.lt
  have lt2 : h0.size > x := E_x.lt
  have lt3 : h0.size > t := V_t.lt
  have lt4 : h0.size > y := E_y.lt
  have lt5 : h0.size > ty := V_ty.lt
  refine own_newO Y0 hx hZ hown (own_w hw 72 rfl) (own_w hw 73 rfl) (own_w hw 74 rfl) e0 hby d42_0 (by decide) (by decide) ?_
  intro T6 h6 b6 X6 e6 E6 g6 A6 D6 lt6
  have z7 : h0.size ≤ h6.size := E6.1
  have C8 := C0.trans (CHr.ext E6 C0.1)
  have F9 : Fld Z h6 b6 "java/lang/AbstractStringBuilder" "value" "[B" .null := D6 (Or.inl (own_w hw 87 rfl)) (ty := (.array .byte)) (by decide)
  have F10 : Fld Z h6 b6 "java/lang/AbstractStringBuilder" "coder" "B" (.int 0) := D6 (Or.inl (own_w hw 89 rfl)) (ty := .byte) (by decide)
  have F11 : Fld Z h6 b6 "java/lang/AbstractStringBuilder" "count" "I" (.int 0) := D6 (Or.inl (own_w hw 112 rfl)) (ty := .int) (by decide)
  refine own_dup X6.here hx hby d42_3 rfl ?_
  have f12 := (S_C.ext E6)
  have z14 : n0 ≤ h6.size := by omega
  refine own_special X6 hx hZ rfl hown (own_w hw 75 rfl) (own_w hw 76 rfl) (own_w hw 74 rfl) (own_w hw 77 rfl) (by decide) (sbInit l Z a0 hw [] b6 zc h6 n0 z14 A6 (by omega) F9 F10 F11 f12 hz) 1 (Nat.le_of_eq rfl) (by decide) (by decide) (by rw [hml]; rfl) (argsL := []) (st := [(.ref b6)]) (a := b6) (lenOf pd_19 rfl) rfl rfl (by decide) (by decide) e6 hby d42_4 ?_
  intro T13 v13 L13 X13 hQ13
  obtain ⟨b_13, kb_13, rfl, Nq13, K13, P13_0, P13_1, P13_2, P13_3, P13_4, P13_5⟩ := hQ13
  have N13 := Fr.app N0 Nq13
  have z15 : h6.size ≤ T13.heap.size := K13.1
  have C16 := C8.trans (CHr.keep K13 (sfS (Safe.exa hZ.alike A6 (by decide) (by decide)) sf0) C8.1)
  have lt17 : T13.heap.size > b6 := P13_0.lt
  have lt18 : T13.heap.size > b_13 := P13_5.lt
  refine own_sh (T := T13) 7 #[.val (.ref u), .val (.ref y)] [(.ref b6)] ?_
  have V19 : Arv Z T13.heap b_13 kb_13 .byte (16 : Int32) (own_bz ([] : List Int32)) (.int 0) := P13_5
  have V20 : Fld Z T13.heap b6 "java/lang/AbstractStringBuilder" "count" "I" (.int (Int32.ofNat ([] : List Int32).length)) := P13_3
  refine own_aloadN X13.here hx hby d42_7 rfl rfl ?_
  have f21 := ((F_prefix_u.ext E6).keep K13 (ninS (own_nn (by omega)) nin0))
  refine own_getF X13 hx hZ hown (host := "") (Or.inl (own_w hw 63 rfl)) Via.refl rfl f21 hby d42_8 ?_
  intro T22 X22 e22
  have f23 := ((E_x.ext E6).keep K13)
  have f24 := ((Fc_x.ext E6).keep K13 (ninS (own_nn (by omega)) nin0))
  have f25 := ((Fv_x.ext E6).keep K13 (ninS (own_nn (by omega)) nin0))
  have f26 := ((V_t.ext E6).keep K13 (ninS (own_nn (by omega)) nin0))
  have f27 := (own_sta_keep f12 K13 (allS (own_exa_plain A6) all0))
  have z29 : n0 ≤ T13.heap.size := by omega
  refine own_virtual X22 hx hZ hown (own_w hw 91 rfl) (own_w hw 92 rfl) (notFace_of_selects (args := #[]) (mvT hZ (own_w hw 94 rfl))) (own_w hw 94 rfl) (own_w hw 93 rfl) (own_w hw 74 rfl) (own_w hw 95 rfl) (by decide) (sbAppG l Z a0 hw [] b6 b_13 x t kb_13 kt ([] : List Int32) P zc T13.heap n0 z29 P13_0 P13_1 P13_2 V19 f23 f24 f25 f26 (by omega) f27 hz (by simp only [List.length_nil]; omega) (by omega) V20) 0 (Nat.le_of_eq rfl) (by decide) (by decide) (by rw [hml]; rfl) (argsL := [(.ref x)]) (st := []) P13_0 (lenOf pd_20 rfl) rfl rfl (by decide) (by decide) e22 hby d42_11 ?_
  intro T28 v28 L28 X28 hQ28
  obtain ⟨rfl, Nq28, K28, P28_0, P28_1, P28_2, P28_3, P28_4⟩ := hQ28
  have N28 := Fr.app N13 Nq28
  have z30 : T13.heap.size ≤ T28.heap.size := K28.1
  have sf31 := (Safe.keep K13 (sfS (Safe.exa hZ.alike A6 (by decide) (by decide)) sf0) C8.1 (Safe.new (h := h6) (x := b_13) (by omega)))
  have C32 := C16.trans (CHr.keep K28 (sfS (Safe.exa hZ.alike P13_0 (by decide) (by decide)) (sfS sf31 sf0)) C16.1)
  have lt33 : T28.heap.size > b6 := P28_0.lt
  have lt34 : T28.heap.size > b_13 := P28_4.lt
  refine own_sh (T := T28) 14 #[.val (.ref u), .val (.ref y)] [(.ref b6)] ?_
  have V35 : Arv Z T28.heap b_13 kb_13 .byte (16 : Int32) (own_bz P) (.int 0) := P28_4
  have V36 : Fld Z T28.heap b6 "java/lang/AbstractStringBuilder" "count" "I" (.int (Int32.ofNat P.length)) := P28_3
  refine own_aloadN X28.here hx hby d42_14 rfl rfl ?_
  refine own_iconst X28.here hx hby d42_15 (v := (1 : Int32)) (by decide) ?_
  refine own_sh (T := T28) 16 #[.val (.ref u), .val (.ref y)] [(.int 1), (.ref y), (.ref b6)] ?_
  rw [show (1 : Int32) = (Int32.ofNat ([47] : List Int32).length) from (by decide)]
  have f37 := (((E_y.ext E6).keep K13).keep K28)
  have f38 := (((Fc_y.ext E6).keep K13 (ninS (own_nn (by omega)) nin0)).keep K28 (ninS (own_nn (by omega)) (ninS (own_nn (by omega)) nin0)))
  have f39 := (((Fv_y.ext E6).keep K13 (ninS (own_nn (by omega)) nin0)).keep K28 (ninS (own_nn (by omega)) (ninS (own_nn (by omega)) nin0)))
  have f40 := (((V_ty.ext E6).keep K13 (ninS (own_nn (by omega)) nin0)).keep K28 (ninS (own_nn (by omega)) (ninS (own_nn (by omega)) nin0)))
  have f41 := (own_sta_keep f27 K28 (allS (own_exa_plain P13_0) (allS (own_arv_plain V19) all0)))
  have f42 := (own_sta_keep (own_sta_keep (S_FM.ext E6) K13 (allS (own_exa_plain A6) all0)) K28 (allS (own_exa_plain P13_0) (allS (own_arv_plain V19) all0)))
  have z44 : n0 ≤ T28.heap.size := by omega
  refine own_virtualH X28 hx hZ hEL hown (own_w hw 139 rfl) (own_w hw 140 rfl) (notFace_of_selects (args := #[]) (mvT hZ (own_w hw 142 rfl))) (own_w hw 142 rfl) (own_w hw 141 rfl) (own_w hw 7 rfl) (own_w hw 143 rfl) (by decide) (subE l Z a0 hw [] y ty ky ([47] : List Int32) zc fm T28.heap n0 z44 f37 f38 f39 f40 f41 hz f42 hfm (by decide) (by decide)) 1 (Nat.le_of_eq rfl) (by decide) (by decide) (by rw [hml]; rfl) (argsL := [(.int (Int32.ofNat ([47] : List Int32).length))]) (st := [(.ref b6)]) f37 (lenOf pd_21 rfl) rfl rfl (by decide) (by decide) rfl hby C32.1 hS0 (by omega) d42_16 ?_
  intro T43 v43 L43 vm43 X43 hS43 hZ43 hown43 hg43 Cn43 hQ43
  obtain ⟨r_43, tr_43, kr_43, rfl, Nq43, K43, P43_0, P43_1, P43_2, P43_3⟩ := hQ43
  have N43 := Fr.app N28 Nq43
  have z45 : T28.heap.size ≤ T43.heap.size := K43.1
  have C46 := C32.trans Cn43
  have lt47 : T43.heap.size > r_43 := P43_0.lt
  have lt48 : T43.heap.size > tr_43 := P43_3.lt
  refine own_sh (T := T43) 19 #[.val (.ref u), .val (.ref y)] [(.ref r_43), (.ref b6)] ?_
  have f49 := (P28_0.keep K43)
  have f50 := (P28_1.keep K43 nin0)
  have f51 := (P28_2.keep K43 nin0)
  have f52 := (V35.keep K43 nin0)
  have f53 := (own_sta_keep f41 K43 all0)
  have f54 := (V36.keep K43 nin0)
  have z56 : n0 ≤ T43.heap.size := by omega
  refine own_virtual X43 hx hZ43 hown43 (own_w hw 91 rfl) (own_w hw 92 rfl) (notFace_of_selects (args := #[]) (mvT hZ43 (own_w hw 94 rfl))) (own_w hw 94 rfl) (own_w hw 93 rfl) (own_w hw 74 rfl) (own_w hw 95 rfl) (by decide) (sbAppG l Z a0 hw [] b6 b_13 r_43 tr_43 kb_13 kr_43 P ([] : List Int32) zc T43.heap n0 z56 f49 f50 f51 f52 P43_0 P43_1 P43_2 P43_3 (by omega) f53 hz (by simp only [List.length_nil]; omega) (by omega) f54) 0 (Nat.le_of_eq rfl) (by decide) (by decide) (by rw [hml]; rfl) (argsL := [(.ref r_43)]) (st := []) f49 (lenOf pd_20 rfl) rfl rfl (by decide) (by decide) rfl hby d42_19 ?_
  intro T55 v55 L55 X55 hQ55
  obtain ⟨rfl, Nq55, K55, P55_0, P55_1, P55_2, P55_3, P55_4⟩ := hQ55
  have N55 := Fr.app N43 Nq55
  have z57 : T43.heap.size ≤ T55.heap.size := K55.1
  have sf58 := (Cn43.safe (own_ll (by omega)) (Safe.keep K28 (sfS (Safe.exa hZ.alike P13_0 (by decide) (by decide)) (sfS sf31 sf0)) C16.1 sf31))
  have C59 := C46.trans (CHr.keep K55 (sfS (Safe.exa hZ43.alike f49 (by decide) (by decide)) (sfS sf58 sf0)) C46.1)
  have lt60 : T55.heap.size > b6 := P55_0.lt
  have lt61 : T55.heap.size > b_13 := P55_4.lt
  refine own_sh (T := T55) 22 #[.val (.ref u), .val (.ref y)] [(.ref b6)] ?_
  have V62 : Arv Z T55.heap b_13 kb_13 .byte (16 : Int32) (own_bz P) (.int 0) := by
    have q := P55_4
    rw [List.append_nil] at q
    exact q
  have F63 : Fld Z T55.heap b6 "java/lang/AbstractStringBuilder" "count" "I" (.int (Int32.ofNat P.length)) := by
    have q := P55_3
    rw [List.append_nil] at q
    exact q
  have f64 := (own_sta_keep f53 K55 (allS (own_exa_plain f49) (allS (own_arv_plain f52) all0)))
  have z66 : n0 ≤ T55.heap.size := by omega
  refine own_virtual X55 hx hZ43 hown43 (own_w hw 158 rfl) (own_w hw 159 rfl) (notFace_of_selects (args := #[]) (mvT hZ43 (own_w hw 161 rfl))) (own_w hw 161 rfl) (own_w hw 160 rfl) (own_w hw 74 rfl) (own_w hw 162 rfl) (by decide) (sbStrG l Z a0 hw [] b6 b_13 kb_13 P zc T55.heap n0 z66 P55_0 P55_1 P55_2 F63 V62 f64 hz (by omega)) 0 (Nat.le_of_eq rfl) (by decide) (by decide) (by rw [hml]; rfl) (argsL := []) (st := []) P55_0 (lenOf pd_22 rfl) rfl rfl (by decide) (by decide) rfl hby d42_22 ?_
  intro T65 v65 L65 X65 hQ65
  obtain ⟨x_65, t_65, kt_65, rfl, Nq65, K65, P65_0, P65_1, P65_2, P65_3, P65_4⟩ := hQ65
  have N65 := Fr.app N55 Nq65
  have z67 : T55.heap.size ≤ T65.heap.size := K65.1
  have C68 := C59.trans (CHr.keep K65 sf0 C59.1)
  have lt69 : T65.heap.size > x_65 := P65_1.lt
  have lt70 : T65.heap.size > t_65 := P65_4.lt
  refine own_sh (T := T65) 25 #[.val (.ref u), .val (.ref y)] [(.ref x_65)] ?_
  have K71 : Keep h0 T65.heap [] := (((((((Keep.refl h0 []).ext E6).trans K13 (allS (P := fun xq_ => xq_ ∈ [] ∨ h0.size ≤ xq_) (Or.inr (by omega)) all0)).trans K28 (allS (P := fun xq_ => xq_ ∈ [] ∨ h0.size ≤ xq_) (Or.inr (by omega)) (allS (P := fun xq_ => xq_ ∈ [] ∨ h0.size ≤ xq_) (Or.inr (by omega)) all0))).trans K43 all0).trans K55 (allS (P := fun xq_ => xq_ ∈ [] ∨ h0.size ≤ xq_) (Or.inr (by omega)) (allS (P := fun xq_ => xq_ ∈ [] ∨ h0.size ≤ xq_) (Or.inr (by omega)) all0))).trans K65 all0)
  obtain ⟨fs, hr, hrun, hended, hRW⟩ := X65.leaveW hS43 (by omega) (v := some (.ref x_65)) (fun h => by rw [Bd.returns] at h; cases h) Bd.notSynchronized
  have hCf : CHr Z consts_1 s.vm s.heap T65.vm T65.heap := by
    rw [hh]
    exact C68.trans (CHv.at X65 hZ43 hEL C68.1)
  refine own_ret (t := T65.setFrames fs) ?_ ⟨_, hrun, hended, _, _, rfl, ?_, hCf, hRW.1, hRW.2.1, hRW.2.2.1, hRW.2.2.2.mono (by decide) (by decide)⟩
  · exact retOut X65 hx Bd.returns rfl (Or.inr (Or.inr (Or.inr (Or.inr ⟨rfl, rfl, rfl⟩)))) (hb hby d42_25) hr
  · show Q_uriOf_E Z _ _ _ _ _ _ _ _ _ _ h0 n0 _ T65.heap _
    exact ⟨x_65, t_65, kt_65, rfl, N65, K71, (by omega), P65_1, P65_2, P65_3, P65_4⟩
def Q_uriOf_C (Z : State) (u : Nat) (x : Nat) (t : Nat) (y : Nat) (ty : Nat) (kt : ClassId) (ky : ClassId) (P : List Int32) (Sl : List Int32) (zc : Int32) (fm : Value) (h0 : Heap) (n0 : Nat) (vR : Option Value) (hR : Heap) (LR : List Loc) : Prop := ∃ (r : Nat) (tr : Nat) (kr : ClassId), vR = some (.ref r) ∧ Fr n0 LR ∧ Keep h0 hR [] ∧ h0.size ≤ r ∧ (Exa Z hR r "java/lang/String") ∧ (Fld Z hR r "java/lang/String" "coder" "B" (.int 0)) ∧ (Fld Z hR r "java/lang/String" "value" "[B" (.ref tr)) ∧ (Arv Z hR tr kr .byte (Int32.ofNat (P ++ Sl).length) (own_b (P ++ Sl)) (.int 0))
set_option maxRecDepth 65536 in
set_option maxHeartbeats 40000000 in
theorem uriOf_C (l : Launch) (Z : State) (a0 : Array Value) (hw : ∀ d ∈ tables_1, d.before a0 Z = true) (ws : List Jvm.Cond) (u : Nat) (x : Nat) (t : Nat) (y : Nat) (ty : Nat) (kt : ClassId) (ky : ClassId) (P : List Int32) (Sl : List Int32) (zc : Int32) (fm : Value) (h0 : Heap) (n0 : Nat) (Z0 : n0 ≤ h0.size) (E_u : Exa Z h0 u "com/example/undercroft/undercroft/store/UriSpace") (F_prefix_u : Fld Z h0 u "com/example/undercroft/undercroft/store/UriSpace" "prefix" "Ljava/lang/String;" (.ref x)) (E_x : Exa Z h0 x "java/lang/String") (Fc_x : Fld Z h0 x "java/lang/String" "coder" "B" (.int 0)) (Fv_x : Fld Z h0 x "java/lang/String" "value" "[B" (.ref t)) (V_t : Arv Z h0 t kt .byte (Int32.ofNat P.length) (own_b P) (.int 0)) (E_y : Exa Z h0 y "java/lang/String") (Fc_y : Fld Z h0 y "java/lang/String" "coder" "B" (.int 0)) (Fv_y : Fld Z h0 y "java/lang/String" "value" "[B" (.ref ty)) (V_ty : Arv Z h0 ty ky .byte (Int32.ofNat (([47] : List Int32) ++ Sl).length) (own_b (([47] : List Int32) ++ Sl)) (.int 0)) (S_C : Sta Z h0 "java/lang/String" "COMPACT_STRINGS" "Z" (.int zc)) (hz : ¬ (zc = (0 : Int32))) (S_FM : Sta Z h0 "jdk/internal/util/Preconditions" "SIOOBE_FORMATTER" "Ljava/util/function/BiFunction;" fm) (hfm : fm.isRef = true) (hP7 : P.length ≤ 7) (hS7 : Sl.length ≤ 7) (hSn0 : 0 < Sl.length) :
    own_M l (⟨"com/example/undercroft/undercroft/store/UriSpace", "uriOfPath", "(Ljava/lang/String;)Ljava/lang/String;"⟩ : MethodName) prog_21_method_8_code 2 (some (.object "java/lang/String")) ws ({ frames := 6, cells := 6, slots := 58, locals := 94 } : Room) Z #[(.ref u), (.ref y)] h0 (Q_uriOf_C Z u x t y ty kt ky P Sl zc fm h0 n0) := by
  refine own_body (own := "com/example/undercroft/undercroft/store/UriSpace") rfl (plainFor_of_name pn_42) (fun m => ef_uriOf_E m u y) ?_
  intro p e s m below meth c s₁ Bd hml hZ hh hx hby hown X0 e0
  have N0 := Fr.nil n0
  have lt1 : h0.size > u := E_u.lt
  have lt2 : h0.size > x := E_x.lt
  have lt3 : h0.size > t := V_t.lt
  have lt4 : h0.size > y := E_y.lt
  have lt5 : h0.size > ty := V_ty.lt
  refine own_newO X0 hx hZ hown (own_w hw 72 rfl) (own_w hw 73 rfl) (own_w hw 74 rfl) e0 hby d42_0 (by decide) (by decide) ?_
  intro T6 h6 b6 X6 e6 E6 g6 A6 D6 lt6
  have z7 : h0.size ≤ h6.size := E6.1
  have F8 : Fld Z h6 b6 "java/lang/AbstractStringBuilder" "value" "[B" .null := D6 (Or.inl (own_w hw 87 rfl)) (ty := (.array .byte)) (by decide)
  have F9 : Fld Z h6 b6 "java/lang/AbstractStringBuilder" "coder" "B" (.int 0) := D6 (Or.inl (own_w hw 89 rfl)) (ty := .byte) (by decide)
  have F10 : Fld Z h6 b6 "java/lang/AbstractStringBuilder" "count" "I" (.int 0) := D6 (Or.inl (own_w hw 112 rfl)) (ty := .int) (by decide)
  refine own_dup X6.here hx hby d42_3 rfl ?_
  have f11 := (S_C.ext E6)
  have z13 : n0 ≤ h6.size := by omega
  refine own_special X6 hx hZ rfl hown (own_w hw 75 rfl) (own_w hw 76 rfl) (own_w hw 74 rfl) (own_w hw 77 rfl) (by decide) (sbInit l Z a0 hw [] b6 zc h6 n0 z13 A6 (by omega) F8 F9 F10 f11 hz) 1 (Nat.le_of_eq rfl) (by decide) (by decide) (by rw [hml]; rfl) (argsL := []) (st := [(.ref b6)]) (a := b6) (lenOf pd_19 rfl) rfl rfl (by decide) (by decide) e6 hby d42_4 ?_
  intro T12 v12 L12 X12 hQ12
  obtain ⟨b_12, kb_12, rfl, Nq12, K12, P12_0, P12_1, P12_2, P12_3, P12_4, P12_5⟩ := hQ12
  have N12 := Fr.app N0 Nq12
  have z14 : h6.size ≤ T12.heap.size := K12.1
  have lt15 : T12.heap.size > b6 := P12_0.lt
  have lt16 : T12.heap.size > b_12 := P12_5.lt
  refine own_sh (T := T12) 7 #[.val (.ref u), .val (.ref y)] [(.ref b6)] ?_
  have V17 : Arv Z T12.heap b_12 kb_12 .byte (16 : Int32) (own_bz ([] : List Int32)) (.int 0) := P12_5
  have V18 : Fld Z T12.heap b6 "java/lang/AbstractStringBuilder" "count" "I" (.int (Int32.ofNat ([] : List Int32).length)) := P12_3
  refine own_aloadN X12.here hx hby d42_7 rfl rfl ?_
  have f19 := ((F_prefix_u.ext E6).keep K12 (ninS (own_nn (by omega)) nin0))
  refine own_getF X12 hx hZ hown (host := "") (Or.inl (own_w hw 63 rfl)) Via.refl rfl f19 hby d42_8 ?_
  intro T20 X20 e20
  have f21 := ((E_x.ext E6).keep K12)
  have f22 := ((Fc_x.ext E6).keep K12 (ninS (own_nn (by omega)) nin0))
  have f23 := ((Fv_x.ext E6).keep K12 (ninS (own_nn (by omega)) nin0))
  have f24 := ((V_t.ext E6).keep K12 (ninS (own_nn (by omega)) nin0))
  have f25 := (own_sta_keep f11 K12 (allS (own_exa_plain A6) all0))
  have z27 : n0 ≤ T12.heap.size := by omega
  refine own_virtual X20 hx hZ hown (own_w hw 91 rfl) (own_w hw 92 rfl) (notFace_of_selects (args := #[]) (mvT hZ (own_w hw 94 rfl))) (own_w hw 94 rfl) (own_w hw 93 rfl) (own_w hw 74 rfl) (own_w hw 95 rfl) (by decide) (sbAppG l Z a0 hw [] b6 b_12 x t kb_12 kt ([] : List Int32) P zc T12.heap n0 z27 P12_0 P12_1 P12_2 V17 f21 f22 f23 f24 (by omega) f25 hz (by simp only [List.length_nil]; omega) (by omega) V18) 0 (Nat.le_of_eq rfl) (by decide) (by decide) (by rw [hml]; rfl) (argsL := [(.ref x)]) (st := []) P12_0 (lenOf pd_20 rfl) rfl rfl (by decide) (by decide) e20 hby d42_11 ?_
  intro T26 v26 L26 X26 hQ26
  obtain ⟨rfl, Nq26, K26, P26_0, P26_1, P26_2, P26_3, P26_4⟩ := hQ26
  have N26 := Fr.app N12 Nq26
  have z28 : T12.heap.size ≤ T26.heap.size := K26.1
  have lt29 : T26.heap.size > b6 := P26_0.lt
  have lt30 : T26.heap.size > b_12 := P26_4.lt
  refine own_sh (T := T26) 14 #[.val (.ref u), .val (.ref y)] [(.ref b6)] ?_
  have V31 : Arv Z T26.heap b_12 kb_12 .byte (16 : Int32) (own_bz P) (.int 0) := P26_4
  have V32 : Fld Z T26.heap b6 "java/lang/AbstractStringBuilder" "count" "I" (.int (Int32.ofNat P.length)) := P26_3
  refine own_aloadN X26.here hx hby d42_14 rfl rfl ?_
  refine own_iconst X26.here hx hby d42_15 (v := (1 : Int32)) (by decide) ?_
  refine own_sh (T := T26) 16 #[.val (.ref u), .val (.ref y)] [(.int 1), (.ref y), (.ref b6)] ?_
  rw [show (1 : Int32) = (Int32.ofNat ([47] : List Int32).length) from (by decide)]
  have f33 := (((E_y.ext E6).keep K12).keep K26)
  have f34 := (((Fc_y.ext E6).keep K12 (ninS (own_nn (by omega)) nin0)).keep K26 (ninS (own_nn (by omega)) (ninS (own_nn (by omega)) nin0)))
  have f35 := (((Fv_y.ext E6).keep K12 (ninS (own_nn (by omega)) nin0)).keep K26 (ninS (own_nn (by omega)) (ninS (own_nn (by omega)) nin0)))
  have f36 := (((V_ty.ext E6).keep K12 (ninS (own_nn (by omega)) nin0)).keep K26 (ninS (own_nn (by omega)) (ninS (own_nn (by omega)) nin0)))
  have f37 := (own_sta_keep f25 K26 (allS (own_exa_plain P12_0) (allS (own_arv_plain V17) all0)))
  have f38 := (own_sta_keep (own_sta_keep (S_FM.ext E6) K12 (allS (own_exa_plain A6) all0)) K26 (allS (own_exa_plain P12_0) (allS (own_arv_plain V17) all0)))
  have z40 : n0 ≤ T26.heap.size := by omega
  refine own_virtual X26 hx hZ hown (own_w hw 139 rfl) (own_w hw 140 rfl) (notFace_of_selects (args := #[]) (mvT hZ (own_w hw 142 rfl))) (own_w hw 142 rfl) (own_w hw 141 rfl) (own_w hw 7 rfl) (own_w hw 143 rfl) (by decide) (subC l Z a0 hw [] y ty ky ([47] : List Int32) Sl zc fm T26.heap n0 z40 f33 f34 f35 f36 f37 hz f38 hfm (by decide) hSn0 (by simp only [List.length_append, List.length_cons, List.length_nil]; omega)) 1 (Nat.le_of_eq rfl) (by decide) (by decide) (by rw [hml]; rfl) (argsL := [(.int (Int32.ofNat ([47] : List Int32).length))]) (st := [(.ref b6)]) f33 (lenOf pd_21 rfl) rfl rfl (by decide) (by decide) rfl hby d42_16 ?_
  intro T39 v39 L39 X39 hQ39
  obtain ⟨r_39, tr_39, kr_39, rfl, Nq39, K39, P39_0, P39_1, P39_2, P39_3⟩ := hQ39
  have N39 := Fr.app N26 Nq39
  have z41 : T26.heap.size ≤ T39.heap.size := K39.1
  have lt42 : T39.heap.size > r_39 := P39_0.lt
  have lt43 : T39.heap.size > tr_39 := P39_3.lt
  refine own_sh (T := T39) 19 #[.val (.ref u), .val (.ref y)] [(.ref r_39), (.ref b6)] ?_
  have f44 := (P26_0.keep K39)
  have f45 := (P26_1.keep K39 nin0)
  have f46 := (P26_2.keep K39 nin0)
  have f47 := (V31.keep K39 nin0)
  have f48 := (own_sta_keep f37 K39 all0)
  have f49 := (V32.keep K39 nin0)
  have z51 : n0 ≤ T39.heap.size := by omega
  refine own_virtual X39 hx hZ hown (own_w hw 91 rfl) (own_w hw 92 rfl) (notFace_of_selects (args := #[]) (mvT hZ (own_w hw 94 rfl))) (own_w hw 94 rfl) (own_w hw 93 rfl) (own_w hw 74 rfl) (own_w hw 95 rfl) (by decide) (sbAppG l Z a0 hw [] b6 b_12 r_39 tr_39 kb_12 kr_39 P Sl zc T39.heap n0 z51 f44 f45 f46 f47 P39_0 P39_1 P39_2 P39_3 (by omega) f48 hz (by omega) (by omega) f49) 0 (Nat.le_of_eq rfl) (by decide) (by decide) (by rw [hml]; rfl) (argsL := [(.ref r_39)]) (st := []) f44 (lenOf pd_20 rfl) rfl rfl (by decide) (by decide) rfl hby d42_19 ?_
  intro T50 v50 L50 X50 hQ50
  obtain ⟨rfl, Nq50, K50, P50_0, P50_1, P50_2, P50_3, P50_4⟩ := hQ50
  have N50 := Fr.app N39 Nq50
  have z52 : T39.heap.size ≤ T50.heap.size := K50.1
  have lt53 : T50.heap.size > b6 := P50_0.lt
  have lt54 : T50.heap.size > b_12 := P50_4.lt
  refine own_sh (T := T50) 22 #[.val (.ref u), .val (.ref y)] [(.ref b6)] ?_
  have f55 := (own_sta_keep f48 K50 (allS (own_exa_plain f44) (allS (own_arv_plain f47) all0)))
  have z57 : n0 ≤ T50.heap.size := by omega
  refine own_virtual X50 hx hZ hown (own_w hw 158 rfl) (own_w hw 159 rfl) (notFace_of_selects (args := #[]) (mvT hZ (own_w hw 161 rfl))) (own_w hw 161 rfl) (own_w hw 160 rfl) (own_w hw 74 rfl) (own_w hw 162 rfl) (by decide) (sbStrG l Z a0 hw [] b6 b_12 kb_12 (P ++ Sl) zc T50.heap n0 z57 P50_0 P50_1 P50_2 P50_3 P50_4 f55 hz (by rw [List.length_append]; omega)) 0 (Nat.le_of_eq rfl) (by decide) (by decide) (by rw [hml]; rfl) (argsL := []) (st := []) P50_0 (lenOf pd_22 rfl) rfl rfl (by decide) (by decide) rfl hby d42_22 ?_
  intro T56 v56 L56 X56 hQ56
  obtain ⟨x_56, t_56, kt_56, rfl, Nq56, K56, P56_0, P56_1, P56_2, P56_3, P56_4⟩ := hQ56
  have N56 := Fr.app N50 Nq56
  have z58 : T50.heap.size ≤ T56.heap.size := K56.1
  have lt59 : T56.heap.size > x_56 := P56_1.lt
  have lt60 : T56.heap.size > t_56 := P56_4.lt
  refine own_sh (T := T56) 25 #[.val (.ref u), .val (.ref y)] [(.ref x_56)] ?_
  have K61 : Keep h0 T56.heap [] := (((((((Keep.refl h0 []).ext E6).trans K12 (allS (P := fun xq_ => xq_ ∈ [] ∨ h0.size ≤ xq_) (Or.inr (by omega)) all0)).trans K26 (allS (P := fun xq_ => xq_ ∈ [] ∨ h0.size ≤ xq_) (Or.inr (by omega)) (allS (P := fun xq_ => xq_ ∈ [] ∨ h0.size ≤ xq_) (Or.inr (by omega)) all0))).trans K39 all0).trans K50 (allS (P := fun xq_ => xq_ ∈ [] ∨ h0.size ≤ xq_) (Or.inr (by omega)) (allS (P := fun xq_ => xq_ ∈ [] ∨ h0.size ≤ xq_) (Or.inr (by omega)) all0))).trans K56 all0)
  obtain ⟨fs, hr, hrun, hended, hW, hsame⟩ := X56.leave (v := some (.ref x_56)) (fun h => by rw [Bd.returns] at h; cases h) Bd.notSynchronized
  refine own_ret (t := T56.setFrames fs) ?_ ⟨_, hrun, hended, _, _, rfl, ?_, ⟨_, rfl⟩, hW, hsame.mono (by decide) (by decide)⟩
  · exact retOut X56 hx Bd.returns rfl (Or.inr (Or.inr (Or.inr (Or.inr ⟨rfl, rfl, rfl⟩)))) (hb hby d42_25) hr
  · show Q_uriOf_C Z _ _ _ _ _ _ _ _ _ _ _ h0 n0 _ T56.heap _
    exact ⟨x_56, t_56, kt_56, rfl, N56, K61, (by omega), P56_1, P56_2, P56_3, P56_4⟩
theorem ef_ch_0 (m : MethodId) (x0 : Int64) (x1 : Int32) : entryFrame m #[(.long x0), (.int x1)] 3 = mkF m 0 #[.val (.long x0), .second, .val (.int x1)] [] := by first | (simp [entryFrame, mkF, argsToLocals, Value.category]; done) | rfl
theorem pn_45 : plainName "com/example/undercroft/undercroft/store/UriSpacePathOfPinLaw" = true := by first | (simp [plainName, overriddenIn]; done) | decide +kernel
theorem d45_0 : decode method_2_code 0 = .ok (.lload_n 0, 1) := by decide +kernel
theorem d45_1 : decode method_2_code 1 = .ok (.bipush 8, 2) := by decide +kernel
theorem d45_3 : decode method_2_code 3 = .ok (.iload_n 2, 1) := by decide +kernel
theorem d45_4 : decode method_2_code 4 = .ok (.imul, 1) := by decide +kernel
theorem d45_5 : decode method_2_code 5 = .ok (.lushr, 1) := by decide +kernel
theorem d45_6 : decode method_2_code 6 = .ok (.ldc2_w 7, 3) := by decide +kernel
theorem d45_9 : decode method_2_code 9 = .ok (.land, 1) := by decide +kernel
theorem d45_10 : decode method_2_code 10 = .ok (.l2i, 1) := by decide +kernel
theorem d45_11 : decode method_2_code 11 = .ok (.i2c, 1) := by decide +kernel
theorem d45_12 : decode method_2_code 12 = .ok (.ireturn, 1) := by decide +kernel
def Q_ch_0 (Z : State) (q : Int64) (h0 : Heap) (n0 : Nat) (vR : Option Value) (hR : Heap) (LR : List Loc) : Prop := vR = some (.int (own_cv q (0 : Int32))) ∧ Fr n0 LR ∧ hR = h0
set_option maxRecDepth 65536 in
set_option maxHeartbeats 40000000 in
theorem ch_0 (l : Launch) (Z : State) (a0 : Array Value) (hw : ∀ d ∈ tables_1, d.before a0 Z = true) (ws : List Jvm.Cond) (q : Int64) (h0 : Heap) (n0 : Nat) (Z0 : n0 ≤ h0.size)  :
    own_M l (⟨"com/example/undercroft/undercroft/store/UriSpacePathOfPinLaw", "ch", "(JI)C"⟩ : MethodName) method_2_code 3 (some .char) ws ({ frames := 0, cells := 0, slots := 0, locals := 0 } : Room) Z #[(.long q), (.int 0)] h0 (Q_ch_0 Z q h0 n0) := by
  refine own_body (own := "com/example/undercroft/undercroft/store/UriSpacePathOfPinLaw") rfl (plainFor_of_name pn_45) (fun m => ef_ch_0 m q (0 : Int32)) ?_
  intro p e s m below meth c s₁ Bd hml hZ hh hx hby hown X0 e0
  have N0 := Fr.nil n0
  refine own_lloadN X0.here hx hby d45_0 rfl ?_
  refine own_bipush X0.here hx hby d45_1 (v := (8 : Int32)) (by decide) ?_
  refine own_iloadN X0.here hx hby d45_3 rfl ?_
  refine own_imul X0.here hx hby d45_4 (v := (0 : Int32)) (by decide) ?_
  refine own_lushr X0.here hx hby d45_5 rfl ?_
  refine own_ldc2Long X0 hx hZ hown (own_w hw 228 rfl) hby d45_6 ?_
  refine own_land X0.here hx hby d45_9 rfl ?_
  refine own_l2i X0.here hx hby d45_10 rfl ?_
  refine own_i2c X0.here hx hby d45_11 rfl ?_
  obtain ⟨fs, hr, hrun, hended, hW, hsame⟩ := X0.leave (v := some (.int (nar .char (((((q.toUInt64 >>> ((0 : Int32) &&& 0x3f).toInt64.toUInt64).toInt64) &&& (255 : Int64)).toInt32).toUInt32.toUInt16.toUInt32.toInt32)))) (fun h => by rw [Bd.returns] at h; cases h) Bd.notSynchronized
  refine own_ret (t := s₁.setFrames fs) ?_ ⟨_, hrun, hended, _, _, rfl, ?_, ⟨_, rfl⟩, hW, hsame.mono (by decide) (by decide)⟩
  · exact retN X0 hx (t := .char) Bd.returns (by simp) (hb hby d45_12) hr
  · show Q_ch_0 Z _ h0 n0 _ s₁.heap _
    rw [e0]
    exact ⟨rfl, N0, rfl⟩
def Q_ch_1 (Z : State) (q : Int64) (h0 : Heap) (n0 : Nat) (vR : Option Value) (hR : Heap) (LR : List Loc) : Prop := vR = some (.int (own_cv q (8 : Int32))) ∧ Fr n0 LR ∧ hR = h0
set_option maxRecDepth 65536 in
set_option maxHeartbeats 40000000 in
theorem ch_1 (l : Launch) (Z : State) (a0 : Array Value) (hw : ∀ d ∈ tables_1, d.before a0 Z = true) (ws : List Jvm.Cond) (q : Int64) (h0 : Heap) (n0 : Nat) (Z0 : n0 ≤ h0.size)  :
    own_M l (⟨"com/example/undercroft/undercroft/store/UriSpacePathOfPinLaw", "ch", "(JI)C"⟩ : MethodName) method_2_code 3 (some .char) ws ({ frames := 0, cells := 0, slots := 0, locals := 0 } : Room) Z #[(.long q), (.int 1)] h0 (Q_ch_1 Z q h0 n0) := by
  refine own_body (own := "com/example/undercroft/undercroft/store/UriSpacePathOfPinLaw") rfl (plainFor_of_name pn_45) (fun m => ef_ch_0 m q (1 : Int32)) ?_
  intro p e s m below meth c s₁ Bd hml hZ hh hx hby hown X0 e0
  have N0 := Fr.nil n0
  refine own_lloadN X0.here hx hby d45_0 rfl ?_
  refine own_bipush X0.here hx hby d45_1 (v := (8 : Int32)) (by decide) ?_
  refine own_iloadN X0.here hx hby d45_3 rfl ?_
  refine own_imul X0.here hx hby d45_4 (v := (8 : Int32)) (by decide) ?_
  refine own_lushr X0.here hx hby d45_5 rfl ?_
  refine own_ldc2Long X0 hx hZ hown (own_w hw 228 rfl) hby d45_6 ?_
  refine own_land X0.here hx hby d45_9 rfl ?_
  refine own_l2i X0.here hx hby d45_10 rfl ?_
  refine own_i2c X0.here hx hby d45_11 rfl ?_
  obtain ⟨fs, hr, hrun, hended, hW, hsame⟩ := X0.leave (v := some (.int (nar .char (((((q.toUInt64 >>> ((8 : Int32) &&& 0x3f).toInt64.toUInt64).toInt64) &&& (255 : Int64)).toInt32).toUInt32.toUInt16.toUInt32.toInt32)))) (fun h => by rw [Bd.returns] at h; cases h) Bd.notSynchronized
  refine own_ret (t := s₁.setFrames fs) ?_ ⟨_, hrun, hended, _, _, rfl, ?_, ⟨_, rfl⟩, hW, hsame.mono (by decide) (by decide)⟩
  · exact retN X0 hx (t := .char) Bd.returns (by simp) (hb hby d45_12) hr
  · show Q_ch_1 Z _ h0 n0 _ s₁.heap _
    rw [e0]
    exact ⟨rfl, N0, rfl⟩
def Q_ch_2 (Z : State) (q : Int64) (h0 : Heap) (n0 : Nat) (vR : Option Value) (hR : Heap) (LR : List Loc) : Prop := vR = some (.int (own_cv q (16 : Int32))) ∧ Fr n0 LR ∧ hR = h0
set_option maxRecDepth 65536 in
set_option maxHeartbeats 40000000 in
theorem ch_2 (l : Launch) (Z : State) (a0 : Array Value) (hw : ∀ d ∈ tables_1, d.before a0 Z = true) (ws : List Jvm.Cond) (q : Int64) (h0 : Heap) (n0 : Nat) (Z0 : n0 ≤ h0.size)  :
    own_M l (⟨"com/example/undercroft/undercroft/store/UriSpacePathOfPinLaw", "ch", "(JI)C"⟩ : MethodName) method_2_code 3 (some .char) ws ({ frames := 0, cells := 0, slots := 0, locals := 0 } : Room) Z #[(.long q), (.int 2)] h0 (Q_ch_2 Z q h0 n0) := by
  refine own_body (own := "com/example/undercroft/undercroft/store/UriSpacePathOfPinLaw") rfl (plainFor_of_name pn_45) (fun m => ef_ch_0 m q (2 : Int32)) ?_
  intro p e s m below meth c s₁ Bd hml hZ hh hx hby hown X0 e0
  have N0 := Fr.nil n0
  refine own_lloadN X0.here hx hby d45_0 rfl ?_
  refine own_bipush X0.here hx hby d45_1 (v := (8 : Int32)) (by decide) ?_
  refine own_iloadN X0.here hx hby d45_3 rfl ?_
  refine own_imul X0.here hx hby d45_4 (v := (16 : Int32)) (by decide) ?_
  refine own_lushr X0.here hx hby d45_5 rfl ?_
  refine own_ldc2Long X0 hx hZ hown (own_w hw 228 rfl) hby d45_6 ?_
  refine own_land X0.here hx hby d45_9 rfl ?_
  refine own_l2i X0.here hx hby d45_10 rfl ?_
  refine own_i2c X0.here hx hby d45_11 rfl ?_
  obtain ⟨fs, hr, hrun, hended, hW, hsame⟩ := X0.leave (v := some (.int (nar .char (((((q.toUInt64 >>> ((16 : Int32) &&& 0x3f).toInt64.toUInt64).toInt64) &&& (255 : Int64)).toInt32).toUInt32.toUInt16.toUInt32.toInt32)))) (fun h => by rw [Bd.returns] at h; cases h) Bd.notSynchronized
  refine own_ret (t := s₁.setFrames fs) ?_ ⟨_, hrun, hended, _, _, rfl, ?_, ⟨_, rfl⟩, hW, hsame.mono (by decide) (by decide)⟩
  · exact retN X0 hx (t := .char) Bd.returns (by simp) (hb hby d45_12) hr
  · show Q_ch_2 Z _ h0 n0 _ s₁.heap _
    rw [e0]
    exact ⟨rfl, N0, rfl⟩
def Q_ch_3 (Z : State) (q : Int64) (h0 : Heap) (n0 : Nat) (vR : Option Value) (hR : Heap) (LR : List Loc) : Prop := vR = some (.int (own_cv q (24 : Int32))) ∧ Fr n0 LR ∧ hR = h0
set_option maxRecDepth 65536 in
set_option maxHeartbeats 40000000 in
theorem ch_3 (l : Launch) (Z : State) (a0 : Array Value) (hw : ∀ d ∈ tables_1, d.before a0 Z = true) (ws : List Jvm.Cond) (q : Int64) (h0 : Heap) (n0 : Nat) (Z0 : n0 ≤ h0.size)  :
    own_M l (⟨"com/example/undercroft/undercroft/store/UriSpacePathOfPinLaw", "ch", "(JI)C"⟩ : MethodName) method_2_code 3 (some .char) ws ({ frames := 0, cells := 0, slots := 0, locals := 0 } : Room) Z #[(.long q), (.int 3)] h0 (Q_ch_3 Z q h0 n0) := by
  refine own_body (own := "com/example/undercroft/undercroft/store/UriSpacePathOfPinLaw") rfl (plainFor_of_name pn_45) (fun m => ef_ch_0 m q (3 : Int32)) ?_
  intro p e s m below meth c s₁ Bd hml hZ hh hx hby hown X0 e0
  have N0 := Fr.nil n0
  refine own_lloadN X0.here hx hby d45_0 rfl ?_
  refine own_bipush X0.here hx hby d45_1 (v := (8 : Int32)) (by decide) ?_
  refine own_iloadN X0.here hx hby d45_3 rfl ?_
  refine own_imul X0.here hx hby d45_4 (v := (24 : Int32)) (by decide) ?_
  refine own_lushr X0.here hx hby d45_5 rfl ?_
  refine own_ldc2Long X0 hx hZ hown (own_w hw 228 rfl) hby d45_6 ?_
  refine own_land X0.here hx hby d45_9 rfl ?_
  refine own_l2i X0.here hx hby d45_10 rfl ?_
  refine own_i2c X0.here hx hby d45_11 rfl ?_
  obtain ⟨fs, hr, hrun, hended, hW, hsame⟩ := X0.leave (v := some (.int (nar .char (((((q.toUInt64 >>> ((24 : Int32) &&& 0x3f).toInt64.toUInt64).toInt64) &&& (255 : Int64)).toInt32).toUInt32.toUInt16.toUInt32.toInt32)))) (fun h => by rw [Bd.returns] at h; cases h) Bd.notSynchronized
  refine own_ret (t := s₁.setFrames fs) ?_ ⟨_, hrun, hended, _, _, rfl, ?_, ⟨_, rfl⟩, hW, hsame.mono (by decide) (by decide)⟩
  · exact retN X0 hx (t := .char) Bd.returns (by simp) (hb hby d45_12) hr
  · show Q_ch_3 Z _ h0 n0 _ s₁.heap _
    rw [e0]
    exact ⟨rfl, N0, rfl⟩
def Q_ch_4 (Z : State) (q : Int64) (h0 : Heap) (n0 : Nat) (vR : Option Value) (hR : Heap) (LR : List Loc) : Prop := vR = some (.int (own_cv q (32 : Int32))) ∧ Fr n0 LR ∧ hR = h0
set_option maxRecDepth 65536 in
set_option maxHeartbeats 40000000 in
theorem ch_4 (l : Launch) (Z : State) (a0 : Array Value) (hw : ∀ d ∈ tables_1, d.before a0 Z = true) (ws : List Jvm.Cond) (q : Int64) (h0 : Heap) (n0 : Nat) (Z0 : n0 ≤ h0.size)  :
    own_M l (⟨"com/example/undercroft/undercroft/store/UriSpacePathOfPinLaw", "ch", "(JI)C"⟩ : MethodName) method_2_code 3 (some .char) ws ({ frames := 0, cells := 0, slots := 0, locals := 0 } : Room) Z #[(.long q), (.int 4)] h0 (Q_ch_4 Z q h0 n0) := by
  refine own_body (own := "com/example/undercroft/undercroft/store/UriSpacePathOfPinLaw") rfl (plainFor_of_name pn_45) (fun m => ef_ch_0 m q (4 : Int32)) ?_
  intro p e s m below meth c s₁ Bd hml hZ hh hx hby hown X0 e0
  have N0 := Fr.nil n0
  refine own_lloadN X0.here hx hby d45_0 rfl ?_
  refine own_bipush X0.here hx hby d45_1 (v := (8 : Int32)) (by decide) ?_
  refine own_iloadN X0.here hx hby d45_3 rfl ?_
  refine own_imul X0.here hx hby d45_4 (v := (32 : Int32)) (by decide) ?_
  refine own_lushr X0.here hx hby d45_5 rfl ?_
  refine own_ldc2Long X0 hx hZ hown (own_w hw 228 rfl) hby d45_6 ?_
  refine own_land X0.here hx hby d45_9 rfl ?_
  refine own_l2i X0.here hx hby d45_10 rfl ?_
  refine own_i2c X0.here hx hby d45_11 rfl ?_
  obtain ⟨fs, hr, hrun, hended, hW, hsame⟩ := X0.leave (v := some (.int (nar .char (((((q.toUInt64 >>> ((32 : Int32) &&& 0x3f).toInt64.toUInt64).toInt64) &&& (255 : Int64)).toInt32).toUInt32.toUInt16.toUInt32.toInt32)))) (fun h => by rw [Bd.returns] at h; cases h) Bd.notSynchronized
  refine own_ret (t := s₁.setFrames fs) ?_ ⟨_, hrun, hended, _, _, rfl, ?_, ⟨_, rfl⟩, hW, hsame.mono (by decide) (by decide)⟩
  · exact retN X0 hx (t := .char) Bd.returns (by simp) (hb hby d45_12) hr
  · show Q_ch_4 Z _ h0 n0 _ s₁.heap _
    rw [e0]
    exact ⟨rfl, N0, rfl⟩
def Q_ch_5 (Z : State) (q : Int64) (h0 : Heap) (n0 : Nat) (vR : Option Value) (hR : Heap) (LR : List Loc) : Prop := vR = some (.int (own_cv q (40 : Int32))) ∧ Fr n0 LR ∧ hR = h0
set_option maxRecDepth 65536 in
set_option maxHeartbeats 40000000 in
theorem ch_5 (l : Launch) (Z : State) (a0 : Array Value) (hw : ∀ d ∈ tables_1, d.before a0 Z = true) (ws : List Jvm.Cond) (q : Int64) (h0 : Heap) (n0 : Nat) (Z0 : n0 ≤ h0.size)  :
    own_M l (⟨"com/example/undercroft/undercroft/store/UriSpacePathOfPinLaw", "ch", "(JI)C"⟩ : MethodName) method_2_code 3 (some .char) ws ({ frames := 0, cells := 0, slots := 0, locals := 0 } : Room) Z #[(.long q), (.int 5)] h0 (Q_ch_5 Z q h0 n0) := by
  refine own_body (own := "com/example/undercroft/undercroft/store/UriSpacePathOfPinLaw") rfl (plainFor_of_name pn_45) (fun m => ef_ch_0 m q (5 : Int32)) ?_
  intro p e s m below meth c s₁ Bd hml hZ hh hx hby hown X0 e0
  have N0 := Fr.nil n0
  refine own_lloadN X0.here hx hby d45_0 rfl ?_
  refine own_bipush X0.here hx hby d45_1 (v := (8 : Int32)) (by decide) ?_
  refine own_iloadN X0.here hx hby d45_3 rfl ?_
  refine own_imul X0.here hx hby d45_4 (v := (40 : Int32)) (by decide) ?_
  refine own_lushr X0.here hx hby d45_5 rfl ?_
  refine own_ldc2Long X0 hx hZ hown (own_w hw 228 rfl) hby d45_6 ?_
  refine own_land X0.here hx hby d45_9 rfl ?_
  refine own_l2i X0.here hx hby d45_10 rfl ?_
  refine own_i2c X0.here hx hby d45_11 rfl ?_
  obtain ⟨fs, hr, hrun, hended, hW, hsame⟩ := X0.leave (v := some (.int (nar .char (((((q.toUInt64 >>> ((40 : Int32) &&& 0x3f).toInt64.toUInt64).toInt64) &&& (255 : Int64)).toInt32).toUInt32.toUInt16.toUInt32.toInt32)))) (fun h => by rw [Bd.returns] at h; cases h) Bd.notSynchronized
  refine own_ret (t := s₁.setFrames fs) ?_ ⟨_, hrun, hended, _, _, rfl, ?_, ⟨_, rfl⟩, hW, hsame.mono (by decide) (by decide)⟩
  · exact retN X0 hx (t := .char) Bd.returns (by simp) (hb hby d45_12) hr
  · show Q_ch_5 Z _ h0 n0 _ s₁.heap _
    rw [e0]
    exact ⟨rfl, N0, rfl⟩
def Q_ch_6 (Z : State) (q : Int64) (h0 : Heap) (n0 : Nat) (vR : Option Value) (hR : Heap) (LR : List Loc) : Prop := vR = some (.int (own_cv q (48 : Int32))) ∧ Fr n0 LR ∧ hR = h0
set_option maxRecDepth 65536 in
set_option maxHeartbeats 40000000 in
theorem ch_6 (l : Launch) (Z : State) (a0 : Array Value) (hw : ∀ d ∈ tables_1, d.before a0 Z = true) (ws : List Jvm.Cond) (q : Int64) (h0 : Heap) (n0 : Nat) (Z0 : n0 ≤ h0.size)  :
    own_M l (⟨"com/example/undercroft/undercroft/store/UriSpacePathOfPinLaw", "ch", "(JI)C"⟩ : MethodName) method_2_code 3 (some .char) ws ({ frames := 0, cells := 0, slots := 0, locals := 0 } : Room) Z #[(.long q), (.int 6)] h0 (Q_ch_6 Z q h0 n0) := by
  refine own_body (own := "com/example/undercroft/undercroft/store/UriSpacePathOfPinLaw") rfl (plainFor_of_name pn_45) (fun m => ef_ch_0 m q (6 : Int32)) ?_
  intro p e s m below meth c s₁ Bd hml hZ hh hx hby hown X0 e0
  have N0 := Fr.nil n0
  refine own_lloadN X0.here hx hby d45_0 rfl ?_
  refine own_bipush X0.here hx hby d45_1 (v := (8 : Int32)) (by decide) ?_
  refine own_iloadN X0.here hx hby d45_3 rfl ?_
  refine own_imul X0.here hx hby d45_4 (v := (48 : Int32)) (by decide) ?_
  refine own_lushr X0.here hx hby d45_5 rfl ?_
  refine own_ldc2Long X0 hx hZ hown (own_w hw 228 rfl) hby d45_6 ?_
  refine own_land X0.here hx hby d45_9 rfl ?_
  refine own_l2i X0.here hx hby d45_10 rfl ?_
  refine own_i2c X0.here hx hby d45_11 rfl ?_
  obtain ⟨fs, hr, hrun, hended, hW, hsame⟩ := X0.leave (v := some (.int (nar .char (((((q.toUInt64 >>> ((48 : Int32) &&& 0x3f).toInt64.toUInt64).toInt64) &&& (255 : Int64)).toInt32).toUInt32.toUInt16.toUInt32.toInt32)))) (fun h => by rw [Bd.returns] at h; cases h) Bd.notSynchronized
  refine own_ret (t := s₁.setFrames fs) ?_ ⟨_, hrun, hended, _, _, rfl, ?_, ⟨_, rfl⟩, hW, hsame.mono (by decide) (by decide)⟩
  · exact retN X0 hx (t := .char) Bd.returns (by simp) (hb hby d45_12) hr
  · show Q_ch_6 Z _ h0 n0 _ s₁.heap _
    rw [e0]
    exact ⟨rfl, N0, rfl⟩
def Q_ch_7 (Z : State) (q : Int64) (h0 : Heap) (n0 : Nat) (vR : Option Value) (hR : Heap) (LR : List Loc) : Prop := vR = some (.int (own_cv q (56 : Int32))) ∧ Fr n0 LR ∧ hR = h0
set_option maxRecDepth 65536 in
set_option maxHeartbeats 40000000 in
theorem ch_7 (l : Launch) (Z : State) (a0 : Array Value) (hw : ∀ d ∈ tables_1, d.before a0 Z = true) (ws : List Jvm.Cond) (q : Int64) (h0 : Heap) (n0 : Nat) (Z0 : n0 ≤ h0.size)  :
    own_M l (⟨"com/example/undercroft/undercroft/store/UriSpacePathOfPinLaw", "ch", "(JI)C"⟩ : MethodName) method_2_code 3 (some .char) ws ({ frames := 0, cells := 0, slots := 0, locals := 0 } : Room) Z #[(.long q), (.int 7)] h0 (Q_ch_7 Z q h0 n0) := by
  refine own_body (own := "com/example/undercroft/undercroft/store/UriSpacePathOfPinLaw") rfl (plainFor_of_name pn_45) (fun m => ef_ch_0 m q (7 : Int32)) ?_
  intro p e s m below meth c s₁ Bd hml hZ hh hx hby hown X0 e0
  have N0 := Fr.nil n0
  refine own_lloadN X0.here hx hby d45_0 rfl ?_
  refine own_bipush X0.here hx hby d45_1 (v := (8 : Int32)) (by decide) ?_
  refine own_iloadN X0.here hx hby d45_3 rfl ?_
  refine own_imul X0.here hx hby d45_4 (v := (56 : Int32)) (by decide) ?_
  refine own_lushr X0.here hx hby d45_5 rfl ?_
  refine own_ldc2Long X0 hx hZ hown (own_w hw 228 rfl) hby d45_6 ?_
  refine own_land X0.here hx hby d45_9 rfl ?_
  refine own_l2i X0.here hx hby d45_10 rfl ?_
  refine own_i2c X0.here hx hby d45_11 rfl ?_
  obtain ⟨fs, hr, hrun, hended, hW, hsame⟩ := X0.leave (v := some (.int (nar .char (((((q.toUInt64 >>> ((56 : Int32) &&& 0x3f).toInt64.toUInt64).toInt64) &&& (255 : Int64)).toInt32).toUInt32.toUInt16.toUInt32.toInt32)))) (fun h => by rw [Bd.returns] at h; cases h) Bd.notSynchronized
  refine own_ret (t := s₁.setFrames fs) ?_ ⟨_, hrun, hended, _, _, rfl, ?_, ⟨_, rfl⟩, hW, hsame.mono (by decide) (by decide)⟩
  · exact retN X0 hx (t := .char) Bd.returns (by simp) (hb hby d45_12) hr
  · show Q_ch_7 Z _ h0 n0 _ s₁.heap _
    rw [e0]
    exact ⟨rfl, N0, rfl⟩
theorem ef_put_ (m : MethodId) (x0 : Nat) (x1 : Int32) (x2 : Int32) (x3 : Int64) : entryFrame m #[(.ref x0), (.int x1), (.int x2), (.long x3)] 5 = mkF m 0 #[.val (.ref x0), .val (.int x1), .val (.int x2), .val (.long x3), .second] [] := by first | (simp [entryFrame, mkF, argsToLocals, Value.category]; done) | rfl
theorem pn_1 : plainName "com/example/undercroft/undercroft/store/UriSpacePathOfPinLaw" = true := by first | (simp [plainName, overriddenIn]; done) | decide +kernel
theorem d1_0 : decode method_3_code 0 = .ok (.iload_n 2, 1) := by decide +kernel
theorem d1_1 : decode method_3_code 1 = .ok (.ifCond .le 11, 3) := by decide +kernel
theorem d1_4 : decode method_3_code 4 = .ok (.aload_n 0, 1) := by decide +kernel
theorem d1_5 : decode method_3_code 5 = .ok (.iload_n 1, 1) := by decide +kernel
theorem d1_6 : decode method_3_code 6 = .ok (.lload_n 3, 1) := by decide +kernel
theorem d1_7 : decode method_3_code 7 = .ok (.iconst 0, 1) := by decide +kernel
theorem d1_8 : decode method_3_code 8 = .ok (.invokestatic 9, 3) := by decide +kernel
theorem pd_23 : parseMethodDescriptor "(JI)C" = some ⟨[.long, .int], some .char⟩ := by decide +kernel
theorem d1_11 : decode method_3_code 11 = .ok (.castore, 1) := by decide +kernel
theorem d1_12 : decode method_3_code 12 = .ok (.iload_n 2, 1) := by decide +kernel
theorem d1_13 : decode method_3_code 13 = .ok (.iconst 1, 1) := by decide +kernel
theorem d1_14 : decode method_3_code 14 = .ok (.if_icmp .le 13, 3) := by decide +kernel
theorem d1_17 : decode method_3_code 17 = .ok (.aload_n 0, 1) := by decide +kernel
theorem d1_18 : decode method_3_code 18 = .ok (.iload_n 1, 1) := by decide +kernel
theorem d1_19 : decode method_3_code 19 = .ok (.iconst 1, 1) := by decide +kernel
theorem d1_20 : decode method_3_code 20 = .ok (.iadd, 1) := by decide +kernel
theorem d1_21 : decode method_3_code 21 = .ok (.lload_n 3, 1) := by decide +kernel
theorem d1_22 : decode method_3_code 22 = .ok (.iconst 1, 1) := by decide +kernel
theorem d1_23 : decode method_3_code 23 = .ok (.invokestatic 9, 3) := by decide +kernel
theorem d1_26 : decode method_3_code 26 = .ok (.castore, 1) := by decide +kernel
theorem d1_27 : decode method_3_code 27 = .ok (.iload_n 2, 1) := by decide +kernel
theorem d1_28 : decode method_3_code 28 = .ok (.iconst 2, 1) := by decide +kernel
theorem d1_29 : decode method_3_code 29 = .ok (.if_icmp .le 13, 3) := by decide +kernel
theorem d1_32 : decode method_3_code 32 = .ok (.aload_n 0, 1) := by decide +kernel
theorem d1_33 : decode method_3_code 33 = .ok (.iload_n 1, 1) := by decide +kernel
theorem d1_34 : decode method_3_code 34 = .ok (.iconst 2, 1) := by decide +kernel
theorem d1_35 : decode method_3_code 35 = .ok (.iadd, 1) := by decide +kernel
theorem d1_36 : decode method_3_code 36 = .ok (.lload_n 3, 1) := by decide +kernel
theorem d1_37 : decode method_3_code 37 = .ok (.iconst 2, 1) := by decide +kernel
theorem d1_38 : decode method_3_code 38 = .ok (.invokestatic 9, 3) := by decide +kernel
theorem d1_41 : decode method_3_code 41 = .ok (.castore, 1) := by decide +kernel
theorem d1_42 : decode method_3_code 42 = .ok (.iload_n 2, 1) := by decide +kernel
theorem d1_43 : decode method_3_code 43 = .ok (.iconst 3, 1) := by decide +kernel
theorem d1_44 : decode method_3_code 44 = .ok (.if_icmp .le 13, 3) := by decide +kernel
theorem d1_47 : decode method_3_code 47 = .ok (.aload_n 0, 1) := by decide +kernel
theorem d1_48 : decode method_3_code 48 = .ok (.iload_n 1, 1) := by decide +kernel
theorem d1_49 : decode method_3_code 49 = .ok (.iconst 3, 1) := by decide +kernel
theorem d1_50 : decode method_3_code 50 = .ok (.iadd, 1) := by decide +kernel
theorem d1_51 : decode method_3_code 51 = .ok (.lload_n 3, 1) := by decide +kernel
theorem d1_52 : decode method_3_code 52 = .ok (.iconst 3, 1) := by decide +kernel
theorem d1_53 : decode method_3_code 53 = .ok (.invokestatic 9, 3) := by decide +kernel
theorem d1_56 : decode method_3_code 56 = .ok (.castore, 1) := by decide +kernel
theorem d1_57 : decode method_3_code 57 = .ok (.iload_n 2, 1) := by decide +kernel
theorem d1_58 : decode method_3_code 58 = .ok (.iconst 4, 1) := by decide +kernel
theorem d1_59 : decode method_3_code 59 = .ok (.if_icmp .le 13, 3) := by decide +kernel
theorem d1_62 : decode method_3_code 62 = .ok (.aload_n 0, 1) := by decide +kernel
theorem d1_63 : decode method_3_code 63 = .ok (.iload_n 1, 1) := by decide +kernel
theorem d1_64 : decode method_3_code 64 = .ok (.iconst 4, 1) := by decide +kernel
theorem d1_65 : decode method_3_code 65 = .ok (.iadd, 1) := by decide +kernel
theorem d1_66 : decode method_3_code 66 = .ok (.lload_n 3, 1) := by decide +kernel
theorem d1_67 : decode method_3_code 67 = .ok (.iconst 4, 1) := by decide +kernel
theorem d1_68 : decode method_3_code 68 = .ok (.invokestatic 9, 3) := by decide +kernel
theorem d1_71 : decode method_3_code 71 = .ok (.castore, 1) := by decide +kernel
theorem d1_72 : decode method_3_code 72 = .ok (.iload_n 2, 1) := by decide +kernel
theorem d1_73 : decode method_3_code 73 = .ok (.iconst 5, 1) := by decide +kernel
theorem d1_74 : decode method_3_code 74 = .ok (.if_icmp .le 13, 3) := by decide +kernel
theorem d1_77 : decode method_3_code 77 = .ok (.aload_n 0, 1) := by decide +kernel
theorem d1_78 : decode method_3_code 78 = .ok (.iload_n 1, 1) := by decide +kernel
theorem d1_79 : decode method_3_code 79 = .ok (.iconst 5, 1) := by decide +kernel
theorem d1_80 : decode method_3_code 80 = .ok (.iadd, 1) := by decide +kernel
theorem d1_81 : decode method_3_code 81 = .ok (.lload_n 3, 1) := by decide +kernel
theorem d1_82 : decode method_3_code 82 = .ok (.iconst 5, 1) := by decide +kernel
theorem d1_83 : decode method_3_code 83 = .ok (.invokestatic 9, 3) := by decide +kernel
theorem d1_86 : decode method_3_code 86 = .ok (.castore, 1) := by decide +kernel
theorem d1_87 : decode method_3_code 87 = .ok (.iload_n 2, 1) := by decide +kernel
theorem d1_88 : decode method_3_code 88 = .ok (.bipush 6, 2) := by decide +kernel
theorem d1_90 : decode method_3_code 90 = .ok (.if_icmp .le 15, 3) := by decide +kernel
theorem d1_93 : decode method_3_code 93 = .ok (.aload_n 0, 1) := by decide +kernel
theorem d1_94 : decode method_3_code 94 = .ok (.iload_n 1, 1) := by decide +kernel
theorem d1_95 : decode method_3_code 95 = .ok (.bipush 6, 2) := by decide +kernel
theorem d1_97 : decode method_3_code 97 = .ok (.iadd, 1) := by decide +kernel
theorem d1_98 : decode method_3_code 98 = .ok (.lload_n 3, 1) := by decide +kernel
theorem d1_99 : decode method_3_code 99 = .ok (.bipush 6, 2) := by decide +kernel
theorem d1_101 : decode method_3_code 101 = .ok (.invokestatic 9, 3) := by decide +kernel
theorem d1_104 : decode method_3_code 104 = .ok (.castore, 1) := by decide +kernel
theorem d1_105 : decode method_3_code 105 = .ok (.iload_n 2, 1) := by decide +kernel
theorem d1_106 : decode method_3_code 106 = .ok (.bipush 7, 2) := by decide +kernel
theorem d1_108 : decode method_3_code 108 = .ok (.if_icmp .le 15, 3) := by decide +kernel
theorem d1_123 : decode method_3_code 123 = .ok (.return_, 1) := by decide +kernel
def Q_put_ (Z : State) (a : Nat) (ka : ClassId) (k_ : Nat) (m_ : Nat) (Ln : Nat) (vs_ : List Value) (q : Int64) (h0 : Heap) (n0 : Nat) (vR : Option Value) (hR : Heap) (LR : List Loc) : Prop := vR = none ∧ Fr n0 LR ∧ Keep h0 hR [a] ∧ (Arv Z hR a ka .char (Int32.ofNat Ln) (own_sets vs_ k_ ((own_cs q m_).map Value.int)) (.int 0))
set_option maxRecDepth 65536 in
set_option maxHeartbeats 40000000 in
theorem put_ (l : Launch) (Z : State) (a0 : Array Value) (hw : ∀ d ∈ tables_1, d.before a0 Z = true) (ws : List Jvm.Cond) (a : Nat) (ka : ClassId) (k_ : Nat) (m_ : Nat) (Ln : Nat) (vs_ : List Value) (q : Int64) (h0 : Heap) (n0 : Nat) (Z0 : n0 ≤ h0.size) (V_a : Arv Z h0 a ka .char (Int32.ofNat Ln) vs_ (.int 0)) (g_a : n0 ≤ a) (hm7 : m_ ≤ 7) (hkm : k_ + m_ ≤ Ln) (hvl : vs_.length = Ln) (hLn : Ln ≤ 15) :
    own_M l (⟨"com/example/undercroft/undercroft/store/UriSpacePathOfPinLaw", "put", "([CIIJ)V"⟩ : MethodName) method_3_code 5 none ws ({ frames := 1, cells := 0, slots := 0, locals := 16 } : Room) Z #[(.ref a), (.int (Int32.ofNat k_)), (.int (Int32.ofNat m_)), (.long q)] h0 (Q_put_ Z a ka k_ m_ Ln vs_ q h0 n0) := by
  refine own_body (own := "com/example/undercroft/undercroft/store/UriSpacePathOfPinLaw") rfl (plainFor_of_name pn_1) (fun m => ef_put_ m a (Int32.ofNat k_) (Int32.ofNat m_) q) ?_
  intro p e s m below meth c s₁ Bd hml hZ hh hx hby hown X0 e0
  have N0 := Fr.nil n0
  have lt1 : h0.size > a := V_a.lt
  have V2 : Arv Z h0 a ka .char (Int32.ofNat Ln) (own_sets vs_ k_ ((own_cs q 0).map Value.int)) (.int 0) := V_a
  refine own_iloadN X0.here hx hby d1_0 rfl ?_
  by_cases hc1_3 : (0 : Int32) < (Int32.ofNat m_)
  · refine own_ifNo X0.here hx hby d1_1 ((if0 _ _).trans (tlt hc1_3).2.2.2) ?_
    refine own_aloadN X0.here hx hby d1_4 rfl rfl ?_
    refine own_iloadN X0.here hx hby d1_5 rfl ?_
    refine own_lloadN X0.here hx hby d1_6 rfl ?_
    refine own_iconst X0.here hx hby d1_7 (v := (0 : Int32)) (by decide) ?_
    refine own_callS X0 hx hZ hown (own_w hw 225 rfl) (own_w hw 226 rfl) (own_w hw 3 rfl) (own_w hw 227 rfl) (by decide) (ch_0 l Z a0 hw [] q h0 n0 Z0 ) 2 (Nat.le_of_eq rfl) (by decide) (by decide) (by rw [hml]; rfl) (argsL := [(.long q), (.int 0)]) (st := [(.int (Int32.ofNat k_)), (.ref a)]) (lenOf pd_23 rfl) rfl rfl (by decide) (by decide) e0 hby d1_8 ?_
    intro T4 v4 L4 X4 hQ4
    obtain ⟨rfl, Nq4, eh4⟩ := hQ4
    have N4 := Fr.app N0 Nq4
    refine own_sh (T := T4) 11 #[.val (.ref a), .val (.int (Int32.ofNat k_)), .val (.int (Int32.ofNat m_)), .val (.long q), .second] [(.int (own_cv q (0 : Int32))), (.int (Int32.ofNat k_)), (.ref a)] ?_
    have hi_0 : 0 < m_ := (own_gek (k := 0) hm7).2 hc1_3 (by decide)
    refine own_castore X4 hx hZ eh4 V2 (own_idx0 (by omega) (by omega)) (k_ + 0) (own_nC (by omega)) (by rw [own_setsL]; omega) (w := (.int (own_cv q (0 : Int32)))) (congrArg Value.int (own_nar8 (own_cv q (0 : Int32)) (own_cvB q (0 : Int32)).1 (own_cvB q (0 : Int32)).2)) hby d1_11 N4 g_a ?_
    intro T5 h5 lo5 X5 e5 N5 W5 V5 z5
    have V6 : Arv Z h5 a ka .char (Int32.ofNat Ln) ((own_sets vs_ k_ ((own_cs q 0).map Value.int)).set (k_ + 0) (.int (own_cv q (0 : Int32)))) (.int 0) := V5
    have V7 : Arv Z h5 a ka .char (Int32.ofNat Ln) (own_sets vs_ k_ ((own_cs q 1).map Value.int)) (.int 0) := by
      rw [own_step (c := (0 : Int32)) (by decide)]
      exact V6
    refine own_iloadN X5.here hx hby d1_12 rfl ?_
    refine own_iconst X5.here hx hby d1_13 (v := (1 : Int32)) (by decide) ?_
    by_cases hc14_8 : (1 : Int32) < (Int32.ofNat m_)
    · refine own_icmpNo X5.here hx hby d1_14 (tlt hc14_8).2.2.2 ?_
      refine own_aloadN X5.here hx hby d1_17 rfl rfl ?_
      refine own_iloadN X5.here hx hby d1_18 rfl ?_
      refine own_iconst X5.here hx hby d1_19 (v := (1 : Int32)) (by decide) ?_
      refine own_iadd X5.here hx hby d1_20 rfl ?_
      refine own_lloadN X5.here hx hby d1_21 rfl ?_
      refine own_iconst X5.here hx hby d1_22 (v := (1 : Int32)) (by decide) ?_
      have z10 : n0 ≤ h5.size := by omega
      refine own_callS X5 hx hZ hown (own_w hw 225 rfl) (own_w hw 226 rfl) (own_w hw 3 rfl) (own_w hw 227 rfl) (by decide) (ch_1 l Z a0 hw [] q h5 n0 z10 ) 2 (Nat.le_of_eq rfl) (by decide) (by decide) (by rw [hml]; rfl) (argsL := [(.long q), (.int 1)]) (st := [(.int ((Int32.ofNat k_) + (1 : Int32))), (.ref a)]) (lenOf pd_23 rfl) rfl rfl (by decide) (by decide) e5 hby d1_23 ?_
      intro T9 v9 L9 X9 hQ9
      obtain ⟨rfl, Nq9, eh9⟩ := hQ9
      have N9 := Fr.app N5 Nq9
      refine own_sh (T := T9) 26 #[.val (.ref a), .val (.int (Int32.ofNat k_)), .val (.int (Int32.ofNat m_)), .val (.long q), .second] [(.int (own_cv q (8 : Int32))), (.int ((Int32.ofNat k_) + (1 : Int32))), (.ref a)] ?_
      have hi_1 : 1 < m_ := (own_gek (k := 1) hm7).2 hc14_8 (by decide)
      refine own_castore X9 hx hZ eh9 V7 (own_idxI (i := 1) (by decide) (by omega) (by omega)) (k_ + 1) (own_idx (i := 1) (by decide) (by omega)) (by rw [own_setsL]; omega) (w := (.int (own_cv q (8 : Int32)))) (congrArg Value.int (own_nar8 (own_cv q (8 : Int32)) (own_cvB q (8 : Int32)).1 (own_cvB q (8 : Int32)).2)) hby d1_26 N9 g_a ?_
      intro T11 h11 lo11 X11 e11 N11 W11 V11 z11
      have V12 : Arv Z h11 a ka .char (Int32.ofNat Ln) ((own_sets vs_ k_ ((own_cs q 1).map Value.int)).set (k_ + 1) (.int (own_cv q (8 : Int32)))) (.int 0) := V11
      have V13 : Arv Z h11 a ka .char (Int32.ofNat Ln) (own_sets vs_ k_ ((own_cs q 2).map Value.int)) (.int 0) := by
        rw [own_step (c := (8 : Int32)) (by decide)]
        exact V12
      refine own_iloadN X11.here hx hby d1_27 rfl ?_
      refine own_iconst X11.here hx hby d1_28 (v := (2 : Int32)) (by decide) ?_
      by_cases hc29_14 : (2 : Int32) < (Int32.ofNat m_)
      · refine own_icmpNo X11.here hx hby d1_29 (tlt hc29_14).2.2.2 ?_
        refine own_aloadN X11.here hx hby d1_32 rfl rfl ?_
        refine own_iloadN X11.here hx hby d1_33 rfl ?_
        refine own_iconst X11.here hx hby d1_34 (v := (2 : Int32)) (by decide) ?_
        refine own_iadd X11.here hx hby d1_35 rfl ?_
        refine own_lloadN X11.here hx hby d1_36 rfl ?_
        refine own_iconst X11.here hx hby d1_37 (v := (2 : Int32)) (by decide) ?_
        have z16 : n0 ≤ h11.size := by omega
        refine own_callS X11 hx hZ hown (own_w hw 225 rfl) (own_w hw 226 rfl) (own_w hw 3 rfl) (own_w hw 227 rfl) (by decide) (ch_2 l Z a0 hw [] q h11 n0 z16 ) 2 (Nat.le_of_eq rfl) (by decide) (by decide) (by rw [hml]; rfl) (argsL := [(.long q), (.int 2)]) (st := [(.int ((Int32.ofNat k_) + (2 : Int32))), (.ref a)]) (lenOf pd_23 rfl) rfl rfl (by decide) (by decide) e11 hby d1_38 ?_
        intro T15 v15 L15 X15 hQ15
        obtain ⟨rfl, Nq15, eh15⟩ := hQ15
        have N15 := Fr.app N11 Nq15
        refine own_sh (T := T15) 41 #[.val (.ref a), .val (.int (Int32.ofNat k_)), .val (.int (Int32.ofNat m_)), .val (.long q), .second] [(.int (own_cv q (16 : Int32))), (.int ((Int32.ofNat k_) + (2 : Int32))), (.ref a)] ?_
        have hi_2 : 2 < m_ := (own_gek (k := 2) hm7).2 hc29_14 (by decide)
        refine own_castore X15 hx hZ eh15 V13 (own_idxI (i := 2) (by decide) (by omega) (by omega)) (k_ + 2) (own_idx (i := 2) (by decide) (by omega)) (by rw [own_setsL]; omega) (w := (.int (own_cv q (16 : Int32)))) (congrArg Value.int (own_nar8 (own_cv q (16 : Int32)) (own_cvB q (16 : Int32)).1 (own_cvB q (16 : Int32)).2)) hby d1_41 N15 g_a ?_
        intro T17 h17 lo17 X17 e17 N17 W17 V17 z17
        have V18 : Arv Z h17 a ka .char (Int32.ofNat Ln) ((own_sets vs_ k_ ((own_cs q 2).map Value.int)).set (k_ + 2) (.int (own_cv q (16 : Int32)))) (.int 0) := V17
        have V19 : Arv Z h17 a ka .char (Int32.ofNat Ln) (own_sets vs_ k_ ((own_cs q 3).map Value.int)) (.int 0) := by
          rw [own_step (c := (16 : Int32)) (by decide)]
          exact V18
        refine own_iloadN X17.here hx hby d1_42 rfl ?_
        refine own_iconst X17.here hx hby d1_43 (v := (3 : Int32)) (by decide) ?_
        by_cases hc44_20 : (3 : Int32) < (Int32.ofNat m_)
        · refine own_icmpNo X17.here hx hby d1_44 (tlt hc44_20).2.2.2 ?_
          refine own_aloadN X17.here hx hby d1_47 rfl rfl ?_
          refine own_iloadN X17.here hx hby d1_48 rfl ?_
          refine own_iconst X17.here hx hby d1_49 (v := (3 : Int32)) (by decide) ?_
          refine own_iadd X17.here hx hby d1_50 rfl ?_
          refine own_lloadN X17.here hx hby d1_51 rfl ?_
          refine own_iconst X17.here hx hby d1_52 (v := (3 : Int32)) (by decide) ?_
          have z22 : n0 ≤ h17.size := by omega
          refine own_callS X17 hx hZ hown (own_w hw 225 rfl) (own_w hw 226 rfl) (own_w hw 3 rfl) (own_w hw 227 rfl) (by decide) (ch_3 l Z a0 hw [] q h17 n0 z22 ) 2 (Nat.le_of_eq rfl) (by decide) (by decide) (by rw [hml]; rfl) (argsL := [(.long q), (.int 3)]) (st := [(.int ((Int32.ofNat k_) + (3 : Int32))), (.ref a)]) (lenOf pd_23 rfl) rfl rfl (by decide) (by decide) e17 hby d1_53 ?_
          intro T21 v21 L21 X21 hQ21
          obtain ⟨rfl, Nq21, eh21⟩ := hQ21
          have N21 := Fr.app N17 Nq21
          refine own_sh (T := T21) 56 #[.val (.ref a), .val (.int (Int32.ofNat k_)), .val (.int (Int32.ofNat m_)), .val (.long q), .second] [(.int (own_cv q (24 : Int32))), (.int ((Int32.ofNat k_) + (3 : Int32))), (.ref a)] ?_
          have hi_3 : 3 < m_ := (own_gek (k := 3) hm7).2 hc44_20 (by decide)
          refine own_castore X21 hx hZ eh21 V19 (own_idxI (i := 3) (by decide) (by omega) (by omega)) (k_ + 3) (own_idx (i := 3) (by decide) (by omega)) (by rw [own_setsL]; omega) (w := (.int (own_cv q (24 : Int32)))) (congrArg Value.int (own_nar8 (own_cv q (24 : Int32)) (own_cvB q (24 : Int32)).1 (own_cvB q (24 : Int32)).2)) hby d1_56 N21 g_a ?_
          intro T23 h23 lo23 X23 e23 N23 W23 V23 z23
          have V24 : Arv Z h23 a ka .char (Int32.ofNat Ln) ((own_sets vs_ k_ ((own_cs q 3).map Value.int)).set (k_ + 3) (.int (own_cv q (24 : Int32)))) (.int 0) := V23
          have V25 : Arv Z h23 a ka .char (Int32.ofNat Ln) (own_sets vs_ k_ ((own_cs q 4).map Value.int)) (.int 0) := by
            rw [own_step (c := (24 : Int32)) (by decide)]
            exact V24
          refine own_iloadN X23.here hx hby d1_57 rfl ?_
          refine own_iconst X23.here hx hby d1_58 (v := (4 : Int32)) (by decide) ?_
          by_cases hc59_26 : (4 : Int32) < (Int32.ofNat m_)
          · refine own_icmpNo X23.here hx hby d1_59 (tlt hc59_26).2.2.2 ?_
            refine own_aloadN X23.here hx hby d1_62 rfl rfl ?_
            refine own_iloadN X23.here hx hby d1_63 rfl ?_
            refine own_iconst X23.here hx hby d1_64 (v := (4 : Int32)) (by decide) ?_
            refine own_iadd X23.here hx hby d1_65 rfl ?_
            refine own_lloadN X23.here hx hby d1_66 rfl ?_
            refine own_iconst X23.here hx hby d1_67 (v := (4 : Int32)) (by decide) ?_
            have z28 : n0 ≤ h23.size := by omega
            refine own_callS X23 hx hZ hown (own_w hw 225 rfl) (own_w hw 226 rfl) (own_w hw 3 rfl) (own_w hw 227 rfl) (by decide) (ch_4 l Z a0 hw [] q h23 n0 z28 ) 2 (Nat.le_of_eq rfl) (by decide) (by decide) (by rw [hml]; rfl) (argsL := [(.long q), (.int 4)]) (st := [(.int ((Int32.ofNat k_) + (4 : Int32))), (.ref a)]) (lenOf pd_23 rfl) rfl rfl (by decide) (by decide) e23 hby d1_68 ?_
            intro T27 v27 L27 X27 hQ27
            obtain ⟨rfl, Nq27, eh27⟩ := hQ27
            have N27 := Fr.app N23 Nq27
            refine own_sh (T := T27) 71 #[.val (.ref a), .val (.int (Int32.ofNat k_)), .val (.int (Int32.ofNat m_)), .val (.long q), .second] [(.int (own_cv q (32 : Int32))), (.int ((Int32.ofNat k_) + (4 : Int32))), (.ref a)] ?_
            have hi_4 : 4 < m_ := (own_gek (k := 4) hm7).2 hc59_26 (by decide)
            refine own_castore X27 hx hZ eh27 V25 (own_idxI (i := 4) (by decide) (by omega) (by omega)) (k_ + 4) (own_idx (i := 4) (by decide) (by omega)) (by rw [own_setsL]; omega) (w := (.int (own_cv q (32 : Int32)))) (congrArg Value.int (own_nar8 (own_cv q (32 : Int32)) (own_cvB q (32 : Int32)).1 (own_cvB q (32 : Int32)).2)) hby d1_71 N27 g_a ?_
            intro T29 h29 lo29 X29 e29 N29 W29 V29 z29
            have V30 : Arv Z h29 a ka .char (Int32.ofNat Ln) ((own_sets vs_ k_ ((own_cs q 4).map Value.int)).set (k_ + 4) (.int (own_cv q (32 : Int32)))) (.int 0) := V29
            have V31 : Arv Z h29 a ka .char (Int32.ofNat Ln) (own_sets vs_ k_ ((own_cs q 5).map Value.int)) (.int 0) := by
              rw [own_step (c := (32 : Int32)) (by decide)]
              exact V30
            refine own_iloadN X29.here hx hby d1_72 rfl ?_
            refine own_iconst X29.here hx hby d1_73 (v := (5 : Int32)) (by decide) ?_
            by_cases hc74_32 : (5 : Int32) < (Int32.ofNat m_)
            · refine own_icmpNo X29.here hx hby d1_74 (tlt hc74_32).2.2.2 ?_
              refine own_aloadN X29.here hx hby d1_77 rfl rfl ?_
              refine own_iloadN X29.here hx hby d1_78 rfl ?_
              refine own_iconst X29.here hx hby d1_79 (v := (5 : Int32)) (by decide) ?_
              refine own_iadd X29.here hx hby d1_80 rfl ?_
              refine own_lloadN X29.here hx hby d1_81 rfl ?_
              refine own_iconst X29.here hx hby d1_82 (v := (5 : Int32)) (by decide) ?_
              have z34 : n0 ≤ h29.size := by omega
              refine own_callS X29 hx hZ hown (own_w hw 225 rfl) (own_w hw 226 rfl) (own_w hw 3 rfl) (own_w hw 227 rfl) (by decide) (ch_5 l Z a0 hw [] q h29 n0 z34 ) 2 (Nat.le_of_eq rfl) (by decide) (by decide) (by rw [hml]; rfl) (argsL := [(.long q), (.int 5)]) (st := [(.int ((Int32.ofNat k_) + (5 : Int32))), (.ref a)]) (lenOf pd_23 rfl) rfl rfl (by decide) (by decide) e29 hby d1_83 ?_
              intro T33 v33 L33 X33 hQ33
              obtain ⟨rfl, Nq33, eh33⟩ := hQ33
              have N33 := Fr.app N29 Nq33
              refine own_sh (T := T33) 86 #[.val (.ref a), .val (.int (Int32.ofNat k_)), .val (.int (Int32.ofNat m_)), .val (.long q), .second] [(.int (own_cv q (40 : Int32))), (.int ((Int32.ofNat k_) + (5 : Int32))), (.ref a)] ?_
              have hi_5 : 5 < m_ := (own_gek (k := 5) hm7).2 hc74_32 (by decide)
              refine own_castore X33 hx hZ eh33 V31 (own_idxI (i := 5) (by decide) (by omega) (by omega)) (k_ + 5) (own_idx (i := 5) (by decide) (by omega)) (by rw [own_setsL]; omega) (w := (.int (own_cv q (40 : Int32)))) (congrArg Value.int (own_nar8 (own_cv q (40 : Int32)) (own_cvB q (40 : Int32)).1 (own_cvB q (40 : Int32)).2)) hby d1_86 N33 g_a ?_
              intro T35 h35 lo35 X35 e35 N35 W35 V35 z35
              have V36 : Arv Z h35 a ka .char (Int32.ofNat Ln) ((own_sets vs_ k_ ((own_cs q 5).map Value.int)).set (k_ + 5) (.int (own_cv q (40 : Int32)))) (.int 0) := V35
              have V37 : Arv Z h35 a ka .char (Int32.ofNat Ln) (own_sets vs_ k_ ((own_cs q 6).map Value.int)) (.int 0) := by
                rw [own_step (c := (40 : Int32)) (by decide)]
                exact V36
              refine own_iloadN X35.here hx hby d1_87 rfl ?_
              refine own_bipush X35.here hx hby d1_88 (v := (6 : Int32)) (by decide) ?_
              by_cases hc90_38 : (6 : Int32) < (Int32.ofNat m_)
              · refine own_icmpNo X35.here hx hby d1_90 (tlt hc90_38).2.2.2 ?_
                refine own_aloadN X35.here hx hby d1_93 rfl rfl ?_
                refine own_iloadN X35.here hx hby d1_94 rfl ?_
                refine own_bipush X35.here hx hby d1_95 (v := (6 : Int32)) (by decide) ?_
                refine own_iadd X35.here hx hby d1_97 rfl ?_
                refine own_lloadN X35.here hx hby d1_98 rfl ?_
                refine own_bipush X35.here hx hby d1_99 (v := (6 : Int32)) (by decide) ?_
                have z40 : n0 ≤ h35.size := by omega
                refine own_callS X35 hx hZ hown (own_w hw 225 rfl) (own_w hw 226 rfl) (own_w hw 3 rfl) (own_w hw 227 rfl) (by decide) (ch_6 l Z a0 hw [] q h35 n0 z40 ) 2 (Nat.le_of_eq rfl) (by decide) (by decide) (by rw [hml]; rfl) (argsL := [(.long q), (.int 6)]) (st := [(.int ((Int32.ofNat k_) + (6 : Int32))), (.ref a)]) (lenOf pd_23 rfl) rfl rfl (by decide) (by decide) e35 hby d1_101 ?_
                intro T39 v39 L39 X39 hQ39
                obtain ⟨rfl, Nq39, eh39⟩ := hQ39
                have N39 := Fr.app N35 Nq39
                refine own_sh (T := T39) 104 #[.val (.ref a), .val (.int (Int32.ofNat k_)), .val (.int (Int32.ofNat m_)), .val (.long q), .second] [(.int (own_cv q (48 : Int32))), (.int ((Int32.ofNat k_) + (6 : Int32))), (.ref a)] ?_
                have hi_6 : 6 < m_ := (own_gek (k := 6) hm7).2 hc90_38 (by decide)
                refine own_castore X39 hx hZ eh39 V37 (own_idxI (i := 6) (by decide) (by omega) (by omega)) (k_ + 6) (own_idx (i := 6) (by decide) (by omega)) (by rw [own_setsL]; omega) (w := (.int (own_cv q (48 : Int32)))) (congrArg Value.int (own_nar8 (own_cv q (48 : Int32)) (own_cvB q (48 : Int32)).1 (own_cvB q (48 : Int32)).2)) hby d1_104 N39 g_a ?_
                intro T41 h41 lo41 X41 e41 N41 W41 V41 z41
                have V42 : Arv Z h41 a ka .char (Int32.ofNat Ln) ((own_sets vs_ k_ ((own_cs q 6).map Value.int)).set (k_ + 6) (.int (own_cv q (48 : Int32)))) (.int 0) := V41
                have V43 : Arv Z h41 a ka .char (Int32.ofNat Ln) (own_sets vs_ k_ ((own_cs q 7).map Value.int)) (.int 0) := by
                  rw [own_step (c := (48 : Int32)) (by decide)]
                  exact V42
                refine own_iloadN X41.here hx hby d1_105 rfl ?_
                refine own_bipush X41.here hx hby d1_106 (v := (7 : Int32)) (by decide) ?_
                refine own_icmpYes X41.here hx hby (pc' := 123) d1_108 (flt (show ¬ ((7 : Int32) < (Int32.ofNat m_)) from (own_notlt (i := 7) hm7 (by decide)))).2.2.2 (by decide) (by decide) ?_
                refine own_sh (T := T41) 123 #[.val (.ref a), .val (.int (Int32.ofNat k_)), .val (.int (Int32.ofNat m_)), .val (.long q), .second] [] ?_
                have hM : m_ = 7 := by have g_ := hi_6; omega
                have K44 : Keep h0 h41 [a] := ((((((((Keep.refl h0 [a]).wr W5 (Or.inl (List.mem_of_getElem? (i := 0) rfl))).wr W11 (Or.inl (List.mem_of_getElem? (i := 0) rfl))).wr W17 (Or.inl (List.mem_of_getElem? (i := 0) rfl))).wr W23 (Or.inl (List.mem_of_getElem? (i := 0) rfl))).wr W29 (Or.inl (List.mem_of_getElem? (i := 0) rfl))).wr W35 (Or.inl (List.mem_of_getElem? (i := 0) rfl))).wr W41 (Or.inl (List.mem_of_getElem? (i := 0) rfl)))
                obtain ⟨fs, hr, hrun, hended, hW, hsame⟩ := X41.leave (v := none) (fun _ => rfl) Bd.notSynchronized
                refine own_ret (t := T41.setFrames fs) ?_ ⟨_, hrun, hended, _, _, rfl, ?_, ⟨_, rfl⟩, hW, hsame.mono (by decide) (by decide)⟩
                · exact X41.returnOut hx Bd.returns (hb hby d1_123) hr
                · show Q_put_ Z _ _ _ _ _ _ _ h0 n0 _ T41.heap _
                  rw [e41]
                  exact ⟨rfl, N41, K44, (by rw [hM]; exact V43)⟩
              · refine own_icmpYes X35.here hx hby (pc' := 105) d1_90 (flt hc90_38).2.2.2 (by decide) (by decide) ?_
                refine own_sh (T := T35) 105 #[.val (.ref a), .val (.int (Int32.ofNat k_)), .val (.int (Int32.ofNat m_)), .val (.long q), .second] [] ?_
                have hM : m_ = 6 := by have f_ := (own_gek (k := 6) hm7).1 hc90_38 (by decide); have g_ := hi_5; omega
                refine own_iloadN X35.here hx hby d1_105 rfl ?_
                refine own_bipush X35.here hx hby d1_106 (v := (7 : Int32)) (by decide) ?_
                refine own_icmpYes X35.here hx hby (pc' := 123) d1_108 (flt (show ¬ ((7 : Int32) < (Int32.ofNat m_)) from (own_notlt (i := 7) (by omega) (by decide)))).2.2.2 (by decide) (by decide) ?_
                have K45 : Keep h0 h35 [a] := (((((((Keep.refl h0 [a]).wr W5 (Or.inl (List.mem_of_getElem? (i := 0) rfl))).wr W11 (Or.inl (List.mem_of_getElem? (i := 0) rfl))).wr W17 (Or.inl (List.mem_of_getElem? (i := 0) rfl))).wr W23 (Or.inl (List.mem_of_getElem? (i := 0) rfl))).wr W29 (Or.inl (List.mem_of_getElem? (i := 0) rfl))).wr W35 (Or.inl (List.mem_of_getElem? (i := 0) rfl)))
                obtain ⟨fs, hr, hrun, hended, hW, hsame⟩ := X35.leave (v := none) (fun _ => rfl) Bd.notSynchronized
                refine own_ret (t := T35.setFrames fs) ?_ ⟨_, hrun, hended, _, _, rfl, ?_, ⟨_, rfl⟩, hW, hsame.mono (by decide) (by decide)⟩
                · exact X35.returnOut hx Bd.returns (hb hby d1_123) hr
                · show Q_put_ Z _ _ _ _ _ _ _ h0 n0 _ T35.heap _
                  rw [e35]
                  exact ⟨rfl, N35, K45, (by rw [hM]; exact V37)⟩
            · refine own_icmpYes X29.here hx hby (pc' := 87) d1_74 (flt hc74_32).2.2.2 (by decide) (by decide) ?_
              refine own_sh (T := T29) 87 #[.val (.ref a), .val (.int (Int32.ofNat k_)), .val (.int (Int32.ofNat m_)), .val (.long q), .second] [] ?_
              have hM : m_ = 5 := by have f_ := (own_gek (k := 5) hm7).1 hc74_32 (by decide); have g_ := hi_4; omega
              refine own_iloadN X29.here hx hby d1_87 rfl ?_
              refine own_bipush X29.here hx hby d1_88 (v := (6 : Int32)) (by decide) ?_
              refine own_icmpYes X29.here hx hby (pc' := 105) d1_90 (flt (show ¬ ((6 : Int32) < (Int32.ofNat m_)) from (own_notlt (i := 6) (by omega) (by decide)))).2.2.2 (by decide) (by decide) ?_
              refine own_iloadN X29.here hx hby d1_105 rfl ?_
              refine own_bipush X29.here hx hby d1_106 (v := (7 : Int32)) (by decide) ?_
              refine own_icmpYes X29.here hx hby (pc' := 123) d1_108 (flt (show ¬ ((7 : Int32) < (Int32.ofNat m_)) from (own_notlt (i := 7) (by omega) (by decide)))).2.2.2 (by decide) (by decide) ?_
              have K46 : Keep h0 h29 [a] := ((((((Keep.refl h0 [a]).wr W5 (Or.inl (List.mem_of_getElem? (i := 0) rfl))).wr W11 (Or.inl (List.mem_of_getElem? (i := 0) rfl))).wr W17 (Or.inl (List.mem_of_getElem? (i := 0) rfl))).wr W23 (Or.inl (List.mem_of_getElem? (i := 0) rfl))).wr W29 (Or.inl (List.mem_of_getElem? (i := 0) rfl)))
              obtain ⟨fs, hr, hrun, hended, hW, hsame⟩ := X29.leave (v := none) (fun _ => rfl) Bd.notSynchronized
              refine own_ret (t := T29.setFrames fs) ?_ ⟨_, hrun, hended, _, _, rfl, ?_, ⟨_, rfl⟩, hW, hsame.mono (by decide) (by decide)⟩
              · exact X29.returnOut hx Bd.returns (hb hby d1_123) hr
              · show Q_put_ Z _ _ _ _ _ _ _ h0 n0 _ T29.heap _
                rw [e29]
                exact ⟨rfl, N29, K46, (by rw [hM]; exact V31)⟩
          · refine own_icmpYes X23.here hx hby (pc' := 72) d1_59 (flt hc59_26).2.2.2 (by decide) (by decide) ?_
            refine own_sh (T := T23) 72 #[.val (.ref a), .val (.int (Int32.ofNat k_)), .val (.int (Int32.ofNat m_)), .val (.long q), .second] [] ?_
            have hM : m_ = 4 := by have f_ := (own_gek (k := 4) hm7).1 hc59_26 (by decide); have g_ := hi_3; omega
            refine own_iloadN X23.here hx hby d1_72 rfl ?_
            refine own_iconst X23.here hx hby d1_73 (v := (5 : Int32)) (by decide) ?_
            refine own_icmpYes X23.here hx hby (pc' := 87) d1_74 (flt (show ¬ ((5 : Int32) < (Int32.ofNat m_)) from (own_notlt (i := 5) (by omega) (by decide)))).2.2.2 (by decide) (by decide) ?_
            refine own_iloadN X23.here hx hby d1_87 rfl ?_
            refine own_bipush X23.here hx hby d1_88 (v := (6 : Int32)) (by decide) ?_
            refine own_icmpYes X23.here hx hby (pc' := 105) d1_90 (flt (show ¬ ((6 : Int32) < (Int32.ofNat m_)) from (own_notlt (i := 6) (by omega) (by decide)))).2.2.2 (by decide) (by decide) ?_
            refine own_iloadN X23.here hx hby d1_105 rfl ?_
            refine own_bipush X23.here hx hby d1_106 (v := (7 : Int32)) (by decide) ?_
            refine own_icmpYes X23.here hx hby (pc' := 123) d1_108 (flt (show ¬ ((7 : Int32) < (Int32.ofNat m_)) from (own_notlt (i := 7) (by omega) (by decide)))).2.2.2 (by decide) (by decide) ?_
            have K47 : Keep h0 h23 [a] := (((((Keep.refl h0 [a]).wr W5 (Or.inl (List.mem_of_getElem? (i := 0) rfl))).wr W11 (Or.inl (List.mem_of_getElem? (i := 0) rfl))).wr W17 (Or.inl (List.mem_of_getElem? (i := 0) rfl))).wr W23 (Or.inl (List.mem_of_getElem? (i := 0) rfl)))
            obtain ⟨fs, hr, hrun, hended, hW, hsame⟩ := X23.leave (v := none) (fun _ => rfl) Bd.notSynchronized
            refine own_ret (t := T23.setFrames fs) ?_ ⟨_, hrun, hended, _, _, rfl, ?_, ⟨_, rfl⟩, hW, hsame.mono (by decide) (by decide)⟩
            · exact X23.returnOut hx Bd.returns (hb hby d1_123) hr
            · show Q_put_ Z _ _ _ _ _ _ _ h0 n0 _ T23.heap _
              rw [e23]
              exact ⟨rfl, N23, K47, (by rw [hM]; exact V25)⟩
        · refine own_icmpYes X17.here hx hby (pc' := 57) d1_44 (flt hc44_20).2.2.2 (by decide) (by decide) ?_
          refine own_sh (T := T17) 57 #[.val (.ref a), .val (.int (Int32.ofNat k_)), .val (.int (Int32.ofNat m_)), .val (.long q), .second] [] ?_
          have hM : m_ = 3 := by have f_ := (own_gek (k := 3) hm7).1 hc44_20 (by decide); have g_ := hi_2; omega
          refine own_iloadN X17.here hx hby d1_57 rfl ?_
          refine own_iconst X17.here hx hby d1_58 (v := (4 : Int32)) (by decide) ?_
          refine own_icmpYes X17.here hx hby (pc' := 72) d1_59 (flt (show ¬ ((4 : Int32) < (Int32.ofNat m_)) from (own_notlt (i := 4) (by omega) (by decide)))).2.2.2 (by decide) (by decide) ?_
          refine own_iloadN X17.here hx hby d1_72 rfl ?_
          refine own_iconst X17.here hx hby d1_73 (v := (5 : Int32)) (by decide) ?_
          refine own_icmpYes X17.here hx hby (pc' := 87) d1_74 (flt (show ¬ ((5 : Int32) < (Int32.ofNat m_)) from (own_notlt (i := 5) (by omega) (by decide)))).2.2.2 (by decide) (by decide) ?_
          refine own_iloadN X17.here hx hby d1_87 rfl ?_
          refine own_bipush X17.here hx hby d1_88 (v := (6 : Int32)) (by decide) ?_
          refine own_icmpYes X17.here hx hby (pc' := 105) d1_90 (flt (show ¬ ((6 : Int32) < (Int32.ofNat m_)) from (own_notlt (i := 6) (by omega) (by decide)))).2.2.2 (by decide) (by decide) ?_
          refine own_iloadN X17.here hx hby d1_105 rfl ?_
          refine own_bipush X17.here hx hby d1_106 (v := (7 : Int32)) (by decide) ?_
          refine own_icmpYes X17.here hx hby (pc' := 123) d1_108 (flt (show ¬ ((7 : Int32) < (Int32.ofNat m_)) from (own_notlt (i := 7) (by omega) (by decide)))).2.2.2 (by decide) (by decide) ?_
          have K48 : Keep h0 h17 [a] := ((((Keep.refl h0 [a]).wr W5 (Or.inl (List.mem_of_getElem? (i := 0) rfl))).wr W11 (Or.inl (List.mem_of_getElem? (i := 0) rfl))).wr W17 (Or.inl (List.mem_of_getElem? (i := 0) rfl)))
          obtain ⟨fs, hr, hrun, hended, hW, hsame⟩ := X17.leave (v := none) (fun _ => rfl) Bd.notSynchronized
          refine own_ret (t := T17.setFrames fs) ?_ ⟨_, hrun, hended, _, _, rfl, ?_, ⟨_, rfl⟩, hW, hsame.mono (by decide) (by decide)⟩
          · exact X17.returnOut hx Bd.returns (hb hby d1_123) hr
          · show Q_put_ Z _ _ _ _ _ _ _ h0 n0 _ T17.heap _
            rw [e17]
            exact ⟨rfl, N17, K48, (by rw [hM]; exact V19)⟩
      · refine own_icmpYes X11.here hx hby (pc' := 42) d1_29 (flt hc29_14).2.2.2 (by decide) (by decide) ?_
        refine own_sh (T := T11) 42 #[.val (.ref a), .val (.int (Int32.ofNat k_)), .val (.int (Int32.ofNat m_)), .val (.long q), .second] [] ?_
        have hM : m_ = 2 := by have f_ := (own_gek (k := 2) hm7).1 hc29_14 (by decide); have g_ := hi_1; omega
        refine own_iloadN X11.here hx hby d1_42 rfl ?_
        refine own_iconst X11.here hx hby d1_43 (v := (3 : Int32)) (by decide) ?_
        refine own_icmpYes X11.here hx hby (pc' := 57) d1_44 (flt (show ¬ ((3 : Int32) < (Int32.ofNat m_)) from (own_notlt (i := 3) (by omega) (by decide)))).2.2.2 (by decide) (by decide) ?_
        refine own_iloadN X11.here hx hby d1_57 rfl ?_
        refine own_iconst X11.here hx hby d1_58 (v := (4 : Int32)) (by decide) ?_
        refine own_icmpYes X11.here hx hby (pc' := 72) d1_59 (flt (show ¬ ((4 : Int32) < (Int32.ofNat m_)) from (own_notlt (i := 4) (by omega) (by decide)))).2.2.2 (by decide) (by decide) ?_
        refine own_iloadN X11.here hx hby d1_72 rfl ?_
        refine own_iconst X11.here hx hby d1_73 (v := (5 : Int32)) (by decide) ?_
        refine own_icmpYes X11.here hx hby (pc' := 87) d1_74 (flt (show ¬ ((5 : Int32) < (Int32.ofNat m_)) from (own_notlt (i := 5) (by omega) (by decide)))).2.2.2 (by decide) (by decide) ?_
        refine own_iloadN X11.here hx hby d1_87 rfl ?_
        refine own_bipush X11.here hx hby d1_88 (v := (6 : Int32)) (by decide) ?_
        refine own_icmpYes X11.here hx hby (pc' := 105) d1_90 (flt (show ¬ ((6 : Int32) < (Int32.ofNat m_)) from (own_notlt (i := 6) (by omega) (by decide)))).2.2.2 (by decide) (by decide) ?_
        refine own_iloadN X11.here hx hby d1_105 rfl ?_
        refine own_bipush X11.here hx hby d1_106 (v := (7 : Int32)) (by decide) ?_
        refine own_icmpYes X11.here hx hby (pc' := 123) d1_108 (flt (show ¬ ((7 : Int32) < (Int32.ofNat m_)) from (own_notlt (i := 7) (by omega) (by decide)))).2.2.2 (by decide) (by decide) ?_
        have K49 : Keep h0 h11 [a] := (((Keep.refl h0 [a]).wr W5 (Or.inl (List.mem_of_getElem? (i := 0) rfl))).wr W11 (Or.inl (List.mem_of_getElem? (i := 0) rfl)))
        obtain ⟨fs, hr, hrun, hended, hW, hsame⟩ := X11.leave (v := none) (fun _ => rfl) Bd.notSynchronized
        refine own_ret (t := T11.setFrames fs) ?_ ⟨_, hrun, hended, _, _, rfl, ?_, ⟨_, rfl⟩, hW, hsame.mono (by decide) (by decide)⟩
        · exact X11.returnOut hx Bd.returns (hb hby d1_123) hr
        · show Q_put_ Z _ _ _ _ _ _ _ h0 n0 _ T11.heap _
          rw [e11]
          exact ⟨rfl, N11, K49, (by rw [hM]; exact V13)⟩
    · refine own_icmpYes X5.here hx hby (pc' := 27) d1_14 (flt hc14_8).2.2.2 (by decide) (by decide) ?_
      refine own_sh (T := T5) 27 #[.val (.ref a), .val (.int (Int32.ofNat k_)), .val (.int (Int32.ofNat m_)), .val (.long q), .second] [] ?_
      have hM : m_ = 1 := by have f_ := (own_gek (k := 1) hm7).1 hc14_8 (by decide); have g_ := hi_0; omega
      refine own_iloadN X5.here hx hby d1_27 rfl ?_
      refine own_iconst X5.here hx hby d1_28 (v := (2 : Int32)) (by decide) ?_
      refine own_icmpYes X5.here hx hby (pc' := 42) d1_29 (flt (show ¬ ((2 : Int32) < (Int32.ofNat m_)) from (own_notlt (i := 2) (by omega) (by decide)))).2.2.2 (by decide) (by decide) ?_
      refine own_iloadN X5.here hx hby d1_42 rfl ?_
      refine own_iconst X5.here hx hby d1_43 (v := (3 : Int32)) (by decide) ?_
      refine own_icmpYes X5.here hx hby (pc' := 57) d1_44 (flt (show ¬ ((3 : Int32) < (Int32.ofNat m_)) from (own_notlt (i := 3) (by omega) (by decide)))).2.2.2 (by decide) (by decide) ?_
      refine own_iloadN X5.here hx hby d1_57 rfl ?_
      refine own_iconst X5.here hx hby d1_58 (v := (4 : Int32)) (by decide) ?_
      refine own_icmpYes X5.here hx hby (pc' := 72) d1_59 (flt (show ¬ ((4 : Int32) < (Int32.ofNat m_)) from (own_notlt (i := 4) (by omega) (by decide)))).2.2.2 (by decide) (by decide) ?_
      refine own_iloadN X5.here hx hby d1_72 rfl ?_
      refine own_iconst X5.here hx hby d1_73 (v := (5 : Int32)) (by decide) ?_
      refine own_icmpYes X5.here hx hby (pc' := 87) d1_74 (flt (show ¬ ((5 : Int32) < (Int32.ofNat m_)) from (own_notlt (i := 5) (by omega) (by decide)))).2.2.2 (by decide) (by decide) ?_
      refine own_iloadN X5.here hx hby d1_87 rfl ?_
      refine own_bipush X5.here hx hby d1_88 (v := (6 : Int32)) (by decide) ?_
      refine own_icmpYes X5.here hx hby (pc' := 105) d1_90 (flt (show ¬ ((6 : Int32) < (Int32.ofNat m_)) from (own_notlt (i := 6) (by omega) (by decide)))).2.2.2 (by decide) (by decide) ?_
      refine own_iloadN X5.here hx hby d1_105 rfl ?_
      refine own_bipush X5.here hx hby d1_106 (v := (7 : Int32)) (by decide) ?_
      refine own_icmpYes X5.here hx hby (pc' := 123) d1_108 (flt (show ¬ ((7 : Int32) < (Int32.ofNat m_)) from (own_notlt (i := 7) (by omega) (by decide)))).2.2.2 (by decide) (by decide) ?_
      have K50 : Keep h0 h5 [a] := ((Keep.refl h0 [a]).wr W5 (Or.inl (List.mem_of_getElem? (i := 0) rfl)))
      obtain ⟨fs, hr, hrun, hended, hW, hsame⟩ := X5.leave (v := none) (fun _ => rfl) Bd.notSynchronized
      refine own_ret (t := T5.setFrames fs) ?_ ⟨_, hrun, hended, _, _, rfl, ?_, ⟨_, rfl⟩, hW, hsame.mono (by decide) (by decide)⟩
      · exact X5.returnOut hx Bd.returns (hb hby d1_123) hr
      · show Q_put_ Z _ _ _ _ _ _ _ h0 n0 _ T5.heap _
        rw [e5]
        exact ⟨rfl, N5, K50, (by rw [hM]; exact V7)⟩
  · refine own_ifYes X0.here hx hby (pc' := 12) d1_1 ((if0 _ _).trans (flt hc1_3).2.2.2) (by decide) (by decide) ?_
    refine own_sh (T := s₁) 12 #[.val (.ref a), .val (.int (Int32.ofNat k_)), .val (.int (Int32.ofNat m_)), .val (.long q), .second] [] ?_
    have hM : m_ = 0 := by have f_ := (own_gek (k := 0) hm7).1 hc1_3 (by decide); omega
    refine own_iloadN X0.here hx hby d1_12 rfl ?_
    refine own_iconst X0.here hx hby d1_13 (v := (1 : Int32)) (by decide) ?_
    refine own_icmpYes X0.here hx hby (pc' := 27) d1_14 (flt (show ¬ ((1 : Int32) < (Int32.ofNat m_)) from (own_notlt (i := 1) (by omega) (by decide)))).2.2.2 (by decide) (by decide) ?_
    refine own_iloadN X0.here hx hby d1_27 rfl ?_
    refine own_iconst X0.here hx hby d1_28 (v := (2 : Int32)) (by decide) ?_
    refine own_icmpYes X0.here hx hby (pc' := 42) d1_29 (flt (show ¬ ((2 : Int32) < (Int32.ofNat m_)) from (own_notlt (i := 2) (by omega) (by decide)))).2.2.2 (by decide) (by decide) ?_
    refine own_iloadN X0.here hx hby d1_42 rfl ?_
    refine own_iconst X0.here hx hby d1_43 (v := (3 : Int32)) (by decide) ?_
    refine own_icmpYes X0.here hx hby (pc' := 57) d1_44 (flt (show ¬ ((3 : Int32) < (Int32.ofNat m_)) from (own_notlt (i := 3) (by omega) (by decide)))).2.2.2 (by decide) (by decide) ?_
    refine own_iloadN X0.here hx hby d1_57 rfl ?_
    refine own_iconst X0.here hx hby d1_58 (v := (4 : Int32)) (by decide) ?_
    refine own_icmpYes X0.here hx hby (pc' := 72) d1_59 (flt (show ¬ ((4 : Int32) < (Int32.ofNat m_)) from (own_notlt (i := 4) (by omega) (by decide)))).2.2.2 (by decide) (by decide) ?_
    refine own_iloadN X0.here hx hby d1_72 rfl ?_
    refine own_iconst X0.here hx hby d1_73 (v := (5 : Int32)) (by decide) ?_
    refine own_icmpYes X0.here hx hby (pc' := 87) d1_74 (flt (show ¬ ((5 : Int32) < (Int32.ofNat m_)) from (own_notlt (i := 5) (by omega) (by decide)))).2.2.2 (by decide) (by decide) ?_
    refine own_iloadN X0.here hx hby d1_87 rfl ?_
    refine own_bipush X0.here hx hby d1_88 (v := (6 : Int32)) (by decide) ?_
    refine own_icmpYes X0.here hx hby (pc' := 105) d1_90 (flt (show ¬ ((6 : Int32) < (Int32.ofNat m_)) from (own_notlt (i := 6) (by omega) (by decide)))).2.2.2 (by decide) (by decide) ?_
    refine own_iloadN X0.here hx hby d1_105 rfl ?_
    refine own_bipush X0.here hx hby d1_106 (v := (7 : Int32)) (by decide) ?_
    refine own_icmpYes X0.here hx hby (pc' := 123) d1_108 (flt (show ¬ ((7 : Int32) < (Int32.ofNat m_)) from (own_notlt (i := 7) (by omega) (by decide)))).2.2.2 (by decide) (by decide) ?_
    have K51 : Keep h0 h0 [a] := (Keep.refl h0 [a])
    obtain ⟨fs, hr, hrun, hended, hW, hsame⟩ := X0.leave (v := none) (fun _ => rfl) Bd.notSynchronized
    refine own_ret (t := s₁.setFrames fs) ?_ ⟨_, hrun, hended, _, _, rfl, ?_, ⟨_, rfl⟩, hW, hsame.mono (by decide) (by decide)⟩
    · exact X0.returnOut hx Bd.returns (hb hby d1_123) hr
    · show Q_put_ Z _ _ _ _ _ _ _ h0 n0 _ s₁.heap _
      rw [e0]
      exact ⟨rfl, N0, K51, (by rw [hM]; exact V2)⟩
theorem ef_strE4 (m : MethodId) (x0 : Nat) (x1 : Nat) (x2 : Int32) (x3 : Int32) : entryFrame m #[(.ref x0), (.ref x1), (.int x2), (.int x3), .null] 6 = mkF m 0 #[.val (.ref x0), .val (.ref x1), .val (.int x2), .val (.int x3), .val .null, .unset] [] := by first | (simp [entryFrame, mkF, argsToLocals, Value.category]; done) | rfl
theorem pn_3 : plainName "java/lang/String" = true := by first | (simp [plainName, overriddenIn]; done) | decide +kernel
theorem d3_0 : decode jdk_42_method_149_code 0 = .ok (.aload_n 0, 1) := by decide +kernel
theorem d3_1 : decode jdk_42_method_149_code 1 = .ok (.invokespecial 1, 3) := by decide +kernel
theorem d3_4 : decode jdk_42_method_149_code 4 = .ok (.iload_n 3, 1) := by decide +kernel
theorem d3_5 : decode jdk_42_method_149_code 5 = .ok (.ifCond .ne 22, 3) := by decide +kernel
theorem d3_8 : decode jdk_42_method_149_code 8 = .ok (.aload_n 0, 1) := by decide +kernel
theorem d3_9 : decode jdk_42_method_149_code 9 = .ok (.ldc 7, 2) := by decide +kernel
theorem d3_11 : decode jdk_42_method_149_code 11 = .ok (.getfield 9, 3) := by decide +kernel
theorem d3_14 : decode jdk_42_method_149_code 14 = .ok (.putfield 9, 3) := by decide +kernel
theorem d3_17 : decode jdk_42_method_149_code 17 = .ok (.aload_n 0, 1) := by decide +kernel
theorem d3_18 : decode jdk_42_method_149_code 18 = .ok (.ldc 7, 2) := by decide +kernel
theorem d3_20 : decode jdk_42_method_149_code 20 = .ok (.getfield 15, 3) := by decide +kernel
theorem d3_23 : decode jdk_42_method_149_code 23 = .ok (.putfield 15, 3) := by decide +kernel
theorem d3_26 : decode jdk_42_method_149_code 26 = .ok (.return_, 1) := by decide +kernel
def Q_strE4 (Z : State) (x : Nat) (b : Nat) (h0 : Heap) (n0 : Nat) (vR : Option Value) (hR : Heap) (LR : List Loc) : Prop := ∃ (t : Nat) (kb : ClassId), vR = none ∧ Fr n0 LR ∧ Keep h0 hR [x] ∧ (Exa Z hR x "java/lang/String") ∧ (Fld Z hR x "java/lang/String" "coder" "B" (.int 0)) ∧ (Fld Z hR x "java/lang/String" "value" "[B" (.ref t)) ∧ (Arv Z hR t kb .byte (0 : Int32) [] (.int 0))
set_option maxRecDepth 65536 in
set_option maxHeartbeats 40000000 in
theorem strE4 (l : Launch) (Z : State) (a0 : Array Value) (hw : ∀ d ∈ tables_1, d.before a0 Z = true) (ws : List Jvm.Cond) (x : Nat) (b : Nat) (h0 : Heap) (n0 : Nat) (Z0 : n0 ≤ h0.size) (E_x : Exa Z h0 x "java/lang/String") (Fv_x : Fld Z h0 x "java/lang/String" "value" "[B" .null) (Fc_x : Fld Z h0 x "java/lang/String" "coder" "B" (.int 0)) (g_x : n0 ≤ x) :
    own_MH l (⟨"java/lang/String", "<init>", "([CIILjava/lang/Void;)V"⟩ : MethodName) jdk_42_method_149_code 6 none ws ({ frames := 1, cells := 4, slots := 8, locals := 12 } : Room) Z #[(.ref x), (.ref b), (.int 0), (.int 0), .null] h0 (Q_strE4 Z x b h0 n0) consts_1 := by
  refine own_bodyH (own := "java/lang/String") rfl (plainFor_of_name pn_3) (fun m => ef_strE4 m x b (0 : Int32) (0 : Int32)) ?_
  intro p e s m below meth c s₁ Bd hml hZ hh hx hby hown X0 e0 hS0 CH0
  have N0 := Fr.nil n0
  have hk0 : h0.size ≤ h0.size := Nat.le_refl _
  have Y0 : Stand p l e ({ frames := 1, cells := 4, slots := 8, locals := 12 } : Room) (s.setVm s.vm) m #[(.ref x), (.ref b), (.int 0), (.int 0), .null] below meth c s₁ [] 0 0 := X0
  have hEL := own_EW hw
  have C0 := CHr.refl CH0
  have lt1 : h0.size > x := E_x.lt
  refine own_aloadN Y0.here hx hby d3_0 rfl rfl ?_
  refine own_initO Y0 hx hZ hown (own_w hw 15 rfl) (own_w hw 16 rfl) (own_w hw 17 rfl) e0 (by rw [hml]; rfl) hby d3_1 (by decide) 0 (Nat.le_of_eq rfl) (by decide) ?_
  intro T2 X2 e2
  refine own_iloadN X2.here hx hby d3_4 rfl ?_
  refine own_ifNo X2.here hx hby d3_5 ((if0 _ _).trans (teq (show (0 : Int32) = (0 : Int32) from (by decide))).2) ?_
  refine own_aloadN X2.here hx hby d3_8 rfl rfl ?_
  have own_wS0 : ∀ a ∈ Bundle.stringAtoms, a.before a0 Z = true := own_wS hw
  refine own_ldcCH X2 hx hZ hEL hown (own_w hw 18 rfl) own_wS0 e2 hS0 (by omega) C0.1 (List.mem_of_getElem? (i := 1) rfl) (vs := []) (z := (0 : Int32)) ⟨by decide, by decide⟩ (by decide) (by decide) hby d3_9 0 (by decide) (by decide) (by decide) (by decide) ?_
  intro a3 T3 h3 kk3 vm3 b3 kb3 X3 e3 E3 hS3 hk3 hZ3 hown3 Ea3 Fc3 Fv3 Va3 la3 lb3 Cn3 ns3
  have z4 : h0.size ≤ h3.size := E3.1
  have C5 := C0.trans Cn3
  have f6 := (E_x.ext E3)
  have f7 := (Fv_x.ext E3)
  have nl3_x := ns3 x (own_safe_null hZ3.alike f6 f7)
  have lt8 : h3.size > a3 := la3
  have lt9 : h3.size > b3 := lb3
  refine own_getF X3 hx hZ3 hown3 (host := "") (Or.inl (own_w hw 24 rfl)) Via.refl e3 Fv3 hby d3_11 ?_
  intro T10 X10 e10
  refine own_putF X10 hx hZ3 (ty := (.array .byte)) hown3 (host := "") (Or.inl (own_w hw 24 rfl)) Via.refl e10 f7 f6 (Or.inr ⟨(own_w hw 20 rfl), rfl, (name_of_methodNamed Bd.named Bd.method).1⟩) (own_w hw 6 rfl) (by decide) rfl rfl hby d3_14 N0 g_x ?_
  intro T11 h11 lo11 X11 e11 N11 W11 F11 z11
  have C12 := C5.trans (CHr.wr W11 (own_safe_null hZ3.alike f6 f7) C5.1)
  refine own_aloadN X11.here hx hby d3_17 rfl rfl ?_
  refine own_ldcCH X11 hx hZ3 hEL hown3 (own_w hw 18 rfl) own_wS0 e11 hS3 (by omega) C12.1 (List.mem_of_getElem? (i := 1) rfl) (vs := []) (z := (0 : Int32)) ⟨by decide, by decide⟩ (by decide) (by decide) hby d3_18 0 (by decide) (by decide) (by decide) (by decide) ?_
  intro a13 T13 h13 kk13 vm13 b13 kb13 X13 e13 E13 hS13 hk13 hZ13 hown13 Ea13 Fc13 Fv13 Va13 la13 lb13 Cn13 ns13
  have z14 : h11.size ≤ h13.size := E13.1
  have C15 := C12.trans Cn13
  have sf16 := (Cn13.safe (own_ll (by omega)) (Safe.wr W11 (own_safe_null hZ3.alike f6 f7) C5.1 (own_safe_null hZ3.alike f6 f7)))
  have nl13_x := ns13 x sf16
  have lt17 : h13.size > a13 := la13
  have lt18 : h13.size > b13 := lb13
  refine own_getF X13 hx hZ13 hown13 (host := "") (Or.inl (own_w hw 25 rfl)) Via.refl e13 Fc13 hby d3_20 ?_
  intro T19 X19 e19
  have f20 := ((f6.wr W11).ext E13)
  have f21 := (((Fc_x.ext E3).other W11 (Or.inr (slot_ne (Or.inr (own_w hw 21 rfl)) (Or.inr (own_w hw 20 rfl)) (by decide) (t := .byte) (t' := (.array .byte)) (by decide) (by decide)))).ext E13)
  refine own_putFN X19 hx hZ13 (ty := .byte) (v' := (.int 0)) hown13 (own_w hw 25 rfl) Via.refl e19 f21 f20 (Or.inr ⟨(own_w hw 21 rfl), rfl, (name_of_methodNamed Bd.named Bd.method).1⟩) (own_w hw 6 rfl) (by decide) rfl rfl hby d3_23 N11 g_x ?_
  intro T22 h22 lo22 X22 e22 N22 W22 F22 z22
  have C23 := C15.trans (CHr.wr W22 sf16 C15.1)
  have K24 : Keep h0 h22 [x] := (((((Keep.refl h0 [x]).ext E3).wr W11 (Or.inl (List.mem_of_getElem? (i := 0) rfl))).ext E13).wr W22 (Or.inl (List.mem_of_getElem? (i := 0) rfl)))
  have f25 := (f20.wr W22)
  have f26 := ((F11.ext E13).other W22 (Or.inr (slot_ne (Or.inr (own_w hw 20 rfl)) (Or.inr (own_w hw 21 rfl)) (by decide) (t := (.array .byte)) (t' := .byte) (by decide) (by decide))))
  have f27 := (((Va3.other W11 (Ne.symm nl3_x.2)).ext E13).other W22 (Ne.symm nl3_x.2))
  obtain ⟨fs, hr, hrun, hended, hRW⟩ := X22.leaveW hS13 (by rw [e22]; omega) (v := none) (fun _ => rfl) Bd.notSynchronized
  have hCf : CHr Z consts_1 s.vm s.heap T22.vm T22.heap := by
    rw [hh, e22]
    exact C23.trans (CHv.at X22 hZ13 hEL C23.1)
  refine own_ret (t := T22.setFrames fs) ?_ ⟨_, hrun, hended, _, _, rfl, ?_, hCf, hRW.1, hRW.2.1, hRW.2.2.1, hRW.2.2.2.mono (by decide) (by decide)⟩
  · exact X22.returnOut hx Bd.returns (hb hby d3_26) hr
  · show Q_strE4 Z _ _ h0 n0 _ T22.heap _
    rw [e22]
    exact ⟨b3, kb3, rfl, N22, K24, f25, F22, f26, f27⟩
theorem ef_strE1 (m : MethodId) (x0 : Nat) (x1 : Nat) : entryFrame m #[(.ref x0), (.ref x1)] 2 = mkF m 0 #[.val (.ref x0), .val (.ref x1)] [] := by first | (simp [entryFrame, mkF, argsToLocals, Value.category]; done) | rfl
theorem pn_2 : plainName "java/lang/String" = true := by first | (simp [plainName, overriddenIn]; done) | decide +kernel
theorem d2_0 : decode jdk_42_method_3_code 0 = .ok (.aload_n 0, 1) := by decide +kernel
theorem d2_1 : decode jdk_42_method_3_code 1 = .ok (.aload_n 1, 1) := by decide +kernel
theorem d2_2 : decode jdk_42_method_3_code 2 = .ok (.iconst 0, 1) := by decide +kernel
theorem d2_3 : decode jdk_42_method_3_code 3 = .ok (.aload_n 1, 1) := by decide +kernel
theorem d2_4 : decode jdk_42_method_3_code 4 = .ok (.arraylength, 1) := by decide +kernel
theorem d2_5 : decode jdk_42_method_3_code 5 = .ok (.aconst_null, 1) := by decide +kernel
theorem d2_6 : decode jdk_42_method_3_code 6 = .ok (.invokespecial 27, 3) := by decide +kernel
theorem pd_24 : parseMethodDescriptor "([CIILjava/lang/Void;)V" = some ⟨[(.array .char), .int, .int, (.object "java/lang/Void")], none⟩ := by decide +kernel
theorem d2_9 : decode jdk_42_method_3_code 9 = .ok (.return_, 1) := by decide +kernel
def Q_strE1 (Z : State) (x : Nat) (b : Nat) (kC : ClassId) (h0 : Heap) (n0 : Nat) (vR : Option Value) (hR : Heap) (LR : List Loc) : Prop := ∃ (t : Nat) (kb : ClassId), vR = none ∧ Fr n0 LR ∧ Keep h0 hR [x] ∧ (Exa Z hR x "java/lang/String") ∧ (Fld Z hR x "java/lang/String" "coder" "B" (.int 0)) ∧ (Fld Z hR x "java/lang/String" "value" "[B" (.ref t)) ∧ (Arv Z hR t kb .byte (0 : Int32) [] (.int 0))
set_option maxRecDepth 65536 in
set_option maxHeartbeats 40000000 in
theorem strE1 (l : Launch) (Z : State) (a0 : Array Value) (hw : ∀ d ∈ tables_1, d.before a0 Z = true) (ws : List Jvm.Cond) (x : Nat) (b : Nat) (kC : ClassId) (h0 : Heap) (n0 : Nat) (Z0 : n0 ≤ h0.size) (E_x : Exa Z h0 x "java/lang/String") (Fv_x : Fld Z h0 x "java/lang/String" "value" "[B" .null) (Fc_x : Fld Z h0 x "java/lang/String" "coder" "B" (.int 0)) (g_x : n0 ≤ x) (V_b : Arv Z h0 b kC .char (0 : Int32) [] (.int 0)) :
    own_MH l (⟨"java/lang/String", "<init>", "([C)V"⟩ : MethodName) jdk_42_method_3_code 2 none ws ({ frames := 2, cells := 4, slots := 8, locals := 29 } : Room) Z #[(.ref x), (.ref b)] h0 (Q_strE1 Z x b kC h0 n0) consts_1 := by
  refine own_bodyH (own := "java/lang/String") rfl (plainFor_of_name pn_2) (fun m => ef_strE1 m x b) ?_
  intro p e s m below meth c s₁ Bd hml hZ hh hx hby hown X0 e0 hS0 CH0
  have N0 := Fr.nil n0
  have hk0 : h0.size ≤ h0.size := Nat.le_refl _
  have Y0 : Stand p l e ({ frames := 2, cells := 4, slots := 8, locals := 29 } : Room) (s.setVm s.vm) m #[(.ref x), (.ref b)] below meth c s₁ [] 0 0 := X0
  have hEL := own_EW hw
  have C0 := CHr.refl CH0
  have lt1 : h0.size > x := E_x.lt
  have lt2 : h0.size > b := V_b.lt
  refine own_aloadN Y0.here hx hby d2_0 rfl rfl ?_
  refine own_aloadN Y0.here hx hby d2_1 rfl rfl ?_
  refine own_iconst Y0.here hx hby d2_2 (v := (0 : Int32)) (by decide) ?_
  refine own_aloadN Y0.here hx hby d2_3 rfl rfl ?_
  refine own_alen Y0 hx hZ e0 V_b hby d2_4 ?_
  refine own_aconstNull Y0.here hx hby d2_5 ?_
  refine own_specialH Y0 hx hZ hEL rfl hown (own_w hw 11 rfl) (own_w hw 12 rfl) (own_w hw 7 rfl) (own_w hw 14 rfl) (by decide) (strE4 l Z a0 hw [] x b h0 n0 Z0 E_x Fv_x Fc_x g_x) 0 (Nat.le_of_eq rfl) (by decide) (by decide) (by rw [hml]; rfl) (argsL := [(.ref b), (.int 0), (.int 0), .null]) (st := []) (a := x) (lenOf pd_24 rfl) rfl rfl (by decide) (by decide) e0 hby C0.1 hS0 (by omega) d2_6 ?_
  intro T3 v3 L3 vm3 X3 hS3 hZ3 hown3 hg3 Cn3 hQ3
  obtain ⟨t_3, kb_3, rfl, Nq3, K3, P3_0, P3_1, P3_2, P3_3⟩ := hQ3
  have N3 := Fr.app N0 Nq3
  have z4 : h0.size ≤ T3.heap.size := K3.1
  have C5 := C0.trans Cn3
  have lt6 : T3.heap.size > x := P3_0.lt
  have lt7 : T3.heap.size > t_3 := P3_3.lt
  refine own_sh (T := T3) 9 #[.val (.ref x), .val (.ref b)] [] ?_
  have K8 : Keep h0 T3.heap [x] := ((Keep.refl h0 [x]).trans K3 (allS (P := fun xq_ => xq_ ∈ [x] ∨ h0.size ≤ xq_) (Or.inl (List.mem_of_getElem? (i := 0) rfl)) all0))
  obtain ⟨fs, hr, hrun, hended, hRW⟩ := X3.leaveW hS3 (by omega) (v := none) (fun _ => rfl) Bd.notSynchronized
  have hCf : CHr Z consts_1 s.vm s.heap T3.vm T3.heap := by
    rw [hh]
    exact C5.trans (CHv.at X3 hZ3 hEL C5.1)
  refine own_ret (t := T3.setFrames fs) ?_ ⟨_, hrun, hended, _, _, rfl, ?_, hCf, hRW.1, hRW.2.1, hRW.2.2.1, hRW.2.2.2.mono (by decide) (by decide)⟩
  · exact X3.returnOut hx Bd.returns (hb hby d2_9) hr
  · show Q_strE1 Z _ _ _ h0 n0 _ T3.heap _
    exact ⟨t_3, kb_3, rfl, N3, K8, P3_0, P3_1, P3_2, P3_3⟩
theorem ef_canEnc (m : MethodId) (x0 : Int32) : entryFrame m #[(.int x0)] 1 = mkF m 0 #[.val (.int x0)] [] := by first | (simp [entryFrame, mkF, argsToLocals, Value.category]; done) | rfl
theorem pn_9 : plainName "java/lang/StringLatin1" = true := by first | (simp [plainName, overriddenIn]; done) | decide +kernel
theorem d9_0 : decode jdk_43_method_3_code 0 = .ok (.iload_n 0, 1) := by decide +kernel
theorem d9_1 : decode jdk_43_method_3_code 1 = .ok (.sipush 255, 3) := by decide +kernel
theorem d9_4 : decode jdk_43_method_3_code 4 = .ok (.if_icmp .gt 7, 3) := by decide +kernel
theorem d9_7 : decode jdk_43_method_3_code 7 = .ok (.iconst 1, 1) := by decide +kernel
theorem d9_8 : decode jdk_43_method_3_code 8 = .ok (.goto 4, 3) := by decide +kernel
theorem d9_12 : decode jdk_43_method_3_code 12 = .ok (.ireturn, 1) := by decide +kernel
def Q_canEnc (Z : State) (ch : Int32) (h0 : Heap) (n0 : Nat) (vR : Option Value) (hR : Heap) (LR : List Loc) : Prop := vR = some (.int 1) ∧ Fr n0 LR ∧ hR = h0
set_option maxRecDepth 65536 in
set_option maxHeartbeats 40000000 in
theorem canEnc (l : Launch) (Z : State) (a0 : Array Value) (hw : ∀ d ∈ tables_1, d.before a0 Z = true) (ws : List Jvm.Cond) (ch : Int32) (h0 : Heap) (n0 : Nat) (Z0 : n0 ≤ h0.size) (hc : ¬ ((255 : Int32) < ch)) :
    own_M l (⟨"java/lang/StringLatin1", "canEncode", "(C)Z"⟩ : MethodName) jdk_43_method_3_code 1 (some .boolean) ws ({ frames := 0, cells := 0, slots := 0, locals := 0 } : Room) Z #[(.int ch)] h0 (Q_canEnc Z ch h0 n0) := by
  refine own_body (own := "java/lang/StringLatin1") rfl (plainFor_of_name pn_9) (fun m => ef_canEnc m ch) ?_
  intro p e s m below meth c s₁ Bd hml hZ hh hx hby hown X0 e0
  have N0 := Fr.nil n0
  refine own_iloadN X0.here hx hby d9_0 rfl ?_
  refine own_sipush X0.here hx hby d9_1 (v := (255 : Int32)) (by decide) ?_
  refine own_icmpNo X0.here hx hby d9_4 (flt hc).2.2.1 ?_
  refine own_iconst X0.here hx hby d9_7 (v := (1 : Int32)) (by decide) ?_
  refine own_goto X0.here hx hby (pc' := 12) d9_8 (by decide) (by decide) ?_
  obtain ⟨fs, hr, hrun, hended, hW, hsame⟩ := X0.leave (v := some (.int 1)) (fun h => by rw [Bd.returns] at h; cases h) Bd.notSynchronized
  refine own_ret (t := s₁.setFrames fs) ?_ ⟨_, hrun, hended, _, _, rfl, ?_, ⟨_, rfl⟩, hW, hsame.mono (by decide) (by decide)⟩
  · exact retN X0 hx (t := .boolean) Bd.returns (by simp) (hb hby d9_12) hr
  · show Q_canEnc Z _ h0 n0 _ s₁.heap _
    rw [e0]
    exact ⟨rfl, N0, rfl⟩
theorem ef_toBy1 (m : MethodId) (x0 : Int32) : entryFrame m #[(.int x0)] 1 = mkF m 0 #[.val (.int x0)] [] := by first | (simp [entryFrame, mkF, argsToLocals, Value.category]; done) | rfl
theorem pn_10 : plainName "java/lang/StringLatin1" = true := by first | (simp [plainName, overriddenIn]; done) | decide +kernel
theorem d10_0 : decode jdk_43_method_46_code 0 = .ok (.iconst 1, 1) := by decide +kernel
theorem d10_1 : decode jdk_43_method_46_code 1 = .ok (.newarray .byte, 2) := by decide +kernel
theorem d10_3 : decode jdk_43_method_46_code 3 = .ok (.dup, 1) := by decide +kernel
theorem d10_4 : decode jdk_43_method_46_code 4 = .ok (.iconst 0, 1) := by decide +kernel
theorem d10_5 : decode jdk_43_method_46_code 5 = .ok (.iload_n 0, 1) := by decide +kernel
theorem d10_6 : decode jdk_43_method_46_code 6 = .ok (.i2b, 1) := by decide +kernel
theorem d10_7 : decode jdk_43_method_46_code 7 = .ok (.bastore, 1) := by decide +kernel
theorem d10_8 : decode jdk_43_method_46_code 8 = .ok (.areturn, 1) := by decide +kernel
def Q_toBy1 (Z : State) (ch : Int32) (h0 : Heap) (n0 : Nat) (vR : Option Value) (hR : Heap) (LR : List Loc) : Prop := ∃ (t : Nat) (kb : ClassId), vR = some (.ref t) ∧ Fr n0 LR ∧ Keep h0 hR [] ∧ h0.size ≤ t ∧ (Arv Z hR t kb .byte (1 : Int32) [(.int (ch.toInt8.toInt32))] (.int 0))
set_option maxRecDepth 65536 in
set_option maxHeartbeats 40000000 in
theorem toBy1 (l : Launch) (Z : State) (a0 : Array Value) (hw : ∀ d ∈ tables_1, d.before a0 Z = true) (ws : List Jvm.Cond) (ch : Int32) (h0 : Heap) (n0 : Nat) (Z0 : n0 ≤ h0.size)  :
    own_M l (⟨"java/lang/StringLatin1", "toBytes", "(C)[B"⟩ : MethodName) jdk_43_method_46_code 1 (some (.array .byte)) ws ({ frames := 0, cells := 1, slots := 1, locals := 0 } : Room) Z #[(.int ch)] h0 (Q_toBy1 Z ch h0 n0) := by
  refine own_body (own := "java/lang/StringLatin1") rfl (plainFor_of_name pn_10) (fun m => ef_toBy1 m ch) ?_
  intro p e s m below meth c s₁ Bd hml hZ hh hx hby hown X0 e0
  have N0 := Fr.nil n0
  refine own_iconst X0.here hx hby d10_0 (v := (1 : Int32)) (by decide) ?_
  refine own_newP X0 hx hZ (aty := .byte) (own_w hw 19 rfl) e0 hby d10_1 (by decide) 1 (by decide) (by decide) (by decide) (by decide) (ad := "[B") (by decide) ?_
  intro T1 h1 k1 b1 X1 e1 E1 g1 V1 C1 lt1
  have z2 : h0.size ≤ h1.size := E1.1
  have V3 : Arv Z h1 b1 k1 .byte (1 : Int32) [(.int 0)] (.int 0) := V1.pad (pad_rep [] (.int 0) 1)
  refine own_dup X1.here hx hby d10_3 rfl ?_
  refine own_iconst X1.here hx hby d10_4 (v := (0 : Int32)) (by decide) ?_
  refine own_iloadN X1.here hx hby d10_5 rfl ?_
  refine own_i2b X1.here hx hby d10_6 rfl ?_
  refine own_bastore X1 hx hZ e1 V3 ⟨by decide, by decide⟩ 0 (by decide) (Nat.le_of_ble_eq_true rfl) (w := (.int (ch.toInt8.toInt32))) (congrArg Value.int (own_i2bb ch)) hby d10_7 N0 (by omega) ?_
  intro T4 h4 lo4 X4 e4 N4 W4 V4 z4
  have V5 : Arv Z h4 b1 k1 .byte (1 : Int32) [(.int (ch.toInt8.toInt32))] (.int 0) := V4
  have K6 : Keep h0 h4 [] := (((Keep.refl h0 []).ext E1).wr W4 (Or.inr (by omega)))
  obtain ⟨fs, hr, hrun, hended, hW, hsame⟩ := X4.leave (v := some (.ref b1)) (fun h => by rw [Bd.returns] at h; cases h) Bd.notSynchronized
  refine own_ret (t := T4.setFrames fs) ?_ ⟨_, hrun, hended, _, _, rfl, ?_, ⟨_, rfl⟩, hW, hsame.mono (by decide) (by decide)⟩
  · exact retOut X4 hx Bd.returns rfl (Or.inr (Or.inr (Or.inr (Or.inr ⟨rfl, rfl, rfl⟩)))) (hb hby d10_8) hr
  · show Q_toBy1 Z _ h0 n0 _ T4.heap _
    rw [e4]
    exact ⟨b1, k1, rfl, N4, K6, (by omega), V5⟩
def Q_bbInit (Z : State) (x : Nat) (t : Nat) (h0 : Heap) (n0 : Nat) (vR : Option Value) (hR : Heap) (LR : List Loc) : Prop := vR = none ∧ Fr n0 LR ∧ Keep h0 hR [x] ∧ (Exa Z hR x "java/lang/String") ∧ (Fld Z hR x "java/lang/String" "value" "[B" (.ref t)) ∧ (Fld Z hR x "java/lang/String" "coder" "B" (.int 0))
set_option maxRecDepth 65536 in
set_option maxHeartbeats 40000000 in
theorem bbInit (l : Launch) (Z : State) (a0 : Array Value) (hw : ∀ d ∈ tables_1, d.before a0 Z = true) (ws : List Jvm.Cond) (x : Nat) (t : Nat) (h0 : Heap) (n0 : Nat) (Z0 : n0 ≤ h0.size) (E_x : Exa Z h0 x "java/lang/String") (Fv_x : Fld Z h0 x "java/lang/String" "value" "[B" .null) (Fc_x : Fld Z h0 x "java/lang/String" "coder" "B" (.int 0)) (g_x : n0 ≤ x) :
    own_M l (⟨"java/lang/String", "<init>", "([BB)V"⟩ : MethodName) jdk_42_method_151_code 3 none ws ({ frames := 1, cells := 0, slots := 0, locals := 12 } : Room) Z #[(.ref x), (.ref t), (.int 0)] h0 (Q_bbInit Z x t h0 n0) := by
  refine own_body (own := "java/lang/String") rfl (plainFor_of_name pn_11) (fun m => ef_bbInitB m x t (0 : Int32)) ?_
  intro p e s m below meth c s₁ Bd hml hZ hh hx hby hown X0 e0
  have N0 := Fr.nil n0
  have lt1 : h0.size > x := E_x.lt
  refine own_aloadN X0.here hx hby d11_0 rfl rfl ?_
  refine own_initO X0 hx hZ hown (own_w hw 15 rfl) (own_w hw 16 rfl) (own_w hw 17 rfl) e0 (by rw [hml]; rfl) hby d11_1 (by decide) 0 (Nat.le_of_eq rfl) (by decide) ?_
  intro T2 X2 e2
  refine own_aloadN X2.here hx hby d11_4 rfl rfl ?_
  refine own_aloadN X2.here hx hby d11_5 rfl rfl ?_
  refine own_putF X2 hx hZ (ty := (.array .byte)) hown (host := "") (Or.inl (own_w hw 24 rfl)) Via.refl e2 Fv_x E_x (Or.inr ⟨(own_w hw 20 rfl), rfl, (name_of_methodNamed Bd.named Bd.method).1⟩) (own_w hw 6 rfl) (by decide) rfl rfl hby d11_6 N0 g_x ?_
  intro T3 h3 lo3 X3 e3 N3 W3 F3 z3
  refine own_aloadN X3.here hx hby d11_9 rfl rfl ?_
  refine own_iloadN X3.here hx hby d11_10 rfl ?_
  have f4 := (E_x.wr W3)
  have f5 := (Fc_x.other W3 (Or.inr (slot_ne (Or.inr (own_w hw 21 rfl)) (Or.inr (own_w hw 20 rfl)) (by decide) (t := .byte) (t' := (.array .byte)) (by decide) (by decide))))
  refine own_putFN X3 hx hZ (ty := .byte) (v' := (.int 0)) hown (own_w hw 25 rfl) Via.refl e3 f5 f4 (Or.inr ⟨(own_w hw 21 rfl), rfl, (name_of_methodNamed Bd.named Bd.method).1⟩) (own_w hw 6 rfl) (by decide) rfl rfl hby d11_11 N3 g_x ?_
  intro T6 h6 lo6 X6 e6 N6 W6 F6 z6
  have K7 : Keep h0 h6 [x] := (((Keep.refl h0 [x]).wr W3 (Or.inl (List.mem_of_getElem? (i := 0) rfl))).wr W6 (Or.inl (List.mem_of_getElem? (i := 0) rfl)))
  have f8 := (f4.wr W6)
  have f9 := (F3.other W6 (Or.inr (slot_ne (Or.inr (own_w hw 20 rfl)) (Or.inr (own_w hw 21 rfl)) (by decide) (t := (.array .byte)) (t' := .byte) (by decide) (by decide))))
  obtain ⟨fs, hr, hrun, hended, hW, hsame⟩ := X6.leave (v := none) (fun _ => rfl) Bd.notSynchronized
  refine own_ret (t := T6.setFrames fs) ?_ ⟨_, hrun, hended, _, _, rfl, ?_, ⟨_, rfl⟩, hW, hsame.mono (by decide) (by decide)⟩
  · exact X6.returnOut hx Bd.returns (hb hby d11_14) hr
  · show Q_bbInit Z _ _ h0 n0 _ T6.heap _
    rw [e6]
    exact ⟨rfl, N6, K7, f8, f9, F6⟩
theorem ef_valOf (m : MethodId) (x0 : Int32) : entryFrame m #[(.int x0)] 1 = mkF m 0 #[.val (.int x0)] [] := by first | (simp [entryFrame, mkF, argsToLocals, Value.category]; done) | rfl
theorem pn_8 : plainName "java/lang/String" = true := by first | (simp [plainName, overriddenIn]; done) | decide +kernel
theorem d8_0 : decode jdk_42_method_139_code 0 = .ok (.getstatic 38, 3) := by decide +kernel
theorem d8_3 : decode jdk_42_method_139_code 3 = .ok (.ifCond .eq 23, 3) := by decide +kernel
theorem d8_6 : decode jdk_42_method_139_code 6 = .ok (.iload_n 0, 1) := by decide +kernel
theorem d8_7 : decode jdk_42_method_139_code 7 = .ok (.invokestatic 1015, 3) := by decide +kernel
theorem pd_25 : parseMethodDescriptor "(C)Z" = some ⟨[.char], some .boolean⟩ := by decide +kernel
theorem d8_10 : decode jdk_42_method_139_code 10 = .ok (.ifCond .eq 16, 3) := by decide +kernel
theorem d8_13 : decode jdk_42_method_139_code 13 = .ok (.new 10, 3) := by decide +kernel
theorem d8_16 : decode jdk_42_method_139_code 16 = .ok (.dup, 1) := by decide +kernel
theorem d8_17 : decode jdk_42_method_139_code 17 = .ok (.iload_n 0, 1) := by decide +kernel
theorem d8_18 : decode jdk_42_method_139_code 18 = .ok (.invokestatic 1018, 3) := by decide +kernel
theorem pd_26 : parseMethodDescriptor "(C)[B" = some ⟨[.char], some (.array .byte)⟩ := by decide +kernel
theorem d8_21 : decode jdk_42_method_139_code 21 = .ok (.iconst 0, 1) := by decide +kernel
theorem d8_22 : decode jdk_42_method_139_code 22 = .ok (.invokespecial 209, 3) := by decide +kernel
theorem d8_25 : decode jdk_42_method_139_code 25 = .ok (.areturn, 1) := by decide +kernel
def Q_valOf (Z : State) (ch : Int32) (zc : Int32) (h0 : Heap) (n0 : Nat) (vR : Option Value) (hR : Heap) (LR : List Loc) : Prop := ∃ (x : Nat) (t : Nat) (kb : ClassId), vR = some (.ref x) ∧ Fr n0 LR ∧ Keep h0 hR [] ∧ h0.size ≤ x ∧ h0.size ≤ t ∧ (x < t) ∧ (Exa Z hR x "java/lang/String") ∧ (Fld Z hR x "java/lang/String" "coder" "B" (.int 0)) ∧ (Fld Z hR x "java/lang/String" "value" "[B" (.ref t)) ∧ (Arv Z hR t kb .byte (1 : Int32) [(.int (ch.toInt8.toInt32))] (.int 0))
set_option maxRecDepth 65536 in
set_option maxHeartbeats 40000000 in
theorem valOf (l : Launch) (Z : State) (a0 : Array Value) (hw : ∀ d ∈ tables_1, d.before a0 Z = true) (ws : List Jvm.Cond) (ch : Int32) (zc : Int32) (h0 : Heap) (n0 : Nat) (Z0 : n0 ≤ h0.size) (S_C : Sta Z h0 "java/lang/String" "COMPACT_STRINGS" "Z" (.int zc)) (hz : ¬ (zc = (0 : Int32))) (hc : ¬ ((255 : Int32) < ch)) :
    own_M l (⟨"java/lang/String", "valueOf", "(C)Ljava/lang/String;"⟩ : MethodName) jdk_42_method_139_code 1 (some (.object "java/lang/String")) ws ({ frames := 2, cells := 2, slots := 5, locals := 27 } : Room) Z #[(.int ch)] h0 (Q_valOf Z ch zc h0 n0) := by
  refine own_body (own := "java/lang/String") rfl (plainFor_of_name pn_8) (fun m => ef_valOf m ch) ?_
  intro p e s m below meth c s₁ Bd hml hZ hh hx hby hown X0 e0
  have N0 := Fr.nil n0
  refine own_getS X0 hx hZ hown (host := "") (Or.inl (own_w hw 26 rfl)) Via.refl e0 S_C hby d8_0 ?_
  intro T1 X1 e1
  refine own_ifNo X1.here hx hby d8_3 ((if0 _ _).trans (feq hz).1) ?_
  refine own_iloadN X1.here hx hby d8_6 rfl ?_
  refine own_callS X1 hx hZ hown (own_w hw 43 rfl) (own_w hw 44 rfl) (own_w hw 45 rfl) (own_w hw 46 rfl) (by decide) (canEnc l Z a0 hw [] ch h0 n0 Z0 hc) 0 (Nat.le_of_eq rfl) (by decide) (by decide) (by rw [hml]; rfl) (argsL := [(.int ch)]) (st := []) (lenOf pd_25 rfl) rfl rfl (by decide) (by decide) e1 hby d8_7 ?_
  intro T2 v2 L2 X2 hQ2
  obtain ⟨rfl, Nq2, eh2⟩ := hQ2
  have N2 := Fr.app N0 Nq2
  refine own_sh (T := T2) 10 #[.val (.int ch)] [(.int 1)] ?_
  refine own_ifNo X2.here hx hby d8_10 ((if0 _ _).trans (feq (show ¬ ((1 : Int32) = (0 : Int32)) from (by decide))).1) ?_
  refine own_newO X2 hx hZ hown (own_w hw 47 rfl) (own_w hw 6 rfl) (own_w hw 7 rfl) eh2 hby d8_13 (by decide) (by decide) ?_
  intro T3 h3 b3 X3 e3 E3 g3 A3 D3 lt3
  have z4 : h0.size ≤ h3.size := E3.1
  have F5 : Fld Z h3 b3 "java/lang/String" "value" "[B" .null := D3 (Or.inr (own_w hw 20 rfl)) (ty := (.array .byte)) (by decide)
  have F6 : Fld Z h3 b3 "java/lang/String" "coder" "B" (.int 0) := D3 (Or.inr (own_w hw 21 rfl)) (ty := .byte) (by decide)
  refine own_dup X3.here hx hby d8_16 rfl ?_
  refine own_iloadN X3.here hx hby d8_17 rfl ?_
  have z8 : n0 ≤ h3.size := by omega
  refine own_callS X3 hx hZ hown (own_w hw 48 rfl) (own_w hw 49 rfl) (own_w hw 45 rfl) (own_w hw 50 rfl) (by decide) (toBy1 l Z a0 hw [] ch h3 n0 z8 ) 2 (Nat.le_of_eq rfl) (by decide) (by decide) (by rw [hml]; rfl) (argsL := [(.int ch)]) (st := [(.ref b3), (.ref b3)]) (lenOf pd_26 rfl) rfl rfl (by decide) (by decide) e3 hby d8_18 ?_
  intro T7 v7 L7 X7 hQ7
  obtain ⟨t_7, kb_7, rfl, Nq7, K7, P7_0, P7_1⟩ := hQ7
  have N7 := Fr.app N2 Nq7
  have z9 : h3.size ≤ T7.heap.size := K7.1
  have lt10 : T7.heap.size > t_7 := P7_1.lt
  refine own_sh (T := T7) 21 #[.val (.int ch)] [(.ref t_7), (.ref b3), (.ref b3)] ?_
  refine own_iconst X7.here hx hby d8_21 (v := (0 : Int32)) (by decide) ?_
  have f11 := (A3.keep K7)
  have f12 := (F5.keep K7 nin0)
  have f13 := (F6.keep K7 nin0)
  have z15 : n0 ≤ T7.heap.size := by omega
  refine own_special X7 hx hZ rfl hown (own_w hw 51 rfl) (own_w hw 52 rfl) (own_w hw 7 rfl) (own_w hw 53 rfl) (by decide) (bbInit l Z a0 hw [] b3 t_7 T7.heap n0 z15 f11 f12 f13 (by omega)) 1 (Nat.le_of_eq rfl) (by decide) (by decide) (by rw [hml]; rfl) (argsL := [(.ref t_7), (.int 0)]) (st := [(.ref b3)]) (a := b3) (lenOf pd_15 rfl) rfl rfl (by decide) (by decide) rfl hby d8_22 ?_
  intro T14 v14 L14 X14 hQ14
  obtain ⟨rfl, Nq14, K14, P14_0, P14_1, P14_2⟩ := hQ14
  have N14 := Fr.app N7 Nq14
  have z16 : T7.heap.size ≤ T14.heap.size := K14.1
  have lt17 : T14.heap.size > b3 := P14_0.lt
  refine own_sh (T := T14) 25 #[.val (.int ch)] [(.ref b3)] ?_
  have K18 : Keep h0 T14.heap [] := ((((Keep.refl h0 []).ext E3).trans K7 all0).trans K14 (allS (P := fun xq_ => xq_ ∈ [] ∨ h0.size ≤ xq_) (Or.inr (by omega)) all0))
  have f19 := (P7_1.keep K14 (ninS (own_nn (by omega)) nin0))
  obtain ⟨fs, hr, hrun, hended, hW, hsame⟩ := X14.leave (v := some (.ref b3)) (fun h => by rw [Bd.returns] at h; cases h) Bd.notSynchronized
  refine own_ret (t := T14.setFrames fs) ?_ ⟨_, hrun, hended, _, _, rfl, ?_, ⟨_, rfl⟩, hW, hsame.mono (by decide) (by decide)⟩
  · exact retOut X14 hx Bd.returns rfl (Or.inr (Or.inr (Or.inr (Or.inr ⟨rfl, rfl, rfl⟩)))) (hb hby d8_25) hr
  · show Q_valOf Z _ _ h0 n0 _ T14.heap _
    exact ⟨b3, t_7, kb_7, rfl, N14, K18, (by omega), (by omega), (by first | decide | omega | assumption), P14_0, P14_2, P14_1, f19⟩
theorem ef_rm0 (m : MethodId) (x0 : Int32) (x1 : Int64) (x2 : Int64) (x3 : Int32) : entryFrame m #[(.int x0), (.long x1), (.long x2), (.int x3)] maxLocals = mkF m 0 #[.val (.int x0), .val (.long x1), .second, .val (.long x2), .second, .val (.int x3), .unset, .unset, .unset, .unset, .unset, .unset, .unset, .unset, .unset, .unset] [] := by first | (simp [entryFrame, mkF, argsToLocals, Value.category, maxLocals]; done) | rfl
theorem pn_0 : plainName "com/example/undercroft/undercroft/store/UriSpacePathOfPinLaw" = true := by first | (simp [plainName, overriddenIn]; done) | decide +kernel
theorem pd_27 : parseMethodDescriptor "([CIIJ)V" = some ⟨[(.array .char), .int, .int, .long], none⟩ := by decide +kernel
theorem pd_28 : parseMethodDescriptor "([C)V" = some ⟨[(.array .char)], none⟩ := by decide +kernel
theorem pd_29 : parseMethodDescriptor "(C)Ljava/lang/String;" = some ⟨[.char], some (.object "java/lang/String")⟩ := by decide +kernel
theorem pd_30 : parseMethodDescriptor "(Ljava/lang/String;Ljava/lang/String;)V" = some ⟨[(.object "java/lang/String"), (.object "java/lang/String")], none⟩ := by decide +kernel
theorem pd_31 : parseMethodDescriptor "(Ljava/lang/String;)Ljava/lang/String;" = some ⟨[(.object "java/lang/String")], some (.object "java/lang/String")⟩ := by decide +kernel
theorem pd_32 : parseMethodDescriptor "(Ljava/lang/Object;)Z" = some ⟨[(.object "java/lang/Object")], some .boolean⟩ := by decide +kernel
def Q_rm0 (Z : State) (p1 : Int32) (p2 : Int64) (p3 : Int64) (p4 : Int32) (zc : Int32) (fm : Value) (h0 : Heap) (n0 : Nat) (vR : Option Value) (hR : Heap) (LR : List Loc) : Prop := vR = some (.int 1) ∧ Fr n0 LR ∧ True
set_option maxRecDepth 65536 in
set_option maxHeartbeats 40000000 in
theorem rm0 (l : Launch) (Z : State) (a0 : Array Value) (hw : ∀ d ∈ tables_1, d.before a0 Z = true) (ws : List Jvm.Cond) (p1 : Int32) (p2 : Int64) (p3 : Int64) (p4 : Int32) (zc : Int32) (fm : Value) (h0 : Heap) (n0 : Nat) (Z0 : n0 ≤ h0.size) (S_C : Sta Z h0 "java/lang/String" "COMPACT_STRINGS" "Z" (.int zc)) (hz : ¬ (zc = (0 : Int32))) (S_FM : Sta Z h0 "jdk/internal/util/Preconditions" "SIOOBE_FORMATTER" "Ljava/util/function/BiFunction;" fm) (hfm : fm.isRef = true) :
    own_MH l x code maxLocals ret ws room_1 Z #[(.int p1), (.long p2), (.long p3), (.int p4)] h0 (Q_rm0 Z p1 p2 p3 p4 zc fm h0 n0) consts_1 := by
  refine own_bodyH (own := "com/example/undercroft/undercroft/store/UriSpacePathOfPinLaw") rfl (plainFor_of_name pn_0) (fun m => ef_rm0 m p1 p2 p3 p4) ?_
  intro p e s m below meth c s₁ Bd hml hZ hh hx hby hown X0 e0 hS0 CH0
  have N0 := Fr.nil n0
  have hk0 : h0.size ≤ h0.size := Nat.le_refl _
  have Y0 : Stand p l e room_1 (s.setVm s.vm) m #[(.int p1), (.long p2), (.long p3), (.int p4)] below meth c s₁ [] 0 0 := X0
  have hEL := own_EW hw
  have C0 := CHr.refl CH0
  refine own_iloadN Y0.here hx hby at_0 rfl ?_
  refine own_bipush Y0.here hx hby at_1 (v := (7 : Int32)) (by decide) ?_
  refine own_iand Y0.here hx hby at_3 rfl ?_
  refine own_sh (T := s₁) 4 #[.val (.int p1), .val (.long p2), .second, .val (.long p3), .second, .val (.int p4), .unset, .unset, .unset, .unset, .unset, .unset, .unset, .unset, .unset, .unset] [(.int (p1 &&& (7 : Int32)))] ?_
  obtain ⟨pn, hpn, epn⟩ := own_and7N p1
  rw [epn]
  refine own_istore Y0.here hx hby at_4 (l' := #[.val (.int p1), .val (.long p2), .second, .val (.long p3), .second, .val (.int p4), .val (.int (Int32.ofNat pn)), .unset, .unset, .unset, .unset, .unset, .unset, .unset, .unset, .unset]) rfl ?_
  refine own_iloadN Y0.here hx hby at_6 rfl ?_
  refine own_iconst Y0.here hx hby at_7 (v := (3 : Int32)) (by decide) ?_
  refine own_iushr Y0.here hx hby at_8 rfl ?_
  refine own_bipush Y0.here hx hby at_9 (v := (7 : Int32)) (by decide) ?_
  refine own_iand Y0.here hx hby at_11 rfl ?_
  refine own_sh (T := s₁) 12 #[.val (.int p1), .val (.long p2), .second, .val (.long p3), .second, .val (.int p4), .val (.int (Int32.ofNat pn)), .unset, .unset, .unset, .unset, .unset, .unset, .unset, .unset, .unset] [(.int (((p1.toUInt32 >>> ((3 : Int32) &&& 31).toUInt32).toInt32) &&& (7 : Int32)))] ?_
  obtain ⟨sn, hsn, esn⟩ := own_and7N ((p1.toUInt32 >>> ((3 : Int32) &&& 31).toUInt32).toInt32)
  rw [esn]
  refine own_istore Y0.here hx hby at_12 (l' := #[.val (.int p1), .val (.long p2), .second, .val (.long p3), .second, .val (.int p4), .val (.int (Int32.ofNat pn)), .val (.int (Int32.ofNat sn)), .unset, .unset, .unset, .unset, .unset, .unset, .unset, .unset]) rfl ?_
  have hPl := own_csL p2 pn
  have hSl := own_csL p3 sn
  refine own_sh (T := s₁) 14 #[.val (.int p1), .val (.long p2), .second, .val (.long p3), .second, .val (.int p4), .val (.int (Int32.ofNat pn)), .val (.int (Int32.ofNat sn)), .unset, .unset, .unset, .unset, .unset, .unset, .unset, .unset] [] ?_
  by_cases hp0 : pn = 0
  · refine own_sh (T := s₁) 14 #[.val (.int p1), .val (.long p2), .second, .val (.long p3), .second, .val (.int p4), .val (.int (Int32.ofNat pn)), .val (.int (Int32.ofNat sn)), .unset, .unset, .unset, .unset, .unset, .unset, .unset, .unset] [] ?_
    by_cases hs0 : sn = 0
    · refine own_iload Y0.here hx hby at_14 rfl ?_
      refine own_newP Y0 hx hZ (aty := .char) (own_w hw 0 rfl) e0 hby at_16 (own_n0 (by omega)) 15 (by rw [own_nC (by omega)]; omega) (by decide) (by decide) (by decide) (ad := "[C") (by decide) ?_
      intro T5 h5 k5 b5 X5 e5 E5 g5 V5 C5 lt5
      have z6 : h0.size ≤ h5.size := E5.1
      have C7 := C0.trans (CHr.ext E5 C0.1)
      have V8 : Arv Z h5 b5 k5 .char (Int32.ofNat pn) [] (.int 0) := V5
      refine own_astore X5.here hx hby at_18 rfl (l' := #[.val (.int p1), .val (.long p2), .second, .val (.long p3), .second, .val (.int p4), .val (.int (Int32.ofNat pn)), .val (.int (Int32.ofNat sn)), .val (.ref b5), .unset, .unset, .unset, .unset, .unset, .unset, .unset]) rfl ?_
      have V9 : Arv Z h5 b5 k5 .char (Int32.ofNat pn) (List.replicate pn (.int 0)) (.int 0) := V8.pad own_pad0
      refine own_aload X5.here hx hby at_20 rfl rfl ?_
      refine own_iconst X5.here hx hby at_22 (v := (0 : Int32)) (by decide) ?_
      refine own_sh (T := T5) 23 #[.val (.int p1), .val (.long p2), .second, .val (.long p3), .second, .val (.int p4), .val (.int (Int32.ofNat pn)), .val (.int (Int32.ofNat sn)), .val (.ref b5), .unset, .unset, .unset, .unset, .unset, .unset, .unset] [(.int 0), (.ref b5)] ?_
      refine own_sh (T := T5) 23 #[.val (.int p1), .val (.long p2), .second, .val (.long p3), .second, .val (.int p4), .val (.int (Int32.ofNat pn)), .val (.int (Int32.ofNat sn)), .val (.ref b5), .unset, .unset, .unset, .unset, .unset, .unset, .unset] [(.int (Int32.ofNat 0)), (.ref b5)] ?_
      refine own_iload X5.here hx hby at_23 rfl ?_
      refine own_lloadN X5.here hx hby at_25 rfl ?_
      have z11 : n0 ≤ h5.size := by omega
      refine own_callS X5 hx hZ hown (own_w hw 1 rfl) (own_w hw 2 rfl) (own_w hw 3 rfl) (own_w hw 4 rfl) (by decide) (put_ l Z a0 hw [] b5 k5 0 pn pn (List.replicate pn (.int 0)) p2 h5 n0 z11 V9 (by omega) hpn (by omega) (List.length_replicate) (by omega)) 0 (Nat.le_of_eq rfl) (by decide) (by decide) (by rw [hml]; rfl) (argsL := [(.ref b5), (.int (Int32.ofNat 0)), (.int (Int32.ofNat pn)), (.long p2)]) (st := []) (lenOf pd_27 rfl) rfl rfl (by decide) (by decide) e5 hby at_26 ?_
      intro T10 v10 L10 X10 hQ10
      obtain ⟨rfl, Nq10, K10, P10_0⟩ := hQ10
      have N10 := Fr.app N0 Nq10
      have z12 : h5.size ≤ T10.heap.size := K10.1
      have C13 := C7.trans (CHr.keep K10 (sfS (Safe.exa hZ.alike C5 (by decide) (by decide)) sf0) C7.1)
      have lt14 : T10.heap.size > b5 := P10_0.lt
      refine own_sh (T := T10) 29 #[.val (.int p1), .val (.long p2), .second, .val (.long p3), .second, .val (.int p4), .val (.int (Int32.ofNat pn)), .val (.int (Int32.ofNat sn)), .val (.ref b5), .unset, .unset, .unset, .unset, .unset, .unset, .unset] [] ?_
      refine own_newO X10 hx hZ hown (own_w hw 5 rfl) (own_w hw 6 rfl) (own_w hw 7 rfl) rfl hby at_29 (by decide) (by decide) ?_
      intro T15 h15 b15 X15 e15 E15 g15 A15 D15 lt15
      have z16 : T10.heap.size ≤ h15.size := E15.1
      have C17 := C13.trans (CHr.ext E15 C13.1)
      have F18 : Fld Z h15 b15 "java/lang/String" "value" "[B" .null := D15 (Or.inr (own_w hw 20 rfl)) (ty := (.array .byte)) (by decide)
      have F19 : Fld Z h15 b15 "java/lang/String" "coder" "B" (.int 0) := D15 (Or.inr (own_w hw 21 rfl)) (ty := .byte) (by decide)
      refine own_dup X15.here hx hby at_32 rfl ?_
      refine own_aload X15.here hx hby at_33 rfl rfl ?_
      have f20 := (P10_0.ext E15)
      have V21 : Arv Z h15 b5 k5 .char (Int32.ofNat (own_cs p2 pn).length) ((own_cs p2 pn).map Value.int) (.int 0) := by
        have q := f20
        rw [own_rep1 hPl] at q
        rw [show (Int32.ofNat pn) = Int32.ofNat (own_cs p2 pn).length from by rw [hPl]] at q
        exact q
      have V22 : Arv Z h15 b5 k5 .char (0 : Int32) [] (.int 0) := by
        have q := V21
        rw [hp0] at q
        exact q
      have z24 : n0 ≤ h15.size := by omega
      refine own_specialH X15 hx hZ hEL rfl hown (own_w hw 8 rfl) (own_w hw 9 rfl) (own_w hw 7 rfl) (own_w hw 10 rfl) (by decide) (strE1 l Z a0 hw [] b15 b5 k5 h15 n0 z24 A15 F18 F19 (by omega) V22) 1 (Nat.le_of_eq rfl) (by decide) (by decide) (by rw [hml]; rfl) (argsL := [(.ref b5)]) (st := [(.ref b15)]) (a := b15) (lenOf pd_28 rfl) rfl rfl (by decide) (by decide) e15 hby C17.1 hS0 (by omega) at_35 ?_
      intro T23 v23 L23 vm23 X23 hS23 hZ23 hown23 hg23 Cn23 hQ23
      obtain ⟨t_23, kb_23, rfl, Nq23, K23, P23_0, P23_1, P23_2, P23_3⟩ := hQ23
      have N23 := Fr.app N10 Nq23
      have z25 : h15.size ≤ T23.heap.size := K23.1
      have C26 := C17.trans Cn23
      have lt27 : T23.heap.size > b15 := P23_0.lt
      have lt28 : T23.heap.size > t_23 := P23_3.lt
      refine own_sh (T := T23) 38 #[.val (.int p1), .val (.long p2), .second, .val (.long p3), .second, .val (.int p4), .val (.int (Int32.ofNat pn)), .val (.int (Int32.ofNat sn)), .val (.ref b5), .unset, .unset, .unset, .unset, .unset, .unset, .unset] [(.ref b15)] ?_
      have V29 : Arv Z T23.heap t_23 kb_23 .byte (Int32.ofNat ([] : List Int32).length) (own_b ([] : List Int32)) (.int 0) := P23_3
      refine own_astore X23.here hx hby at_38 rfl (l' := #[.val (.int p1), .val (.long p2), .second, .val (.long p3), .second, .val (.int p4), .val (.int (Int32.ofNat pn)), .val (.int (Int32.ofNat sn)), .val (.ref b5), .val (.ref b15), .unset, .unset, .unset, .unset, .unset, .unset]) rfl ?_
      refine own_iload X23.here hx hby at_40 rfl ?_
      refine own_iload X23.here hx hby at_42 rfl ?_
      refine own_iadd X23.here hx hby at_44 rfl ?_
      refine own_sh (T := T23) 45 #[.val (.int p1), .val (.long p2), .second, .val (.long p3), .second, .val (.int p4), .val (.int (Int32.ofNat pn)), .val (.int (Int32.ofNat sn)), .val (.ref b5), .val (.ref b15), .unset, .unset, .unset, .unset, .unset, .unset] [(.int ((Int32.ofNat pn) + (Int32.ofNat sn)))] ?_
      rw [show ((Int32.ofNat pn) + (Int32.ofNat sn)) = (Int32.ofNat (pn + sn)) from (own_nadd (by omega))]
      refine own_newP X23 hx hZ23 (aty := .char) (own_w hw 0 rfl) rfl hby at_45 (own_n0 (by omega)) 15 (by rw [own_nC (by omega)]; omega) (by decide) (by decide) (by decide) (ad := "[C") (by decide) ?_
      intro T30 h30 k30 b30 X30 e30 E30 g30 V30 C30 lt30
      have z31 : T23.heap.size ≤ h30.size := E30.1
      have C32 := C26.trans (CHr.ext E30 C26.1)
      have V33 : Arv Z h30 b30 k30 .char (Int32.ofNat (pn + sn)) [] (.int 0) := V30
      refine own_astore X30.here hx hby at_47 rfl (l' := #[.val (.int p1), .val (.long p2), .second, .val (.long p3), .second, .val (.int p4), .val (.int (Int32.ofNat pn)), .val (.int (Int32.ofNat sn)), .val (.ref b5), .val (.ref b15), .val (.ref b30), .unset, .unset, .unset, .unset, .unset]) rfl ?_
      have V34 : Arv Z h30 b30 k30 .char (Int32.ofNat (pn + sn)) (List.replicate (pn + sn) (.int 0)) (.int 0) := V33.pad own_pad0
      refine own_aload X30.here hx hby at_49 rfl rfl ?_
      refine own_iconst X30.here hx hby at_51 (v := (0 : Int32)) (by decide) ?_
      refine own_sh (T := T30) 52 #[.val (.int p1), .val (.long p2), .second, .val (.long p3), .second, .val (.int p4), .val (.int (Int32.ofNat pn)), .val (.int (Int32.ofNat sn)), .val (.ref b5), .val (.ref b15), .val (.ref b30), .unset, .unset, .unset, .unset, .unset] [(.int 0), (.ref b30)] ?_
      refine own_sh (T := T30) 52 #[.val (.int p1), .val (.long p2), .second, .val (.long p3), .second, .val (.int p4), .val (.int (Int32.ofNat pn)), .val (.int (Int32.ofNat sn)), .val (.ref b5), .val (.ref b15), .val (.ref b30), .unset, .unset, .unset, .unset, .unset] [(.int (Int32.ofNat 0)), (.ref b30)] ?_
      refine own_iload X30.here hx hby at_52 rfl ?_
      refine own_lloadN X30.here hx hby at_54 rfl ?_
      have z36 : n0 ≤ h30.size := by omega
      refine own_callS X30 hx hZ23 hown23 (own_w hw 1 rfl) (own_w hw 2 rfl) (own_w hw 3 rfl) (own_w hw 4 rfl) (by decide) (put_ l Z a0 hw [] b30 k30 0 pn (pn + sn) (List.replicate (pn + sn) (.int 0)) p2 h30 n0 z36 V34 (by omega) hpn (by omega) (List.length_replicate) (by omega)) 0 (Nat.le_of_eq rfl) (by decide) (by decide) (by rw [hml]; rfl) (argsL := [(.ref b30), (.int (Int32.ofNat 0)), (.int (Int32.ofNat pn)), (.long p2)]) (st := []) (lenOf pd_27 rfl) rfl rfl (by decide) (by decide) e30 hby at_55 ?_
      intro T35 v35 L35 X35 hQ35
      obtain ⟨rfl, Nq35, K35, P35_0⟩ := hQ35
      have N35 := Fr.app N23 Nq35
      have z37 : h30.size ≤ T35.heap.size := K35.1
      have C38 := C32.trans (CHr.keep K35 (sfS (Safe.exa hZ23.alike C30 (by decide) (by decide)) sf0) C32.1)
      have lt39 : T35.heap.size > b30 := P35_0.lt
      refine own_sh (T := T35) 58 #[.val (.int p1), .val (.long p2), .second, .val (.long p3), .second, .val (.int p4), .val (.int (Int32.ofNat pn)), .val (.int (Int32.ofNat sn)), .val (.ref b5), .val (.ref b15), .val (.ref b30), .unset, .unset, .unset, .unset, .unset] [] ?_
      refine own_aload X35.here hx hby at_58 rfl rfl ?_
      refine own_iload X35.here hx hby at_60 rfl ?_
      refine own_iload X35.here hx hby at_62 rfl ?_
      refine own_lloadN X35.here hx hby at_64 rfl ?_
      have z41 : n0 ≤ T35.heap.size := by omega
      refine own_callS X35 hx hZ23 hown23 (own_w hw 1 rfl) (own_w hw 2 rfl) (own_w hw 3 rfl) (own_w hw 4 rfl) (by decide) (put_ l Z a0 hw [] b30 k30 pn sn (pn + sn) (own_sets (List.replicate (pn + sn) (.int 0)) 0 ((own_cs p2 pn).map Value.int)) p3 T35.heap n0 z41 P35_0 (by omega) hsn (by omega) (by rw [own_setsL]; exact List.length_replicate) (by omega)) 0 (Nat.le_of_eq rfl) (by decide) (by decide) (by rw [hml]; rfl) (argsL := [(.ref b30), (.int (Int32.ofNat pn)), (.int (Int32.ofNat sn)), (.long p3)]) (st := []) (lenOf pd_27 rfl) rfl rfl (by decide) (by decide) rfl hby at_65 ?_
      intro T40 v40 L40 X40 hQ40
      obtain ⟨rfl, Nq40, K40, P40_0⟩ := hQ40
      have N40 := Fr.app N35 Nq40
      have z42 : T35.heap.size ≤ T40.heap.size := K40.1
      have f43 := (C30.keep K35)
      have C44 := C38.trans (CHr.keep K40 (sfS (Safe.exa hZ23.alike f43 (by decide) (by decide)) sf0) C38.1)
      have lt45 : T40.heap.size > b30 := P40_0.lt
      refine own_sh (T := T40) 68 #[.val (.int p1), .val (.long p2), .second, .val (.long p3), .second, .val (.int p4), .val (.int (Int32.ofNat pn)), .val (.int (Int32.ofNat sn)), .val (.ref b5), .val (.ref b15), .val (.ref b30), .unset, .unset, .unset, .unset, .unset] [] ?_
      refine own_newO X40 hx hZ23 hown23 (own_w hw 5 rfl) (own_w hw 6 rfl) (own_w hw 7 rfl) rfl hby at_68 (by decide) (by decide) ?_
      intro T46 h46 b46 X46 e46 E46 g46 A46 D46 lt46
      have z47 : T40.heap.size ≤ h46.size := E46.1
      have C48 := C44.trans (CHr.ext E46 C44.1)
      have F49 : Fld Z h46 b46 "java/lang/String" "value" "[B" .null := D46 (Or.inr (own_w hw 20 rfl)) (ty := (.array .byte)) (by decide)
      have F50 : Fld Z h46 b46 "java/lang/String" "coder" "B" (.int 0) := D46 (Or.inr (own_w hw 21 rfl)) (ty := .byte) (by decide)
      refine own_dup X46.here hx hby at_71 rfl ?_
      refine own_aload X46.here hx hby at_72 rfl rfl ?_
      have f51 := (P40_0.ext E46)
      have V52 : Arv Z h46 b30 k30 .char (Int32.ofNat ((own_cs p2 pn) ++ (own_cs p3 sn)).length) (((own_cs p2 pn) ++ (own_cs p3 sn)).map Value.int) (.int 0) := by
        have q := f51
        rw [own_rep2 hPl hSl] at q
        rw [show (Int32.ofNat (pn + sn)) = Int32.ofNat ((own_cs p2 pn) ++ (own_cs p3 sn)).length from by rw [List.length_append, hPl, hSl]] at q
        exact q
      have V53 : Arv Z h46 b30 k30 .char (0 : Int32) [] (.int 0) := by
        have q := V52
        rw [hp0, hs0] at q
        exact q
      have z55 : n0 ≤ h46.size := by omega
      refine own_specialH X46 hx hZ23 hEL rfl hown23 (own_w hw 8 rfl) (own_w hw 9 rfl) (own_w hw 7 rfl) (own_w hw 10 rfl) (by decide) (strE1 l Z a0 hw [] b46 b30 k30 h46 n0 z55 A46 F49 F50 (by omega) V53) 1 (Nat.le_of_eq rfl) (by decide) (by decide) (by rw [hml]; rfl) (argsL := [(.ref b30)]) (st := [(.ref b46)]) (a := b46) (lenOf pd_28 rfl) rfl rfl (by decide) (by decide) e46 hby C48.1 hS23 (by omega) at_74 ?_
      intro T54 v54 L54 vm54 X54 hS54 hZ54 hown54 hg54 Cn54 hQ54
      obtain ⟨t_54, kb_54, rfl, Nq54, K54, P54_0, P54_1, P54_2, P54_3⟩ := hQ54
      have N54 := Fr.app N40 Nq54
      have z56 : h46.size ≤ T54.heap.size := K54.1
      have C57 := C48.trans Cn54
      have lt58 : T54.heap.size > b46 := P54_0.lt
      have lt59 : T54.heap.size > t_54 := P54_3.lt
      refine own_sh (T := T54) 77 #[.val (.int p1), .val (.long p2), .second, .val (.long p3), .second, .val (.int p4), .val (.int (Int32.ofNat pn)), .val (.int (Int32.ofNat sn)), .val (.ref b5), .val (.ref b15), .val (.ref b30), .unset, .unset, .unset, .unset, .unset] [(.ref b46)] ?_
      have V60 : Arv Z T54.heap t_54 kb_54 .byte (Int32.ofNat ([] : List Int32).length) (own_b ([] : List Int32)) (.int 0) := P54_3
      refine own_astore X54.here hx hby at_77 rfl (l' := #[.val (.int p1), .val (.long p2), .second, .val (.long p3), .second, .val (.int p4), .val (.int (Int32.ofNat pn)), .val (.int (Int32.ofNat sn)), .val (.ref b5), .val (.ref b15), .val (.ref b30), .val (.ref b46), .unset, .unset, .unset, .unset]) rfl ?_
      refine own_iload X54.here hx hby at_79 rfl ?_
      refine own_iconst X54.here hx hby at_81 (v := (1 : Int32)) (by decide) ?_
      refine own_iadd X54.here hx hby at_82 rfl ?_
      refine own_sh (T := T54) 83 #[.val (.int p1), .val (.long p2), .second, .val (.long p3), .second, .val (.int p4), .val (.int (Int32.ofNat pn)), .val (.int (Int32.ofNat sn)), .val (.ref b5), .val (.ref b15), .val (.ref b30), .val (.ref b46), .unset, .unset, .unset, .unset] [(.int ((Int32.ofNat sn) + (1 : Int32)))] ?_
      rw [show ((Int32.ofNat sn) + (1 : Int32)) = (Int32.ofNat (sn + 1)) from (own_nadd (b := 1) (by omega))]
      refine own_newP X54 hx hZ54 (aty := .char) (own_w hw 0 rfl) rfl hby at_83 (own_n0 (by omega)) 15 (by rw [own_nC (by omega)]; omega) (by decide) (by decide) (by decide) (ad := "[C") (by decide) ?_
      intro T61 h61 k61 b61 X61 e61 E61 g61 V61 C61 lt61
      have z62 : T54.heap.size ≤ h61.size := E61.1
      have C63 := C57.trans (CHr.ext E61 C57.1)
      have V64 : Arv Z h61 b61 k61 .char (Int32.ofNat (sn + 1)) [] (.int 0) := V61
      refine own_astore X61.here hx hby at_85 rfl (l' := #[.val (.int p1), .val (.long p2), .second, .val (.long p3), .second, .val (.int p4), .val (.int (Int32.ofNat pn)), .val (.int (Int32.ofNat sn)), .val (.ref b5), .val (.ref b15), .val (.ref b30), .val (.ref b46), .val (.ref b61), .unset, .unset, .unset]) rfl ?_
      have V65 : Arv Z h61 b61 k61 .char (Int32.ofNat (sn + 1)) (List.replicate (sn + 1) (.int 0)) (.int 0) := V64.pad own_pad0
      refine own_aload X61.here hx hby at_87 rfl rfl ?_
      refine own_iconst X61.here hx hby at_89 (v := (0 : Int32)) (by decide) ?_
      refine own_bipush X61.here hx hby at_90 (v := (47 : Int32)) (by decide) ?_
      refine own_castore X61 hx hZ54 e61 V65 (own_idx0 (k := 0) (by omega) (by omega)) 0 (by decide) (by rw [List.length_replicate]; omega) (w := (.int 47)) rfl hby at_92 N54 (by omega) ?_
      intro T66 h66 lo66 X66 e66 N66 W66 V66 z66
      have V67 : Arv Z h66 b61 k61 .char (Int32.ofNat (sn + 1)) ((List.replicate (sn + 1) (.int 0)).set 0 (.int 47)) (.int 0) := V66
      have C68 := C63.trans (CHr.wr W66 (Safe.exa hZ54.alike C61 (by decide) (by decide)) C63.1)
      refine own_aload X66.here hx hby at_93 rfl rfl ?_
      refine own_iconst X66.here hx hby at_95 (v := (1 : Int32)) (by decide) ?_
      refine own_sh (T := T66) 96 #[.val (.int p1), .val (.long p2), .second, .val (.long p3), .second, .val (.int p4), .val (.int (Int32.ofNat pn)), .val (.int (Int32.ofNat sn)), .val (.ref b5), .val (.ref b15), .val (.ref b30), .val (.ref b46), .val (.ref b61), .unset, .unset, .unset] [(.int 1), (.ref b61)] ?_
      refine own_sh (T := T66) 96 #[.val (.int p1), .val (.long p2), .second, .val (.long p3), .second, .val (.int p4), .val (.int (Int32.ofNat pn)), .val (.int (Int32.ofNat sn)), .val (.ref b5), .val (.ref b15), .val (.ref b30), .val (.ref b46), .val (.ref b61), .unset, .unset, .unset] [(.int (Int32.ofNat 1)), (.ref b61)] ?_
      refine own_iload X66.here hx hby at_96 rfl ?_
      refine own_lloadN X66.here hx hby at_98 rfl ?_
      have z70 : n0 ≤ h66.size := by omega
      refine own_callS X66 hx hZ54 hown54 (own_w hw 1 rfl) (own_w hw 2 rfl) (own_w hw 3 rfl) (own_w hw 4 rfl) (by decide) (put_ l Z a0 hw [] b61 k61 1 sn (sn + 1) ((List.replicate (sn + 1) (.int 0)).set 0 (.int 47)) p3 h66 n0 z70 V67 (by omega) hsn (by omega) (by rw [List.length_set]; exact List.length_replicate) (by omega)) 0 (Nat.le_of_eq rfl) (by decide) (by decide) (by rw [hml]; rfl) (argsL := [(.ref b61), (.int (Int32.ofNat 1)), (.int (Int32.ofNat sn)), (.long p3)]) (st := []) (lenOf pd_27 rfl) rfl rfl (by decide) (by decide) e66 hby at_99 ?_
      intro T69 v69 L69 X69 hQ69
      obtain ⟨rfl, Nq69, K69, P69_0⟩ := hQ69
      have N69 := Fr.app N66 Nq69
      have z71 : h66.size ≤ T69.heap.size := K69.1
      have f72 := (C61.wr W66)
      have C73 := C68.trans (CHr.keep K69 (sfS (Safe.exa hZ54.alike f72 (by decide) (by decide)) sf0) C68.1)
      have lt74 : T69.heap.size > b61 := P69_0.lt
      refine own_sh (T := T69) 102 #[.val (.int p1), .val (.long p2), .second, .val (.long p3), .second, .val (.int p4), .val (.int (Int32.ofNat pn)), .val (.int (Int32.ofNat sn)), .val (.ref b5), .val (.ref b15), .val (.ref b30), .val (.ref b46), .val (.ref b61), .unset, .unset, .unset] [] ?_
      refine own_newO X69 hx hZ54 hown54 (own_w hw 5 rfl) (own_w hw 6 rfl) (own_w hw 7 rfl) rfl hby at_102 (by decide) (by decide) ?_
      intro T75 h75 b75 X75 e75 E75 g75 A75 D75 lt75
      have z76 : T69.heap.size ≤ h75.size := E75.1
      have C77 := C73.trans (CHr.ext E75 C73.1)
      have F78 : Fld Z h75 b75 "java/lang/String" "value" "[B" .null := D75 (Or.inr (own_w hw 20 rfl)) (ty := (.array .byte)) (by decide)
      have F79 : Fld Z h75 b75 "java/lang/String" "coder" "B" (.int 0) := D75 (Or.inr (own_w hw 21 rfl)) (ty := .byte) (by decide)
      refine own_dup X75.here hx hby at_105 rfl ?_
      refine own_aload X75.here hx hby at_106 rfl rfl ?_
      have f80 := (P69_0.ext E75)
      have V81 : Arv Z h75 b61 k61 .char (Int32.ofNat (([47] : List Int32) ++ (own_cs p3 sn)).length) ((([47] : List Int32) ++ (own_cs p3 sn)).map Value.int) (.int 0) := by
        have q := f80
        rw [own_rep3 hSl] at q
        rw [show (Int32.ofNat (sn + 1)) = Int32.ofNat (([47] : List Int32) ++ (own_cs p3 sn)).length from by rw [List.length_append, hSl, Nat.add_comm]; rfl] at q
        exact q
      have f82 := ((own_sta_keep (((own_sta_keep ((own_sta_keep (own_sta_keep ((own_sta_keep ((own_sta_keep (S_C.ext E5) K10 (allS (own_exa_plain C5) all0)).ext E15) K23 (allS (own_exa_plain A15) all0)).ext E30) K35 (allS (own_exa_plain C30) all0)) K40 (allS (own_exa_plain f43) all0)).ext E46) K54 (allS (own_exa_plain A46) all0)).ext E61).wr W66) K69 (allS (own_exa_plain f72) all0)).ext E75)
      have z84 : n0 ≤ h75.size := by omega
      have hws_words : ∀ d ∈ StrChars.Road.words, d.before a0 Z = true := fun d hd => hw d ((by decide +kernel : ∀ d ∈ StrChars.Road.words, d ∈ tables_1) d hd)
      have hc85 : (([47] : List Int32) ++ (own_cs p3 sn)).length ≤ 15 := (by rw [List.length_append, hSl]; show 1 + sn ≤ 15; omega)
      refine own_specialB X75 hx hZ54 rfl hown54 (own_w hw 8 rfl) (own_w hw 9 rfl) (own_w hw 10 rfl) (by decide) (StrChars.Road.backV (W := 1) hZ54 hws_words (kI := 4) (own_w hw 6 rfl) (cs := (([47] : List Int32) ++ (own_cs p3 sn))) (bs := (([47] : List Int32) ++ (own_cs p3 sn)).map (fun c => c.toInt8.toInt32)) (n := (([47] : List Int32) ++ (own_cs p3 sn)).length) (by omega) z84 A75 F78 F79 V81 f82 hz rfl rfl (by rw [List.length_append, hSl]; exact Nat.lt_of_lt_of_le Nat.zero_lt_one (Nat.le_add_right 1 sn)) (Nat.le_trans (m := 15) hc85 (by decide)) (own_mem2 own_n47 (own_csB p3 sn)) rfl (by decide) (by decide)) (Nat.le_of_eq rfl) (by rw [hml]; rfl) (argsL := [(.ref b61)]) (st := [(.ref b75)]) (a := b75) (lenOf pd_28 rfl) rfl rfl (by decide) (own_sl (c := 15) hc85 (by decide)) e75 hby at_108 ?_
      intro T83 v83 L83 X83 hQ83
      obtain ⟨rfl, Nq83, K83, P83_0, P83_1, t_83, kb_83, P83_2, P83_3, P83_4, P83_5, P83_6⟩ := hQ83
      have N83 := Fr.app N69 Nq83
      have z86 : h75.size ≤ T83.heap.size := K83.1
      have C87 := C77.trans (CHr.keep K83 (sfS (own_safe_null hZ54.alike A75 F78) sf0) C77.1)
      have lt88 : T83.heap.size > b75 := P83_0.lt
      have lt89 : T83.heap.size > t_83 := P83_6.lt
      refine own_sh (T := T83) 111 #[.val (.int p1), .val (.long p2), .second, .val (.long p3), .second, .val (.int p4), .val (.int (Int32.ofNat pn)), .val (.int (Int32.ofNat sn)), .val (.ref b5), .val (.ref b15), .val (.ref b30), .val (.ref b46), .val (.ref b61), .unset, .unset, .unset] [(.ref b75)] ?_
      have Y83 := X83.mono (Nat.le_refl _) (Nat.add_le_add_left hc85 _)
      have V90 : Arv Z T83.heap t_83 kb_83 .byte (Int32.ofNat ([47] : List Int32).length) (own_b ([47] : List Int32)) (.int 0) := by
        have q := P83_6
        rw [show (own_cs p3 sn) = ([] : List Int32) from by rw [hs0]; rfl] at q
        exact q
      refine own_astore Y83.here hx hby at_111 rfl (l' := #[.val (.int p1), .val (.long p2), .second, .val (.long p3), .second, .val (.int p4), .val (.int (Int32.ofNat pn)), .val (.int (Int32.ofNat sn)), .val (.ref b5), .val (.ref b15), .val (.ref b30), .val (.ref b46), .val (.ref b61), .val (.ref b75), .unset, .unset]) rfl ?_
      refine own_newO Y83 hx hZ54 hown54 (own_w hw 37 rfl) (own_w hw 38 rfl) (own_w hw 39 rfl) rfl hby at_113 (by decide) (by decide) ?_
      intro T91 h91 b91 X91 e91 E91 g91 A91 D91 lt91
      have z92 : T83.heap.size ≤ h91.size := E91.1
      have C93 := C87.trans (CHr.ext E91 C87.1)
      have F94 : Fld Z h91 b91 "com/example/undercroft/undercroft/store/UriSpace" "prefix" "Ljava/lang/String;" .null := D91 (Or.inr (own_w hw 64 rfl)) (ty := (.object "java/lang/String")) (by decide)
      have F95 : Fld Z h91 b91 "com/example/undercroft/undercroft/store/UriSpace" "ownSystem" "Ljava/lang/String;" .null := D91 (Or.inr (own_w hw 66 rfl)) (ty := (.object "java/lang/String")) (by decide)
      refine own_dup X91.here hx hby at_116 rfl ?_
      refine own_aload X91.here hx hby at_117 rfl rfl ?_
      refine own_iload X91.here hx hby at_119 rfl ?_
      refine own_sipush X91.here hx hby at_121 (v := (255 : Int32)) (by decide) ?_
      refine own_iand X91.here hx hby at_124 rfl ?_
      refine own_i2c X91.here hx hby at_125 rfl ?_
      refine own_sh (T := T91) 126 #[.val (.int p1), .val (.long p2), .second, .val (.long p3), .second, .val (.int p4), .val (.int (Int32.ofNat pn)), .val (.int (Int32.ofNat sn)), .val (.ref b5), .val (.ref b15), .val (.ref b30), .val (.ref b46), .val (.ref b61), .val (.ref b75), .unset, .unset] [(.int ((p4 &&& (255 : Int32)).toUInt32.toUInt16.toUInt32.toInt32)), (.ref b15), (.ref b91), (.ref b91)] ?_
      rw [show ((p4 &&& (255 : Int32)).toUInt32.toUInt16.toUInt32.toInt32) = (p4 &&& (255 : Int32)) from (i2c_mask p4)]
      have f96 := ((own_sta_keep f82 K83 (allS (own_exa_plain A75) all0)).ext E91)
      have z98 : n0 ≤ h91.size := by omega
      refine own_callS X91 hx hZ54 hown54 (own_w hw 40 rfl) (own_w hw 41 rfl) (own_w hw 7 rfl) (own_w hw 42 rfl) (by decide) (valOf l Z a0 hw [] (p4 &&& (255 : Int32)) zc h91 n0 z98 f96 hz (own_c255 p4).2) 3 (Nat.le_of_eq rfl) (by decide) (by decide) (by rw [hml]; rfl) (argsL := [(.int (p4 &&& (255 : Int32)))]) (st := [(.ref b15), (.ref b91), (.ref b91)]) (lenOf pd_29 rfl) rfl rfl (by decide) (by decide) e91 hby at_126 ?_
      intro T97 v97 L97 X97 hQ97
      obtain ⟨x_97, t_97, kb_97, rfl, Nq97, K97, P97_0, P97_1, P97_2, P97_3, P97_4, P97_5, P97_6⟩ := hQ97
      have N97 := Fr.app N83 Nq97
      have z99 : h91.size ≤ T97.heap.size := K97.1
      have C100 := C93.trans (CHr.keep K97 sf0 C93.1)
      have lt101 : T97.heap.size > x_97 := P97_3.lt
      have lt102 : T97.heap.size > t_97 := P97_6.lt
      refine own_sh (T := T97) 129 #[.val (.int p1), .val (.long p2), .second, .val (.long p3), .second, .val (.int p4), .val (.int (Int32.ofNat pn)), .val (.int (Int32.ofNat sn)), .val (.ref b5), .val (.ref b15), .val (.ref b30), .val (.ref b46), .val (.ref b61), .val (.ref b75), .unset, .unset] [(.ref x_97), (.ref b15), (.ref b91), (.ref b91)] ?_
      have f103 := (A91.keep K97)
      have f104 := (F94.keep K97 nin0)
      have f105 := (F95.keep K97 nin0)
      have z107 : n0 ≤ T97.heap.size := by omega
      refine own_special X97 hx hZ54 rfl hown54 (own_w hw 54 rfl) (own_w hw 55 rfl) (own_w hw 39 rfl) (own_w hw 56 rfl) (by decide) (uriInit l Z a0 hw [] b91 b15 x_97 T97.heap n0 z107 f103 (by omega) f104 f105) 1 (Nat.le_of_eq rfl) (by decide) (by decide) (by rw [hml]; rfl) (argsL := [(.ref b15), (.ref x_97)]) (st := [(.ref b91)]) (a := b91) (lenOf pd_30 rfl) rfl rfl (by decide) (by decide) rfl hby at_129 ?_
      intro T106 v106 L106 X106 hQ106
      obtain ⟨rfl, Nq106, K106, P106_0, P106_1⟩ := hQ106
      have N106 := Fr.app N97 Nq106
      have z108 : T97.heap.size ≤ T106.heap.size := K106.1
      have C109 := C100.trans (CHr.keep K106 (sfS (Safe.exa hZ54.alike f103 (by decide) (by decide)) sf0) C100.1)
      have lt110 : T106.heap.size > b91 := P106_0.lt
      refine own_sh (T := T106) 132 #[.val (.int p1), .val (.long p2), .second, .val (.long p3), .second, .val (.int p4), .val (.int (Int32.ofNat pn)), .val (.int (Int32.ofNat sn)), .val (.ref b5), .val (.ref b15), .val (.ref b30), .val (.ref b46), .val (.ref b61), .val (.ref b75), .unset, .unset] [(.ref b91)] ?_
      refine own_astore X106.here hx hby at_132 rfl (l' := #[.val (.int p1), .val (.long p2), .second, .val (.long p3), .second, .val (.int p4), .val (.int (Int32.ofNat pn)), .val (.int (Int32.ofNat sn)), .val (.ref b5), .val (.ref b15), .val (.ref b30), .val (.ref b46), .val (.ref b61), .val (.ref b75), .val (.ref b91), .unset]) rfl ?_
      refine own_aload X106.here hx hby at_134 rfl rfl ?_
      refine own_aload X106.here hx hby at_136 rfl rfl ?_
      have f111 := (((((((((((((P23_0.ext E30).keep K35).keep K40).ext E46).keep K54).ext E61).wr W66).keep K69).ext E75).keep K83).ext E91).keep K97).keep K106)
      have f112 := (((((((((((((P23_1.ext E30).keep K35 (ninS (own_nn (by omega)) nin0)).keep K40 (ninS (own_nn (by omega)) nin0)).ext E46).keep K54 (ninS (own_nn (by omega)) nin0)).ext E61).other W66 (Or.inl (own_nn (by omega)))).keep K69 (ninS (own_nn (by omega)) nin0)).ext E75).keep K83 (ninS (own_nn (by omega)) nin0)).ext E91).keep K97 nin0).keep K106 (ninS (own_nn (by omega)) nin0))
      have f113 := (((((((((((((P23_2.ext E30).keep K35 (ninS (own_nn (by omega)) nin0)).keep K40 (ninS (own_nn (by omega)) nin0)).ext E46).keep K54 (ninS (own_nn (by omega)) nin0)).ext E61).other W66 (Or.inl (own_nn (by omega)))).keep K69 (ninS (own_nn (by omega)) nin0)).ext E75).keep K83 (ninS (own_nn (by omega)) nin0)).ext E91).keep K97 nin0).keep K106 (ninS (own_nn (by omega)) nin0))
      have f114 := (((((((((((((V29.ext E30).keep K35 (ninS (own_nn (by omega)) nin0)).keep K40 (ninS (own_nn (by omega)) nin0)).ext E46).keep K54 (ninS (own_nn (by omega)) nin0)).ext E61).other W66 (own_nn (by omega))).keep K69 (ninS (own_nn (by omega)) nin0)).ext E75).keep K83 (ninS (own_nn (by omega)) nin0)).ext E91).keep K97 nin0).keep K106 (ninS (own_nn (by omega)) nin0))
      have f115 := ((((((((P54_0.ext E61).wr W66).keep K69).ext E75).keep K83).ext E91).keep K97).keep K106)
      have f116 := ((((((((P54_1.ext E61).other W66 (Or.inl (own_nn (by omega)))).keep K69 (ninS (own_nn (by omega)) nin0)).ext E75).keep K83 (ninS (own_nn (by omega)) nin0)).ext E91).keep K97 nin0).keep K106 (ninS (own_nn (by omega)) nin0))
      have f117 := ((((((((P54_2.ext E61).other W66 (Or.inl (own_nn (by omega)))).keep K69 (ninS (own_nn (by omega)) nin0)).ext E75).keep K83 (ninS (own_nn (by omega)) nin0)).ext E91).keep K97 nin0).keep K106 (ninS (own_nn (by omega)) nin0))
      have f118 := ((((((((V60.ext E61).other W66 (own_nn (by omega))).keep K69 (ninS (own_nn (by omega)) nin0)).ext E75).keep K83 (ninS (own_nn (by omega)) nin0)).ext E91).keep K97 nin0).keep K106 (ninS (own_nn (by omega)) nin0))
      have f119 := (own_sta_keep (own_sta_keep f96 K97 all0) K106 (allS (own_exa_plain f103) all0))
      have f120 := (own_sta_keep (own_sta_keep ((own_sta_keep ((own_sta_keep (((own_sta_keep ((own_sta_keep (own_sta_keep ((own_sta_keep ((own_sta_keep (S_FM.ext E5) K10 (allS (own_exa_plain C5) all0)).ext E15) K23 (allS (own_exa_plain A15) all0)).ext E30) K35 (allS (own_exa_plain C30) all0)) K40 (allS (own_exa_plain f43) all0)).ext E46) K54 (allS (own_exa_plain A46) all0)).ext E61).wr W66) K69 (allS (own_exa_plain f72) all0)).ext E75) K83 (allS (own_exa_plain A75) all0)).ext E91) K97 all0) K106 (allS (own_exa_plain f103) all0))
      have z122 : n0 ≤ T106.heap.size := by omega
      refine own_virtualH X106 hx hZ54 hEL hown54 (own_w hw 67 rfl) (own_w hw 68 rfl) (notFace_of_selects (args := #[]) (mvT hZ54 (own_w hw 70 rfl))) (own_w hw 70 rfl) (own_w hw 69 rfl) (own_w hw 39 rfl) (own_w hw 71 rfl) (by decide) (pathOf_Z l Z a0 hw [] b91 b15 t_23 b46 t_54 kb_23 kb_54 ([] : List Int32) zc fm T106.heap n0 z122 P106_0 P106_1 f111 f112 f113 f114 f115 f116 f117 f118 f119 hz f120 hfm (by decide)) 0 (Nat.le_of_eq rfl) (by decide) (by decide) (by rw [hml]; rfl) (argsL := [(.ref b46)]) (st := []) P106_0 (lenOf pd_31 rfl) rfl rfl (by decide) (by decide) rfl hby C109.1 hS54 (by omega) at_138 ?_
      intro T121 v121 L121 vm121 X121 hS121 hZ121 hown121 hg121 Cn121 hQ121
      obtain ⟨r_121, tr_121, kr_121, rfl, Nq121, K121, P121_0, P121_1, P121_2, P121_3, P121_4⟩ := hQ121
      have N121 := Fr.app N106 Nq121
      have z123 : T106.heap.size ≤ T121.heap.size := K121.1
      have C124 := C109.trans Cn121
      have lt125 : T121.heap.size > r_121 := P121_1.lt
      have lt126 : T121.heap.size > tr_121 := P121_4.lt
      refine own_sh (T := T121) 141 #[.val (.int p1), .val (.long p2), .second, .val (.long p3), .second, .val (.int p4), .val (.int (Int32.ofNat pn)), .val (.int (Int32.ofNat sn)), .val (.ref b5), .val (.ref b15), .val (.ref b30), .val (.ref b46), .val (.ref b61), .val (.ref b75), .val (.ref b91), .unset] [(.ref r_121)] ?_
      have V127 : Arv Z T121.heap tr_121 kr_121 .byte (Int32.ofNat ([47] : List Int32).length) (own_b ([47] : List Int32)) (.int 0) := P121_4
      refine own_astore X121.here hx hby at_141 rfl (l' := #[.val (.int p1), .val (.long p2), .second, .val (.long p3), .second, .val (.int p4), .val (.int (Int32.ofNat pn)), .val (.int (Int32.ofNat sn)), .val (.ref b5), .val (.ref b15), .val (.ref b30), .val (.ref b46), .val (.ref b61), .val (.ref b75), .val (.ref b91), .val (.ref r_121)]) rfl ?_
      refine own_aload X121.here hx hby at_143 rfl rfl ?_
      refine own_aload X121.here hx hby at_145 rfl rfl ?_
      have f128 := ((((P83_0.ext E91).keep K97).keep K106).keep K121)
      have f129 := ((((P83_1.ext E91).keep K97 nin0).keep K106 (ninS (own_nn (by omega)) nin0)).keep K121 nin0)
      have f130 := ((((P83_5.ext E91).keep K97 nin0).keep K106 (ninS (own_nn (by omega)) nin0)).keep K121 nin0)
      have f131 := ((((V90.ext E91).keep K97 nin0).keep K106 (ninS (own_nn (by omega)) nin0)).keep K121 nin0)
      have f132 := (own_sta_keep f119 K121 all0)
      have z134 : n0 ≤ T121.heap.size := by omega
      have hws_wordsEq : ∀ d ∈ StrChars.Road.wordsEq, d.before a0 Z = true := fun d hd => hw d ((by decide +kernel : ∀ d ∈ StrChars.Road.wordsEq, d ∈ tables_1) d hd)
      refine own_virtualB (Qc := fun v H L => v = some (.int 1) ∧ Fr n0 L ∧ H = T121.heap) X121 hx hZ121 hown121 (own_w hw 203 rfl) (own_w hw 204 rfl) (notFace_of_selects (args := #[]) (mvT hZ121 (own_w hw 206 rfl))) (own_w hw 206 rfl) (own_w hw 205 rfl) (by decide) (Back.mono (StrChars.Road.eqW (W := 0) hZ121 hws_wordsEq (kI := 4) (own_w hw 6 rfl) P121_1 P121_3 P121_2 V127 (StrChars.Road.codOf (cs := ([47] : List Int32)) rfl (fun c hc => (own_n47 c hc).2)) (own_hi own_n47) (Nat.le_trans (m := 15) (by decide) (by decide)) f128 f130 f129 f131 (StrChars.Road.codOf (cs := ([47] : List Int32)) rfl (fun c hc => (own_n47 c hc).2)) (own_hi own_n47) (Nat.le_trans (m := 15) (by decide) (by decide)) f132 hz (by decide) (by decide)) (fun _ _ hp => hp) (fun _ _ _ _ _ hq => own_eqQ (n0 := n0) hq)) (Nat.le_of_eq rfl) (by rw [hml]; rfl) (argsL := [(.ref b75)]) (st := []) P121_1 (lenOf pd_32 rfl) rfl rfl (by decide) (by decide) rfl hby at_147 ?_
      intro T133 v133 L133 X133 hQ133
      obtain ⟨rfl, Nq133, eh133⟩ := hQ133
      have N133 := Fr.app N121 Nq133
      refine own_sh (T := T133) 150 #[.val (.int p1), .val (.long p2), .second, .val (.long p3), .second, .val (.int p4), .val (.int (Int32.ofNat pn)), .val (.int (Int32.ofNat sn)), .val (.ref b5), .val (.ref b15), .val (.ref b30), .val (.ref b46), .val (.ref b61), .val (.ref b75), .val (.ref b91), .val (.ref r_121)] [(.int 1)] ?_
      refine own_ifNo X133.here hx hby at_150 ((if0 _ _).trans (feq (show ¬ ((1 : Int32) = (0 : Int32)) from (by decide))).1) ?_
      refine own_aload X133.here hx hby at_153 rfl rfl ?_
      refine own_aload X133.here hx hby at_155 rfl rfl ?_
      have f135 := (P106_0.keep K121)
      have f136 := (P106_1.keep K121 nin0)
      have f137 := (f111.keep K121)
      have f138 := (f112.keep K121 nin0)
      have f139 := (f113.keep K121 nin0)
      have f140 := (f114.keep K121 nin0)
      have f141 := (own_sta_keep f120 K121 all0)
      refine own_virtualH X133 hx hZ121 hEL hown121 (own_w hw 211 rfl) (own_w hw 212 rfl) (notFace_of_selects (args := #[]) (mvT hZ121 (own_w hw 214 rfl))) (own_w hw 214 rfl) (own_w hw 213 rfl) (own_w hw 39 rfl) (own_w hw 215 rfl) (by decide) (uriOf_E l Z a0 hw [] b91 b15 t_23 r_121 tr_121 kb_23 kr_121 ([] : List Int32) zc fm T121.heap n0 z134 f135 f136 f137 f138 f139 f140 P121_1 P121_2 P121_3 V127 f132 hz f141 hfm (by decide)) 0 (Nat.le_of_eq rfl) (by decide) (by decide) (by rw [hml]; rfl) (argsL := [(.ref r_121)]) (st := []) f135 (lenOf pd_31 rfl) rfl rfl (by decide) (by decide) eh133 hby C124.1 hS121 (by omega) at_157 ?_
      intro T142 v142 L142 vm142 X142 hS142 hZ142 hown142 hg142 Cn142 hQ142
      obtain ⟨r_142, tr_142, kr_142, rfl, Nq142, K142, P142_0, P142_1, P142_2, P142_3, P142_4⟩ := hQ142
      have N142 := Fr.app N133 Nq142
      have z143 : T121.heap.size ≤ T142.heap.size := K142.1
      have C144 := C124.trans Cn142
      have lt145 : T142.heap.size > r_142 := P142_1.lt
      have lt146 : T142.heap.size > tr_142 := P142_4.lt
      refine own_sh (T := T142) 160 #[.val (.int p1), .val (.long p2), .second, .val (.long p3), .second, .val (.int p4), .val (.int (Int32.ofNat pn)), .val (.int (Int32.ofNat sn)), .val (.ref b5), .val (.ref b15), .val (.ref b30), .val (.ref b46), .val (.ref b61), .val (.ref b75), .val (.ref b91), .val (.ref r_121)] [(.ref r_142)] ?_
      refine own_aload X142.here hx hby at_160 rfl rfl ?_
      have f147 := ((f115.keep K121).keep K142)
      have f148 := ((f116.keep K121 nin0).keep K142 nin0)
      have f149 := ((f117.keep K121 nin0).keep K142 nin0)
      have f150 := ((f118.keep K121 nin0).keep K142 nin0)
      have f151 := (own_sta_keep f132 K142 all0)
      have z153 : n0 ≤ T142.heap.size := by omega
      refine own_virtualB (Qc := fun v H L => v = some (.int 1) ∧ Fr n0 L ∧ H = T142.heap) X142 hx hZ142 hown142 (own_w hw 203 rfl) (own_w hw 204 rfl) (notFace_of_selects (args := #[]) (mvT hZ142 (own_w hw 206 rfl))) (own_w hw 206 rfl) (own_w hw 205 rfl) (by decide) (Back.mono (StrChars.Road.eqW (W := 0) hZ142 hws_wordsEq (kI := 4) (own_w hw 6 rfl) P142_1 P142_3 P142_2 P142_4 (StrChars.Road.codOf (cs := ([] : List Int32)) rfl (fun c hc => (own_nNil c hc).2)) (own_hi own_nNil) (Nat.le_trans (m := 15) (by decide) (by decide)) f147 f149 f148 f150 (StrChars.Road.codOf (cs := ([] : List Int32)) rfl (fun c hc => (own_nNil c hc).2)) (own_hi own_nNil) (Nat.le_trans (m := 15) (by decide) (by decide)) f151 hz (by decide) (by decide)) (fun _ _ hp => hp) (fun _ _ _ _ _ hq => own_eqQ (n0 := n0) hq)) (Nat.le_of_eq rfl) (by rw [hml]; rfl) (argsL := [(.ref b46)]) (st := []) P142_1 (lenOf pd_32 rfl) rfl rfl (by decide) (by decide) rfl hby at_162 ?_
      intro T152 v152 L152 X152 hQ152
      obtain ⟨rfl, Nq152, eh152⟩ := hQ152
      have N152 := Fr.app N142 Nq152
      refine own_sh (T := T152) 165 #[.val (.int p1), .val (.long p2), .second, .val (.long p3), .second, .val (.int p4), .val (.int (Int32.ofNat pn)), .val (.int (Int32.ofNat sn)), .val (.ref b5), .val (.ref b15), .val (.ref b30), .val (.ref b46), .val (.ref b61), .val (.ref b75), .val (.ref b91), .val (.ref r_121)] [(.int 1)] ?_
      refine own_ifNo X152.here hx hby at_165 ((if0 _ _).trans (feq (show ¬ ((1 : Int32) = (0 : Int32)) from (by decide))).1) ?_
      refine own_iconst X152.here hx hby at_168 (v := (1 : Int32)) (by decide) ?_
      refine own_goto X152.here hx hby (pc' := 173) at_169 (by decide) (by decide) ?_
      obtain ⟨fs, hr, hrun, hended, hRW⟩ := X152.leaveW hS142 (by rw [eh152]; omega) (v := some (.int 1)) (fun h => by rw [Bd.returns] at h; cases h) Bd.notSynchronized
      have hCf : CHr Z consts_1 s.vm s.heap T152.vm T152.heap := by
        rw [hh, eh152]
        exact C144.trans (CHv.at X152 hZ142 hEL C144.1)
      refine own_ret (t := T152.setFrames fs) ?_ ⟨_, hrun, hended, _, _, rfl, ?_, hCf, hRW.1, hRW.2.1, hRW.2.2.1, hRW.2.2.2.mono (by decide) (by decide)⟩
      · exact retN X152 hx (t := .boolean) Bd.returns (by simp) (hb hby at_173) hr
      · show Q_rm0 Z _ _ _ _ _ _ h0 n0 _ T152.heap _
        rw [eh152]
        exact ⟨rfl, N152, trivial⟩
    · refine own_iload Y0.here hx hby at_14 rfl ?_
      refine own_newP Y0 hx hZ (aty := .char) (own_w hw 0 rfl) e0 hby at_16 (own_n0 (by omega)) 15 (by rw [own_nC (by omega)]; omega) (by decide) (by decide) (by decide) (ad := "[C") (by decide) ?_
      intro T154 h154 k154 b154 X154 e154 E154 g154 V154 C154 lt154
      have z155 : h0.size ≤ h154.size := E154.1
      have C156 := C0.trans (CHr.ext E154 C0.1)
      have V157 : Arv Z h154 b154 k154 .char (Int32.ofNat pn) [] (.int 0) := V154
      refine own_astore X154.here hx hby at_18 rfl (l' := #[.val (.int p1), .val (.long p2), .second, .val (.long p3), .second, .val (.int p4), .val (.int (Int32.ofNat pn)), .val (.int (Int32.ofNat sn)), .val (.ref b154), .unset, .unset, .unset, .unset, .unset, .unset, .unset]) rfl ?_
      have V158 : Arv Z h154 b154 k154 .char (Int32.ofNat pn) (List.replicate pn (.int 0)) (.int 0) := V157.pad own_pad0
      refine own_aload X154.here hx hby at_20 rfl rfl ?_
      refine own_iconst X154.here hx hby at_22 (v := (0 : Int32)) (by decide) ?_
      refine own_sh (T := T154) 23 #[.val (.int p1), .val (.long p2), .second, .val (.long p3), .second, .val (.int p4), .val (.int (Int32.ofNat pn)), .val (.int (Int32.ofNat sn)), .val (.ref b154), .unset, .unset, .unset, .unset, .unset, .unset, .unset] [(.int 0), (.ref b154)] ?_
      refine own_sh (T := T154) 23 #[.val (.int p1), .val (.long p2), .second, .val (.long p3), .second, .val (.int p4), .val (.int (Int32.ofNat pn)), .val (.int (Int32.ofNat sn)), .val (.ref b154), .unset, .unset, .unset, .unset, .unset, .unset, .unset] [(.int (Int32.ofNat 0)), (.ref b154)] ?_
      refine own_iload X154.here hx hby at_23 rfl ?_
      refine own_lloadN X154.here hx hby at_25 rfl ?_
      have z160 : n0 ≤ h154.size := by omega
      refine own_callS X154 hx hZ hown (own_w hw 1 rfl) (own_w hw 2 rfl) (own_w hw 3 rfl) (own_w hw 4 rfl) (by decide) (put_ l Z a0 hw [] b154 k154 0 pn pn (List.replicate pn (.int 0)) p2 h154 n0 z160 V158 (by omega) hpn (by omega) (List.length_replicate) (by omega)) 0 (Nat.le_of_eq rfl) (by decide) (by decide) (by rw [hml]; rfl) (argsL := [(.ref b154), (.int (Int32.ofNat 0)), (.int (Int32.ofNat pn)), (.long p2)]) (st := []) (lenOf pd_27 rfl) rfl rfl (by decide) (by decide) e154 hby at_26 ?_
      intro T159 v159 L159 X159 hQ159
      obtain ⟨rfl, Nq159, K159, P159_0⟩ := hQ159
      have N159 := Fr.app N0 Nq159
      have z161 : h154.size ≤ T159.heap.size := K159.1
      have C162 := C156.trans (CHr.keep K159 (sfS (Safe.exa hZ.alike C154 (by decide) (by decide)) sf0) C156.1)
      have lt163 : T159.heap.size > b154 := P159_0.lt
      refine own_sh (T := T159) 29 #[.val (.int p1), .val (.long p2), .second, .val (.long p3), .second, .val (.int p4), .val (.int (Int32.ofNat pn)), .val (.int (Int32.ofNat sn)), .val (.ref b154), .unset, .unset, .unset, .unset, .unset, .unset, .unset] [] ?_
      refine own_newO X159 hx hZ hown (own_w hw 5 rfl) (own_w hw 6 rfl) (own_w hw 7 rfl) rfl hby at_29 (by decide) (by decide) ?_
      intro T164 h164 b164 X164 e164 E164 g164 A164 D164 lt164
      have z165 : T159.heap.size ≤ h164.size := E164.1
      have C166 := C162.trans (CHr.ext E164 C162.1)
      have F167 : Fld Z h164 b164 "java/lang/String" "value" "[B" .null := D164 (Or.inr (own_w hw 20 rfl)) (ty := (.array .byte)) (by decide)
      have F168 : Fld Z h164 b164 "java/lang/String" "coder" "B" (.int 0) := D164 (Or.inr (own_w hw 21 rfl)) (ty := .byte) (by decide)
      refine own_dup X164.here hx hby at_32 rfl ?_
      refine own_aload X164.here hx hby at_33 rfl rfl ?_
      have f169 := (P159_0.ext E164)
      have V170 : Arv Z h164 b154 k154 .char (Int32.ofNat (own_cs p2 pn).length) ((own_cs p2 pn).map Value.int) (.int 0) := by
        have q := f169
        rw [own_rep1 hPl] at q
        rw [show (Int32.ofNat pn) = Int32.ofNat (own_cs p2 pn).length from by rw [hPl]] at q
        exact q
      have V171 : Arv Z h164 b154 k154 .char (0 : Int32) [] (.int 0) := by
        have q := V170
        rw [hp0] at q
        exact q
      have z173 : n0 ≤ h164.size := by omega
      refine own_specialH X164 hx hZ hEL rfl hown (own_w hw 8 rfl) (own_w hw 9 rfl) (own_w hw 7 rfl) (own_w hw 10 rfl) (by decide) (strE1 l Z a0 hw [] b164 b154 k154 h164 n0 z173 A164 F167 F168 (by omega) V171) 1 (Nat.le_of_eq rfl) (by decide) (by decide) (by rw [hml]; rfl) (argsL := [(.ref b154)]) (st := [(.ref b164)]) (a := b164) (lenOf pd_28 rfl) rfl rfl (by decide) (by decide) e164 hby C166.1 hS0 (by omega) at_35 ?_
      intro T172 v172 L172 vm172 X172 hS172 hZ172 hown172 hg172 Cn172 hQ172
      obtain ⟨t_172, kb_172, rfl, Nq172, K172, P172_0, P172_1, P172_2, P172_3⟩ := hQ172
      have N172 := Fr.app N159 Nq172
      have z174 : h164.size ≤ T172.heap.size := K172.1
      have C175 := C166.trans Cn172
      have lt176 : T172.heap.size > b164 := P172_0.lt
      have lt177 : T172.heap.size > t_172 := P172_3.lt
      refine own_sh (T := T172) 38 #[.val (.int p1), .val (.long p2), .second, .val (.long p3), .second, .val (.int p4), .val (.int (Int32.ofNat pn)), .val (.int (Int32.ofNat sn)), .val (.ref b154), .unset, .unset, .unset, .unset, .unset, .unset, .unset] [(.ref b164)] ?_
      have V178 : Arv Z T172.heap t_172 kb_172 .byte (Int32.ofNat ([] : List Int32).length) (own_b ([] : List Int32)) (.int 0) := P172_3
      refine own_astore X172.here hx hby at_38 rfl (l' := #[.val (.int p1), .val (.long p2), .second, .val (.long p3), .second, .val (.int p4), .val (.int (Int32.ofNat pn)), .val (.int (Int32.ofNat sn)), .val (.ref b154), .val (.ref b164), .unset, .unset, .unset, .unset, .unset, .unset]) rfl ?_
      refine own_iload X172.here hx hby at_40 rfl ?_
      refine own_iload X172.here hx hby at_42 rfl ?_
      refine own_iadd X172.here hx hby at_44 rfl ?_
      refine own_sh (T := T172) 45 #[.val (.int p1), .val (.long p2), .second, .val (.long p3), .second, .val (.int p4), .val (.int (Int32.ofNat pn)), .val (.int (Int32.ofNat sn)), .val (.ref b154), .val (.ref b164), .unset, .unset, .unset, .unset, .unset, .unset] [(.int ((Int32.ofNat pn) + (Int32.ofNat sn)))] ?_
      rw [show ((Int32.ofNat pn) + (Int32.ofNat sn)) = (Int32.ofNat (pn + sn)) from (own_nadd (by omega))]
      refine own_newP X172 hx hZ172 (aty := .char) (own_w hw 0 rfl) rfl hby at_45 (own_n0 (by omega)) 15 (by rw [own_nC (by omega)]; omega) (by decide) (by decide) (by decide) (ad := "[C") (by decide) ?_
      intro T179 h179 k179 b179 X179 e179 E179 g179 V179 C179 lt179
      have z180 : T172.heap.size ≤ h179.size := E179.1
      have C181 := C175.trans (CHr.ext E179 C175.1)
      have V182 : Arv Z h179 b179 k179 .char (Int32.ofNat (pn + sn)) [] (.int 0) := V179
      refine own_astore X179.here hx hby at_47 rfl (l' := #[.val (.int p1), .val (.long p2), .second, .val (.long p3), .second, .val (.int p4), .val (.int (Int32.ofNat pn)), .val (.int (Int32.ofNat sn)), .val (.ref b154), .val (.ref b164), .val (.ref b179), .unset, .unset, .unset, .unset, .unset]) rfl ?_
      have V183 : Arv Z h179 b179 k179 .char (Int32.ofNat (pn + sn)) (List.replicate (pn + sn) (.int 0)) (.int 0) := V182.pad own_pad0
      refine own_aload X179.here hx hby at_49 rfl rfl ?_
      refine own_iconst X179.here hx hby at_51 (v := (0 : Int32)) (by decide) ?_
      refine own_sh (T := T179) 52 #[.val (.int p1), .val (.long p2), .second, .val (.long p3), .second, .val (.int p4), .val (.int (Int32.ofNat pn)), .val (.int (Int32.ofNat sn)), .val (.ref b154), .val (.ref b164), .val (.ref b179), .unset, .unset, .unset, .unset, .unset] [(.int 0), (.ref b179)] ?_
      refine own_sh (T := T179) 52 #[.val (.int p1), .val (.long p2), .second, .val (.long p3), .second, .val (.int p4), .val (.int (Int32.ofNat pn)), .val (.int (Int32.ofNat sn)), .val (.ref b154), .val (.ref b164), .val (.ref b179), .unset, .unset, .unset, .unset, .unset] [(.int (Int32.ofNat 0)), (.ref b179)] ?_
      refine own_iload X179.here hx hby at_52 rfl ?_
      refine own_lloadN X179.here hx hby at_54 rfl ?_
      have z185 : n0 ≤ h179.size := by omega
      refine own_callS X179 hx hZ172 hown172 (own_w hw 1 rfl) (own_w hw 2 rfl) (own_w hw 3 rfl) (own_w hw 4 rfl) (by decide) (put_ l Z a0 hw [] b179 k179 0 pn (pn + sn) (List.replicate (pn + sn) (.int 0)) p2 h179 n0 z185 V183 (by omega) hpn (by omega) (List.length_replicate) (by omega)) 0 (Nat.le_of_eq rfl) (by decide) (by decide) (by rw [hml]; rfl) (argsL := [(.ref b179), (.int (Int32.ofNat 0)), (.int (Int32.ofNat pn)), (.long p2)]) (st := []) (lenOf pd_27 rfl) rfl rfl (by decide) (by decide) e179 hby at_55 ?_
      intro T184 v184 L184 X184 hQ184
      obtain ⟨rfl, Nq184, K184, P184_0⟩ := hQ184
      have N184 := Fr.app N172 Nq184
      have z186 : h179.size ≤ T184.heap.size := K184.1
      have C187 := C181.trans (CHr.keep K184 (sfS (Safe.exa hZ172.alike C179 (by decide) (by decide)) sf0) C181.1)
      have lt188 : T184.heap.size > b179 := P184_0.lt
      refine own_sh (T := T184) 58 #[.val (.int p1), .val (.long p2), .second, .val (.long p3), .second, .val (.int p4), .val (.int (Int32.ofNat pn)), .val (.int (Int32.ofNat sn)), .val (.ref b154), .val (.ref b164), .val (.ref b179), .unset, .unset, .unset, .unset, .unset] [] ?_
      refine own_aload X184.here hx hby at_58 rfl rfl ?_
      refine own_iload X184.here hx hby at_60 rfl ?_
      refine own_iload X184.here hx hby at_62 rfl ?_
      refine own_lloadN X184.here hx hby at_64 rfl ?_
      have z190 : n0 ≤ T184.heap.size := by omega
      refine own_callS X184 hx hZ172 hown172 (own_w hw 1 rfl) (own_w hw 2 rfl) (own_w hw 3 rfl) (own_w hw 4 rfl) (by decide) (put_ l Z a0 hw [] b179 k179 pn sn (pn + sn) (own_sets (List.replicate (pn + sn) (.int 0)) 0 ((own_cs p2 pn).map Value.int)) p3 T184.heap n0 z190 P184_0 (by omega) hsn (by omega) (by rw [own_setsL]; exact List.length_replicate) (by omega)) 0 (Nat.le_of_eq rfl) (by decide) (by decide) (by rw [hml]; rfl) (argsL := [(.ref b179), (.int (Int32.ofNat pn)), (.int (Int32.ofNat sn)), (.long p3)]) (st := []) (lenOf pd_27 rfl) rfl rfl (by decide) (by decide) rfl hby at_65 ?_
      intro T189 v189 L189 X189 hQ189
      obtain ⟨rfl, Nq189, K189, P189_0⟩ := hQ189
      have N189 := Fr.app N184 Nq189
      have z191 : T184.heap.size ≤ T189.heap.size := K189.1
      have f192 := (C179.keep K184)
      have C193 := C187.trans (CHr.keep K189 (sfS (Safe.exa hZ172.alike f192 (by decide) (by decide)) sf0) C187.1)
      have lt194 : T189.heap.size > b179 := P189_0.lt
      refine own_sh (T := T189) 68 #[.val (.int p1), .val (.long p2), .second, .val (.long p3), .second, .val (.int p4), .val (.int (Int32.ofNat pn)), .val (.int (Int32.ofNat sn)), .val (.ref b154), .val (.ref b164), .val (.ref b179), .unset, .unset, .unset, .unset, .unset] [] ?_
      refine own_newO X189 hx hZ172 hown172 (own_w hw 5 rfl) (own_w hw 6 rfl) (own_w hw 7 rfl) rfl hby at_68 (by decide) (by decide) ?_
      intro T195 h195 b195 X195 e195 E195 g195 A195 D195 lt195
      have z196 : T189.heap.size ≤ h195.size := E195.1
      have C197 := C193.trans (CHr.ext E195 C193.1)
      have F198 : Fld Z h195 b195 "java/lang/String" "value" "[B" .null := D195 (Or.inr (own_w hw 20 rfl)) (ty := (.array .byte)) (by decide)
      have F199 : Fld Z h195 b195 "java/lang/String" "coder" "B" (.int 0) := D195 (Or.inr (own_w hw 21 rfl)) (ty := .byte) (by decide)
      refine own_dup X195.here hx hby at_71 rfl ?_
      refine own_aload X195.here hx hby at_72 rfl rfl ?_
      have f200 := (P189_0.ext E195)
      have V201 : Arv Z h195 b179 k179 .char (Int32.ofNat ((own_cs p2 pn) ++ (own_cs p3 sn)).length) (((own_cs p2 pn) ++ (own_cs p3 sn)).map Value.int) (.int 0) := by
        have q := f200
        rw [own_rep2 hPl hSl] at q
        rw [show (Int32.ofNat (pn + sn)) = Int32.ofNat ((own_cs p2 pn) ++ (own_cs p3 sn)).length from by rw [List.length_append, hPl, hSl]] at q
        exact q
      have f202 := ((own_sta_keep (own_sta_keep ((own_sta_keep ((own_sta_keep (S_C.ext E154) K159 (allS (own_exa_plain C154) all0)).ext E164) K172 (allS (own_exa_plain A164) all0)).ext E179) K184 (allS (own_exa_plain C179) all0)) K189 (allS (own_exa_plain f192) all0)).ext E195)
      have z204 : n0 ≤ h195.size := by omega
      have hws_words : ∀ d ∈ StrChars.Road.words, d.before a0 Z = true := fun d hd => hw d ((by decide +kernel : ∀ d ∈ StrChars.Road.words, d ∈ tables_1) d hd)
      have hc205 : ((own_cs p2 pn) ++ (own_cs p3 sn)).length ≤ 15 := (by rw [List.length_append, hPl, hSl]; omega)
      refine own_specialB X195 hx hZ172 rfl hown172 (own_w hw 8 rfl) (own_w hw 9 rfl) (own_w hw 10 rfl) (by decide) (StrChars.Road.backV (W := 1) hZ172 hws_words (kI := 4) (own_w hw 6 rfl) (cs := ((own_cs p2 pn) ++ (own_cs p3 sn))) (bs := ((own_cs p2 pn) ++ (own_cs p3 sn)).map (fun c => c.toInt8.toInt32)) (n := ((own_cs p2 pn) ++ (own_cs p3 sn)).length) (by omega) z204 A195 F198 F199 V201 f202 hz rfl rfl (by rw [List.length_append, hPl, hSl]; omega) (Nat.le_trans (m := 15) hc205 (by decide)) (own_mem2 (own_csB p2 pn) (own_csB p3 sn)) rfl (by decide) (by decide)) (Nat.le_of_eq rfl) (by rw [hml]; rfl) (argsL := [(.ref b179)]) (st := [(.ref b195)]) (a := b195) (lenOf pd_28 rfl) rfl rfl (by decide) (own_sl (c := 15) hc205 (by decide)) e195 hby at_74 ?_
      intro T203 v203 L203 X203 hQ203
      obtain ⟨rfl, Nq203, K203, P203_0, P203_1, t_203, kb_203, P203_2, P203_3, P203_4, P203_5, P203_6⟩ := hQ203
      have N203 := Fr.app N189 Nq203
      have z206 : h195.size ≤ T203.heap.size := K203.1
      have C207 := C197.trans (CHr.keep K203 (sfS (own_safe_null hZ172.alike A195 F198) sf0) C197.1)
      have lt208 : T203.heap.size > b195 := P203_0.lt
      have lt209 : T203.heap.size > t_203 := P203_6.lt
      refine own_sh (T := T203) 77 #[.val (.int p1), .val (.long p2), .second, .val (.long p3), .second, .val (.int p4), .val (.int (Int32.ofNat pn)), .val (.int (Int32.ofNat sn)), .val (.ref b154), .val (.ref b164), .val (.ref b179), .unset, .unset, .unset, .unset, .unset] [(.ref b195)] ?_
      have Y203 := X203.mono (Nat.le_refl _) (Nat.add_le_add_left hc205 _)
      have V210 : Arv Z T203.heap t_203 kb_203 .byte (Int32.ofNat (own_cs p3 sn).length) (own_b (own_cs p3 sn)) (.int 0) := by
        have q := P203_6
        rw [show (own_cs p2 pn) = ([] : List Int32) from by rw [hp0]; rfl] at q
        skip
        exact q
      refine own_astore Y203.here hx hby at_77 rfl (l' := #[.val (.int p1), .val (.long p2), .second, .val (.long p3), .second, .val (.int p4), .val (.int (Int32.ofNat pn)), .val (.int (Int32.ofNat sn)), .val (.ref b154), .val (.ref b164), .val (.ref b179), .val (.ref b195), .unset, .unset, .unset, .unset]) rfl ?_
      refine own_iload Y203.here hx hby at_79 rfl ?_
      refine own_iconst Y203.here hx hby at_81 (v := (1 : Int32)) (by decide) ?_
      refine own_iadd Y203.here hx hby at_82 rfl ?_
      refine own_sh (T := T203) 83 #[.val (.int p1), .val (.long p2), .second, .val (.long p3), .second, .val (.int p4), .val (.int (Int32.ofNat pn)), .val (.int (Int32.ofNat sn)), .val (.ref b154), .val (.ref b164), .val (.ref b179), .val (.ref b195), .unset, .unset, .unset, .unset] [(.int ((Int32.ofNat sn) + (1 : Int32)))] ?_
      rw [show ((Int32.ofNat sn) + (1 : Int32)) = (Int32.ofNat (sn + 1)) from (own_nadd (b := 1) (by omega))]
      refine own_newP Y203 hx hZ172 (aty := .char) (own_w hw 0 rfl) rfl hby at_83 (own_n0 (by omega)) 15 (by rw [own_nC (by omega)]; omega) (by decide) (by decide) (by decide) (ad := "[C") (by decide) ?_
      intro T211 h211 k211 b211 X211 e211 E211 g211 V211 C211 lt211
      have z212 : T203.heap.size ≤ h211.size := E211.1
      have C213 := C207.trans (CHr.ext E211 C207.1)
      have V214 : Arv Z h211 b211 k211 .char (Int32.ofNat (sn + 1)) [] (.int 0) := V211
      refine own_astore X211.here hx hby at_85 rfl (l' := #[.val (.int p1), .val (.long p2), .second, .val (.long p3), .second, .val (.int p4), .val (.int (Int32.ofNat pn)), .val (.int (Int32.ofNat sn)), .val (.ref b154), .val (.ref b164), .val (.ref b179), .val (.ref b195), .val (.ref b211), .unset, .unset, .unset]) rfl ?_
      have V215 : Arv Z h211 b211 k211 .char (Int32.ofNat (sn + 1)) (List.replicate (sn + 1) (.int 0)) (.int 0) := V214.pad own_pad0
      refine own_aload X211.here hx hby at_87 rfl rfl ?_
      refine own_iconst X211.here hx hby at_89 (v := (0 : Int32)) (by decide) ?_
      refine own_bipush X211.here hx hby at_90 (v := (47 : Int32)) (by decide) ?_
      refine own_castore X211 hx hZ172 e211 V215 (own_idx0 (k := 0) (by omega) (by omega)) 0 (by decide) (by rw [List.length_replicate]; omega) (w := (.int 47)) rfl hby at_92 N203 (by omega) ?_
      intro T216 h216 lo216 X216 e216 N216 W216 V216 z216
      have V217 : Arv Z h216 b211 k211 .char (Int32.ofNat (sn + 1)) ((List.replicate (sn + 1) (.int 0)).set 0 (.int 47)) (.int 0) := V216
      have C218 := C213.trans (CHr.wr W216 (Safe.exa hZ172.alike C211 (by decide) (by decide)) C213.1)
      refine own_aload X216.here hx hby at_93 rfl rfl ?_
      refine own_iconst X216.here hx hby at_95 (v := (1 : Int32)) (by decide) ?_
      refine own_sh (T := T216) 96 #[.val (.int p1), .val (.long p2), .second, .val (.long p3), .second, .val (.int p4), .val (.int (Int32.ofNat pn)), .val (.int (Int32.ofNat sn)), .val (.ref b154), .val (.ref b164), .val (.ref b179), .val (.ref b195), .val (.ref b211), .unset, .unset, .unset] [(.int 1), (.ref b211)] ?_
      refine own_sh (T := T216) 96 #[.val (.int p1), .val (.long p2), .second, .val (.long p3), .second, .val (.int p4), .val (.int (Int32.ofNat pn)), .val (.int (Int32.ofNat sn)), .val (.ref b154), .val (.ref b164), .val (.ref b179), .val (.ref b195), .val (.ref b211), .unset, .unset, .unset] [(.int (Int32.ofNat 1)), (.ref b211)] ?_
      refine own_iload X216.here hx hby at_96 rfl ?_
      refine own_lloadN X216.here hx hby at_98 rfl ?_
      have z220 : n0 ≤ h216.size := by omega
      refine own_callS X216 hx hZ172 hown172 (own_w hw 1 rfl) (own_w hw 2 rfl) (own_w hw 3 rfl) (own_w hw 4 rfl) (by decide) (put_ l Z a0 hw [] b211 k211 1 sn (sn + 1) ((List.replicate (sn + 1) (.int 0)).set 0 (.int 47)) p3 h216 n0 z220 V217 (by omega) hsn (by omega) (by rw [List.length_set]; exact List.length_replicate) (by omega)) 0 (Nat.le_of_eq rfl) (by decide) (by decide) (by rw [hml]; rfl) (argsL := [(.ref b211), (.int (Int32.ofNat 1)), (.int (Int32.ofNat sn)), (.long p3)]) (st := []) (lenOf pd_27 rfl) rfl rfl (by decide) (by decide) e216 hby at_99 ?_
      intro T219 v219 L219 X219 hQ219
      obtain ⟨rfl, Nq219, K219, P219_0⟩ := hQ219
      have N219 := Fr.app N216 Nq219
      have z221 : h216.size ≤ T219.heap.size := K219.1
      have f222 := (C211.wr W216)
      have C223 := C218.trans (CHr.keep K219 (sfS (Safe.exa hZ172.alike f222 (by decide) (by decide)) sf0) C218.1)
      have lt224 : T219.heap.size > b211 := P219_0.lt
      refine own_sh (T := T219) 102 #[.val (.int p1), .val (.long p2), .second, .val (.long p3), .second, .val (.int p4), .val (.int (Int32.ofNat pn)), .val (.int (Int32.ofNat sn)), .val (.ref b154), .val (.ref b164), .val (.ref b179), .val (.ref b195), .val (.ref b211), .unset, .unset, .unset] [] ?_
      refine own_newO X219 hx hZ172 hown172 (own_w hw 5 rfl) (own_w hw 6 rfl) (own_w hw 7 rfl) rfl hby at_102 (by decide) (by decide) ?_
      intro T225 h225 b225 X225 e225 E225 g225 A225 D225 lt225
      have z226 : T219.heap.size ≤ h225.size := E225.1
      have C227 := C223.trans (CHr.ext E225 C223.1)
      have F228 : Fld Z h225 b225 "java/lang/String" "value" "[B" .null := D225 (Or.inr (own_w hw 20 rfl)) (ty := (.array .byte)) (by decide)
      have F229 : Fld Z h225 b225 "java/lang/String" "coder" "B" (.int 0) := D225 (Or.inr (own_w hw 21 rfl)) (ty := .byte) (by decide)
      refine own_dup X225.here hx hby at_105 rfl ?_
      refine own_aload X225.here hx hby at_106 rfl rfl ?_
      have f230 := (P219_0.ext E225)
      have V231 : Arv Z h225 b211 k211 .char (Int32.ofNat (([47] : List Int32) ++ (own_cs p3 sn)).length) ((([47] : List Int32) ++ (own_cs p3 sn)).map Value.int) (.int 0) := by
        have q := f230
        rw [own_rep3 hSl] at q
        rw [show (Int32.ofNat (sn + 1)) = Int32.ofNat (([47] : List Int32) ++ (own_cs p3 sn)).length from by rw [List.length_append, hSl, Nat.add_comm]; rfl] at q
        exact q
      have f232 := ((own_sta_keep (((own_sta_keep f202 K203 (allS (own_exa_plain A195) all0)).ext E211).wr W216) K219 (allS (own_exa_plain f222) all0)).ext E225)
      have z234 : n0 ≤ h225.size := by omega
      have hc235 : (([47] : List Int32) ++ (own_cs p3 sn)).length ≤ 15 := (by rw [List.length_append, hSl]; show 1 + sn ≤ 15; omega)
      refine own_specialB X225 hx hZ172 rfl hown172 (own_w hw 8 rfl) (own_w hw 9 rfl) (own_w hw 10 rfl) (by decide) (StrChars.Road.backV (W := 1) hZ172 hws_words (kI := 4) (own_w hw 6 rfl) (cs := (([47] : List Int32) ++ (own_cs p3 sn))) (bs := (([47] : List Int32) ++ (own_cs p3 sn)).map (fun c => c.toInt8.toInt32)) (n := (([47] : List Int32) ++ (own_cs p3 sn)).length) (by omega) z234 A225 F228 F229 V231 f232 hz rfl rfl (by rw [List.length_append, hSl]; exact Nat.lt_of_lt_of_le Nat.zero_lt_one (Nat.le_add_right 1 sn)) (Nat.le_trans (m := 15) hc235 (by decide)) (own_mem2 own_n47 (own_csB p3 sn)) rfl (by decide) (by decide)) (Nat.le_of_eq rfl) (by rw [hml]; rfl) (argsL := [(.ref b211)]) (st := [(.ref b225)]) (a := b225) (lenOf pd_28 rfl) rfl rfl (by decide) (own_sl (c := 15) hc235 (by decide)) e225 hby at_108 ?_
      intro T233 v233 L233 X233 hQ233
      obtain ⟨rfl, Nq233, K233, P233_0, P233_1, t_233, kb_233, P233_2, P233_3, P233_4, P233_5, P233_6⟩ := hQ233
      have N233 := Fr.app N219 Nq233
      have z236 : h225.size ≤ T233.heap.size := K233.1
      have C237 := C227.trans (CHr.keep K233 (sfS (own_safe_null hZ172.alike A225 F228) sf0) C227.1)
      have lt238 : T233.heap.size > b225 := P233_0.lt
      have lt239 : T233.heap.size > t_233 := P233_6.lt
      refine own_sh (T := T233) 111 #[.val (.int p1), .val (.long p2), .second, .val (.long p3), .second, .val (.int p4), .val (.int (Int32.ofNat pn)), .val (.int (Int32.ofNat sn)), .val (.ref b154), .val (.ref b164), .val (.ref b179), .val (.ref b195), .val (.ref b211), .unset, .unset, .unset] [(.ref b225)] ?_
      have Y233 := X233.mono (Nat.le_refl _) (Nat.add_le_add_left hc235 _)
      refine own_astore Y233.here hx hby at_111 rfl (l' := #[.val (.int p1), .val (.long p2), .second, .val (.long p3), .second, .val (.int p4), .val (.int (Int32.ofNat pn)), .val (.int (Int32.ofNat sn)), .val (.ref b154), .val (.ref b164), .val (.ref b179), .val (.ref b195), .val (.ref b211), .val (.ref b225), .unset, .unset]) rfl ?_
      refine own_newO Y233 hx hZ172 hown172 (own_w hw 37 rfl) (own_w hw 38 rfl) (own_w hw 39 rfl) rfl hby at_113 (by decide) (by decide) ?_
      intro T240 h240 b240 X240 e240 E240 g240 A240 D240 lt240
      have z241 : T233.heap.size ≤ h240.size := E240.1
      have C242 := C237.trans (CHr.ext E240 C237.1)
      have F243 : Fld Z h240 b240 "com/example/undercroft/undercroft/store/UriSpace" "prefix" "Ljava/lang/String;" .null := D240 (Or.inr (own_w hw 64 rfl)) (ty := (.object "java/lang/String")) (by decide)
      have F244 : Fld Z h240 b240 "com/example/undercroft/undercroft/store/UriSpace" "ownSystem" "Ljava/lang/String;" .null := D240 (Or.inr (own_w hw 66 rfl)) (ty := (.object "java/lang/String")) (by decide)
      refine own_dup X240.here hx hby at_116 rfl ?_
      refine own_aload X240.here hx hby at_117 rfl rfl ?_
      refine own_iload X240.here hx hby at_119 rfl ?_
      refine own_sipush X240.here hx hby at_121 (v := (255 : Int32)) (by decide) ?_
      refine own_iand X240.here hx hby at_124 rfl ?_
      refine own_i2c X240.here hx hby at_125 rfl ?_
      refine own_sh (T := T240) 126 #[.val (.int p1), .val (.long p2), .second, .val (.long p3), .second, .val (.int p4), .val (.int (Int32.ofNat pn)), .val (.int (Int32.ofNat sn)), .val (.ref b154), .val (.ref b164), .val (.ref b179), .val (.ref b195), .val (.ref b211), .val (.ref b225), .unset, .unset] [(.int ((p4 &&& (255 : Int32)).toUInt32.toUInt16.toUInt32.toInt32)), (.ref b164), (.ref b240), (.ref b240)] ?_
      rw [show ((p4 &&& (255 : Int32)).toUInt32.toUInt16.toUInt32.toInt32) = (p4 &&& (255 : Int32)) from (i2c_mask p4)]
      have f245 := ((own_sta_keep f232 K233 (allS (own_exa_plain A225) all0)).ext E240)
      have z247 : n0 ≤ h240.size := by omega
      refine own_callS X240 hx hZ172 hown172 (own_w hw 40 rfl) (own_w hw 41 rfl) (own_w hw 7 rfl) (own_w hw 42 rfl) (by decide) (valOf l Z a0 hw [] (p4 &&& (255 : Int32)) zc h240 n0 z247 f245 hz (own_c255 p4).2) 3 (Nat.le_of_eq rfl) (by decide) (by decide) (by rw [hml]; rfl) (argsL := [(.int (p4 &&& (255 : Int32)))]) (st := [(.ref b164), (.ref b240), (.ref b240)]) (lenOf pd_29 rfl) rfl rfl (by decide) (by decide) e240 hby at_126 ?_
      intro T246 v246 L246 X246 hQ246
      obtain ⟨x_246, t_246, kb_246, rfl, Nq246, K246, P246_0, P246_1, P246_2, P246_3, P246_4, P246_5, P246_6⟩ := hQ246
      have N246 := Fr.app N233 Nq246
      have z248 : h240.size ≤ T246.heap.size := K246.1
      have C249 := C242.trans (CHr.keep K246 sf0 C242.1)
      have lt250 : T246.heap.size > x_246 := P246_3.lt
      have lt251 : T246.heap.size > t_246 := P246_6.lt
      refine own_sh (T := T246) 129 #[.val (.int p1), .val (.long p2), .second, .val (.long p3), .second, .val (.int p4), .val (.int (Int32.ofNat pn)), .val (.int (Int32.ofNat sn)), .val (.ref b154), .val (.ref b164), .val (.ref b179), .val (.ref b195), .val (.ref b211), .val (.ref b225), .unset, .unset] [(.ref x_246), (.ref b164), (.ref b240), (.ref b240)] ?_
      have f252 := (A240.keep K246)
      have f253 := (F243.keep K246 nin0)
      have f254 := (F244.keep K246 nin0)
      have z256 : n0 ≤ T246.heap.size := by omega
      refine own_special X246 hx hZ172 rfl hown172 (own_w hw 54 rfl) (own_w hw 55 rfl) (own_w hw 39 rfl) (own_w hw 56 rfl) (by decide) (uriInit l Z a0 hw [] b240 b164 x_246 T246.heap n0 z256 f252 (by omega) f253 f254) 1 (Nat.le_of_eq rfl) (by decide) (by decide) (by rw [hml]; rfl) (argsL := [(.ref b164), (.ref x_246)]) (st := [(.ref b240)]) (a := b240) (lenOf pd_30 rfl) rfl rfl (by decide) (by decide) rfl hby at_129 ?_
      intro T255 v255 L255 X255 hQ255
      obtain ⟨rfl, Nq255, K255, P255_0, P255_1⟩ := hQ255
      have N255 := Fr.app N246 Nq255
      have z257 : T246.heap.size ≤ T255.heap.size := K255.1
      have C258 := C249.trans (CHr.keep K255 (sfS (Safe.exa hZ172.alike f252 (by decide) (by decide)) sf0) C249.1)
      have lt259 : T255.heap.size > b240 := P255_0.lt
      refine own_sh (T := T255) 132 #[.val (.int p1), .val (.long p2), .second, .val (.long p3), .second, .val (.int p4), .val (.int (Int32.ofNat pn)), .val (.int (Int32.ofNat sn)), .val (.ref b154), .val (.ref b164), .val (.ref b179), .val (.ref b195), .val (.ref b211), .val (.ref b225), .unset, .unset] [(.ref b240)] ?_
      refine own_astore X255.here hx hby at_132 rfl (l' := #[.val (.int p1), .val (.long p2), .second, .val (.long p3), .second, .val (.int p4), .val (.int (Int32.ofNat pn)), .val (.int (Int32.ofNat sn)), .val (.ref b154), .val (.ref b164), .val (.ref b179), .val (.ref b195), .val (.ref b211), .val (.ref b225), .val (.ref b240), .unset]) rfl ?_
      refine own_aload X255.here hx hby at_134 rfl rfl ?_
      refine own_aload X255.here hx hby at_136 rfl rfl ?_
      have f260 := (((((((((((((P172_0.ext E179).keep K184).keep K189).ext E195).keep K203).ext E211).wr W216).keep K219).ext E225).keep K233).ext E240).keep K246).keep K255)
      have f261 := (((((((((((((P172_1.ext E179).keep K184 (ninS (own_nn (by omega)) nin0)).keep K189 (ninS (own_nn (by omega)) nin0)).ext E195).keep K203 (ninS (own_nn (by omega)) nin0)).ext E211).other W216 (Or.inl (own_nn (by omega)))).keep K219 (ninS (own_nn (by omega)) nin0)).ext E225).keep K233 (ninS (own_nn (by omega)) nin0)).ext E240).keep K246 nin0).keep K255 (ninS (own_nn (by omega)) nin0))
      have f262 := (((((((((((((P172_2.ext E179).keep K184 (ninS (own_nn (by omega)) nin0)).keep K189 (ninS (own_nn (by omega)) nin0)).ext E195).keep K203 (ninS (own_nn (by omega)) nin0)).ext E211).other W216 (Or.inl (own_nn (by omega)))).keep K219 (ninS (own_nn (by omega)) nin0)).ext E225).keep K233 (ninS (own_nn (by omega)) nin0)).ext E240).keep K246 nin0).keep K255 (ninS (own_nn (by omega)) nin0))
      have f263 := (((((((((((((V178.ext E179).keep K184 (ninS (own_nn (by omega)) nin0)).keep K189 (ninS (own_nn (by omega)) nin0)).ext E195).keep K203 (ninS (own_nn (by omega)) nin0)).ext E211).other W216 (own_nn (by omega))).keep K219 (ninS (own_nn (by omega)) nin0)).ext E225).keep K233 (ninS (own_nn (by omega)) nin0)).ext E240).keep K246 nin0).keep K255 (ninS (own_nn (by omega)) nin0))
      have f264 := ((((((((P203_0.ext E211).wr W216).keep K219).ext E225).keep K233).ext E240).keep K246).keep K255)
      have f265 := ((((((((P203_1.ext E211).other W216 (Or.inl (own_nn (by omega)))).keep K219 (ninS (own_nn (by omega)) nin0)).ext E225).keep K233 (ninS (own_nn (by omega)) nin0)).ext E240).keep K246 nin0).keep K255 (ninS (own_nn (by omega)) nin0))
      have f266 := ((((((((P203_5.ext E211).other W216 (Or.inl (own_nn (by omega)))).keep K219 (ninS (own_nn (by omega)) nin0)).ext E225).keep K233 (ninS (own_nn (by omega)) nin0)).ext E240).keep K246 nin0).keep K255 (ninS (own_nn (by omega)) nin0))
      have f267 := ((((((((V210.ext E211).other W216 (own_nn (by omega))).keep K219 (ninS (own_nn (by omega)) nin0)).ext E225).keep K233 (ninS (own_nn (by omega)) nin0)).ext E240).keep K246 nin0).keep K255 (ninS (own_nn (by omega)) nin0))
      have f268 := (own_sta_keep (own_sta_keep f245 K246 all0) K255 (allS (own_exa_plain f252) all0))
      have f269 := (own_sta_keep (own_sta_keep ((own_sta_keep ((own_sta_keep (((own_sta_keep ((own_sta_keep (own_sta_keep ((own_sta_keep ((own_sta_keep (S_FM.ext E154) K159 (allS (own_exa_plain C154) all0)).ext E164) K172 (allS (own_exa_plain A164) all0)).ext E179) K184 (allS (own_exa_plain C179) all0)) K189 (allS (own_exa_plain f192) all0)).ext E195) K203 (allS (own_exa_plain A195) all0)).ext E211).wr W216) K219 (allS (own_exa_plain f222) all0)).ext E225) K233 (allS (own_exa_plain A225) all0)).ext E240) K246 all0) K255 (allS (own_exa_plain f252) all0))
      have z271 : n0 ≤ T255.heap.size := by omega
      refine own_virtualH X255 hx hZ172 hEL hown172 (own_w hw 67 rfl) (own_w hw 68 rfl) (notFace_of_selects (args := #[]) (mvT hZ172 (own_w hw 70 rfl))) (own_w hw 70 rfl) (own_w hw 69 rfl) (own_w hw 39 rfl) (own_w hw 71 rfl) (by decide) (pathOf_Z l Z a0 hw [] b240 b164 t_172 b195 t_203 kb_172 kb_203 (own_cs p3 sn) zc fm T255.heap n0 z271 P255_0 P255_1 f260 f261 f262 f263 f264 f265 f266 f267 f268 hz f269 hfm (by rw [hSl]; omega)) 0 (Nat.le_of_eq rfl) (by decide) (by decide) (by rw [hml]; rfl) (argsL := [(.ref b195)]) (st := []) P255_0 (lenOf pd_31 rfl) rfl rfl (by decide) (by decide) rfl hby C258.1 hS172 (by omega) at_138 ?_
      intro T270 v270 L270 vm270 X270 hS270 hZ270 hown270 hg270 Cn270 hQ270
      obtain ⟨r_270, tr_270, kr_270, rfl, Nq270, K270, P270_0, P270_1, P270_2, P270_3, P270_4⟩ := hQ270
      have N270 := Fr.app N255 Nq270
      have z272 : T255.heap.size ≤ T270.heap.size := K270.1
      have C273 := C258.trans Cn270
      have lt274 : T270.heap.size > r_270 := P270_1.lt
      have lt275 : T270.heap.size > tr_270 := P270_4.lt
      refine own_sh (T := T270) 141 #[.val (.int p1), .val (.long p2), .second, .val (.long p3), .second, .val (.int p4), .val (.int (Int32.ofNat pn)), .val (.int (Int32.ofNat sn)), .val (.ref b154), .val (.ref b164), .val (.ref b179), .val (.ref b195), .val (.ref b211), .val (.ref b225), .val (.ref b240), .unset] [(.ref r_270)] ?_
      refine own_astore X270.here hx hby at_141 rfl (l' := #[.val (.int p1), .val (.long p2), .second, .val (.long p3), .second, .val (.int p4), .val (.int (Int32.ofNat pn)), .val (.int (Int32.ofNat sn)), .val (.ref b154), .val (.ref b164), .val (.ref b179), .val (.ref b195), .val (.ref b211), .val (.ref b225), .val (.ref b240), .val (.ref r_270)]) rfl ?_
      refine own_aload X270.here hx hby at_143 rfl rfl ?_
      refine own_aload X270.here hx hby at_145 rfl rfl ?_
      have f276 := ((((P233_0.ext E240).keep K246).keep K255).keep K270)
      have f277 := ((((P233_1.ext E240).keep K246 nin0).keep K255 (ninS (own_nn (by omega)) nin0)).keep K270 nin0)
      have f278 := ((((P233_5.ext E240).keep K246 nin0).keep K255 (ninS (own_nn (by omega)) nin0)).keep K270 nin0)
      have f279 := ((((P233_6.ext E240).keep K246 nin0).keep K255 (ninS (own_nn (by omega)) nin0)).keep K270 nin0)
      have f280 := (own_sta_keep f268 K270 all0)
      have z282 : n0 ≤ T270.heap.size := by omega
      have hws_wordsEq : ∀ d ∈ StrChars.Road.wordsEq, d.before a0 Z = true := fun d hd => hw d ((by decide +kernel : ∀ d ∈ StrChars.Road.wordsEq, d ∈ tables_1) d hd)
      refine own_virtualB (Qc := fun v H L => v = some (.int 1) ∧ Fr n0 L ∧ H = T270.heap) X270 hx hZ270 hown270 (own_w hw 203 rfl) (own_w hw 204 rfl) (notFace_of_selects (args := #[]) (mvT hZ270 (own_w hw 206 rfl))) (own_w hw 206 rfl) (own_w hw 205 rfl) (by decide) (Back.mono (StrChars.Road.eqW (W := 0) hZ270 hws_wordsEq (kI := 4) (own_w hw 6 rfl) P270_1 P270_3 P270_2 P270_4 (StrChars.Road.codOf (cs := (([47] : List Int32) ++ (own_cs p3 sn))) rfl (fun c hc => ((own_mem2 own_n47 (own_csB p3 sn)) c hc).2)) (own_hi (own_mem2 own_n47 (own_csB p3 sn))) (Nat.le_trans (m := 15) (by rw [List.length_append, hSl]; show 1 + sn ≤ 15; omega) (by decide)) f276 f278 f277 f279 (StrChars.Road.codOf (cs := (([47] : List Int32) ++ (own_cs p3 sn))) rfl (fun c hc => ((own_mem2 own_n47 (own_csB p3 sn)) c hc).2)) (own_hi (own_mem2 own_n47 (own_csB p3 sn))) (Nat.le_trans (m := 15) (by rw [List.length_append, hSl]; show 1 + sn ≤ 15; omega) (by decide)) f280 hz (by decide) (by decide)) (fun _ _ hp => hp) (fun _ _ _ _ _ hq => own_eqQ (n0 := n0) hq)) (Nat.le_of_eq rfl) (by rw [hml]; rfl) (argsL := [(.ref b225)]) (st := []) P270_1 (lenOf pd_32 rfl) rfl rfl (by decide) (by decide) rfl hby at_147 ?_
      intro T281 v281 L281 X281 hQ281
      obtain ⟨rfl, Nq281, eh281⟩ := hQ281
      have N281 := Fr.app N270 Nq281
      refine own_sh (T := T281) 150 #[.val (.int p1), .val (.long p2), .second, .val (.long p3), .second, .val (.int p4), .val (.int (Int32.ofNat pn)), .val (.int (Int32.ofNat sn)), .val (.ref b154), .val (.ref b164), .val (.ref b179), .val (.ref b195), .val (.ref b211), .val (.ref b225), .val (.ref b240), .val (.ref r_270)] [(.int 1)] ?_
      refine own_ifNo X281.here hx hby at_150 ((if0 _ _).trans (feq (show ¬ ((1 : Int32) = (0 : Int32)) from (by decide))).1) ?_
      refine own_aload X281.here hx hby at_153 rfl rfl ?_
      refine own_aload X281.here hx hby at_155 rfl rfl ?_
      have f283 := (P255_0.keep K270)
      have f284 := (P255_1.keep K270 nin0)
      have f285 := (f260.keep K270)
      have f286 := (f261.keep K270 nin0)
      have f287 := (f262.keep K270 nin0)
      have f288 := (f263.keep K270 nin0)
      have f289 := (own_sta_keep f269 K270 all0)
      refine own_virtual X281 hx hZ270 hown270 (own_w hw 211 rfl) (own_w hw 212 rfl) (notFace_of_selects (args := #[]) (mvT hZ270 (own_w hw 214 rfl))) (own_w hw 214 rfl) (own_w hw 213 rfl) (own_w hw 39 rfl) (own_w hw 215 rfl) (by decide) (uriOf_C l Z a0 hw [] b240 b164 t_172 r_270 tr_270 kb_172 kr_270 ([] : List Int32) (own_cs p3 sn) zc fm T270.heap n0 z282 f283 f284 f285 f286 f287 f288 P270_1 P270_2 P270_3 P270_4 f280 hz f289 hfm (by decide) (by rw [hSl]; omega) (by rw [hSl]; omega)) 0 (Nat.le_of_eq rfl) (by decide) (by decide) (by rw [hml]; rfl) (argsL := [(.ref r_270)]) (st := []) f283 (lenOf pd_31 rfl) rfl rfl (by decide) (by decide) eh281 hby at_157 ?_
      intro T290 v290 L290 X290 hQ290
      obtain ⟨r_290, tr_290, kr_290, rfl, Nq290, K290, P290_0, P290_1, P290_2, P290_3, P290_4⟩ := hQ290
      have N290 := Fr.app N281 Nq290
      have z291 : T270.heap.size ≤ T290.heap.size := K290.1
      have C292 := C273.trans (CHr.keep K290 sf0 C273.1)
      have lt293 : T290.heap.size > r_290 := P290_1.lt
      have lt294 : T290.heap.size > tr_290 := P290_4.lt
      refine own_sh (T := T290) 160 #[.val (.int p1), .val (.long p2), .second, .val (.long p3), .second, .val (.int p4), .val (.int (Int32.ofNat pn)), .val (.int (Int32.ofNat sn)), .val (.ref b154), .val (.ref b164), .val (.ref b179), .val (.ref b195), .val (.ref b211), .val (.ref b225), .val (.ref b240), .val (.ref r_270)] [(.ref r_290)] ?_
      have V295 : Arv Z T290.heap tr_290 kr_290 .byte (Int32.ofNat (own_cs p3 sn).length) (own_b (own_cs p3 sn)) (.int 0) := P290_4
      refine own_aload X290.here hx hby at_160 rfl rfl ?_
      have f296 := ((f264.keep K270).keep K290)
      have f297 := ((f265.keep K270 nin0).keep K290 nin0)
      have f298 := ((f266.keep K270 nin0).keep K290 nin0)
      have f299 := ((f267.keep K270 nin0).keep K290 nin0)
      have f300 := (own_sta_keep f280 K290 all0)
      have z302 : n0 ≤ T290.heap.size := by omega
      refine own_virtualB (Qc := fun v H L => v = some (.int 1) ∧ Fr n0 L ∧ H = T290.heap) X290 hx hZ270 hown270 (own_w hw 203 rfl) (own_w hw 204 rfl) (notFace_of_selects (args := #[]) (mvT hZ270 (own_w hw 206 rfl))) (own_w hw 206 rfl) (own_w hw 205 rfl) (by decide) (Back.mono (StrChars.Road.eqW (W := 0) hZ270 hws_wordsEq (kI := 4) (own_w hw 6 rfl) P290_1 P290_3 P290_2 V295 (StrChars.Road.codOf (cs := (own_cs p3 sn)) rfl (fun c hc => ((own_csB p3 sn) c hc).2)) (own_hi (own_csB p3 sn)) (Nat.le_trans (m := 15) (by rw [hSl]; omega) (by decide)) f296 f298 f297 f299 (StrChars.Road.codOf (cs := (own_cs p3 sn)) rfl (fun c hc => ((own_csB p3 sn) c hc).2)) (own_hi (own_csB p3 sn)) (Nat.le_trans (m := 15) (by rw [hSl]; omega) (by decide)) f300 hz (by decide) (by decide)) (fun _ _ hp => hp) (fun _ _ _ _ _ hq => own_eqQ (n0 := n0) hq)) (Nat.le_of_eq rfl) (by rw [hml]; rfl) (argsL := [(.ref b195)]) (st := []) P290_1 (lenOf pd_32 rfl) rfl rfl (by decide) (by decide) rfl hby at_162 ?_
      intro T301 v301 L301 X301 hQ301
      obtain ⟨rfl, Nq301, eh301⟩ := hQ301
      have N301 := Fr.app N290 Nq301
      refine own_sh (T := T301) 165 #[.val (.int p1), .val (.long p2), .second, .val (.long p3), .second, .val (.int p4), .val (.int (Int32.ofNat pn)), .val (.int (Int32.ofNat sn)), .val (.ref b154), .val (.ref b164), .val (.ref b179), .val (.ref b195), .val (.ref b211), .val (.ref b225), .val (.ref b240), .val (.ref r_270)] [(.int 1)] ?_
      refine own_ifNo X301.here hx hby at_165 ((if0 _ _).trans (feq (show ¬ ((1 : Int32) = (0 : Int32)) from (by decide))).1) ?_
      refine own_iconst X301.here hx hby at_168 (v := (1 : Int32)) (by decide) ?_
      refine own_goto X301.here hx hby (pc' := 173) at_169 (by decide) (by decide) ?_
      obtain ⟨fs, hr, hrun, hended, hRW⟩ := X301.leaveW hS270 (by rw [eh301]; omega) (v := some (.int 1)) (fun h => by rw [Bd.returns] at h; cases h) Bd.notSynchronized
      have hCf : CHr Z consts_1 s.vm s.heap T301.vm T301.heap := by
        rw [hh, eh301]
        exact C292.trans (CHv.at X301 hZ270 hEL C292.1)
      refine own_ret (t := T301.setFrames fs) ?_ ⟨_, hrun, hended, _, _, rfl, ?_, hCf, hRW.1, hRW.2.1, hRW.2.2.1, hRW.2.2.2.mono (by decide) (by decide)⟩
      · exact retN X301 hx (t := .boolean) Bd.returns (by simp) (hb hby at_173) hr
      · show Q_rm0 Z _ _ _ _ _ _ h0 n0 _ T301.heap _
        rw [eh301]
        exact ⟨rfl, N301, trivial⟩
  · refine own_sh (T := s₁) 14 #[.val (.int p1), .val (.long p2), .second, .val (.long p3), .second, .val (.int p4), .val (.int (Int32.ofNat pn)), .val (.int (Int32.ofNat sn)), .unset, .unset, .unset, .unset, .unset, .unset, .unset, .unset] [] ?_
    by_cases hs0 : sn = 0
    · refine own_iload Y0.here hx hby at_14 rfl ?_
      refine own_newP Y0 hx hZ (aty := .char) (own_w hw 0 rfl) e0 hby at_16 (own_n0 (by omega)) 15 (by rw [own_nC (by omega)]; omega) (by decide) (by decide) (by decide) (ad := "[C") (by decide) ?_
      intro T303 h303 k303 b303 X303 e303 E303 g303 V303 C303 lt303
      have z304 : h0.size ≤ h303.size := E303.1
      have C305 := C0.trans (CHr.ext E303 C0.1)
      have V306 : Arv Z h303 b303 k303 .char (Int32.ofNat pn) [] (.int 0) := V303
      refine own_astore X303.here hx hby at_18 rfl (l' := #[.val (.int p1), .val (.long p2), .second, .val (.long p3), .second, .val (.int p4), .val (.int (Int32.ofNat pn)), .val (.int (Int32.ofNat sn)), .val (.ref b303), .unset, .unset, .unset, .unset, .unset, .unset, .unset]) rfl ?_
      have V307 : Arv Z h303 b303 k303 .char (Int32.ofNat pn) (List.replicate pn (.int 0)) (.int 0) := V306.pad own_pad0
      refine own_aload X303.here hx hby at_20 rfl rfl ?_
      refine own_iconst X303.here hx hby at_22 (v := (0 : Int32)) (by decide) ?_
      refine own_sh (T := T303) 23 #[.val (.int p1), .val (.long p2), .second, .val (.long p3), .second, .val (.int p4), .val (.int (Int32.ofNat pn)), .val (.int (Int32.ofNat sn)), .val (.ref b303), .unset, .unset, .unset, .unset, .unset, .unset, .unset] [(.int 0), (.ref b303)] ?_
      refine own_sh (T := T303) 23 #[.val (.int p1), .val (.long p2), .second, .val (.long p3), .second, .val (.int p4), .val (.int (Int32.ofNat pn)), .val (.int (Int32.ofNat sn)), .val (.ref b303), .unset, .unset, .unset, .unset, .unset, .unset, .unset] [(.int (Int32.ofNat 0)), (.ref b303)] ?_
      refine own_iload X303.here hx hby at_23 rfl ?_
      refine own_lloadN X303.here hx hby at_25 rfl ?_
      have z309 : n0 ≤ h303.size := by omega
      refine own_callS X303 hx hZ hown (own_w hw 1 rfl) (own_w hw 2 rfl) (own_w hw 3 rfl) (own_w hw 4 rfl) (by decide) (put_ l Z a0 hw [] b303 k303 0 pn pn (List.replicate pn (.int 0)) p2 h303 n0 z309 V307 (by omega) hpn (by omega) (List.length_replicate) (by omega)) 0 (Nat.le_of_eq rfl) (by decide) (by decide) (by rw [hml]; rfl) (argsL := [(.ref b303), (.int (Int32.ofNat 0)), (.int (Int32.ofNat pn)), (.long p2)]) (st := []) (lenOf pd_27 rfl) rfl rfl (by decide) (by decide) e303 hby at_26 ?_
      intro T308 v308 L308 X308 hQ308
      obtain ⟨rfl, Nq308, K308, P308_0⟩ := hQ308
      have N308 := Fr.app N0 Nq308
      have z310 : h303.size ≤ T308.heap.size := K308.1
      have C311 := C305.trans (CHr.keep K308 (sfS (Safe.exa hZ.alike C303 (by decide) (by decide)) sf0) C305.1)
      have lt312 : T308.heap.size > b303 := P308_0.lt
      refine own_sh (T := T308) 29 #[.val (.int p1), .val (.long p2), .second, .val (.long p3), .second, .val (.int p4), .val (.int (Int32.ofNat pn)), .val (.int (Int32.ofNat sn)), .val (.ref b303), .unset, .unset, .unset, .unset, .unset, .unset, .unset] [] ?_
      refine own_newO X308 hx hZ hown (own_w hw 5 rfl) (own_w hw 6 rfl) (own_w hw 7 rfl) rfl hby at_29 (by decide) (by decide) ?_
      intro T313 h313 b313 X313 e313 E313 g313 A313 D313 lt313
      have z314 : T308.heap.size ≤ h313.size := E313.1
      have C315 := C311.trans (CHr.ext E313 C311.1)
      have F316 : Fld Z h313 b313 "java/lang/String" "value" "[B" .null := D313 (Or.inr (own_w hw 20 rfl)) (ty := (.array .byte)) (by decide)
      have F317 : Fld Z h313 b313 "java/lang/String" "coder" "B" (.int 0) := D313 (Or.inr (own_w hw 21 rfl)) (ty := .byte) (by decide)
      refine own_dup X313.here hx hby at_32 rfl ?_
      refine own_aload X313.here hx hby at_33 rfl rfl ?_
      have f318 := (P308_0.ext E313)
      have V319 : Arv Z h313 b303 k303 .char (Int32.ofNat (own_cs p2 pn).length) ((own_cs p2 pn).map Value.int) (.int 0) := by
        have q := f318
        rw [own_rep1 hPl] at q
        rw [show (Int32.ofNat pn) = Int32.ofNat (own_cs p2 pn).length from by rw [hPl]] at q
        exact q
      have f320 := ((own_sta_keep (S_C.ext E303) K308 (allS (own_exa_plain C303) all0)).ext E313)
      have z322 : n0 ≤ h313.size := by omega
      have hws_words : ∀ d ∈ StrChars.Road.words, d.before a0 Z = true := fun d hd => hw d ((by decide +kernel : ∀ d ∈ StrChars.Road.words, d ∈ tables_1) d hd)
      have hc323 : (own_cs p2 pn).length ≤ 15 := (by rw [hPl]; omega)
      refine own_specialB X313 hx hZ rfl hown (own_w hw 8 rfl) (own_w hw 9 rfl) (own_w hw 10 rfl) (by decide) (StrChars.Road.backV (W := 1) hZ hws_words (kI := 4) (own_w hw 6 rfl) (cs := (own_cs p2 pn)) (bs := (own_cs p2 pn).map (fun c => c.toInt8.toInt32)) (n := (own_cs p2 pn).length) (by omega) z322 A313 F316 F317 V319 f320 hz rfl rfl (by rw [hPl]; omega) (Nat.le_trans (m := 15) hc323 (by decide)) (own_csB p2 pn) rfl (by decide) (by decide)) (Nat.le_of_eq rfl) (by rw [hml]; rfl) (argsL := [(.ref b303)]) (st := [(.ref b313)]) (a := b313) (lenOf pd_28 rfl) rfl rfl (by decide) (own_sl (c := 15) hc323 (by decide)) e313 hby at_35 ?_
      intro T321 v321 L321 X321 hQ321
      obtain ⟨rfl, Nq321, K321, P321_0, P321_1, t_321, kb_321, P321_2, P321_3, P321_4, P321_5, P321_6⟩ := hQ321
      have N321 := Fr.app N308 Nq321
      have z324 : h313.size ≤ T321.heap.size := K321.1
      have C325 := C315.trans (CHr.keep K321 (sfS (own_safe_null hZ.alike A313 F316) sf0) C315.1)
      have lt326 : T321.heap.size > b313 := P321_0.lt
      have lt327 : T321.heap.size > t_321 := P321_6.lt
      refine own_sh (T := T321) 38 #[.val (.int p1), .val (.long p2), .second, .val (.long p3), .second, .val (.int p4), .val (.int (Int32.ofNat pn)), .val (.int (Int32.ofNat sn)), .val (.ref b303), .unset, .unset, .unset, .unset, .unset, .unset, .unset] [(.ref b313)] ?_
      have Y321 := X321.mono (Nat.le_refl _) (Nat.add_le_add_left hc323 _)
      refine own_astore Y321.here hx hby at_38 rfl (l' := #[.val (.int p1), .val (.long p2), .second, .val (.long p3), .second, .val (.int p4), .val (.int (Int32.ofNat pn)), .val (.int (Int32.ofNat sn)), .val (.ref b303), .val (.ref b313), .unset, .unset, .unset, .unset, .unset, .unset]) rfl ?_
      refine own_iload Y321.here hx hby at_40 rfl ?_
      refine own_iload Y321.here hx hby at_42 rfl ?_
      refine own_iadd Y321.here hx hby at_44 rfl ?_
      refine own_sh (T := T321) 45 #[.val (.int p1), .val (.long p2), .second, .val (.long p3), .second, .val (.int p4), .val (.int (Int32.ofNat pn)), .val (.int (Int32.ofNat sn)), .val (.ref b303), .val (.ref b313), .unset, .unset, .unset, .unset, .unset, .unset] [(.int ((Int32.ofNat pn) + (Int32.ofNat sn)))] ?_
      rw [show ((Int32.ofNat pn) + (Int32.ofNat sn)) = (Int32.ofNat (pn + sn)) from (own_nadd (by omega))]
      refine own_newP Y321 hx hZ (aty := .char) (own_w hw 0 rfl) rfl hby at_45 (own_n0 (by omega)) 15 (by rw [own_nC (by omega)]; omega) (by decide) (by decide) (by decide) (ad := "[C") (by decide) ?_
      intro T328 h328 k328 b328 X328 e328 E328 g328 V328 C328 lt328
      have z329 : T321.heap.size ≤ h328.size := E328.1
      have C330 := C325.trans (CHr.ext E328 C325.1)
      have V331 : Arv Z h328 b328 k328 .char (Int32.ofNat (pn + sn)) [] (.int 0) := V328
      refine own_astore X328.here hx hby at_47 rfl (l' := #[.val (.int p1), .val (.long p2), .second, .val (.long p3), .second, .val (.int p4), .val (.int (Int32.ofNat pn)), .val (.int (Int32.ofNat sn)), .val (.ref b303), .val (.ref b313), .val (.ref b328), .unset, .unset, .unset, .unset, .unset]) rfl ?_
      have V332 : Arv Z h328 b328 k328 .char (Int32.ofNat (pn + sn)) (List.replicate (pn + sn) (.int 0)) (.int 0) := V331.pad own_pad0
      refine own_aload X328.here hx hby at_49 rfl rfl ?_
      refine own_iconst X328.here hx hby at_51 (v := (0 : Int32)) (by decide) ?_
      refine own_sh (T := T328) 52 #[.val (.int p1), .val (.long p2), .second, .val (.long p3), .second, .val (.int p4), .val (.int (Int32.ofNat pn)), .val (.int (Int32.ofNat sn)), .val (.ref b303), .val (.ref b313), .val (.ref b328), .unset, .unset, .unset, .unset, .unset] [(.int 0), (.ref b328)] ?_
      refine own_sh (T := T328) 52 #[.val (.int p1), .val (.long p2), .second, .val (.long p3), .second, .val (.int p4), .val (.int (Int32.ofNat pn)), .val (.int (Int32.ofNat sn)), .val (.ref b303), .val (.ref b313), .val (.ref b328), .unset, .unset, .unset, .unset, .unset] [(.int (Int32.ofNat 0)), (.ref b328)] ?_
      refine own_iload X328.here hx hby at_52 rfl ?_
      refine own_lloadN X328.here hx hby at_54 rfl ?_
      have z334 : n0 ≤ h328.size := by omega
      refine own_callS X328 hx hZ hown (own_w hw 1 rfl) (own_w hw 2 rfl) (own_w hw 3 rfl) (own_w hw 4 rfl) (by decide) (put_ l Z a0 hw [] b328 k328 0 pn (pn + sn) (List.replicate (pn + sn) (.int 0)) p2 h328 n0 z334 V332 (by omega) hpn (by omega) (List.length_replicate) (by omega)) 0 (Nat.le_of_eq rfl) (by decide) (by decide) (by rw [hml]; rfl) (argsL := [(.ref b328), (.int (Int32.ofNat 0)), (.int (Int32.ofNat pn)), (.long p2)]) (st := []) (lenOf pd_27 rfl) rfl rfl (by decide) (by decide) e328 hby at_55 ?_
      intro T333 v333 L333 X333 hQ333
      obtain ⟨rfl, Nq333, K333, P333_0⟩ := hQ333
      have N333 := Fr.app N321 Nq333
      have z335 : h328.size ≤ T333.heap.size := K333.1
      have C336 := C330.trans (CHr.keep K333 (sfS (Safe.exa hZ.alike C328 (by decide) (by decide)) sf0) C330.1)
      have lt337 : T333.heap.size > b328 := P333_0.lt
      refine own_sh (T := T333) 58 #[.val (.int p1), .val (.long p2), .second, .val (.long p3), .second, .val (.int p4), .val (.int (Int32.ofNat pn)), .val (.int (Int32.ofNat sn)), .val (.ref b303), .val (.ref b313), .val (.ref b328), .unset, .unset, .unset, .unset, .unset] [] ?_
      refine own_aload X333.here hx hby at_58 rfl rfl ?_
      refine own_iload X333.here hx hby at_60 rfl ?_
      refine own_iload X333.here hx hby at_62 rfl ?_
      refine own_lloadN X333.here hx hby at_64 rfl ?_
      have z339 : n0 ≤ T333.heap.size := by omega
      refine own_callS X333 hx hZ hown (own_w hw 1 rfl) (own_w hw 2 rfl) (own_w hw 3 rfl) (own_w hw 4 rfl) (by decide) (put_ l Z a0 hw [] b328 k328 pn sn (pn + sn) (own_sets (List.replicate (pn + sn) (.int 0)) 0 ((own_cs p2 pn).map Value.int)) p3 T333.heap n0 z339 P333_0 (by omega) hsn (by omega) (by rw [own_setsL]; exact List.length_replicate) (by omega)) 0 (Nat.le_of_eq rfl) (by decide) (by decide) (by rw [hml]; rfl) (argsL := [(.ref b328), (.int (Int32.ofNat pn)), (.int (Int32.ofNat sn)), (.long p3)]) (st := []) (lenOf pd_27 rfl) rfl rfl (by decide) (by decide) rfl hby at_65 ?_
      intro T338 v338 L338 X338 hQ338
      obtain ⟨rfl, Nq338, K338, P338_0⟩ := hQ338
      have N338 := Fr.app N333 Nq338
      have z340 : T333.heap.size ≤ T338.heap.size := K338.1
      have f341 := (C328.keep K333)
      have C342 := C336.trans (CHr.keep K338 (sfS (Safe.exa hZ.alike f341 (by decide) (by decide)) sf0) C336.1)
      have lt343 : T338.heap.size > b328 := P338_0.lt
      refine own_sh (T := T338) 68 #[.val (.int p1), .val (.long p2), .second, .val (.long p3), .second, .val (.int p4), .val (.int (Int32.ofNat pn)), .val (.int (Int32.ofNat sn)), .val (.ref b303), .val (.ref b313), .val (.ref b328), .unset, .unset, .unset, .unset, .unset] [] ?_
      refine own_newO X338 hx hZ hown (own_w hw 5 rfl) (own_w hw 6 rfl) (own_w hw 7 rfl) rfl hby at_68 (by decide) (by decide) ?_
      intro T344 h344 b344 X344 e344 E344 g344 A344 D344 lt344
      have z345 : T338.heap.size ≤ h344.size := E344.1
      have C346 := C342.trans (CHr.ext E344 C342.1)
      have F347 : Fld Z h344 b344 "java/lang/String" "value" "[B" .null := D344 (Or.inr (own_w hw 20 rfl)) (ty := (.array .byte)) (by decide)
      have F348 : Fld Z h344 b344 "java/lang/String" "coder" "B" (.int 0) := D344 (Or.inr (own_w hw 21 rfl)) (ty := .byte) (by decide)
      refine own_dup X344.here hx hby at_71 rfl ?_
      refine own_aload X344.here hx hby at_72 rfl rfl ?_
      have f349 := (P338_0.ext E344)
      have V350 : Arv Z h344 b328 k328 .char (Int32.ofNat ((own_cs p2 pn) ++ (own_cs p3 sn)).length) (((own_cs p2 pn) ++ (own_cs p3 sn)).map Value.int) (.int 0) := by
        have q := f349
        rw [own_rep2 hPl hSl] at q
        rw [show (Int32.ofNat (pn + sn)) = Int32.ofNat ((own_cs p2 pn) ++ (own_cs p3 sn)).length from by rw [List.length_append, hPl, hSl]] at q
        exact q
      have f351 := ((own_sta_keep (own_sta_keep ((own_sta_keep f320 K321 (allS (own_exa_plain A313) all0)).ext E328) K333 (allS (own_exa_plain C328) all0)) K338 (allS (own_exa_plain f341) all0)).ext E344)
      have z353 : n0 ≤ h344.size := by omega
      have hc354 : ((own_cs p2 pn) ++ (own_cs p3 sn)).length ≤ 15 := (by rw [List.length_append, hPl, hSl]; omega)
      refine own_specialB X344 hx hZ rfl hown (own_w hw 8 rfl) (own_w hw 9 rfl) (own_w hw 10 rfl) (by decide) (StrChars.Road.backV (W := 1) hZ hws_words (kI := 4) (own_w hw 6 rfl) (cs := ((own_cs p2 pn) ++ (own_cs p3 sn))) (bs := ((own_cs p2 pn) ++ (own_cs p3 sn)).map (fun c => c.toInt8.toInt32)) (n := ((own_cs p2 pn) ++ (own_cs p3 sn)).length) (by omega) z353 A344 F347 F348 V350 f351 hz rfl rfl (by rw [List.length_append, hPl, hSl]; omega) (Nat.le_trans (m := 15) hc354 (by decide)) (own_mem2 (own_csB p2 pn) (own_csB p3 sn)) rfl (by decide) (by decide)) (Nat.le_of_eq rfl) (by rw [hml]; rfl) (argsL := [(.ref b328)]) (st := [(.ref b344)]) (a := b344) (lenOf pd_28 rfl) rfl rfl (by decide) (own_sl (c := 15) hc354 (by decide)) e344 hby at_74 ?_
      intro T352 v352 L352 X352 hQ352
      obtain ⟨rfl, Nq352, K352, P352_0, P352_1, t_352, kb_352, P352_2, P352_3, P352_4, P352_5, P352_6⟩ := hQ352
      have N352 := Fr.app N338 Nq352
      have z355 : h344.size ≤ T352.heap.size := K352.1
      have C356 := C346.trans (CHr.keep K352 (sfS (own_safe_null hZ.alike A344 F347) sf0) C346.1)
      have lt357 : T352.heap.size > b344 := P352_0.lt
      have lt358 : T352.heap.size > t_352 := P352_6.lt
      refine own_sh (T := T352) 77 #[.val (.int p1), .val (.long p2), .second, .val (.long p3), .second, .val (.int p4), .val (.int (Int32.ofNat pn)), .val (.int (Int32.ofNat sn)), .val (.ref b303), .val (.ref b313), .val (.ref b328), .unset, .unset, .unset, .unset, .unset] [(.ref b344)] ?_
      have Y352 := X352.mono (Nat.le_refl _) (Nat.add_le_add_left hc354 _)
      have V359 : Arv Z T352.heap t_352 kb_352 .byte (Int32.ofNat (own_cs p2 pn).length) (own_b (own_cs p2 pn)) (.int 0) := by
        have q := P352_6
        rw [show (own_cs p3 sn) = ([] : List Int32) from by rw [hs0]; rfl] at q
        rw [List.append_nil] at q
        exact q
      refine own_astore Y352.here hx hby at_77 rfl (l' := #[.val (.int p1), .val (.long p2), .second, .val (.long p3), .second, .val (.int p4), .val (.int (Int32.ofNat pn)), .val (.int (Int32.ofNat sn)), .val (.ref b303), .val (.ref b313), .val (.ref b328), .val (.ref b344), .unset, .unset, .unset, .unset]) rfl ?_
      refine own_iload Y352.here hx hby at_79 rfl ?_
      refine own_iconst Y352.here hx hby at_81 (v := (1 : Int32)) (by decide) ?_
      refine own_iadd Y352.here hx hby at_82 rfl ?_
      refine own_sh (T := T352) 83 #[.val (.int p1), .val (.long p2), .second, .val (.long p3), .second, .val (.int p4), .val (.int (Int32.ofNat pn)), .val (.int (Int32.ofNat sn)), .val (.ref b303), .val (.ref b313), .val (.ref b328), .val (.ref b344), .unset, .unset, .unset, .unset] [(.int ((Int32.ofNat sn) + (1 : Int32)))] ?_
      rw [show ((Int32.ofNat sn) + (1 : Int32)) = (Int32.ofNat (sn + 1)) from (own_nadd (b := 1) (by omega))]
      refine own_newP Y352 hx hZ (aty := .char) (own_w hw 0 rfl) rfl hby at_83 (own_n0 (by omega)) 15 (by rw [own_nC (by omega)]; omega) (by decide) (by decide) (by decide) (ad := "[C") (by decide) ?_
      intro T360 h360 k360 b360 X360 e360 E360 g360 V360 C360 lt360
      have z361 : T352.heap.size ≤ h360.size := E360.1
      have C362 := C356.trans (CHr.ext E360 C356.1)
      have V363 : Arv Z h360 b360 k360 .char (Int32.ofNat (sn + 1)) [] (.int 0) := V360
      refine own_astore X360.here hx hby at_85 rfl (l' := #[.val (.int p1), .val (.long p2), .second, .val (.long p3), .second, .val (.int p4), .val (.int (Int32.ofNat pn)), .val (.int (Int32.ofNat sn)), .val (.ref b303), .val (.ref b313), .val (.ref b328), .val (.ref b344), .val (.ref b360), .unset, .unset, .unset]) rfl ?_
      have V364 : Arv Z h360 b360 k360 .char (Int32.ofNat (sn + 1)) (List.replicate (sn + 1) (.int 0)) (.int 0) := V363.pad own_pad0
      refine own_aload X360.here hx hby at_87 rfl rfl ?_
      refine own_iconst X360.here hx hby at_89 (v := (0 : Int32)) (by decide) ?_
      refine own_bipush X360.here hx hby at_90 (v := (47 : Int32)) (by decide) ?_
      refine own_castore X360 hx hZ e360 V364 (own_idx0 (k := 0) (by omega) (by omega)) 0 (by decide) (by rw [List.length_replicate]; omega) (w := (.int 47)) rfl hby at_92 N352 (by omega) ?_
      intro T365 h365 lo365 X365 e365 N365 W365 V365 z365
      have V366 : Arv Z h365 b360 k360 .char (Int32.ofNat (sn + 1)) ((List.replicate (sn + 1) (.int 0)).set 0 (.int 47)) (.int 0) := V365
      have C367 := C362.trans (CHr.wr W365 (Safe.exa hZ.alike C360 (by decide) (by decide)) C362.1)
      refine own_aload X365.here hx hby at_93 rfl rfl ?_
      refine own_iconst X365.here hx hby at_95 (v := (1 : Int32)) (by decide) ?_
      refine own_sh (T := T365) 96 #[.val (.int p1), .val (.long p2), .second, .val (.long p3), .second, .val (.int p4), .val (.int (Int32.ofNat pn)), .val (.int (Int32.ofNat sn)), .val (.ref b303), .val (.ref b313), .val (.ref b328), .val (.ref b344), .val (.ref b360), .unset, .unset, .unset] [(.int 1), (.ref b360)] ?_
      refine own_sh (T := T365) 96 #[.val (.int p1), .val (.long p2), .second, .val (.long p3), .second, .val (.int p4), .val (.int (Int32.ofNat pn)), .val (.int (Int32.ofNat sn)), .val (.ref b303), .val (.ref b313), .val (.ref b328), .val (.ref b344), .val (.ref b360), .unset, .unset, .unset] [(.int (Int32.ofNat 1)), (.ref b360)] ?_
      refine own_iload X365.here hx hby at_96 rfl ?_
      refine own_lloadN X365.here hx hby at_98 rfl ?_
      have z369 : n0 ≤ h365.size := by omega
      refine own_callS X365 hx hZ hown (own_w hw 1 rfl) (own_w hw 2 rfl) (own_w hw 3 rfl) (own_w hw 4 rfl) (by decide) (put_ l Z a0 hw [] b360 k360 1 sn (sn + 1) ((List.replicate (sn + 1) (.int 0)).set 0 (.int 47)) p3 h365 n0 z369 V366 (by omega) hsn (by omega) (by rw [List.length_set]; exact List.length_replicate) (by omega)) 0 (Nat.le_of_eq rfl) (by decide) (by decide) (by rw [hml]; rfl) (argsL := [(.ref b360), (.int (Int32.ofNat 1)), (.int (Int32.ofNat sn)), (.long p3)]) (st := []) (lenOf pd_27 rfl) rfl rfl (by decide) (by decide) e365 hby at_99 ?_
      intro T368 v368 L368 X368 hQ368
      obtain ⟨rfl, Nq368, K368, P368_0⟩ := hQ368
      have N368 := Fr.app N365 Nq368
      have z370 : h365.size ≤ T368.heap.size := K368.1
      have f371 := (C360.wr W365)
      have C372 := C367.trans (CHr.keep K368 (sfS (Safe.exa hZ.alike f371 (by decide) (by decide)) sf0) C367.1)
      have lt373 : T368.heap.size > b360 := P368_0.lt
      refine own_sh (T := T368) 102 #[.val (.int p1), .val (.long p2), .second, .val (.long p3), .second, .val (.int p4), .val (.int (Int32.ofNat pn)), .val (.int (Int32.ofNat sn)), .val (.ref b303), .val (.ref b313), .val (.ref b328), .val (.ref b344), .val (.ref b360), .unset, .unset, .unset] [] ?_
      refine own_newO X368 hx hZ hown (own_w hw 5 rfl) (own_w hw 6 rfl) (own_w hw 7 rfl) rfl hby at_102 (by decide) (by decide) ?_
      intro T374 h374 b374 X374 e374 E374 g374 A374 D374 lt374
      have z375 : T368.heap.size ≤ h374.size := E374.1
      have C376 := C372.trans (CHr.ext E374 C372.1)
      have F377 : Fld Z h374 b374 "java/lang/String" "value" "[B" .null := D374 (Or.inr (own_w hw 20 rfl)) (ty := (.array .byte)) (by decide)
      have F378 : Fld Z h374 b374 "java/lang/String" "coder" "B" (.int 0) := D374 (Or.inr (own_w hw 21 rfl)) (ty := .byte) (by decide)
      refine own_dup X374.here hx hby at_105 rfl ?_
      refine own_aload X374.here hx hby at_106 rfl rfl ?_
      have f379 := (P368_0.ext E374)
      have V380 : Arv Z h374 b360 k360 .char (Int32.ofNat (([47] : List Int32) ++ (own_cs p3 sn)).length) ((([47] : List Int32) ++ (own_cs p3 sn)).map Value.int) (.int 0) := by
        have q := f379
        rw [own_rep3 hSl] at q
        rw [show (Int32.ofNat (sn + 1)) = Int32.ofNat (([47] : List Int32) ++ (own_cs p3 sn)).length from by rw [List.length_append, hSl, Nat.add_comm]; rfl] at q
        exact q
      have f381 := ((own_sta_keep (((own_sta_keep f351 K352 (allS (own_exa_plain A344) all0)).ext E360).wr W365) K368 (allS (own_exa_plain f371) all0)).ext E374)
      have z383 : n0 ≤ h374.size := by omega
      have hc384 : (([47] : List Int32) ++ (own_cs p3 sn)).length ≤ 15 := (by rw [List.length_append, hSl]; show 1 + sn ≤ 15; omega)
      refine own_specialB X374 hx hZ rfl hown (own_w hw 8 rfl) (own_w hw 9 rfl) (own_w hw 10 rfl) (by decide) (StrChars.Road.backV (W := 1) hZ hws_words (kI := 4) (own_w hw 6 rfl) (cs := (([47] : List Int32) ++ (own_cs p3 sn))) (bs := (([47] : List Int32) ++ (own_cs p3 sn)).map (fun c => c.toInt8.toInt32)) (n := (([47] : List Int32) ++ (own_cs p3 sn)).length) (by omega) z383 A374 F377 F378 V380 f381 hz rfl rfl (by rw [List.length_append, hSl]; exact Nat.lt_of_lt_of_le Nat.zero_lt_one (Nat.le_add_right 1 sn)) (Nat.le_trans (m := 15) hc384 (by decide)) (own_mem2 own_n47 (own_csB p3 sn)) rfl (by decide) (by decide)) (Nat.le_of_eq rfl) (by rw [hml]; rfl) (argsL := [(.ref b360)]) (st := [(.ref b374)]) (a := b374) (lenOf pd_28 rfl) rfl rfl (by decide) (own_sl (c := 15) hc384 (by decide)) e374 hby at_108 ?_
      intro T382 v382 L382 X382 hQ382
      obtain ⟨rfl, Nq382, K382, P382_0, P382_1, t_382, kb_382, P382_2, P382_3, P382_4, P382_5, P382_6⟩ := hQ382
      have N382 := Fr.app N368 Nq382
      have z385 : h374.size ≤ T382.heap.size := K382.1
      have C386 := C376.trans (CHr.keep K382 (sfS (own_safe_null hZ.alike A374 F377) sf0) C376.1)
      have lt387 : T382.heap.size > b374 := P382_0.lt
      have lt388 : T382.heap.size > t_382 := P382_6.lt
      refine own_sh (T := T382) 111 #[.val (.int p1), .val (.long p2), .second, .val (.long p3), .second, .val (.int p4), .val (.int (Int32.ofNat pn)), .val (.int (Int32.ofNat sn)), .val (.ref b303), .val (.ref b313), .val (.ref b328), .val (.ref b344), .val (.ref b360), .unset, .unset, .unset] [(.ref b374)] ?_
      have Y382 := X382.mono (Nat.le_refl _) (Nat.add_le_add_left hc384 _)
      have V389 : Arv Z T382.heap t_382 kb_382 .byte (Int32.ofNat ([47] : List Int32).length) (own_b ([47] : List Int32)) (.int 0) := by
        have q := P382_6
        rw [show (own_cs p3 sn) = ([] : List Int32) from by rw [hs0]; rfl] at q
        exact q
      refine own_astore Y382.here hx hby at_111 rfl (l' := #[.val (.int p1), .val (.long p2), .second, .val (.long p3), .second, .val (.int p4), .val (.int (Int32.ofNat pn)), .val (.int (Int32.ofNat sn)), .val (.ref b303), .val (.ref b313), .val (.ref b328), .val (.ref b344), .val (.ref b360), .val (.ref b374), .unset, .unset]) rfl ?_
      refine own_newO Y382 hx hZ hown (own_w hw 37 rfl) (own_w hw 38 rfl) (own_w hw 39 rfl) rfl hby at_113 (by decide) (by decide) ?_
      intro T390 h390 b390 X390 e390 E390 g390 A390 D390 lt390
      have z391 : T382.heap.size ≤ h390.size := E390.1
      have C392 := C386.trans (CHr.ext E390 C386.1)
      have F393 : Fld Z h390 b390 "com/example/undercroft/undercroft/store/UriSpace" "prefix" "Ljava/lang/String;" .null := D390 (Or.inr (own_w hw 64 rfl)) (ty := (.object "java/lang/String")) (by decide)
      have F394 : Fld Z h390 b390 "com/example/undercroft/undercroft/store/UriSpace" "ownSystem" "Ljava/lang/String;" .null := D390 (Or.inr (own_w hw 66 rfl)) (ty := (.object "java/lang/String")) (by decide)
      refine own_dup X390.here hx hby at_116 rfl ?_
      refine own_aload X390.here hx hby at_117 rfl rfl ?_
      refine own_iload X390.here hx hby at_119 rfl ?_
      refine own_sipush X390.here hx hby at_121 (v := (255 : Int32)) (by decide) ?_
      refine own_iand X390.here hx hby at_124 rfl ?_
      refine own_i2c X390.here hx hby at_125 rfl ?_
      refine own_sh (T := T390) 126 #[.val (.int p1), .val (.long p2), .second, .val (.long p3), .second, .val (.int p4), .val (.int (Int32.ofNat pn)), .val (.int (Int32.ofNat sn)), .val (.ref b303), .val (.ref b313), .val (.ref b328), .val (.ref b344), .val (.ref b360), .val (.ref b374), .unset, .unset] [(.int ((p4 &&& (255 : Int32)).toUInt32.toUInt16.toUInt32.toInt32)), (.ref b313), (.ref b390), (.ref b390)] ?_
      rw [show ((p4 &&& (255 : Int32)).toUInt32.toUInt16.toUInt32.toInt32) = (p4 &&& (255 : Int32)) from (i2c_mask p4)]
      have f395 := ((own_sta_keep f381 K382 (allS (own_exa_plain A374) all0)).ext E390)
      have z397 : n0 ≤ h390.size := by omega
      refine own_callS X390 hx hZ hown (own_w hw 40 rfl) (own_w hw 41 rfl) (own_w hw 7 rfl) (own_w hw 42 rfl) (by decide) (valOf l Z a0 hw [] (p4 &&& (255 : Int32)) zc h390 n0 z397 f395 hz (own_c255 p4).2) 3 (Nat.le_of_eq rfl) (by decide) (by decide) (by rw [hml]; rfl) (argsL := [(.int (p4 &&& (255 : Int32)))]) (st := [(.ref b313), (.ref b390), (.ref b390)]) (lenOf pd_29 rfl) rfl rfl (by decide) (by decide) e390 hby at_126 ?_
      intro T396 v396 L396 X396 hQ396
      obtain ⟨x_396, t_396, kb_396, rfl, Nq396, K396, P396_0, P396_1, P396_2, P396_3, P396_4, P396_5, P396_6⟩ := hQ396
      have N396 := Fr.app N382 Nq396
      have z398 : h390.size ≤ T396.heap.size := K396.1
      have C399 := C392.trans (CHr.keep K396 sf0 C392.1)
      have lt400 : T396.heap.size > x_396 := P396_3.lt
      have lt401 : T396.heap.size > t_396 := P396_6.lt
      refine own_sh (T := T396) 129 #[.val (.int p1), .val (.long p2), .second, .val (.long p3), .second, .val (.int p4), .val (.int (Int32.ofNat pn)), .val (.int (Int32.ofNat sn)), .val (.ref b303), .val (.ref b313), .val (.ref b328), .val (.ref b344), .val (.ref b360), .val (.ref b374), .unset, .unset] [(.ref x_396), (.ref b313), (.ref b390), (.ref b390)] ?_
      have f402 := (A390.keep K396)
      have f403 := (F393.keep K396 nin0)
      have f404 := (F394.keep K396 nin0)
      have z406 : n0 ≤ T396.heap.size := by omega
      refine own_special X396 hx hZ rfl hown (own_w hw 54 rfl) (own_w hw 55 rfl) (own_w hw 39 rfl) (own_w hw 56 rfl) (by decide) (uriInit l Z a0 hw [] b390 b313 x_396 T396.heap n0 z406 f402 (by omega) f403 f404) 1 (Nat.le_of_eq rfl) (by decide) (by decide) (by rw [hml]; rfl) (argsL := [(.ref b313), (.ref x_396)]) (st := [(.ref b390)]) (a := b390) (lenOf pd_30 rfl) rfl rfl (by decide) (by decide) rfl hby at_129 ?_
      intro T405 v405 L405 X405 hQ405
      obtain ⟨rfl, Nq405, K405, P405_0, P405_1⟩ := hQ405
      have N405 := Fr.app N396 Nq405
      have z407 : T396.heap.size ≤ T405.heap.size := K405.1
      have C408 := C399.trans (CHr.keep K405 (sfS (Safe.exa hZ.alike f402 (by decide) (by decide)) sf0) C399.1)
      have lt409 : T405.heap.size > b390 := P405_0.lt
      refine own_sh (T := T405) 132 #[.val (.int p1), .val (.long p2), .second, .val (.long p3), .second, .val (.int p4), .val (.int (Int32.ofNat pn)), .val (.int (Int32.ofNat sn)), .val (.ref b303), .val (.ref b313), .val (.ref b328), .val (.ref b344), .val (.ref b360), .val (.ref b374), .unset, .unset] [(.ref b390)] ?_
      refine own_astore X405.here hx hby at_132 rfl (l' := #[.val (.int p1), .val (.long p2), .second, .val (.long p3), .second, .val (.int p4), .val (.int (Int32.ofNat pn)), .val (.int (Int32.ofNat sn)), .val (.ref b303), .val (.ref b313), .val (.ref b328), .val (.ref b344), .val (.ref b360), .val (.ref b374), .val (.ref b390), .unset]) rfl ?_
      refine own_aload X405.here hx hby at_134 rfl rfl ?_
      refine own_aload X405.here hx hby at_136 rfl rfl ?_
      have f410 := (((((((((((((P321_0.ext E328).keep K333).keep K338).ext E344).keep K352).ext E360).wr W365).keep K368).ext E374).keep K382).ext E390).keep K396).keep K405)
      have f411 := (((((((((((((P321_1.ext E328).keep K333 (ninS (own_nn (by omega)) nin0)).keep K338 (ninS (own_nn (by omega)) nin0)).ext E344).keep K352 (ninS (own_nn (by omega)) nin0)).ext E360).other W365 (Or.inl (own_nn (by omega)))).keep K368 (ninS (own_nn (by omega)) nin0)).ext E374).keep K382 (ninS (own_nn (by omega)) nin0)).ext E390).keep K396 nin0).keep K405 (ninS (own_nn (by omega)) nin0))
      have f412 := (((((((((((((P321_5.ext E328).keep K333 (ninS (own_nn (by omega)) nin0)).keep K338 (ninS (own_nn (by omega)) nin0)).ext E344).keep K352 (ninS (own_nn (by omega)) nin0)).ext E360).other W365 (Or.inl (own_nn (by omega)))).keep K368 (ninS (own_nn (by omega)) nin0)).ext E374).keep K382 (ninS (own_nn (by omega)) nin0)).ext E390).keep K396 nin0).keep K405 (ninS (own_nn (by omega)) nin0))
      have f413 := (((((((((((((P321_6.ext E328).keep K333 (ninS (own_nn (by omega)) nin0)).keep K338 (ninS (own_nn (by omega)) nin0)).ext E344).keep K352 (ninS (own_nn (by omega)) nin0)).ext E360).other W365 (own_nn (by omega))).keep K368 (ninS (own_nn (by omega)) nin0)).ext E374).keep K382 (ninS (own_nn (by omega)) nin0)).ext E390).keep K396 nin0).keep K405 (ninS (own_nn (by omega)) nin0))
      have f414 := ((((((((P352_0.ext E360).wr W365).keep K368).ext E374).keep K382).ext E390).keep K396).keep K405)
      have f415 := ((((((((P352_1.ext E360).other W365 (Or.inl (own_nn (by omega)))).keep K368 (ninS (own_nn (by omega)) nin0)).ext E374).keep K382 (ninS (own_nn (by omega)) nin0)).ext E390).keep K396 nin0).keep K405 (ninS (own_nn (by omega)) nin0))
      have f416 := ((((((((P352_5.ext E360).other W365 (Or.inl (own_nn (by omega)))).keep K368 (ninS (own_nn (by omega)) nin0)).ext E374).keep K382 (ninS (own_nn (by omega)) nin0)).ext E390).keep K396 nin0).keep K405 (ninS (own_nn (by omega)) nin0))
      have f417 := ((((((((V359.ext E360).other W365 (own_nn (by omega))).keep K368 (ninS (own_nn (by omega)) nin0)).ext E374).keep K382 (ninS (own_nn (by omega)) nin0)).ext E390).keep K396 nin0).keep K405 (ninS (own_nn (by omega)) nin0))
      have f418 := (own_sta_keep (own_sta_keep f395 K396 all0) K405 (allS (own_exa_plain f402) all0))
      have f419 := (own_sta_keep (own_sta_keep ((own_sta_keep ((own_sta_keep (((own_sta_keep ((own_sta_keep (own_sta_keep ((own_sta_keep ((own_sta_keep (S_FM.ext E303) K308 (allS (own_exa_plain C303) all0)).ext E313) K321 (allS (own_exa_plain A313) all0)).ext E328) K333 (allS (own_exa_plain C328) all0)) K338 (allS (own_exa_plain f341) all0)).ext E344) K352 (allS (own_exa_plain A344) all0)).ext E360).wr W365) K368 (allS (own_exa_plain f371) all0)).ext E374) K382 (allS (own_exa_plain A374) all0)).ext E390) K396 all0) K405 (allS (own_exa_plain f402) all0))
      have z421 : n0 ≤ T405.heap.size := by omega
      refine own_virtualH X405 hx hZ hEL hown (own_w hw 67 rfl) (own_w hw 68 rfl) (notFace_of_selects (args := #[]) (mvT hZ (own_w hw 70 rfl))) (own_w hw 70 rfl) (own_w hw 69 rfl) (own_w hw 39 rfl) (own_w hw 71 rfl) (by decide) (pathOf_E l Z a0 hw [] b390 b313 t_321 b344 t_352 kb_321 kb_352 (own_cs p2 pn) zc fm T405.heap n0 z421 P405_0 P405_1 f410 f411 f412 f413 f414 f415 f416 f417 f418 hz f419 hfm (by rw [hPl]; omega) (by rw [hPl]; omega)) 0 (Nat.le_of_eq rfl) (by decide) (by decide) (by rw [hml]; rfl) (argsL := [(.ref b344)]) (st := []) P405_0 (lenOf pd_31 rfl) rfl rfl (by decide) (by decide) rfl hby C408.1 hS0 (by omega) at_138 ?_
      intro T420 v420 L420 vm420 X420 hS420 hZ420 hown420 hg420 Cn420 hQ420
      obtain ⟨r_420, tr_420, kr_420, rfl, Nq420, K420, P420_0, P420_1, P420_2, P420_3, P420_4⟩ := hQ420
      have N420 := Fr.app N405 Nq420
      have z422 : T405.heap.size ≤ T420.heap.size := K420.1
      have C423 := C408.trans Cn420
      have lt424 : T420.heap.size > r_420 := P420_1.lt
      have lt425 : T420.heap.size > tr_420 := P420_4.lt
      refine own_sh (T := T420) 141 #[.val (.int p1), .val (.long p2), .second, .val (.long p3), .second, .val (.int p4), .val (.int (Int32.ofNat pn)), .val (.int (Int32.ofNat sn)), .val (.ref b303), .val (.ref b313), .val (.ref b328), .val (.ref b344), .val (.ref b360), .val (.ref b374), .val (.ref b390), .unset] [(.ref r_420)] ?_
      refine own_astore X420.here hx hby at_141 rfl (l' := #[.val (.int p1), .val (.long p2), .second, .val (.long p3), .second, .val (.int p4), .val (.int (Int32.ofNat pn)), .val (.int (Int32.ofNat sn)), .val (.ref b303), .val (.ref b313), .val (.ref b328), .val (.ref b344), .val (.ref b360), .val (.ref b374), .val (.ref b390), .val (.ref r_420)]) rfl ?_
      refine own_aload X420.here hx hby at_143 rfl rfl ?_
      refine own_aload X420.here hx hby at_145 rfl rfl ?_
      have f426 := ((((P382_0.ext E390).keep K396).keep K405).keep K420)
      have f427 := ((((P382_1.ext E390).keep K396 nin0).keep K405 (ninS (own_nn (by omega)) nin0)).keep K420 nin0)
      have f428 := ((((P382_5.ext E390).keep K396 nin0).keep K405 (ninS (own_nn (by omega)) nin0)).keep K420 nin0)
      have f429 := ((((V389.ext E390).keep K396 nin0).keep K405 (ninS (own_nn (by omega)) nin0)).keep K420 nin0)
      have f430 := (own_sta_keep f418 K420 all0)
      have z432 : n0 ≤ T420.heap.size := by omega
      have hws_wordsEq : ∀ d ∈ StrChars.Road.wordsEq, d.before a0 Z = true := fun d hd => hw d ((by decide +kernel : ∀ d ∈ StrChars.Road.wordsEq, d ∈ tables_1) d hd)
      refine own_virtualB (Qc := fun v H L => v = some (.int 1) ∧ Fr n0 L ∧ H = T420.heap) X420 hx hZ420 hown420 (own_w hw 203 rfl) (own_w hw 204 rfl) (notFace_of_selects (args := #[]) (mvT hZ420 (own_w hw 206 rfl))) (own_w hw 206 rfl) (own_w hw 205 rfl) (by decide) (Back.mono (StrChars.Road.eqW (W := 0) hZ420 hws_wordsEq (kI := 4) (own_w hw 6 rfl) P420_1 P420_3 P420_2 P420_4 (StrChars.Road.codOf (cs := ([47] : List Int32)) rfl (fun c hc => (own_n47 c hc).2)) (own_hi own_n47) (Nat.le_trans (m := 15) (by decide) (by decide)) f426 f428 f427 f429 (StrChars.Road.codOf (cs := ([47] : List Int32)) rfl (fun c hc => (own_n47 c hc).2)) (own_hi own_n47) (Nat.le_trans (m := 15) (by decide) (by decide)) f430 hz (by decide) (by decide)) (fun _ _ hp => hp) (fun _ _ _ _ _ hq => own_eqQ (n0 := n0) hq)) (Nat.le_of_eq rfl) (by rw [hml]; rfl) (argsL := [(.ref b374)]) (st := []) P420_1 (lenOf pd_32 rfl) rfl rfl (by decide) (by decide) rfl hby at_147 ?_
      intro T431 v431 L431 X431 hQ431
      obtain ⟨rfl, Nq431, eh431⟩ := hQ431
      have N431 := Fr.app N420 Nq431
      refine own_sh (T := T431) 150 #[.val (.int p1), .val (.long p2), .second, .val (.long p3), .second, .val (.int p4), .val (.int (Int32.ofNat pn)), .val (.int (Int32.ofNat sn)), .val (.ref b303), .val (.ref b313), .val (.ref b328), .val (.ref b344), .val (.ref b360), .val (.ref b374), .val (.ref b390), .val (.ref r_420)] [(.int 1)] ?_
      refine own_ifNo X431.here hx hby at_150 ((if0 _ _).trans (feq (show ¬ ((1 : Int32) = (0 : Int32)) from (by decide))).1) ?_
      refine own_aload X431.here hx hby at_153 rfl rfl ?_
      refine own_aload X431.here hx hby at_155 rfl rfl ?_
      have f433 := (P405_0.keep K420)
      have f434 := (P405_1.keep K420 nin0)
      have f435 := (f410.keep K420)
      have f436 := (f411.keep K420 nin0)
      have f437 := (f412.keep K420 nin0)
      have f438 := (f413.keep K420 nin0)
      have f439 := (own_sta_keep f419 K420 all0)
      refine own_virtualH X431 hx hZ420 hEL hown420 (own_w hw 211 rfl) (own_w hw 212 rfl) (notFace_of_selects (args := #[]) (mvT hZ420 (own_w hw 214 rfl))) (own_w hw 214 rfl) (own_w hw 213 rfl) (own_w hw 39 rfl) (own_w hw 215 rfl) (by decide) (uriOf_E l Z a0 hw [] b390 b313 t_321 r_420 tr_420 kb_321 kr_420 (own_cs p2 pn) zc fm T420.heap n0 z432 f433 f434 f435 f436 f437 f438 P420_1 P420_2 P420_3 P420_4 f430 hz f439 hfm (by rw [hPl]; omega)) 0 (Nat.le_of_eq rfl) (by decide) (by decide) (by rw [hml]; rfl) (argsL := [(.ref r_420)]) (st := []) f433 (lenOf pd_31 rfl) rfl rfl (by decide) (by decide) eh431 hby C423.1 hS420 (by omega) at_157 ?_
      intro T440 v440 L440 vm440 X440 hS440 hZ440 hown440 hg440 Cn440 hQ440
      obtain ⟨r_440, tr_440, kr_440, rfl, Nq440, K440, P440_0, P440_1, P440_2, P440_3, P440_4⟩ := hQ440
      have N440 := Fr.app N431 Nq440
      have z441 : T420.heap.size ≤ T440.heap.size := K440.1
      have C442 := C423.trans Cn440
      have lt443 : T440.heap.size > r_440 := P440_1.lt
      have lt444 : T440.heap.size > tr_440 := P440_4.lt
      refine own_sh (T := T440) 160 #[.val (.int p1), .val (.long p2), .second, .val (.long p3), .second, .val (.int p4), .val (.int (Int32.ofNat pn)), .val (.int (Int32.ofNat sn)), .val (.ref b303), .val (.ref b313), .val (.ref b328), .val (.ref b344), .val (.ref b360), .val (.ref b374), .val (.ref b390), .val (.ref r_420)] [(.ref r_440)] ?_
      refine own_aload X440.here hx hby at_160 rfl rfl ?_
      have f445 := ((f414.keep K420).keep K440)
      have f446 := ((f415.keep K420 nin0).keep K440 nin0)
      have f447 := ((f416.keep K420 nin0).keep K440 nin0)
      have f448 := ((f417.keep K420 nin0).keep K440 nin0)
      have f449 := (own_sta_keep f430 K440 all0)
      have z451 : n0 ≤ T440.heap.size := by omega
      refine own_virtualB (Qc := fun v H L => v = some (.int 1) ∧ Fr n0 L ∧ H = T440.heap) X440 hx hZ440 hown440 (own_w hw 203 rfl) (own_w hw 204 rfl) (notFace_of_selects (args := #[]) (mvT hZ440 (own_w hw 206 rfl))) (own_w hw 206 rfl) (own_w hw 205 rfl) (by decide) (Back.mono (StrChars.Road.eqW (W := 0) hZ440 hws_wordsEq (kI := 4) (own_w hw 6 rfl) P440_1 P440_3 P440_2 P440_4 (StrChars.Road.codOf (cs := (own_cs p2 pn)) rfl (fun c hc => ((own_csB p2 pn) c hc).2)) (own_hi (own_csB p2 pn)) (Nat.le_trans (m := 15) (by rw [hPl]; omega) (by decide)) f445 f447 f446 f448 (StrChars.Road.codOf (cs := (own_cs p2 pn)) rfl (fun c hc => ((own_csB p2 pn) c hc).2)) (own_hi (own_csB p2 pn)) (Nat.le_trans (m := 15) (by rw [hPl]; omega) (by decide)) f449 hz (by decide) (by decide)) (fun _ _ hp => hp) (fun _ _ _ _ _ hq => own_eqQ (n0 := n0) hq)) (Nat.le_of_eq rfl) (by rw [hml]; rfl) (argsL := [(.ref b344)]) (st := []) P440_1 (lenOf pd_32 rfl) rfl rfl (by decide) (by decide) rfl hby at_162 ?_
      intro T450 v450 L450 X450 hQ450
      obtain ⟨rfl, Nq450, eh450⟩ := hQ450
      have N450 := Fr.app N440 Nq450
      refine own_sh (T := T450) 165 #[.val (.int p1), .val (.long p2), .second, .val (.long p3), .second, .val (.int p4), .val (.int (Int32.ofNat pn)), .val (.int (Int32.ofNat sn)), .val (.ref b303), .val (.ref b313), .val (.ref b328), .val (.ref b344), .val (.ref b360), .val (.ref b374), .val (.ref b390), .val (.ref r_420)] [(.int 1)] ?_
      refine own_ifNo X450.here hx hby at_165 ((if0 _ _).trans (feq (show ¬ ((1 : Int32) = (0 : Int32)) from (by decide))).1) ?_
      refine own_iconst X450.here hx hby at_168 (v := (1 : Int32)) (by decide) ?_
      refine own_goto X450.here hx hby (pc' := 173) at_169 (by decide) (by decide) ?_
      obtain ⟨fs, hr, hrun, hended, hRW⟩ := X450.leaveW hS440 (by rw [eh450]; omega) (v := some (.int 1)) (fun h => by rw [Bd.returns] at h; cases h) Bd.notSynchronized
      have hCf : CHr Z consts_1 s.vm s.heap T450.vm T450.heap := by
        rw [hh, eh450]
        exact C442.trans (CHv.at X450 hZ440 hEL C442.1)
      refine own_ret (t := T450.setFrames fs) ?_ ⟨_, hrun, hended, _, _, rfl, ?_, hCf, hRW.1, hRW.2.1, hRW.2.2.1, hRW.2.2.2.mono (by decide) (by decide)⟩
      · exact retN X450 hx (t := .boolean) Bd.returns (by simp) (hb hby at_173) hr
      · show Q_rm0 Z _ _ _ _ _ _ h0 n0 _ T450.heap _
        rw [eh450]
        exact ⟨rfl, N450, trivial⟩
    · refine own_iload Y0.here hx hby at_14 rfl ?_
      refine own_newP Y0 hx hZ (aty := .char) (own_w hw 0 rfl) e0 hby at_16 (own_n0 (by omega)) 15 (by rw [own_nC (by omega)]; omega) (by decide) (by decide) (by decide) (ad := "[C") (by decide) ?_
      intro T452 h452 k452 b452 X452 e452 E452 g452 V452 C452 lt452
      have z453 : h0.size ≤ h452.size := E452.1
      have C454 := C0.trans (CHr.ext E452 C0.1)
      have V455 : Arv Z h452 b452 k452 .char (Int32.ofNat pn) [] (.int 0) := V452
      refine own_astore X452.here hx hby at_18 rfl (l' := #[.val (.int p1), .val (.long p2), .second, .val (.long p3), .second, .val (.int p4), .val (.int (Int32.ofNat pn)), .val (.int (Int32.ofNat sn)), .val (.ref b452), .unset, .unset, .unset, .unset, .unset, .unset, .unset]) rfl ?_
      have V456 : Arv Z h452 b452 k452 .char (Int32.ofNat pn) (List.replicate pn (.int 0)) (.int 0) := V455.pad own_pad0
      refine own_aload X452.here hx hby at_20 rfl rfl ?_
      refine own_iconst X452.here hx hby at_22 (v := (0 : Int32)) (by decide) ?_
      refine own_sh (T := T452) 23 #[.val (.int p1), .val (.long p2), .second, .val (.long p3), .second, .val (.int p4), .val (.int (Int32.ofNat pn)), .val (.int (Int32.ofNat sn)), .val (.ref b452), .unset, .unset, .unset, .unset, .unset, .unset, .unset] [(.int 0), (.ref b452)] ?_
      refine own_sh (T := T452) 23 #[.val (.int p1), .val (.long p2), .second, .val (.long p3), .second, .val (.int p4), .val (.int (Int32.ofNat pn)), .val (.int (Int32.ofNat sn)), .val (.ref b452), .unset, .unset, .unset, .unset, .unset, .unset, .unset] [(.int (Int32.ofNat 0)), (.ref b452)] ?_
      refine own_iload X452.here hx hby at_23 rfl ?_
      refine own_lloadN X452.here hx hby at_25 rfl ?_
      have z458 : n0 ≤ h452.size := by omega
      refine own_callS X452 hx hZ hown (own_w hw 1 rfl) (own_w hw 2 rfl) (own_w hw 3 rfl) (own_w hw 4 rfl) (by decide) (put_ l Z a0 hw [] b452 k452 0 pn pn (List.replicate pn (.int 0)) p2 h452 n0 z458 V456 (by omega) hpn (by omega) (List.length_replicate) (by omega)) 0 (Nat.le_of_eq rfl) (by decide) (by decide) (by rw [hml]; rfl) (argsL := [(.ref b452), (.int (Int32.ofNat 0)), (.int (Int32.ofNat pn)), (.long p2)]) (st := []) (lenOf pd_27 rfl) rfl rfl (by decide) (by decide) e452 hby at_26 ?_
      intro T457 v457 L457 X457 hQ457
      obtain ⟨rfl, Nq457, K457, P457_0⟩ := hQ457
      have N457 := Fr.app N0 Nq457
      have z459 : h452.size ≤ T457.heap.size := K457.1
      have C460 := C454.trans (CHr.keep K457 (sfS (Safe.exa hZ.alike C452 (by decide) (by decide)) sf0) C454.1)
      have lt461 : T457.heap.size > b452 := P457_0.lt
      refine own_sh (T := T457) 29 #[.val (.int p1), .val (.long p2), .second, .val (.long p3), .second, .val (.int p4), .val (.int (Int32.ofNat pn)), .val (.int (Int32.ofNat sn)), .val (.ref b452), .unset, .unset, .unset, .unset, .unset, .unset, .unset] [] ?_
      refine own_newO X457 hx hZ hown (own_w hw 5 rfl) (own_w hw 6 rfl) (own_w hw 7 rfl) rfl hby at_29 (by decide) (by decide) ?_
      intro T462 h462 b462 X462 e462 E462 g462 A462 D462 lt462
      have z463 : T457.heap.size ≤ h462.size := E462.1
      have C464 := C460.trans (CHr.ext E462 C460.1)
      have F465 : Fld Z h462 b462 "java/lang/String" "value" "[B" .null := D462 (Or.inr (own_w hw 20 rfl)) (ty := (.array .byte)) (by decide)
      have F466 : Fld Z h462 b462 "java/lang/String" "coder" "B" (.int 0) := D462 (Or.inr (own_w hw 21 rfl)) (ty := .byte) (by decide)
      refine own_dup X462.here hx hby at_32 rfl ?_
      refine own_aload X462.here hx hby at_33 rfl rfl ?_
      have f467 := (P457_0.ext E462)
      have V468 : Arv Z h462 b452 k452 .char (Int32.ofNat (own_cs p2 pn).length) ((own_cs p2 pn).map Value.int) (.int 0) := by
        have q := f467
        rw [own_rep1 hPl] at q
        rw [show (Int32.ofNat pn) = Int32.ofNat (own_cs p2 pn).length from by rw [hPl]] at q
        exact q
      have f469 := ((own_sta_keep (S_C.ext E452) K457 (allS (own_exa_plain C452) all0)).ext E462)
      have z471 : n0 ≤ h462.size := by omega
      have hws_words : ∀ d ∈ StrChars.Road.words, d.before a0 Z = true := fun d hd => hw d ((by decide +kernel : ∀ d ∈ StrChars.Road.words, d ∈ tables_1) d hd)
      have hc472 : (own_cs p2 pn).length ≤ 15 := (by rw [hPl]; omega)
      refine own_specialB X462 hx hZ rfl hown (own_w hw 8 rfl) (own_w hw 9 rfl) (own_w hw 10 rfl) (by decide) (StrChars.Road.backV (W := 1) hZ hws_words (kI := 4) (own_w hw 6 rfl) (cs := (own_cs p2 pn)) (bs := (own_cs p2 pn).map (fun c => c.toInt8.toInt32)) (n := (own_cs p2 pn).length) (by omega) z471 A462 F465 F466 V468 f469 hz rfl rfl (by rw [hPl]; omega) (Nat.le_trans (m := 15) hc472 (by decide)) (own_csB p2 pn) rfl (by decide) (by decide)) (Nat.le_of_eq rfl) (by rw [hml]; rfl) (argsL := [(.ref b452)]) (st := [(.ref b462)]) (a := b462) (lenOf pd_28 rfl) rfl rfl (by decide) (own_sl (c := 15) hc472 (by decide)) e462 hby at_35 ?_
      intro T470 v470 L470 X470 hQ470
      obtain ⟨rfl, Nq470, K470, P470_0, P470_1, t_470, kb_470, P470_2, P470_3, P470_4, P470_5, P470_6⟩ := hQ470
      have N470 := Fr.app N457 Nq470
      have z473 : h462.size ≤ T470.heap.size := K470.1
      have C474 := C464.trans (CHr.keep K470 (sfS (own_safe_null hZ.alike A462 F465) sf0) C464.1)
      have lt475 : T470.heap.size > b462 := P470_0.lt
      have lt476 : T470.heap.size > t_470 := P470_6.lt
      refine own_sh (T := T470) 38 #[.val (.int p1), .val (.long p2), .second, .val (.long p3), .second, .val (.int p4), .val (.int (Int32.ofNat pn)), .val (.int (Int32.ofNat sn)), .val (.ref b452), .unset, .unset, .unset, .unset, .unset, .unset, .unset] [(.ref b462)] ?_
      have Y470 := X470.mono (Nat.le_refl _) (Nat.add_le_add_left hc472 _)
      refine own_astore Y470.here hx hby at_38 rfl (l' := #[.val (.int p1), .val (.long p2), .second, .val (.long p3), .second, .val (.int p4), .val (.int (Int32.ofNat pn)), .val (.int (Int32.ofNat sn)), .val (.ref b452), .val (.ref b462), .unset, .unset, .unset, .unset, .unset, .unset]) rfl ?_
      refine own_iload Y470.here hx hby at_40 rfl ?_
      refine own_iload Y470.here hx hby at_42 rfl ?_
      refine own_iadd Y470.here hx hby at_44 rfl ?_
      refine own_sh (T := T470) 45 #[.val (.int p1), .val (.long p2), .second, .val (.long p3), .second, .val (.int p4), .val (.int (Int32.ofNat pn)), .val (.int (Int32.ofNat sn)), .val (.ref b452), .val (.ref b462), .unset, .unset, .unset, .unset, .unset, .unset] [(.int ((Int32.ofNat pn) + (Int32.ofNat sn)))] ?_
      rw [show ((Int32.ofNat pn) + (Int32.ofNat sn)) = (Int32.ofNat (pn + sn)) from (own_nadd (by omega))]
      refine own_newP Y470 hx hZ (aty := .char) (own_w hw 0 rfl) rfl hby at_45 (own_n0 (by omega)) 15 (by rw [own_nC (by omega)]; omega) (by decide) (by decide) (by decide) (ad := "[C") (by decide) ?_
      intro T477 h477 k477 b477 X477 e477 E477 g477 V477 C477 lt477
      have z478 : T470.heap.size ≤ h477.size := E477.1
      have C479 := C474.trans (CHr.ext E477 C474.1)
      have V480 : Arv Z h477 b477 k477 .char (Int32.ofNat (pn + sn)) [] (.int 0) := V477
      refine own_astore X477.here hx hby at_47 rfl (l' := #[.val (.int p1), .val (.long p2), .second, .val (.long p3), .second, .val (.int p4), .val (.int (Int32.ofNat pn)), .val (.int (Int32.ofNat sn)), .val (.ref b452), .val (.ref b462), .val (.ref b477), .unset, .unset, .unset, .unset, .unset]) rfl ?_
      have V481 : Arv Z h477 b477 k477 .char (Int32.ofNat (pn + sn)) (List.replicate (pn + sn) (.int 0)) (.int 0) := V480.pad own_pad0
      refine own_aload X477.here hx hby at_49 rfl rfl ?_
      refine own_iconst X477.here hx hby at_51 (v := (0 : Int32)) (by decide) ?_
      refine own_sh (T := T477) 52 #[.val (.int p1), .val (.long p2), .second, .val (.long p3), .second, .val (.int p4), .val (.int (Int32.ofNat pn)), .val (.int (Int32.ofNat sn)), .val (.ref b452), .val (.ref b462), .val (.ref b477), .unset, .unset, .unset, .unset, .unset] [(.int 0), (.ref b477)] ?_
      refine own_sh (T := T477) 52 #[.val (.int p1), .val (.long p2), .second, .val (.long p3), .second, .val (.int p4), .val (.int (Int32.ofNat pn)), .val (.int (Int32.ofNat sn)), .val (.ref b452), .val (.ref b462), .val (.ref b477), .unset, .unset, .unset, .unset, .unset] [(.int (Int32.ofNat 0)), (.ref b477)] ?_
      refine own_iload X477.here hx hby at_52 rfl ?_
      refine own_lloadN X477.here hx hby at_54 rfl ?_
      have z483 : n0 ≤ h477.size := by omega
      refine own_callS X477 hx hZ hown (own_w hw 1 rfl) (own_w hw 2 rfl) (own_w hw 3 rfl) (own_w hw 4 rfl) (by decide) (put_ l Z a0 hw [] b477 k477 0 pn (pn + sn) (List.replicate (pn + sn) (.int 0)) p2 h477 n0 z483 V481 (by omega) hpn (by omega) (List.length_replicate) (by omega)) 0 (Nat.le_of_eq rfl) (by decide) (by decide) (by rw [hml]; rfl) (argsL := [(.ref b477), (.int (Int32.ofNat 0)), (.int (Int32.ofNat pn)), (.long p2)]) (st := []) (lenOf pd_27 rfl) rfl rfl (by decide) (by decide) e477 hby at_55 ?_
      intro T482 v482 L482 X482 hQ482
      obtain ⟨rfl, Nq482, K482, P482_0⟩ := hQ482
      have N482 := Fr.app N470 Nq482
      have z484 : h477.size ≤ T482.heap.size := K482.1
      have C485 := C479.trans (CHr.keep K482 (sfS (Safe.exa hZ.alike C477 (by decide) (by decide)) sf0) C479.1)
      have lt486 : T482.heap.size > b477 := P482_0.lt
      refine own_sh (T := T482) 58 #[.val (.int p1), .val (.long p2), .second, .val (.long p3), .second, .val (.int p4), .val (.int (Int32.ofNat pn)), .val (.int (Int32.ofNat sn)), .val (.ref b452), .val (.ref b462), .val (.ref b477), .unset, .unset, .unset, .unset, .unset] [] ?_
      refine own_aload X482.here hx hby at_58 rfl rfl ?_
      refine own_iload X482.here hx hby at_60 rfl ?_
      refine own_iload X482.here hx hby at_62 rfl ?_
      refine own_lloadN X482.here hx hby at_64 rfl ?_
      have z488 : n0 ≤ T482.heap.size := by omega
      refine own_callS X482 hx hZ hown (own_w hw 1 rfl) (own_w hw 2 rfl) (own_w hw 3 rfl) (own_w hw 4 rfl) (by decide) (put_ l Z a0 hw [] b477 k477 pn sn (pn + sn) (own_sets (List.replicate (pn + sn) (.int 0)) 0 ((own_cs p2 pn).map Value.int)) p3 T482.heap n0 z488 P482_0 (by omega) hsn (by omega) (by rw [own_setsL]; exact List.length_replicate) (by omega)) 0 (Nat.le_of_eq rfl) (by decide) (by decide) (by rw [hml]; rfl) (argsL := [(.ref b477), (.int (Int32.ofNat pn)), (.int (Int32.ofNat sn)), (.long p3)]) (st := []) (lenOf pd_27 rfl) rfl rfl (by decide) (by decide) rfl hby at_65 ?_
      intro T487 v487 L487 X487 hQ487
      obtain ⟨rfl, Nq487, K487, P487_0⟩ := hQ487
      have N487 := Fr.app N482 Nq487
      have z489 : T482.heap.size ≤ T487.heap.size := K487.1
      have f490 := (C477.keep K482)
      have C491 := C485.trans (CHr.keep K487 (sfS (Safe.exa hZ.alike f490 (by decide) (by decide)) sf0) C485.1)
      have lt492 : T487.heap.size > b477 := P487_0.lt
      refine own_sh (T := T487) 68 #[.val (.int p1), .val (.long p2), .second, .val (.long p3), .second, .val (.int p4), .val (.int (Int32.ofNat pn)), .val (.int (Int32.ofNat sn)), .val (.ref b452), .val (.ref b462), .val (.ref b477), .unset, .unset, .unset, .unset, .unset] [] ?_
      refine own_newO X487 hx hZ hown (own_w hw 5 rfl) (own_w hw 6 rfl) (own_w hw 7 rfl) rfl hby at_68 (by decide) (by decide) ?_
      intro T493 h493 b493 X493 e493 E493 g493 A493 D493 lt493
      have z494 : T487.heap.size ≤ h493.size := E493.1
      have C495 := C491.trans (CHr.ext E493 C491.1)
      have F496 : Fld Z h493 b493 "java/lang/String" "value" "[B" .null := D493 (Or.inr (own_w hw 20 rfl)) (ty := (.array .byte)) (by decide)
      have F497 : Fld Z h493 b493 "java/lang/String" "coder" "B" (.int 0) := D493 (Or.inr (own_w hw 21 rfl)) (ty := .byte) (by decide)
      refine own_dup X493.here hx hby at_71 rfl ?_
      refine own_aload X493.here hx hby at_72 rfl rfl ?_
      have f498 := (P487_0.ext E493)
      have V499 : Arv Z h493 b477 k477 .char (Int32.ofNat ((own_cs p2 pn) ++ (own_cs p3 sn)).length) (((own_cs p2 pn) ++ (own_cs p3 sn)).map Value.int) (.int 0) := by
        have q := f498
        rw [own_rep2 hPl hSl] at q
        rw [show (Int32.ofNat (pn + sn)) = Int32.ofNat ((own_cs p2 pn) ++ (own_cs p3 sn)).length from by rw [List.length_append, hPl, hSl]] at q
        exact q
      have f500 := ((own_sta_keep (own_sta_keep ((own_sta_keep f469 K470 (allS (own_exa_plain A462) all0)).ext E477) K482 (allS (own_exa_plain C477) all0)) K487 (allS (own_exa_plain f490) all0)).ext E493)
      have z502 : n0 ≤ h493.size := by omega
      have hc503 : ((own_cs p2 pn) ++ (own_cs p3 sn)).length ≤ 15 := (by rw [List.length_append, hPl, hSl]; omega)
      refine own_specialB X493 hx hZ rfl hown (own_w hw 8 rfl) (own_w hw 9 rfl) (own_w hw 10 rfl) (by decide) (StrChars.Road.backV (W := 1) hZ hws_words (kI := 4) (own_w hw 6 rfl) (cs := ((own_cs p2 pn) ++ (own_cs p3 sn))) (bs := ((own_cs p2 pn) ++ (own_cs p3 sn)).map (fun c => c.toInt8.toInt32)) (n := ((own_cs p2 pn) ++ (own_cs p3 sn)).length) (by omega) z502 A493 F496 F497 V499 f500 hz rfl rfl (by rw [List.length_append, hPl, hSl]; omega) (Nat.le_trans (m := 15) hc503 (by decide)) (own_mem2 (own_csB p2 pn) (own_csB p3 sn)) rfl (by decide) (by decide)) (Nat.le_of_eq rfl) (by rw [hml]; rfl) (argsL := [(.ref b477)]) (st := [(.ref b493)]) (a := b493) (lenOf pd_28 rfl) rfl rfl (by decide) (own_sl (c := 15) hc503 (by decide)) e493 hby at_74 ?_
      intro T501 v501 L501 X501 hQ501
      obtain ⟨rfl, Nq501, K501, P501_0, P501_1, t_501, kb_501, P501_2, P501_3, P501_4, P501_5, P501_6⟩ := hQ501
      have N501 := Fr.app N487 Nq501
      have z504 : h493.size ≤ T501.heap.size := K501.1
      have C505 := C495.trans (CHr.keep K501 (sfS (own_safe_null hZ.alike A493 F496) sf0) C495.1)
      have lt506 : T501.heap.size > b493 := P501_0.lt
      have lt507 : T501.heap.size > t_501 := P501_6.lt
      refine own_sh (T := T501) 77 #[.val (.int p1), .val (.long p2), .second, .val (.long p3), .second, .val (.int p4), .val (.int (Int32.ofNat pn)), .val (.int (Int32.ofNat sn)), .val (.ref b452), .val (.ref b462), .val (.ref b477), .unset, .unset, .unset, .unset, .unset] [(.ref b493)] ?_
      have Y501 := X501.mono (Nat.le_refl _) (Nat.add_le_add_left hc503 _)
      refine own_astore Y501.here hx hby at_77 rfl (l' := #[.val (.int p1), .val (.long p2), .second, .val (.long p3), .second, .val (.int p4), .val (.int (Int32.ofNat pn)), .val (.int (Int32.ofNat sn)), .val (.ref b452), .val (.ref b462), .val (.ref b477), .val (.ref b493), .unset, .unset, .unset, .unset]) rfl ?_
      refine own_iload Y501.here hx hby at_79 rfl ?_
      refine own_iconst Y501.here hx hby at_81 (v := (1 : Int32)) (by decide) ?_
      refine own_iadd Y501.here hx hby at_82 rfl ?_
      refine own_sh (T := T501) 83 #[.val (.int p1), .val (.long p2), .second, .val (.long p3), .second, .val (.int p4), .val (.int (Int32.ofNat pn)), .val (.int (Int32.ofNat sn)), .val (.ref b452), .val (.ref b462), .val (.ref b477), .val (.ref b493), .unset, .unset, .unset, .unset] [(.int ((Int32.ofNat sn) + (1 : Int32)))] ?_
      rw [show ((Int32.ofNat sn) + (1 : Int32)) = (Int32.ofNat (sn + 1)) from (own_nadd (b := 1) (by omega))]
      refine own_newP Y501 hx hZ (aty := .char) (own_w hw 0 rfl) rfl hby at_83 (own_n0 (by omega)) 15 (by rw [own_nC (by omega)]; omega) (by decide) (by decide) (by decide) (ad := "[C") (by decide) ?_
      intro T508 h508 k508 b508 X508 e508 E508 g508 V508 C508 lt508
      have z509 : T501.heap.size ≤ h508.size := E508.1
      have C510 := C505.trans (CHr.ext E508 C505.1)
      have V511 : Arv Z h508 b508 k508 .char (Int32.ofNat (sn + 1)) [] (.int 0) := V508
      refine own_astore X508.here hx hby at_85 rfl (l' := #[.val (.int p1), .val (.long p2), .second, .val (.long p3), .second, .val (.int p4), .val (.int (Int32.ofNat pn)), .val (.int (Int32.ofNat sn)), .val (.ref b452), .val (.ref b462), .val (.ref b477), .val (.ref b493), .val (.ref b508), .unset, .unset, .unset]) rfl ?_
      have V512 : Arv Z h508 b508 k508 .char (Int32.ofNat (sn + 1)) (List.replicate (sn + 1) (.int 0)) (.int 0) := V511.pad own_pad0
      refine own_aload X508.here hx hby at_87 rfl rfl ?_
      refine own_iconst X508.here hx hby at_89 (v := (0 : Int32)) (by decide) ?_
      refine own_bipush X508.here hx hby at_90 (v := (47 : Int32)) (by decide) ?_
      refine own_castore X508 hx hZ e508 V512 (own_idx0 (k := 0) (by omega) (by omega)) 0 (by decide) (by rw [List.length_replicate]; omega) (w := (.int 47)) rfl hby at_92 N501 (by omega) ?_
      intro T513 h513 lo513 X513 e513 N513 W513 V513 z513
      have V514 : Arv Z h513 b508 k508 .char (Int32.ofNat (sn + 1)) ((List.replicate (sn + 1) (.int 0)).set 0 (.int 47)) (.int 0) := V513
      have C515 := C510.trans (CHr.wr W513 (Safe.exa hZ.alike C508 (by decide) (by decide)) C510.1)
      refine own_aload X513.here hx hby at_93 rfl rfl ?_
      refine own_iconst X513.here hx hby at_95 (v := (1 : Int32)) (by decide) ?_
      refine own_sh (T := T513) 96 #[.val (.int p1), .val (.long p2), .second, .val (.long p3), .second, .val (.int p4), .val (.int (Int32.ofNat pn)), .val (.int (Int32.ofNat sn)), .val (.ref b452), .val (.ref b462), .val (.ref b477), .val (.ref b493), .val (.ref b508), .unset, .unset, .unset] [(.int 1), (.ref b508)] ?_
      refine own_sh (T := T513) 96 #[.val (.int p1), .val (.long p2), .second, .val (.long p3), .second, .val (.int p4), .val (.int (Int32.ofNat pn)), .val (.int (Int32.ofNat sn)), .val (.ref b452), .val (.ref b462), .val (.ref b477), .val (.ref b493), .val (.ref b508), .unset, .unset, .unset] [(.int (Int32.ofNat 1)), (.ref b508)] ?_
      refine own_iload X513.here hx hby at_96 rfl ?_
      refine own_lloadN X513.here hx hby at_98 rfl ?_
      have z517 : n0 ≤ h513.size := by omega
      refine own_callS X513 hx hZ hown (own_w hw 1 rfl) (own_w hw 2 rfl) (own_w hw 3 rfl) (own_w hw 4 rfl) (by decide) (put_ l Z a0 hw [] b508 k508 1 sn (sn + 1) ((List.replicate (sn + 1) (.int 0)).set 0 (.int 47)) p3 h513 n0 z517 V514 (by omega) hsn (by omega) (by rw [List.length_set]; exact List.length_replicate) (by omega)) 0 (Nat.le_of_eq rfl) (by decide) (by decide) (by rw [hml]; rfl) (argsL := [(.ref b508), (.int (Int32.ofNat 1)), (.int (Int32.ofNat sn)), (.long p3)]) (st := []) (lenOf pd_27 rfl) rfl rfl (by decide) (by decide) e513 hby at_99 ?_
      intro T516 v516 L516 X516 hQ516
      obtain ⟨rfl, Nq516, K516, P516_0⟩ := hQ516
      have N516 := Fr.app N513 Nq516
      have z518 : h513.size ≤ T516.heap.size := K516.1
      have f519 := (C508.wr W513)
      have C520 := C515.trans (CHr.keep K516 (sfS (Safe.exa hZ.alike f519 (by decide) (by decide)) sf0) C515.1)
      have lt521 : T516.heap.size > b508 := P516_0.lt
      refine own_sh (T := T516) 102 #[.val (.int p1), .val (.long p2), .second, .val (.long p3), .second, .val (.int p4), .val (.int (Int32.ofNat pn)), .val (.int (Int32.ofNat sn)), .val (.ref b452), .val (.ref b462), .val (.ref b477), .val (.ref b493), .val (.ref b508), .unset, .unset, .unset] [] ?_
      refine own_newO X516 hx hZ hown (own_w hw 5 rfl) (own_w hw 6 rfl) (own_w hw 7 rfl) rfl hby at_102 (by decide) (by decide) ?_
      intro T522 h522 b522 X522 e522 E522 g522 A522 D522 lt522
      have z523 : T516.heap.size ≤ h522.size := E522.1
      have C524 := C520.trans (CHr.ext E522 C520.1)
      have F525 : Fld Z h522 b522 "java/lang/String" "value" "[B" .null := D522 (Or.inr (own_w hw 20 rfl)) (ty := (.array .byte)) (by decide)
      have F526 : Fld Z h522 b522 "java/lang/String" "coder" "B" (.int 0) := D522 (Or.inr (own_w hw 21 rfl)) (ty := .byte) (by decide)
      refine own_dup X522.here hx hby at_105 rfl ?_
      refine own_aload X522.here hx hby at_106 rfl rfl ?_
      have f527 := (P516_0.ext E522)
      have V528 : Arv Z h522 b508 k508 .char (Int32.ofNat (([47] : List Int32) ++ (own_cs p3 sn)).length) ((([47] : List Int32) ++ (own_cs p3 sn)).map Value.int) (.int 0) := by
        have q := f527
        rw [own_rep3 hSl] at q
        rw [show (Int32.ofNat (sn + 1)) = Int32.ofNat (([47] : List Int32) ++ (own_cs p3 sn)).length from by rw [List.length_append, hSl, Nat.add_comm]; rfl] at q
        exact q
      have f529 := ((own_sta_keep (((own_sta_keep f500 K501 (allS (own_exa_plain A493) all0)).ext E508).wr W513) K516 (allS (own_exa_plain f519) all0)).ext E522)
      have z531 : n0 ≤ h522.size := by omega
      have hc532 : (([47] : List Int32) ++ (own_cs p3 sn)).length ≤ 15 := (by rw [List.length_append, hSl]; show 1 + sn ≤ 15; omega)
      refine own_specialB X522 hx hZ rfl hown (own_w hw 8 rfl) (own_w hw 9 rfl) (own_w hw 10 rfl) (by decide) (StrChars.Road.backV (W := 1) hZ hws_words (kI := 4) (own_w hw 6 rfl) (cs := (([47] : List Int32) ++ (own_cs p3 sn))) (bs := (([47] : List Int32) ++ (own_cs p3 sn)).map (fun c => c.toInt8.toInt32)) (n := (([47] : List Int32) ++ (own_cs p3 sn)).length) (by omega) z531 A522 F525 F526 V528 f529 hz rfl rfl (by rw [List.length_append, hSl]; exact Nat.lt_of_lt_of_le Nat.zero_lt_one (Nat.le_add_right 1 sn)) (Nat.le_trans (m := 15) hc532 (by decide)) (own_mem2 own_n47 (own_csB p3 sn)) rfl (by decide) (by decide)) (Nat.le_of_eq rfl) (by rw [hml]; rfl) (argsL := [(.ref b508)]) (st := [(.ref b522)]) (a := b522) (lenOf pd_28 rfl) rfl rfl (by decide) (own_sl (c := 15) hc532 (by decide)) e522 hby at_108 ?_
      intro T530 v530 L530 X530 hQ530
      obtain ⟨rfl, Nq530, K530, P530_0, P530_1, t_530, kb_530, P530_2, P530_3, P530_4, P530_5, P530_6⟩ := hQ530
      have N530 := Fr.app N516 Nq530
      have z533 : h522.size ≤ T530.heap.size := K530.1
      have C534 := C524.trans (CHr.keep K530 (sfS (own_safe_null hZ.alike A522 F525) sf0) C524.1)
      have lt535 : T530.heap.size > b522 := P530_0.lt
      have lt536 : T530.heap.size > t_530 := P530_6.lt
      refine own_sh (T := T530) 111 #[.val (.int p1), .val (.long p2), .second, .val (.long p3), .second, .val (.int p4), .val (.int (Int32.ofNat pn)), .val (.int (Int32.ofNat sn)), .val (.ref b452), .val (.ref b462), .val (.ref b477), .val (.ref b493), .val (.ref b508), .unset, .unset, .unset] [(.ref b522)] ?_
      have Y530 := X530.mono (Nat.le_refl _) (Nat.add_le_add_left hc532 _)
      refine own_astore Y530.here hx hby at_111 rfl (l' := #[.val (.int p1), .val (.long p2), .second, .val (.long p3), .second, .val (.int p4), .val (.int (Int32.ofNat pn)), .val (.int (Int32.ofNat sn)), .val (.ref b452), .val (.ref b462), .val (.ref b477), .val (.ref b493), .val (.ref b508), .val (.ref b522), .unset, .unset]) rfl ?_
      refine own_newO Y530 hx hZ hown (own_w hw 37 rfl) (own_w hw 38 rfl) (own_w hw 39 rfl) rfl hby at_113 (by decide) (by decide) ?_
      intro T537 h537 b537 X537 e537 E537 g537 A537 D537 lt537
      have z538 : T530.heap.size ≤ h537.size := E537.1
      have C539 := C534.trans (CHr.ext E537 C534.1)
      have F540 : Fld Z h537 b537 "com/example/undercroft/undercroft/store/UriSpace" "prefix" "Ljava/lang/String;" .null := D537 (Or.inr (own_w hw 64 rfl)) (ty := (.object "java/lang/String")) (by decide)
      have F541 : Fld Z h537 b537 "com/example/undercroft/undercroft/store/UriSpace" "ownSystem" "Ljava/lang/String;" .null := D537 (Or.inr (own_w hw 66 rfl)) (ty := (.object "java/lang/String")) (by decide)
      refine own_dup X537.here hx hby at_116 rfl ?_
      refine own_aload X537.here hx hby at_117 rfl rfl ?_
      refine own_iload X537.here hx hby at_119 rfl ?_
      refine own_sipush X537.here hx hby at_121 (v := (255 : Int32)) (by decide) ?_
      refine own_iand X537.here hx hby at_124 rfl ?_
      refine own_i2c X537.here hx hby at_125 rfl ?_
      refine own_sh (T := T537) 126 #[.val (.int p1), .val (.long p2), .second, .val (.long p3), .second, .val (.int p4), .val (.int (Int32.ofNat pn)), .val (.int (Int32.ofNat sn)), .val (.ref b452), .val (.ref b462), .val (.ref b477), .val (.ref b493), .val (.ref b508), .val (.ref b522), .unset, .unset] [(.int ((p4 &&& (255 : Int32)).toUInt32.toUInt16.toUInt32.toInt32)), (.ref b462), (.ref b537), (.ref b537)] ?_
      rw [show ((p4 &&& (255 : Int32)).toUInt32.toUInt16.toUInt32.toInt32) = (p4 &&& (255 : Int32)) from (i2c_mask p4)]
      have f542 := ((own_sta_keep f529 K530 (allS (own_exa_plain A522) all0)).ext E537)
      have z544 : n0 ≤ h537.size := by omega
      refine own_callS X537 hx hZ hown (own_w hw 40 rfl) (own_w hw 41 rfl) (own_w hw 7 rfl) (own_w hw 42 rfl) (by decide) (valOf l Z a0 hw [] (p4 &&& (255 : Int32)) zc h537 n0 z544 f542 hz (own_c255 p4).2) 3 (Nat.le_of_eq rfl) (by decide) (by decide) (by rw [hml]; rfl) (argsL := [(.int (p4 &&& (255 : Int32)))]) (st := [(.ref b462), (.ref b537), (.ref b537)]) (lenOf pd_29 rfl) rfl rfl (by decide) (by decide) e537 hby at_126 ?_
      intro T543 v543 L543 X543 hQ543
      obtain ⟨x_543, t_543, kb_543, rfl, Nq543, K543, P543_0, P543_1, P543_2, P543_3, P543_4, P543_5, P543_6⟩ := hQ543
      have N543 := Fr.app N530 Nq543
      have z545 : h537.size ≤ T543.heap.size := K543.1
      have C546 := C539.trans (CHr.keep K543 sf0 C539.1)
      have lt547 : T543.heap.size > x_543 := P543_3.lt
      have lt548 : T543.heap.size > t_543 := P543_6.lt
      refine own_sh (T := T543) 129 #[.val (.int p1), .val (.long p2), .second, .val (.long p3), .second, .val (.int p4), .val (.int (Int32.ofNat pn)), .val (.int (Int32.ofNat sn)), .val (.ref b452), .val (.ref b462), .val (.ref b477), .val (.ref b493), .val (.ref b508), .val (.ref b522), .unset, .unset] [(.ref x_543), (.ref b462), (.ref b537), (.ref b537)] ?_
      have f549 := (A537.keep K543)
      have f550 := (F540.keep K543 nin0)
      have f551 := (F541.keep K543 nin0)
      have z553 : n0 ≤ T543.heap.size := by omega
      refine own_special X543 hx hZ rfl hown (own_w hw 54 rfl) (own_w hw 55 rfl) (own_w hw 39 rfl) (own_w hw 56 rfl) (by decide) (uriInit l Z a0 hw [] b537 b462 x_543 T543.heap n0 z553 f549 (by omega) f550 f551) 1 (Nat.le_of_eq rfl) (by decide) (by decide) (by rw [hml]; rfl) (argsL := [(.ref b462), (.ref x_543)]) (st := [(.ref b537)]) (a := b537) (lenOf pd_30 rfl) rfl rfl (by decide) (by decide) rfl hby at_129 ?_
      intro T552 v552 L552 X552 hQ552
      obtain ⟨rfl, Nq552, K552, P552_0, P552_1⟩ := hQ552
      have N552 := Fr.app N543 Nq552
      have z554 : T543.heap.size ≤ T552.heap.size := K552.1
      have C555 := C546.trans (CHr.keep K552 (sfS (Safe.exa hZ.alike f549 (by decide) (by decide)) sf0) C546.1)
      have lt556 : T552.heap.size > b537 := P552_0.lt
      refine own_sh (T := T552) 132 #[.val (.int p1), .val (.long p2), .second, .val (.long p3), .second, .val (.int p4), .val (.int (Int32.ofNat pn)), .val (.int (Int32.ofNat sn)), .val (.ref b452), .val (.ref b462), .val (.ref b477), .val (.ref b493), .val (.ref b508), .val (.ref b522), .unset, .unset] [(.ref b537)] ?_
      refine own_astore X552.here hx hby at_132 rfl (l' := #[.val (.int p1), .val (.long p2), .second, .val (.long p3), .second, .val (.int p4), .val (.int (Int32.ofNat pn)), .val (.int (Int32.ofNat sn)), .val (.ref b452), .val (.ref b462), .val (.ref b477), .val (.ref b493), .val (.ref b508), .val (.ref b522), .val (.ref b537), .unset]) rfl ?_
      refine own_aload X552.here hx hby at_134 rfl rfl ?_
      refine own_aload X552.here hx hby at_136 rfl rfl ?_
      have f557 := (((((((((((((P470_0.ext E477).keep K482).keep K487).ext E493).keep K501).ext E508).wr W513).keep K516).ext E522).keep K530).ext E537).keep K543).keep K552)
      have f558 := (((((((((((((P470_1.ext E477).keep K482 (ninS (own_nn (by omega)) nin0)).keep K487 (ninS (own_nn (by omega)) nin0)).ext E493).keep K501 (ninS (own_nn (by omega)) nin0)).ext E508).other W513 (Or.inl (own_nn (by omega)))).keep K516 (ninS (own_nn (by omega)) nin0)).ext E522).keep K530 (ninS (own_nn (by omega)) nin0)).ext E537).keep K543 nin0).keep K552 (ninS (own_nn (by omega)) nin0))
      have f559 := (((((((((((((P470_5.ext E477).keep K482 (ninS (own_nn (by omega)) nin0)).keep K487 (ninS (own_nn (by omega)) nin0)).ext E493).keep K501 (ninS (own_nn (by omega)) nin0)).ext E508).other W513 (Or.inl (own_nn (by omega)))).keep K516 (ninS (own_nn (by omega)) nin0)).ext E522).keep K530 (ninS (own_nn (by omega)) nin0)).ext E537).keep K543 nin0).keep K552 (ninS (own_nn (by omega)) nin0))
      have f560 := (((((((((((((P470_6.ext E477).keep K482 (ninS (own_nn (by omega)) nin0)).keep K487 (ninS (own_nn (by omega)) nin0)).ext E493).keep K501 (ninS (own_nn (by omega)) nin0)).ext E508).other W513 (own_nn (by omega))).keep K516 (ninS (own_nn (by omega)) nin0)).ext E522).keep K530 (ninS (own_nn (by omega)) nin0)).ext E537).keep K543 nin0).keep K552 (ninS (own_nn (by omega)) nin0))
      have f561 := ((((((((P501_0.ext E508).wr W513).keep K516).ext E522).keep K530).ext E537).keep K543).keep K552)
      have f562 := ((((((((P501_1.ext E508).other W513 (Or.inl (own_nn (by omega)))).keep K516 (ninS (own_nn (by omega)) nin0)).ext E522).keep K530 (ninS (own_nn (by omega)) nin0)).ext E537).keep K543 nin0).keep K552 (ninS (own_nn (by omega)) nin0))
      have f563 := ((((((((P501_5.ext E508).other W513 (Or.inl (own_nn (by omega)))).keep K516 (ninS (own_nn (by omega)) nin0)).ext E522).keep K530 (ninS (own_nn (by omega)) nin0)).ext E537).keep K543 nin0).keep K552 (ninS (own_nn (by omega)) nin0))
      have f564 := ((((((((P501_6.ext E508).other W513 (own_nn (by omega))).keep K516 (ninS (own_nn (by omega)) nin0)).ext E522).keep K530 (ninS (own_nn (by omega)) nin0)).ext E537).keep K543 nin0).keep K552 (ninS (own_nn (by omega)) nin0))
      have f565 := (own_sta_keep (own_sta_keep f542 K543 all0) K552 (allS (own_exa_plain f549) all0))
      have f566 := (own_sta_keep (own_sta_keep ((own_sta_keep ((own_sta_keep (((own_sta_keep ((own_sta_keep (own_sta_keep ((own_sta_keep ((own_sta_keep (S_FM.ext E452) K457 (allS (own_exa_plain C452) all0)).ext E462) K470 (allS (own_exa_plain A462) all0)).ext E477) K482 (allS (own_exa_plain C477) all0)) K487 (allS (own_exa_plain f490) all0)).ext E493) K501 (allS (own_exa_plain A493) all0)).ext E508).wr W513) K516 (allS (own_exa_plain f519) all0)).ext E522) K530 (allS (own_exa_plain A522) all0)).ext E537) K543 all0) K552 (allS (own_exa_plain f549) all0))
      have z568 : n0 ≤ T552.heap.size := by omega
      refine own_virtualH X552 hx hZ hEL hown (own_w hw 67 rfl) (own_w hw 68 rfl) (notFace_of_selects (args := #[]) (mvT hZ (own_w hw 70 rfl))) (own_w hw 70 rfl) (own_w hw 69 rfl) (own_w hw 39 rfl) (own_w hw 71 rfl) (by decide) (pathOf_C l Z a0 hw [] b537 b462 t_470 b493 t_501 kb_470 kb_501 (own_cs p2 pn) (own_cs p3 sn) zc fm T552.heap n0 z568 P552_0 P552_1 f557 f558 f559 f560 f561 f562 f563 f564 f565 hz f566 hfm (by rw [hPl]; omega) (by rw [hSl]; omega) (by rw [hPl]; omega) (by rw [hSl]; omega)) 0 (Nat.le_of_eq rfl) (by decide) (by decide) (by rw [hml]; rfl) (argsL := [(.ref b493)]) (st := []) P552_0 (lenOf pd_31 rfl) rfl rfl (by decide) (by decide) rfl hby C555.1 hS0 (by omega) at_138 ?_
      intro T567 v567 L567 vm567 X567 hS567 hZ567 hown567 hg567 Cn567 hQ567
      obtain ⟨r_567, tr_567, kr_567, rfl, Nq567, K567, P567_0, P567_1, P567_2, P567_3, P567_4⟩ := hQ567
      have N567 := Fr.app N552 Nq567
      have z569 : T552.heap.size ≤ T567.heap.size := K567.1
      have C570 := C555.trans Cn567
      have lt571 : T567.heap.size > r_567 := P567_1.lt
      have lt572 : T567.heap.size > tr_567 := P567_4.lt
      refine own_sh (T := T567) 141 #[.val (.int p1), .val (.long p2), .second, .val (.long p3), .second, .val (.int p4), .val (.int (Int32.ofNat pn)), .val (.int (Int32.ofNat sn)), .val (.ref b452), .val (.ref b462), .val (.ref b477), .val (.ref b493), .val (.ref b508), .val (.ref b522), .val (.ref b537), .unset] [(.ref r_567)] ?_
      refine own_astore X567.here hx hby at_141 rfl (l' := #[.val (.int p1), .val (.long p2), .second, .val (.long p3), .second, .val (.int p4), .val (.int (Int32.ofNat pn)), .val (.int (Int32.ofNat sn)), .val (.ref b452), .val (.ref b462), .val (.ref b477), .val (.ref b493), .val (.ref b508), .val (.ref b522), .val (.ref b537), .val (.ref r_567)]) rfl ?_
      refine own_aload X567.here hx hby at_143 rfl rfl ?_
      refine own_aload X567.here hx hby at_145 rfl rfl ?_
      have f573 := ((((P530_0.ext E537).keep K543).keep K552).keep K567)
      have f574 := ((((P530_1.ext E537).keep K543 nin0).keep K552 (ninS (own_nn (by omega)) nin0)).keep K567 nin0)
      have f575 := ((((P530_5.ext E537).keep K543 nin0).keep K552 (ninS (own_nn (by omega)) nin0)).keep K567 nin0)
      have f576 := ((((P530_6.ext E537).keep K543 nin0).keep K552 (ninS (own_nn (by omega)) nin0)).keep K567 nin0)
      have f577 := (own_sta_keep f565 K567 all0)
      have z579 : n0 ≤ T567.heap.size := by omega
      have hws_wordsEq : ∀ d ∈ StrChars.Road.wordsEq, d.before a0 Z = true := fun d hd => hw d ((by decide +kernel : ∀ d ∈ StrChars.Road.wordsEq, d ∈ tables_1) d hd)
      refine own_virtualB (Qc := fun v H L => v = some (.int 1) ∧ Fr n0 L ∧ H = T567.heap) X567 hx hZ567 hown567 (own_w hw 203 rfl) (own_w hw 204 rfl) (notFace_of_selects (args := #[]) (mvT hZ567 (own_w hw 206 rfl))) (own_w hw 206 rfl) (own_w hw 205 rfl) (by decide) (Back.mono (StrChars.Road.eqW (W := 0) hZ567 hws_wordsEq (kI := 4) (own_w hw 6 rfl) P567_1 P567_3 P567_2 P567_4 (StrChars.Road.codOf (cs := (([47] : List Int32) ++ (own_cs p3 sn))) rfl (fun c hc => ((own_mem2 own_n47 (own_csB p3 sn)) c hc).2)) (own_hi (own_mem2 own_n47 (own_csB p3 sn))) (Nat.le_trans (m := 15) (by rw [List.length_append, hSl]; show 1 + sn ≤ 15; omega) (by decide)) f573 f575 f574 f576 (StrChars.Road.codOf (cs := (([47] : List Int32) ++ (own_cs p3 sn))) rfl (fun c hc => ((own_mem2 own_n47 (own_csB p3 sn)) c hc).2)) (own_hi (own_mem2 own_n47 (own_csB p3 sn))) (Nat.le_trans (m := 15) (by rw [List.length_append, hSl]; show 1 + sn ≤ 15; omega) (by decide)) f577 hz (by decide) (by decide)) (fun _ _ hp => hp) (fun _ _ _ _ _ hq => own_eqQ (n0 := n0) hq)) (Nat.le_of_eq rfl) (by rw [hml]; rfl) (argsL := [(.ref b522)]) (st := []) P567_1 (lenOf pd_32 rfl) rfl rfl (by decide) (by decide) rfl hby at_147 ?_
      intro T578 v578 L578 X578 hQ578
      obtain ⟨rfl, Nq578, eh578⟩ := hQ578
      have N578 := Fr.app N567 Nq578
      refine own_sh (T := T578) 150 #[.val (.int p1), .val (.long p2), .second, .val (.long p3), .second, .val (.int p4), .val (.int (Int32.ofNat pn)), .val (.int (Int32.ofNat sn)), .val (.ref b452), .val (.ref b462), .val (.ref b477), .val (.ref b493), .val (.ref b508), .val (.ref b522), .val (.ref b537), .val (.ref r_567)] [(.int 1)] ?_
      refine own_ifNo X578.here hx hby at_150 ((if0 _ _).trans (feq (show ¬ ((1 : Int32) = (0 : Int32)) from (by decide))).1) ?_
      refine own_aload X578.here hx hby at_153 rfl rfl ?_
      refine own_aload X578.here hx hby at_155 rfl rfl ?_
      have f580 := (P552_0.keep K567)
      have f581 := (P552_1.keep K567 nin0)
      have f582 := (f557.keep K567)
      have f583 := (f558.keep K567 nin0)
      have f584 := (f559.keep K567 nin0)
      have f585 := (f560.keep K567 nin0)
      have f586 := (own_sta_keep f566 K567 all0)
      refine own_virtual X578 hx hZ567 hown567 (own_w hw 211 rfl) (own_w hw 212 rfl) (notFace_of_selects (args := #[]) (mvT hZ567 (own_w hw 214 rfl))) (own_w hw 214 rfl) (own_w hw 213 rfl) (own_w hw 39 rfl) (own_w hw 215 rfl) (by decide) (uriOf_C l Z a0 hw [] b537 b462 t_470 r_567 tr_567 kb_470 kr_567 (own_cs p2 pn) (own_cs p3 sn) zc fm T567.heap n0 z579 f580 f581 f582 f583 f584 f585 P567_1 P567_2 P567_3 P567_4 f577 hz f586 hfm (by rw [hPl]; omega) (by rw [hSl]; omega) (by rw [hSl]; omega)) 0 (Nat.le_of_eq rfl) (by decide) (by decide) (by rw [hml]; rfl) (argsL := [(.ref r_567)]) (st := []) f580 (lenOf pd_31 rfl) rfl rfl (by decide) (by decide) eh578 hby at_157 ?_
      intro T587 v587 L587 X587 hQ587
      obtain ⟨r_587, tr_587, kr_587, rfl, Nq587, K587, P587_0, P587_1, P587_2, P587_3, P587_4⟩ := hQ587
      have N587 := Fr.app N578 Nq587
      have z588 : T567.heap.size ≤ T587.heap.size := K587.1
      have C589 := C570.trans (CHr.keep K587 sf0 C570.1)
      have lt590 : T587.heap.size > r_587 := P587_1.lt
      have lt591 : T587.heap.size > tr_587 := P587_4.lt
      refine own_sh (T := T587) 160 #[.val (.int p1), .val (.long p2), .second, .val (.long p3), .second, .val (.int p4), .val (.int (Int32.ofNat pn)), .val (.int (Int32.ofNat sn)), .val (.ref b452), .val (.ref b462), .val (.ref b477), .val (.ref b493), .val (.ref b508), .val (.ref b522), .val (.ref b537), .val (.ref r_567)] [(.ref r_587)] ?_
      refine own_aload X587.here hx hby at_160 rfl rfl ?_
      have f592 := ((f561.keep K567).keep K587)
      have f593 := ((f562.keep K567 nin0).keep K587 nin0)
      have f594 := ((f563.keep K567 nin0).keep K587 nin0)
      have f595 := ((f564.keep K567 nin0).keep K587 nin0)
      have f596 := (own_sta_keep f577 K587 all0)
      have z598 : n0 ≤ T587.heap.size := by omega
      refine own_virtualB (Qc := fun v H L => v = some (.int 1) ∧ Fr n0 L ∧ H = T587.heap) X587 hx hZ567 hown567 (own_w hw 203 rfl) (own_w hw 204 rfl) (notFace_of_selects (args := #[]) (mvT hZ567 (own_w hw 206 rfl))) (own_w hw 206 rfl) (own_w hw 205 rfl) (by decide) (Back.mono (StrChars.Road.eqW (W := 0) hZ567 hws_wordsEq (kI := 4) (own_w hw 6 rfl) P587_1 P587_3 P587_2 P587_4 (StrChars.Road.codOf (cs := ((own_cs p2 pn) ++ (own_cs p3 sn))) rfl (fun c hc => ((own_mem2 (own_csB p2 pn) (own_csB p3 sn)) c hc).2)) (own_hi (own_mem2 (own_csB p2 pn) (own_csB p3 sn))) (Nat.le_trans (m := 15) (by rw [List.length_append, hPl, hSl]; omega) (by decide)) f592 f594 f593 f595 (StrChars.Road.codOf (cs := ((own_cs p2 pn) ++ (own_cs p3 sn))) rfl (fun c hc => ((own_mem2 (own_csB p2 pn) (own_csB p3 sn)) c hc).2)) (own_hi (own_mem2 (own_csB p2 pn) (own_csB p3 sn))) (Nat.le_trans (m := 15) (by rw [List.length_append, hPl, hSl]; omega) (by decide)) f596 hz (by decide) (by decide)) (fun _ _ hp => hp) (fun _ _ _ _ _ hq => own_eqQ (n0 := n0) hq)) (Nat.le_of_eq rfl) (by rw [hml]; rfl) (argsL := [(.ref b493)]) (st := []) P587_1 (lenOf pd_32 rfl) rfl rfl (by decide) (by decide) rfl hby at_162 ?_
      intro T597 v597 L597 X597 hQ597
      obtain ⟨rfl, Nq597, eh597⟩ := hQ597
      have N597 := Fr.app N587 Nq597
      refine own_sh (T := T597) 165 #[.val (.int p1), .val (.long p2), .second, .val (.long p3), .second, .val (.int p4), .val (.int (Int32.ofNat pn)), .val (.int (Int32.ofNat sn)), .val (.ref b452), .val (.ref b462), .val (.ref b477), .val (.ref b493), .val (.ref b508), .val (.ref b522), .val (.ref b537), .val (.ref r_567)] [(.int 1)] ?_
      refine own_ifNo X597.here hx hby at_165 ((if0 _ _).trans (feq (show ¬ ((1 : Int32) = (0 : Int32)) from (by decide))).1) ?_
      refine own_iconst X597.here hx hby at_168 (v := (1 : Int32)) (by decide) ?_
      refine own_goto X597.here hx hby (pc' := 173) at_169 (by decide) (by decide) ?_
      obtain ⟨fs, hr, hrun, hended, hRW⟩ := X597.leaveW hS567 (by rw [eh597]; omega) (v := some (.int 1)) (fun h => by rw [Bd.returns] at h; cases h) Bd.notSynchronized
      have hCf : CHr Z consts_1 s.vm s.heap T597.vm T597.heap := by
        rw [hh, eh597]
        exact C589.trans (CHv.at X597 hZ567 hEL C589.1)
      refine own_ret (t := T597.setFrames fs) ?_ ⟨_, hrun, hended, _, _, rfl, ?_, hCf, hRW.1, hRW.2.1, hRW.2.2.1, hRW.2.2.2.mono (by decide) (by decide)⟩
      · exact retN X597 hx (t := .boolean) Bd.returns (by simp) (hb hby at_173) hr
      · show Q_rm0 Z _ _ _ _ _ _ h0 n0 _ T597.heap _
        rw [eh597]
        exact ⟨rfl, N597, trivial⟩
set_option maxRecDepth 65536 in
set_option maxHeartbeats 40000000 in
theorem comes_1 {Post : Tables → Env → Array Value → State → Outcome → State → Prop} (hpost : ∀ tb e args s v u, (limb_1_1.after args s (.returned v) u = true ∧ limb_1_2.after args s (.returned v) u = true ∧ True) → ReturnedEndW s (.returned v) u (Jvm.fieldLocs frame_1_writes args s ++ Jvm.arrayLocs frame_1_arrays args s ++ Jvm.staticLocs frame_1_statics s) 64 3520 → Post tb e args s (.returned v) u) :
    ArmFor flags0 classFile x code maxLocals ret World_1 tables_1 room_1 Calls_1 rest_1 Pre_1 Post := by
  intro l hfl _ _ p e ha hc hk s m args below hf hA hF happ hP
  obtain ⟨hcalls, hrest, hpre⟩ := hP
  obtain ⟨-, -, -, hnamed, -, -, -, hat⟩ := (Spec.applies_iff hf).mp happ
  obtain ⟨hg, hn⟩ := and_e (Cond.before_iff.mp (show (Jvm.Cond.and given_1 narrow_1).before args s = true from hpre))
  obtain ⟨g1, g2⟩ := and_e hg
  obtain ⟨g3, g4⟩ := and_e g2
  obtain ⟨g5, g6⟩ := and_e g4
  obtain ⟨g7, g8⟩ := and_e g6
  obtain ⟨w0, w1, w2, w3, rfl⟩ : ∃ w0 w1 w2 w3 : Value, args = #[w0, w1, w2, w3] := by
    have hs : args.size = 4 := by simpa [Cond.value, given_1] using g1
    obtain ⟨L⟩ := args
    match L, hs with
    | [w0, w1, w2, w3], _ => exact ⟨w0, w1, w2, w3, rfl⟩
  have hw := fun d (hd : d ∈ tables_1) => atoms_spec (ws := Jvm.Cond.code x code maxLocals ret :: tables_1) hat d (List.mem_cons_of_mem _ hd)
  have hfit : Fit s := fun {y c} hc i hi => by
    obtain ⟨ha, rfl⟩ := Array.getElem?_eq_some_iff.mp hc
    have q := List.all_eq_true.mp ((Array.all_eq_true_iff_forall_mem.mp hF) _ (Array.getElem_mem ha)) i (List.mem_range.mpr hi)
    simpa [Array.getElem?_eq_getElem hi] using q
  obtain ⟨hsets, hown0⟩ := atoms_of _ (rest_1_c_eq ▸ (show rest_1_c.before _ s = true from hrest))
  have hr0 := Cond.before_iff.mp hown0
  obtain ⟨i0, ei0⟩ := is_v g3
  obtain rfl : w0 = (.int i0) := Option.some.inj ei0
  obtain ⟨i1, ei1⟩ := isL_v g5
  obtain rfl : w1 = (.long i1) := Option.some.inj ei1
  obtain ⟨i2, ei2⟩ := isL_v g7
  obtain rfl : w2 = (.long i2) := Option.some.inj ei2
  obtain ⟨i3, ei3⟩ := is_v g8
  obtain rfl : w3 = (.int i3) := Option.some.inj ei3
  have hCS := Cond.before_iff.mp (hsets _ (List.mem_of_getElem? (i := 1) rfl))
  obtain ⟨zC, evC⟩ := is_v hCS
  have StC := Sta.start evC (Or.inl (hsets _ (List.mem_of_getElem? (i := 0) rfl)))
  have hzC : ¬ (zC = (0 : Int32)) := fun e => by
    have q := not_v (Cond.before_iff.mp (hsets _ (List.mem_of_getElem? (i := 2) rfl)))
    have r := eq_i evC (Term.int_eval (0)) (by rw [e])
    exact absurd (q.symm.trans r) (by decide)
  obtain ⟨fM, evF, hfM⟩ := isR_v (Cond.before_iff.mp (hsets _ (List.mem_of_getElem? (i := 8) rfl)))
  have StF := Sta.start evF (Or.inl (hsets _ (List.mem_of_getElem? (i := 7) rfl)))
  have CHs : CHv s consts_1 s.vm s.heap := CHv.start (own_EW hw) (fun p hp => hcalls.1 p hp) (hsets _ (List.mem_of_getElem? (i := 2) rfl)) (own_w hw 19 rfl) (own_w hw 6 rfl)
  obtain ⟨n, o, h1, h2, h3, _, L, rfl, ⟨rfl, N, -⟩, -, hq⟩ := rm0 l s _ hw tables_1 i0 i1 i2 i3 zC fM s.heap s.heap.size (Nat.le_refl _) StC hzC StF hfM p e ha hc hk s m _ below hf ((Spec.applies_iff_loose hf).mp happ).1 ⟨rfl, State.Warmed39.refl s, rfl, CHs⟩ trivial
  refine ⟨n, _, h1, h2, h3, hpost _ _ _ _ _ _ ⟨Cond.after_iff.mpr rfl, Cond.after_iff.mpr (eq_i res_at (Term.int_eval (1)) rfl), trivial⟩ ⟨hq.1, hq.2.1, hq.2.2.1, (hq.2.2.2.sift fun y hy => Or.inr (N y hy)).mono (by decide) (by decide)⟩⟩
theorem main_1_1 : Claimed_1_1 := comes_1 fun _ _ _ _ _ _ h hF => ⟨h.1, hF⟩
theorem main_1_2 : Claimed_1_2 := comes_1 fun _ _ _ _ _ _ h hF => ⟨h.2.1, hF⟩
end Jvm.Pilot.@@N@@
namespace Jvm.Pilot.@@N@@
open Jvm Jvm.ClassFile Sem Op Lib Jvm.Free Jvm.Stand Jvm.Pilot.@@N@@.Jvm.D
/-! MADE BY PROGRAM (witnessworld.py) out of the Statement's table words and the real class files: 27 classes; the members and pool entries that the words name. The judged class is class 1, her method 3. -/
namespace start1
open Jvm.ClassFile
def u (s : String) : CpInfo := .utf8 (stringToUtf16 s)
/-- a pool by its gaps: so many unusable entries, then the entry; so many at the end -/
def gap : Nat → List CpInfo → List CpInfo
  | 0, r => r
  | n + 1, r => .unusable :: gap n r
def poolList (es : List (Nat × CpInfo)) (last : Nat) : List CpInfo := es.foldr (fun e r => gap e.1 (e.2 :: r)) (gap last [])
def pool (es : List (Nat × CpInfo)) (last : Nat) : Array CpInfo := ⟨poolList es last⟩
def fileOf (pool : Array CpInfo) (this : Nat) (attrs : Array Attribute := #[]) (ms : Array MethodInfo := #[]) (fl : Nat := 33) (sup : Nat := 0) (ifs : Array Nat := #[]) (fds : Array FieldInfo := #[]) : ClassFile where
  minorVersion := 0
  majorVersion := 65
  constantPool := pool
  accessFlags := fl
  thisClass := this
  superClass := sup
  interfaces := ifs
  fields := fds
  methods := ms
  attributes := attrs
def plain (name : String) (sup : Option ClassId) : Class where
  name := name
  kind := .ordinary
  loader := none
  accessFlags := 33
  super := sup
  interfaces := #[]
  cf := none
  fields := #[]
  methods := #[]
  instanceTypes := #[]
  staticTypes := #[]
  resolved := #[]
  callSites := []
  init := .initialized
  statics := none
  mirror := none

def pool0 : Array CpInfo := pool [(5, u "<init>"), (0, u "()V"), (1, .class_ 10), (1, u "java/lang/Object")] 113

def k0c0 : Code := { maxStack := 0, maxLocals := 1, code := object_method_1_code, exceptionTable := #[], attributes := #[] }
def k0m0 : Method := { name := "<init>", desc := "()V", sig := { parameters := [], returnType := none }, accessFlags := 1, code := some k0c0 }
/-- java/lang/Object -/
def k0 : Class := { plain "java/lang/Object" none with
  accessFlags := 33
  interfaces := #[]
  cf := some (fileOf pool0 8 #[] #[{ accessFlags := 1, nameIndex := 5, descriptorIndex := 6, attributes := #[] }] 33 0 #[] #[])
  fields := #[]
  methods := #[k0m0]
  instanceTypes := #[]
  staticTypes := #[]
  resolved := Array.replicate 124 none
  statics := none }

def pool1 : Array CpInfo := pool [(2, .class_ 4), (1, u "java/lang/Object"), (0, u "<init>"), (0, u "()V"), (0, .long 255), (1, .methodref 10 11), (0, .class_ 12), (0, .nameAndType 13 14), (0, u "com/example/undercroft/undercroft/store/UriSpacePathOfPinLaw"), (0, u "ch"), (0, u "(JI)C"), (0, .methodref 10 16), (0, .nameAndType 17 18), (0, u "put"), (0, u "([CIIJ)V"), (0, .class_ 20), (0, u "java/lang/String"), (0, .methodref 19 22), (0, .nameAndType 5 23), (0, u "([C)V"), (0, .class_ 25), (0, u "com/example/undercroft/undercroft/store/UriSpace"), (0, .methodref 19 27), (0, .nameAndType 28 29), (0, u "valueOf"), (0, u "(C)Ljava/lang/String;"), (0, .methodref 24 31), (0, .nameAndType 5 32), (0, u "(Ljava/lang/String;Ljava/lang/String;)V"), (0, .methodref 24 34), (0, .nameAndType 35 36), (0, u "pathOf"), (0, u "(Ljava/lang/String;)Ljava/lang/String;"), (0, .methodref 19 38), (0, .nameAndType 39 40), (0, u "equals"), (0, u "(Ljava/lang/Object;)Z"), (0, .methodref 24 42), (0, .nameAndType 43 36), (0, u "uriOfPath"), (3, u "law"), (0, u "(IJJI)Z")] 4

def k1m0 : Method := { name := "<init>", desc := "()V", sig := { parameters := [], returnType := none }, accessFlags := 1, code := none }
def k1c1 : Code := { maxStack := 4, maxLocals := 3, code := method_2_code, exceptionTable := #[], attributes := #[] }
def k1m1 : Method := { name := "ch", desc := "(JI)C", sig := { parameters := [.long, .int], returnType := some .char }, accessFlags := 10, code := some k1c1 }
def k1c2 : Code := { maxStack := 5, maxLocals := 5, code := method_3_code, exceptionTable := #[], attributes := #[] }
def k1m2 : Method := { name := "put", desc := "([CIIJ)V", sig := { parameters := [(.array .char), .int, .int, .long], returnType := none }, accessFlags := 10, code := some k1c2 }
def k1c3 : Code := { maxStack := 5, maxLocals := 16, code := code, exceptionTable := #[], attributes := #[] }
def k1m3 : Method := { name := "law", desc := "(IJJI)Z", sig := { parameters := [.int, .long, .long, .int], returnType := some .boolean }, accessFlags := 9, code := some k1c3 }
/-- com/example/undercroft/undercroft/store/UriSpacePathOfPinLaw -/
def k1 : Class := { plain "com/example/undercroft/undercroft/store/UriSpacePathOfPinLaw" (some 0) with
  accessFlags := 49
  interfaces := #[]
  cf := some (fileOf pool1 10 #[] #[{ accessFlags := 1, nameIndex := 5, descriptorIndex := 6, attributes := #[] }, { accessFlags := 10, nameIndex := 13, descriptorIndex := 14, attributes := #[] }, { accessFlags := 10, nameIndex := 17, descriptorIndex := 18, attributes := #[] }, { accessFlags := 9, nameIndex := 47, descriptorIndex := 48, attributes := #[] }] 49 2 #[] #[])
  fields := #[]
  methods := #[k1m0, k1m1, k1m2, k1m3]
  instanceTypes := #[]
  staticTypes := #[]
  resolved := Array.replicate 53 none
  statics := none }

def pool2 : Array CpInfo := pool [(1, .class_ 2), (0, u "java/io/Serializable"), (0, .class_ 4), (0, u "java/lang/Object")] 2

/-- java/io/Serializable -/
def k2 : Class := { plain "java/io/Serializable" (some 0) with
  accessFlags := 1537
  interfaces := #[]
  cf := some (fileOf pool2 1 #[] #[] 1537 3 #[] #[])
  fields := #[]
  methods := #[]
  instanceTypes := #[]
  staticTypes := #[]
  resolved := Array.replicate 7 none
  statics := none }

def pool3 : Array CpInfo := pool [(1, .class_ 2), (0, u "java/lang/Comparable"), (0, .class_ 4), (0, u "java/lang/Object")] 7

/-- java/lang/Comparable -/
def k3 : Class := { plain "java/lang/Comparable" (some 0) with
  accessFlags := 1537
  interfaces := #[]
  cf := some (fileOf pool3 1 #[] #[] 1537 3 #[] #[])
  fields := #[]
  methods := #[]
  instanceTypes := #[]
  staticTypes := #[]
  resolved := Array.replicate 12 none
  statics := none }

def pool4 : Array CpInfo := pool [(2, .class_ 4), (1, u "java/lang/CharSequence"), (42, .class_ 48), (0, u "java/lang/CharSequence$1CodePointIterator"), (10, .class_ 60), (0, u "java/lang/CharSequence$1CharIterator"), (5, .class_ 67), (0, u "java/lang/Object")] 63

/-- java/lang/CharSequence -/
def k4 : Class := { plain "java/lang/CharSequence" (some 0) with
  accessFlags := 1537
  interfaces := #[]
  cf := some (fileOf pool4 2 #[.nestMembers #[47, 59]] #[] 1537 66 #[] #[])
  fields := #[]
  methods := #[]
  instanceTypes := #[]
  staticTypes := #[]
  resolved := Array.replicate 131 none
  statics := none }

def pool5 : Array CpInfo := pool [(1, .class_ 2), (0, u "java/lang/constant/Constable"), (0, .class_ 4), (0, u "java/lang/Object")] 6

/-- java/lang/constant/Constable -/
def k5 : Class := { plain "java/lang/constant/Constable" (some 0) with
  accessFlags := 1537
  interfaces := #[]
  cf := some (fileOf pool5 1 #[] #[] 1537 3 #[] #[])
  fields := #[]
  methods := #[]
  instanceTypes := #[]
  staticTypes := #[]
  resolved := Array.replicate 11 none
  statics := none }

def pool6 : Array CpInfo := pool [(1, .class_ 2), (0, u "java/lang/constant/ConstantDesc"), (0, .class_ 4), (0, u "java/lang/Object")] 32

/-- java/lang/constant/ConstantDesc -/
def k6 : Class := { plain "java/lang/constant/ConstantDesc" (some 0) with
  accessFlags := 1537
  interfaces := #[]
  cf := some (fileOf pool6 1 #[] #[] 1537 3 #[] #[])
  fields := #[]
  methods := #[]
  instanceTypes := #[]
  staticTypes := #[]
  resolved := Array.replicate 37 none
  statics := none }

def pool7 : Array CpInfo := pool [(1, .methodref 2 3), (0, .class_ 4), (0, .nameAndType 5 6), (0, u "java/lang/Object"), (0, u "<init>"), (0, u "()V"), (0, .string 8), (0, u ""), (0, .fieldref 10 11), (0, .class_ 12), (0, .nameAndType 13 14), (0, u "java/lang/String"), (0, u "value"), (0, u "[B"), (0, .fieldref 10 16), (0, .nameAndType 17 18), (0, u "coder"), (0, u "B"), (2, u "hash"), (0, u "I"), (2, u "hashIsZero"), (0, u "Z"), (0, .methodref 10 28), (0, .nameAndType 5 29), (0, u "([CIILjava/lang/Void;)V"), (8, .fieldref 10 39), (0, .nameAndType 40 26), (0, u "COMPACT_STRINGS"), (1, .class_ 44), (1, u "java/lang/StringUTF16"), (0, u "compress"), (1, .methodref 42 48), (0, .nameAndType 49 50), (0, u "coderFromArrayLen"), (0, u "([BI)B"), (2, u "toBytes"), (0, .methodref 55 56), (0, .class_ 57), (0, .nameAndType 58 59), (0, u "java/util/Arrays"), (0, u "copyOfRange"), (0, u "([BII)[B"), (47, .class_ 109), (1, u "java/lang/StringLatin1"), (32, u "()Z"), (34, .methodref 42 178), (0, .nameAndType 45 179), (0, u "([CII)[B"), (13, .class_ 195), (1, u "java/lang/System"), (13, .methodref 10 210), (0, .nameAndType 5 211), (0, u "([BB)V"), (0, .methodref 193 213), (0, .nameAndType 214 215), (0, u "arraycopy"), (0, u "(Ljava/lang/Object;ILjava/lang/Object;II)V"), (118, u "()I"), (0, .methodref 10 336), (0, .nameAndType 17 337), (0, u "()B"), (2, u "()[B"), (28, u "(C)Z"), (119, .methodref 10 490), (0, .nameAndType 5 491), (0, u "(Ljava/lang/AbstractStringBuilder;Ljava/lang/Void;)V"), (0, .methodref 10 493), (0, .nameAndType 494 142), (0, u "isLatin1"), (10, .methodref 10 506), (0, .nameAndType 507 334), (0, u "length"), (5, u "checkFromToIndex"), (7, .methodref 10 522), (0, .nameAndType 523 524), (0, u "checkBoundsBeginEnd"), (0, u "(III)V"), (7, u "getBytes"), (8, .methodref 107 542), (0, .nameAndType 543 544), (0, u "equals"), (0, u "([B[B)Z"), (4, .methodref 550 506), (0, .class_ 551), (0, u "java/lang/AbstractStringBuilder"), (0, .methodref 550 553), (0, .nameAndType 554 340), (0, u "getValue"), (18, u "(Ljava/lang/Object;)Z"), (1, .class_ 576), (0, u "java/lang/CharSequence"), (22, u "CASE_INSENSITIVE_ORDER"), (0, u "Ljava/util/Comparator;"), (80, .methodref 10 682), (0, .nameAndType 683 684), (0, u "substring"), (0, u "(II)Ljava/lang/String;"), (0, .methodref 107 686), (0, .nameAndType 687 688), (0, u "newString"), (0, u "([BII)Ljava/lang/String;"), (93, u "valueOf"), (0, u "(C)Ljava/lang/String;"), (37, u "([BIB)V"), (70, u "(I)Ljava/lang/String;"), (117, u "([C)V"), (4, .methodref 107 1016), (0, .nameAndType 1017 369), (0, u "canEncode"), (0, .methodref 107 1019), (0, .nameAndType 53 1020), (0, u "(C)[B"), (26, .methodref 550 493), (5, .fieldref 1054 1055), (0, .class_ 1056), (0, .nameAndType 1057 1058), (0, u "jdk/internal/util/Preconditions"), (0, u "SIOOBE_FORMATTER"), (0, u "Ljava/util/function/BiFunction;"), (3, .methodref 1054 1063), (0, .nameAndType 513 1064), (0, u "(IIILjava/util/function/BiFunction;)I"), (36, u "serialPersistentFields"), (0, u "[Ljava/io/ObjectStreamField;"), (0, .class_ 1104), (0, u "java/lang/String$CaseInsensitiveComparator"), (1, .class_ 1107), (0, u "java/io/Serializable"), (0, .class_ 1109), (0, u "java/lang/Comparable"), (0, .class_ 1111), (0, u "java/lang/constant/Constable"), (0, .class_ 1113), (0, u "java/lang/constant/ConstantDesc"), (2, u "serialVersionUID"), (0, u "J"), (3, u "REPL"), (0, u "C"), (2, u "LATIN1"), (1, u "UTF16"), (105, u "(Ljava/lang/StringBuilder;)V")] 217

def k7m0 : Method := { name := "<init>", desc := "()V", sig := { parameters := [], returnType := none }, accessFlags := 1, code := none }
def k7c1 : Code := { maxStack := 5, maxLocals := 2, code := jdk_42_method_3_code, exceptionTable := #[], attributes := #[] }
def k7m1 : Method := { name := "<init>", desc := "([C)V", sig := { parameters := [(.array .char)], returnType := none }, accessFlags := 1, code := some k7c1 }
def k7c2 : Code := { maxStack := 3, maxLocals := 2, code := jdk_42_method_53_code, exceptionTable := #[], attributes := #[] }
def k7m2 : Method := { name := "<init>", desc := "(Ljava/lang/StringBuilder;)V", sig := { parameters := [(.object "java/lang/StringBuilder")], returnType := none }, accessFlags := 1, code := some k7c2 }
def k7c3 : Code := { maxStack := 2, maxLocals := 1, code := jdk_42_method_54_code, exceptionTable := #[], attributes := #[] }
def k7m3 : Method := { name := "length", desc := "()I", sig := { parameters := [], returnType := some .int }, accessFlags := 1, code := some k7c3 }
def k7c4 : Code := { maxStack := 2, maxLocals := 3, code := jdk_42_method_66_code, exceptionTable := #[], attributes := #[] }
def k7m4 : Method := { name := "equals", desc := "(Ljava/lang/Object;)Z", sig := { parameters := [(.object "java/lang/Object")], returnType := some .boolean }, accessFlags := 1, code := some k7c4 }
def k7c5 : Code := { maxStack := 3, maxLocals := 2, code := jdk_42_method_91_code, exceptionTable := #[], attributes := #[] }
def k7m5 : Method := { name := "substring", desc := "(I)Ljava/lang/String;", sig := { parameters := [.int], returnType := some (.object "java/lang/String") }, accessFlags := 1, code := some k7c5 }
def k7c6 : Code := { maxStack := 3, maxLocals := 5, code := jdk_42_method_92_code, exceptionTable := #[], attributes := #[] }
def k7m6 : Method := { name := "substring", desc := "(II)Ljava/lang/String;", sig := { parameters := [.int, .int], returnType := some (.object "java/lang/String") }, accessFlags := 1, code := some k7c6 }
def k7c7 : Code := { maxStack := 4, maxLocals := 1, code := jdk_42_method_139_code, exceptionTable := #[], attributes := #[] }
def k7m7 : Method := { name := "valueOf", desc := "(C)Ljava/lang/String;", sig := { parameters := [.char], returnType := some (.object "java/lang/String") }, accessFlags := 9, code := some k7c7 }
def k7c8 : Code := { maxStack := 5, maxLocals := 4, code := jdk_42_method_147_code, exceptionTable := #[], attributes := #[] }
def k7m8 : Method := { name := "getBytes", desc := "([BIB)V", sig := { parameters := [(.array .byte), .int, .byte], returnType := none }, accessFlags := 0, code := some k7c8 }
def k7c9 : Code := { maxStack := 4, maxLocals := 6, code := jdk_42_method_149_code, exceptionTable := #[], attributes := #[] }
def k7m9 : Method := { name := "<init>", desc := "([CIILjava/lang/Void;)V", sig := { parameters := [(.array .char), .int, .int, (.object "java/lang/Void")], returnType := none }, accessFlags := 2, code := some k7c9 }
def k7c10 : Code := { maxStack := 5, maxLocals := 5, code := jdk_42_method_150_code, exceptionTable := #[], attributes := #[] }
def k7m10 : Method := { name := "<init>", desc := "(Ljava/lang/AbstractStringBuilder;Ljava/lang/Void;)V", sig := { parameters := [(.object "java/lang/AbstractStringBuilder"), (.object "java/lang/Void")], returnType := none }, accessFlags := 0, code := some k7c10 }
def k7c11 : Code := { maxStack := 2, maxLocals := 3, code := jdk_42_method_151_code, exceptionTable := #[], attributes := #[] }
def k7m11 : Method := { name := "<init>", desc := "([BB)V", sig := { parameters := [(.array .byte), .byte], returnType := none }, accessFlags := 0, code := some k7c11 }
def k7c12 : Code := { maxStack := 1, maxLocals := 1, code := jdk_42_method_152_code, exceptionTable := #[], attributes := #[] }
def k7m12 : Method := { name := "coder", desc := "()B", sig := { parameters := [], returnType := some .byte }, accessFlags := 0, code := some k7c12 }
def k7c13 : Code := { maxStack := 1, maxLocals := 1, code := jdk_42_method_154_code, exceptionTable := #[], attributes := #[] }
def k7m13 : Method := { name := "isLatin1", desc := "()Z", sig := { parameters := [], returnType := some .boolean }, accessFlags := 0, code := some k7c13 }
def k7c14 : Code := { maxStack := 4, maxLocals := 3, code := jdk_42_method_158_code, exceptionTable := #[], attributes := #[] }
def k7m14 : Method := { name := "checkBoundsBeginEnd", desc := "(III)V", sig := { parameters := [.int, .int, .int], returnType := none }, accessFlags := 8, code := some k7c14 }
/-- java/lang/String -/
def k7 : Class := { plain "java/lang/String" (some 0) with
  accessFlags := 49
  interfaces := #[2, 3, 4, 5, 6]
  cf := some (fileOf pool7 10 #[.nestMembers #[1103]] #[{ accessFlags := 1, nameIndex := 5, descriptorIndex := 6, attributes := #[] }, { accessFlags := 1, nameIndex := 5, descriptorIndex := 1010, attributes := #[] }, { accessFlags := 1, nameIndex := 5, descriptorIndex := 1233, attributes := #[] }, { accessFlags := 1, nameIndex := 507, descriptorIndex := 334, attributes := #[] }, { accessFlags := 1, nameIndex := 543, descriptorIndex := 573, attributes := #[] }, { accessFlags := 1, nameIndex := 683, descriptorIndex := 892, attributes := #[] }, { accessFlags := 1, nameIndex := 683, descriptorIndex := 684, attributes := #[] }, { accessFlags := 9, nameIndex := 782, descriptorIndex := 783, attributes := #[] }, { accessFlags := 0, nameIndex := 532, descriptorIndex := 821, attributes := #[] }, { accessFlags := 2, nameIndex := 5, descriptorIndex := 29, attributes := #[] }, { accessFlags := 0, nameIndex := 5, descriptorIndex := 491, attributes := #[] }, { accessFlags := 0, nameIndex := 5, descriptorIndex := 211, attributes := #[] }, { accessFlags := 0, nameIndex := 17, descriptorIndex := 337, attributes := #[] }, { accessFlags := 0, nameIndex := 494, descriptorIndex := 142, attributes := #[] }, { accessFlags := 8, nameIndex := 523, descriptorIndex := 524, attributes := #[] }] 49 2 #[1106, 1108, 575, 1110, 1112] #[{ accessFlags := 18, nameIndex := 13, descriptorIndex := 14, attributes := #[] }, { accessFlags := 18, nameIndex := 17, descriptorIndex := 18, attributes := #[] }, { accessFlags := 2, nameIndex := 21, descriptorIndex := 22, attributes := #[] }, { accessFlags := 2, nameIndex := 25, descriptorIndex := 26, attributes := #[] }, { accessFlags := 26, nameIndex := 1116, descriptorIndex := 1117, attributes := #[] }, { accessFlags := 24, nameIndex := 40, descriptorIndex := 26, attributes := #[] }, { accessFlags := 26, nameIndex := 1101, descriptorIndex := 1102, attributes := #[] }, { accessFlags := 26, nameIndex := 1121, descriptorIndex := 1122, attributes := #[] }, { accessFlags := 25, nameIndex := 599, descriptorIndex := 600, attributes := #[] }, { accessFlags := 24, nameIndex := 1125, descriptorIndex := 18, attributes := #[] }, { accessFlags := 24, nameIndex := 1127, descriptorIndex := 18, attributes := #[] }])
  fields := #[{ name := "value", type := (.array .byte), accessFlags := 18, slot := 0, constantValue := 0 }, { name := "coder", type := .byte, accessFlags := 18, slot := 1, constantValue := 0 }, { name := "hash", type := .int, accessFlags := 2, slot := 2, constantValue := 0 }, { name := "hashIsZero", type := .boolean, accessFlags := 2, slot := 3, constantValue := 0 }, { name := "serialVersionUID", type := .long, accessFlags := 26, slot := 0, constantValue := 0 }, { name := "COMPACT_STRINGS", type := .boolean, accessFlags := 24, slot := 1, constantValue := 0 }, { name := "serialPersistentFields", type := (.array (.object "java/io/ObjectStreamField")), accessFlags := 26, slot := 2, constantValue := 0 }, { name := "REPL", type := .char, accessFlags := 26, slot := 3, constantValue := 0 }, { name := "CASE_INSENSITIVE_ORDER", type := (.object "java/util/Comparator"), accessFlags := 25, slot := 4, constantValue := 0 }, { name := "LATIN1", type := .byte, accessFlags := 24, slot := 5, constantValue := 0 }, { name := "UTF16", type := .byte, accessFlags := 24, slot := 6, constantValue := 0 }]
  methods := #[k7m0, k7m1, k7m2, k7m3, k7m4, k7m5, k7m6, k7m7, k7m8, k7m9, k7m10, k7m11, k7m12, k7m13, k7m14]
  instanceTypes := #[(.array .byte), .byte, .int, .boolean]
  staticTypes := #[.long, .boolean, (.array (.object "java/io/ObjectStreamField")), .char, (.object "java/util/Comparator"), .byte, .byte]
  resolved := Array.replicate 1451 none
  statics := some 0 }

def pool8 : Array CpInfo := pool [(6, .class_ 8), (1, u "java/lang/Object"), (0, u "<init>"), (0, u "()V"), (1, .class_ 14), (1, u "java/lang/StringUTF16"), (31, u "$assertionsDisabled"), (0, u "Z"), (13, u "HI_BYTE_SHIFT"), (0, u "I"), (2, u "LO_BYTE_SHIFT"), (49, .methodref 12 116), (0, .nameAndType 117 118), (0, u "compress"), (0, u "([CI[BII)I"), (3, u "([CII)[B"), (138, u "coderFromArrayLen"), (0, u "([BI)B"), (106, .class_ 371), (1, u "java/lang/StringUTF16$LinesSpliterator"), (58, u "MAX_LENGTH"), (196, .class_ 628), (0, u "java/lang/StringUTF16$CodePointsSpliterator"), (0, .class_ 630), (0, u "java/lang/StringUTF16$CharsSpliterator")] 4

def k8m0 : Method := { name := "<init>", desc := "()V", sig := { parameters := [], returnType := none }, accessFlags := 0, code := none }
def k8c1 : Code := { maxStack := 2, maxLocals := 2, code := jdk_52_method_15_code, exceptionTable := #[], attributes := #[] }
def k8m1 : Method := { name := "coderFromArrayLen", desc := "([BI)B", sig := { parameters := [(.array .byte), .int], returnType := some .byte }, accessFlags := 8, code := some k8c1 }
def k8c2 : Code := { maxStack := 5, maxLocals := 6, code := jdk_52_method_16_code, exceptionTable := #[], attributes := #[] }
def k8m2 : Method := { name := "compress", desc := "([CII)[B", sig := { parameters := [(.array .char), .int, .int], returnType := some (.array .byte) }, accessFlags := 9, code := some k8c2 }
def k8c3 : Code := { maxStack := 3, maxLocals := 7, code := jdk_52_method_21_code, exceptionTable := #[], attributes := #[] }
def k8m3 : Method := { name := "compress", desc := "([CI[BII)I", sig := { parameters := [(.array .char), .int, (.array .byte), .int, .int], returnType := some .int }, accessFlags := 9, code := some k8c3 }
/-- java/lang/StringUTF16 -/
def k8 : Class := { plain "java/lang/StringUTF16" (some 0) with
  accessFlags := 48
  interfaces := #[]
  cf := some (fileOf pool8 12 #[.nestMembers #[627, 629, 369]] #[{ accessFlags := 0, nameIndex := 9, descriptorIndex := 10, attributes := #[] }, { accessFlags := 8, nameIndex := 261, descriptorIndex := 262, attributes := #[] }, { accessFlags := 9, nameIndex := 117, descriptorIndex := 122, attributes := #[] }, { accessFlags := 9, nameIndex := 117, descriptorIndex := 118, attributes := #[] }] 48 6 #[] #[{ accessFlags := 26, nameIndex := 61, descriptorIndex := 62, attributes := #[] }, { accessFlags := 26, nameIndex := 65, descriptorIndex := 62, attributes := #[] }, { accessFlags := 24, nameIndex := 430, descriptorIndex := 62, attributes := #[] }, { accessFlags := 4120, nameIndex := 46, descriptorIndex := 47, attributes := #[] }])
  fields := #[{ name := "HI_BYTE_SHIFT", type := .int, accessFlags := 26, slot := 0, constantValue := 0 }, { name := "LO_BYTE_SHIFT", type := .int, accessFlags := 26, slot := 1, constantValue := 0 }, { name := "MAX_LENGTH", type := .int, accessFlags := 24, slot := 2, constantValue := 0 }, { name := "$assertionsDisabled", type := .boolean, accessFlags := 4120, slot := 3, constantValue := 0 }]
  methods := #[k8m0, k8m1, k8m2, k8m3]
  instanceTypes := #[]
  staticTypes := #[.int, .int, .int, .boolean]
  resolved := Array.replicate 635 none
  statics := none }

def pool9 : Array CpInfo := pool [(1, .methodref 2 3), (0, .class_ 4), (0, .nameAndType 5 6), (0, u "java/lang/Object"), (0, u "<init>"), (0, u "()V"), (0, .class_ 8), (0, u "java/lang/Record")] 13

def k9c0 : Code := { maxStack := 1, maxLocals := 1, code := jdk_30_method_1_code, exceptionTable := #[], attributes := #[] }
def k9m0 : Method := { name := "<init>", desc := "()V", sig := { parameters := [], returnType := none }, accessFlags := 4, code := some k9c0 }
/-- java/lang/Record -/
def k9 : Class := { plain "java/lang/Record" (some 0) with
  accessFlags := 1057
  interfaces := #[]
  cf := some (fileOf pool9 7 #[] #[{ accessFlags := 4, nameIndex := 5, descriptorIndex := 6, attributes := #[] }] 1057 2 #[] #[])
  fields := #[]
  methods := #[k9m0]
  instanceTypes := #[]
  staticTypes := #[]
  resolved := Array.replicate 22 none
  statics := none }

def pool10 : Array CpInfo := pool [(1, .methodref 2 3), (0, .class_ 4), (0, .nameAndType 5 6), (0, u "java/lang/Record"), (0, u "<init>"), (0, u "()V"), (0, .fieldref 8 9), (0, .class_ 10), (0, .nameAndType 11 12), (0, u "com/example/undercroft/undercroft/store/UriSpace"), (0, u "prefix"), (0, u "Ljava/lang/String;"), (0, .fieldref 8 14), (0, .nameAndType 15 12), (0, u "ownSystem"), (0, .class_ 17), (0, u "java/lang/StringBuilder"), (0, .methodref 16 3), (3, u "()Ljava/lang/String;"), (0, .methodref 16 24), (0, .nameAndType 25 26), (0, u "append"), (0, u "(Ljava/lang/String;)Ljava/lang/StringBuilder;"), (9, .methodref 16 37), (0, .nameAndType 38 22), (0, u "toString"), (1, .class_ 42), (1, u "com/example/undercroft/undercroft/store/UriSpace$1"), (7, u "()I"), (22, .class_ 75), (1, u "java/lang/String"), (16, .methodref 73 93), (0, .nameAndType 94 50), (0, u "length"), (4, .methodref 73 100), (0, .nameAndType 101 102), (0, u "substring"), (0, u "(I)Ljava/lang/String;"), (20, .class_ 124), (0, u "com/example/undercroft/undercroft/store/UriSpace$ResourceId"), (5, u "(Ljava/lang/String;Ljava/lang/String;)V"), (4, .string 136), (0, u "/"), (11, u "RESOURCE"), (14, u "(Ljava/lang/String;)Ljava/lang/String;"), (1, u "uriOfPath"), (0, u "pathOf")] 24

def k10c0 : Code := { maxStack := 2, maxLocals := 3, code := prog_21_method_1_code, exceptionTable := #[], attributes := #[] }
def k10m0 : Method := { name := "<init>", desc := "(Ljava/lang/String;Ljava/lang/String;)V", sig := { parameters := [(.object "java/lang/String"), (.object "java/lang/String")], returnType := none }, accessFlags := 1, code := some k10c0 }
def k10c1 : Code := { maxStack := 3, maxLocals := 2, code := prog_21_method_8_code, exceptionTable := #[], attributes := #[] }
def k10m1 : Method := { name := "uriOfPath", desc := "(Ljava/lang/String;)Ljava/lang/String;", sig := { parameters := [(.object "java/lang/String")], returnType := some (.object "java/lang/String") }, accessFlags := 1, code := some k10c1 }
def k10c2 : Code := { maxStack := 3, maxLocals := 2, code := prog_21_method_9_code, exceptionTable := #[], attributes := #[] }
def k10m2 : Method := { name := "pathOf", desc := "(Ljava/lang/String;)Ljava/lang/String;", sig := { parameters := [(.object "java/lang/String")], returnType := some (.object "java/lang/String") }, accessFlags := 1, code := some k10c2 }
/-- com/example/undercroft/undercroft/store/UriSpace -/
def k10 : Class := { plain "com/example/undercroft/undercroft/store/UriSpace" (some 9) with
  accessFlags := 49
  interfaces := #[]
  cf := some (fileOf pool10 8 #[.nestMembers #[40, 123]] #[{ accessFlags := 1, nameIndex := 5, descriptorIndex := 130, attributes := #[] }, { accessFlags := 1, nameIndex := 165, descriptorIndex := 163, attributes := #[] }, { accessFlags := 1, nameIndex := 166, descriptorIndex := 163, attributes := #[] }] 49 2 #[] #[{ accessFlags := 18, nameIndex := 11, descriptorIndex := 12, attributes := #[] }, { accessFlags := 18, nameIndex := 15, descriptorIndex := 12, attributes := #[] }, { accessFlags := 26, nameIndex := 148, descriptorIndex := 12, attributes := #[] }])
  fields := #[{ name := "prefix", type := (.object "java/lang/String"), accessFlags := 18, slot := 0, constantValue := 0 }, { name := "ownSystem", type := (.object "java/lang/String"), accessFlags := 18, slot := 1, constantValue := 0 }, { name := "RESOURCE", type := (.object "java/lang/String"), accessFlags := 26, slot := 0, constantValue := 0 }]
  methods := #[k10m0, k10m1, k10m2]
  instanceTypes := #[(.object "java/lang/String"), (.object "java/lang/String")]
  staticTypes := #[(.object "java/lang/String")]
  resolved := Array.replicate 191 none
  statics := none }

def pool11 : Array CpInfo := pool [(1, .class_ 2), (0, u "java/lang/String"), (1, .class_ 6), (1, u "java/lang/Object"), (0, u "<init>"), (0, u "()V"), (5, .class_ 16), (1, u "java/lang/StringLatin1"), (73, u "canEncode"), (14, u "(C)Z"), (6, .methodref 1 113), (0, .nameAndType 7 114), (0, u "([BB)V"), (6, u "$assertionsDisabled"), (0, u "Z"), (8, .class_ 133), (1, u "java/util/Arrays"), (17, .string 152), (0, u ""), (43, u "newString"), (0, u "([BII)Ljava/lang/String;"), (23, .class_ 223), (1, u "java/lang/StringLatin1$LinesSpliterator"), (8, .methodref 131 233), (0, .nameAndType 234 235), (0, u "copyOfRange"), (0, u "([BII)[B"), (45, u "equals"), (0, u "([B[B)Z"), (97, u "toBytes"), (1, u "(C)[B"), (7, .class_ 391), (0, u "java/lang/StringLatin1$CharsSpliterator")] 3

def k11m0 : Method := { name := "<init>", desc := "()V", sig := { parameters := [], returnType := none }, accessFlags := 0, code := none }
def k11c1 : Code := { maxStack := 2, maxLocals := 1, code := jdk_43_method_3_code, exceptionTable := #[], attributes := #[] }
def k11m1 : Method := { name := "canEncode", desc := "(C)Z", sig := { parameters := [.char], returnType := some .boolean }, accessFlags := 9, code := some k11c1 }
def k11c2 : Code := { maxStack := 3, maxLocals := 3, code := jdk_43_method_13_code, exceptionTable := #[], attributes := #[] }
def k11m2 : Method := { name := "equals", desc := "([B[B)Z", sig := { parameters := [(.array .byte), (.array .byte)], returnType := some .boolean }, accessFlags := 9, code := some k11c2 }
def k11c3 : Code := { maxStack := 4, maxLocals := 1, code := jdk_43_method_46_code, exceptionTable := #[], attributes := #[] }
def k11m3 : Method := { name := "toBytes", desc := "(C)[B", sig := { parameters := [.char], returnType := some (.array .byte) }, accessFlags := 9, code := some k11c3 }
def k11c4 : Code := { maxStack := 6, maxLocals := 3, code := jdk_43_method_47_code, exceptionTable := #[], attributes := #[] }
def k11m4 : Method := { name := "newString", desc := "([BII)Ljava/lang/String;", sig := { parameters := [(.array .byte), .int, .int], returnType := some (.object "java/lang/String") }, accessFlags := 9, code := some k11c4 }
/-- java/lang/StringLatin1 -/
def k11 : Class := { plain "java/lang/StringLatin1" (some 0) with
  accessFlags := 48
  interfaces := #[]
  cf := some (fileOf pool11 14 #[.nestMembers #[390, 221]] #[{ accessFlags := 0, nameIndex := 7, descriptorIndex := 8, attributes := #[] }, { accessFlags := 9, nameIndex := 90, descriptorIndex := 105, attributes := #[] }, { accessFlags := 9, nameIndex := 281, descriptorIndex := 282, attributes := #[] }, { accessFlags := 9, nameIndex := 380, descriptorIndex := 382, attributes := #[] }, { accessFlags := 9, nameIndex := 196, descriptorIndex := 197, attributes := #[] }] 48 4 #[] #[{ accessFlags := 4120, nameIndex := 121, descriptorIndex := 122, attributes := #[] }])
  fields := #[{ name := "$assertionsDisabled", type := .boolean, accessFlags := 4120, slot := 0, constantValue := 0 }]
  methods := #[k11m0, k11m1, k11m2, k11m3, k11m4]
  instanceTypes := #[]
  staticTypes := #[.boolean]
  resolved := Array.replicate 395 none
  statics := none }

def pool12 : Array CpInfo := pool [(1, .class_ 2), (0, u "java/lang/Appendable"), (0, .class_ 4), (0, u "java/lang/Object")] 9

/-- java/lang/Appendable -/
def k12 : Class := { plain "java/lang/Appendable" (some 0) with
  accessFlags := 1537
  interfaces := #[]
  cf := some (fileOf pool12 1 #[] #[] 1537 3 #[] #[])
  fields := #[]
  methods := #[]
  instanceTypes := #[]
  staticTypes := #[]
  resolved := Array.replicate 14 none
  statics := none }

def pool13 : Array CpInfo := pool [(1, .class_ 2), (0, u "java/lang/String"), (0, .methodref 4 5), (0, .class_ 6), (0, .nameAndType 7 8), (0, u "java/lang/Object"), (0, u "<init>"), (0, u "()V"), (1, .class_ 12), (1, u "java/lang/AbstractStringBuilder"), (0, u "EMPTYVALUE"), (0, u "[B"), (0, .fieldref 10 16), (0, .nameAndType 17 14), (0, u "value"), (0, .fieldref 1 19), (0, .nameAndType 20 21), (0, u "COMPACT_STRINGS"), (0, u "Z"), (0, .fieldref 10 23), (0, .nameAndType 24 25), (0, u "coder"), (0, u "B"), (6, .methodref 1 33), (0, .nameAndType 34 35), (0, u "length"), (0, u "()I"), (4, .methodref 1 41), (0, .nameAndType 24 42), (0, u "()B"), (2, u "append"), (0, u "(Ljava/lang/String;)Ljava/lang/AbstractStringBuilder;"), (1, .class_ 49), (0, u "java/lang/CharSequence"), (19, u "(Ljava/lang/String;)V"), (5, u "maybeLatin1"), (3, .fieldref 10 80), (0, .nameAndType 81 82), (0, u "count"), (0, u "I"), (2, u "isLatin1"), (0, u "()Z"), (13, .methodref 10 101), (0, .nameAndType 102 103), (0, u "ensureCapacityInternal"), (0, u "(I)V"), (104, .methodref 10 209), (0, .nameAndType 210 211), (0, u "putStringAt"), (0, u "(ILjava/lang/String;)V"), (5, u "inflateIfNeededFor"), (2, .nameAndType 221 222), (0, u "getBytes"), (0, u "([BIB)V"), (174, .methodref 10 398), (0, .nameAndType 217 69), (0, .methodref 1 220), (3, u "()[B"), (40, .class_ 445), (0, u "java/lang/Appendable"), (106, u "getValue")] 56

def k13m0 : Method := { name := "<init>", desc := "()V", sig := { parameters := [], returnType := none }, accessFlags := 0, code := none }
def k13c1 : Code := { maxStack := 2, maxLocals := 2, code := jdk_68_method_2_code, exceptionTable := #[], attributes := #[] }
def k13m1 : Method := { name := "<init>", desc := "(I)V", sig := { parameters := [.int], returnType := none }, accessFlags := 0, code := some k13c1 }
def k13c2 : Code := { maxStack := 1, maxLocals := 1, code := jdk_68_method_6_code, exceptionTable := #[], attributes := #[] }
def k13m2 : Method := { name := "length", desc := "()I", sig := { parameters := [], returnType := some .int }, accessFlags := 1, code := some k13c2 }
def k13c3 : Code := { maxStack := 4, maxLocals := 3, code := jdk_68_method_9_code, exceptionTable := #[], attributes := #[] }
def k13m3 : Method := { name := "ensureCapacityInternal", desc := "(I)V", sig := { parameters := [.int], returnType := none }, accessFlags := 2, code := some k13c3 }
def k13c4 : Code := { maxStack := 3, maxLocals := 3, code := jdk_68_method_22_code, exceptionTable := #[], attributes := #[] }
def k13m4 : Method := { name := "append", desc := "(Ljava/lang/String;)Ljava/lang/AbstractStringBuilder;", sig := { parameters := [(.object "java/lang/String")], returnType := some (.object "java/lang/AbstractStringBuilder") }, accessFlags := 1, code := some k13c4 }
def k13c5 : Code := { maxStack := 1, maxLocals := 1, code := jdk_68_method_64_code, exceptionTable := #[], attributes := #[] }
def k13m5 : Method := { name := "getValue", desc := "()[B", sig := { parameters := [], returnType := some (.array .byte) }, accessFlags := 16, code := some k13c5 }
def k13c6 : Code := { maxStack := 1, maxLocals := 1, code := jdk_68_method_68_code, exceptionTable := #[], attributes := #[] }
def k13m6 : Method := { name := "isLatin1", desc := "()Z", sig := { parameters := [], returnType := some .boolean }, accessFlags := 16, code := some k13c6 }
def k13c7 : Code := { maxStack := 2, maxLocals := 2, code := jdk_68_method_71_code, exceptionTable := #[], attributes := #[] }
def k13m7 : Method := { name := "inflateIfNeededFor", desc := "(Ljava/lang/String;)V", sig := { parameters := [(.object "java/lang/String")], returnType := none }, accessFlags := 2, code := some k13c7 }
def k13c8 : Code := { maxStack := 4, maxLocals := 3, code := jdk_68_method_73_code, exceptionTable := #[], attributes := #[] }
def k13m8 : Method := { name := "putStringAt", desc := "(ILjava/lang/String;)V", sig := { parameters := [.int, (.object "java/lang/String")], returnType := none }, accessFlags := 2, code := some k13c8 }
/-- java/lang/AbstractStringBuilder -/
def k13 : Class := { plain "java/lang/AbstractStringBuilder" (some 0) with
  accessFlags := 1056
  interfaces := #[12, 4]
  cf := some (fileOf pool13 10 #[] #[{ accessFlags := 0, nameIndex := 7, descriptorIndex := 8, attributes := #[] }, { accessFlags := 0, nameIndex := 7, descriptorIndex := 103, attributes := #[] }, { accessFlags := 1, nameIndex := 34, descriptorIndex := 35, attributes := #[] }, { accessFlags := 2, nameIndex := 102, descriptorIndex := 103, attributes := #[] }, { accessFlags := 1, nameIndex := 45, descriptorIndex := 46, attributes := #[] }, { accessFlags := 16, nameIndex := 552, descriptorIndex := 403, attributes := #[] }, { accessFlags := 16, nameIndex := 85, descriptorIndex := 86, attributes := #[] }, { accessFlags := 2, nameIndex := 217, descriptorIndex := 69, attributes := #[] }, { accessFlags := 2, nameIndex := 210, descriptorIndex := 211, attributes := #[] }] 1056 4 #[444, 48] #[{ accessFlags := 0, nameIndex := 17, descriptorIndex := 14, attributes := #[] }, { accessFlags := 0, nameIndex := 24, descriptorIndex := 25, attributes := #[] }, { accessFlags := 0, nameIndex := 75, descriptorIndex := 21, attributes := #[] }, { accessFlags := 0, nameIndex := 81, descriptorIndex := 82, attributes := #[] }, { accessFlags := 26, nameIndex := 13, descriptorIndex := 14, attributes := #[] }])
  fields := #[{ name := "value", type := (.array .byte), accessFlags := 0, slot := 0, constantValue := 0 }, { name := "coder", type := .byte, accessFlags := 0, slot := 1, constantValue := 0 }, { name := "maybeLatin1", type := .boolean, accessFlags := 0, slot := 2, constantValue := 0 }, { name := "count", type := .int, accessFlags := 0, slot := 3, constantValue := 0 }, { name := "EMPTYVALUE", type := (.array .byte), accessFlags := 26, slot := 0, constantValue := 0 }]
  methods := #[k13m0, k13m1, k13m2, k13m3, k13m4, k13m5, k13m6, k13m7, k13m8]
  instanceTypes := #[(.array .byte), .byte, .boolean, .int]
  staticTypes := #[(.array .byte)]
  resolved := Array.replicate 609 none
  statics := none }

def pool14 : Array CpInfo := pool [(1, .methodref 2 3), (0, .class_ 4), (0, .nameAndType 5 6), (0, u "java/lang/AbstractStringBuilder"), (0, u "<init>"), (0, u "(I)V"), (11, .class_ 20), (1, u "java/lang/String"), (3, .class_ 26), (1, u "java/lang/StringBuilder"), (0, u "append"), (0, u "(Ljava/lang/String;)Ljava/lang/StringBuilder;"), (0, .methodref 2 30), (0, .nameAndType 27 31), (0, u "(Ljava/lang/String;)Ljava/lang/AbstractStringBuilder;"), (105, .methodref 18 138), (0, .nameAndType 5 139), (0, u "(Ljava/lang/StringBuilder;)V"), (5, u "()V"), (10, u "()I"), (186, .methodref 2 344), (0, .nameAndType 345 156), (0, u "length"), (3, .class_ 350), (0, u "java/lang/Appendable"), (0, .class_ 352), (0, u "java/io/Serializable"), (0, .class_ 354), (0, u "java/lang/Comparable"), (0, .class_ 356), (0, u "java/lang/CharSequence"), (0, u "serialVersionUID"), (0, u "J"), (40, u "toString"), (0, u "()Ljava/lang/String;")] 21

def k14c0 : Code := { maxStack := 2, maxLocals := 1, code := jdk_67_method_1_code, exceptionTable := #[], attributes := #[] }
def k14m0 : Method := { name := "<init>", desc := "()V", sig := { parameters := [], returnType := none }, accessFlags := 1, code := some k14c0 }
def k14c1 : Code := { maxStack := 2, maxLocals := 2, code := jdk_67_method_7_code, exceptionTable := #[], attributes := #[] }
def k14m1 : Method := { name := "append", desc := "(Ljava/lang/String;)Ljava/lang/StringBuilder;", sig := { parameters := [(.object "java/lang/String")], returnType := some (.object "java/lang/StringBuilder") }, accessFlags := 1, code := some k14c1 }
def k14c2 : Code := { maxStack := 3, maxLocals := 1, code := jdk_67_method_42_code, exceptionTable := #[], attributes := #[] }
def k14m2 : Method := { name := "toString", desc := "()Ljava/lang/String;", sig := { parameters := [], returnType := some (.object "java/lang/String") }, accessFlags := 1, code := some k14c2 }
def k14c3 : Code := { maxStack := 1, maxLocals := 1, code := jdk_67_method_93_code, exceptionTable := #[], attributes := #[] }
def k14m3 : Method := { name := "length", desc := "()I", sig := { parameters := [], returnType := some .int }, accessFlags := 4161, code := some k14c3 }
/-- java/lang/StringBuilder -/
def k14 : Class := { plain "java/lang/StringBuilder" (some 13) with
  accessFlags := 49
  interfaces := #[12, 2, 3, 4]
  cf := some (fileOf pool14 24 #[] #[{ accessFlags := 1, nameIndex := 5, descriptorIndex := 145, attributes := #[] }, { accessFlags := 1, nameIndex := 27, descriptorIndex := 28, attributes := #[] }, { accessFlags := 1, nameIndex := 399, descriptorIndex := 400, attributes := #[] }, { accessFlags := 4161, nameIndex := 345, descriptorIndex := 156, attributes := #[] }] 49 2 #[349, 351, 353, 355] #[{ accessFlags := 24, nameIndex := 357, descriptorIndex := 358, attributes := #[] }])
  fields := #[{ name := "serialVersionUID", type := .long, accessFlags := 24, slot := 0, constantValue := 0 }]
  methods := #[k14m0, k14m1, k14m2, k14m3]
  instanceTypes := #[(.array .byte), .byte, .boolean, .int]
  staticTypes := #[.long]
  resolved := Array.replicate 422 none
  statics := none }

def pool15 : Array CpInfo := pool [(2, .class_ 4), (1, u "java/lang/Object"), (0, u "<init>"), (0, u "()V"), (1, .class_ 10), (1, u "java/lang/System"), (0, u "allowSecurityManager"), (0, u "I"), (16, u "cons"), (0, u "Ljava/io/Console;"), (77, .class_ 110), (1, u "java/lang/System$CallersHolder"), (43, u "initialErrStream"), (0, u "Ljava/io/PrintStream;"), (19, u "security"), (0, u "Ljava/lang/SecurityManager;"), (31, .class_ 209), (0, u "java/lang/System$1"), (7, u "props"), (0, u "Ljava/util/Properties;"), (2, u "lineSeparator"), (0, u "Ljava/lang/String;"), (96, .class_ 321), (1, u "java/lang/System$LoggerFinder"), (5, .class_ 328), (0, u "java/lang/System$Logger"), (67, u "err"), (2, u "out"), (91, u "notSupportedJnuEncoding"), (15, u "in"), (17, u "initialIn"), (0, u "Ljava/io/InputStream;"), (35, u "bootLayer"), (0, u "Ljava/lang/ModuleLayer;"), (99, .class_ 664), (0, u "java/lang/System$2"), (9, u "NEVER"), (2, u "MAYBE"), (49, u "arraycopy"), (0, u "(Ljava/lang/Object;ILjava/lang/Object;II)V"), (72, .class_ 802), (0, u "java/lang/System$Logger$Level")] 31

def k15m0 : Method := { name := "<init>", desc := "()V", sig := { parameters := [], returnType := none }, accessFlags := 2, code := none }
def k15m1 : Method := { name := "arraycopy", desc := "(Ljava/lang/Object;ILjava/lang/Object;II)V", sig := { parameters := [(.object "java/lang/Object"), .int, (.object "java/lang/Object"), .int, .int], returnType := none }, accessFlags := 265, code := none }
/-- java/lang/System -/
def k15 : Class := { plain "java/lang/System" (some 0) with
  accessFlags := 49
  interfaces := #[]
  cf := some (fileOf pool15 8 #[.nestMembers #[319, 327, 801, 108, 663, 208]] #[{ accessFlags := 2, nameIndex := 5, descriptorIndex := 6, attributes := #[] }, { accessFlags := 265, nameIndex := 727, descriptorIndex := 728, attributes := #[] }] 49 2 #[] #[{ accessFlags := 25, nameIndex := 507, descriptorIndex := 526, attributes := #[] }, { accessFlags := 25, nameIndex := 399, descriptorIndex := 155, attributes := #[] }, { accessFlags := 25, nameIndex := 396, descriptorIndex := 155, attributes := #[] }, { accessFlags := 10, nameIndex := 525, descriptorIndex := 526, attributes := #[] }, { accessFlags := 26, nameIndex := 674, descriptorIndex := 12, attributes := #[] }, { accessFlags := 26, nameIndex := 677, descriptorIndex := 12, attributes := #[] }, { accessFlags := 10, nameIndex := 11, descriptorIndex := 12, attributes := #[] }, { accessFlags := 74, nameIndex := 175, descriptorIndex := 176, attributes := #[] }, { accessFlags := 10, nameIndex := 491, descriptorIndex := 222, attributes := #[] }, { accessFlags := 74, nameIndex := 29, descriptorIndex := 30, attributes := #[] }, { accessFlags := 74, nameIndex := 154, descriptorIndex := 155, attributes := #[] }, { accessFlags := 10, nameIndex := 217, descriptorIndex := 218, attributes := #[] }, { accessFlags := 10, nameIndex := 221, descriptorIndex := 222, attributes := #[] }, { accessFlags := 8, nameIndex := 562, descriptorIndex := 563, attributes := #[] }])
  fields := #[{ name := "in", type := (.object "java/io/InputStream"), accessFlags := 25, slot := 0, constantValue := 0 }, { name := "out", type := (.object "java/io/PrintStream"), accessFlags := 25, slot := 1, constantValue := 0 }, { name := "err", type := (.object "java/io/PrintStream"), accessFlags := 25, slot := 2, constantValue := 0 }, { name := "initialIn", type := (.object "java/io/InputStream"), accessFlags := 10, slot := 3, constantValue := 0 }, { name := "NEVER", type := .int, accessFlags := 26, slot := 4, constantValue := 0 }, { name := "MAYBE", type := .int, accessFlags := 26, slot := 5, constantValue := 0 }, { name := "allowSecurityManager", type := .int, accessFlags := 10, slot := 6, constantValue := 0 }, { name := "security", type := (.object "java/lang/SecurityManager"), accessFlags := 74, slot := 7, constantValue := 0 }, { name := "notSupportedJnuEncoding", type := (.object "java/lang/String"), accessFlags := 10, slot := 8, constantValue := 0 }, { name := "cons", type := (.object "java/io/Console"), accessFlags := 74, slot := 9, constantValue := 0 }, { name := "initialErrStream", type := (.object "java/io/PrintStream"), accessFlags := 74, slot := 10, constantValue := 0 }, { name := "props", type := (.object "java/util/Properties"), accessFlags := 10, slot := 11, constantValue := 0 }, { name := "lineSeparator", type := (.object "java/lang/String"), accessFlags := 10, slot := 12, constantValue := 0 }, { name := "bootLayer", type := (.object "java/lang/ModuleLayer"), accessFlags := 8, slot := 13, constantValue := 0 }]
  methods := #[k15m0, k15m1]
  instanceTypes := #[]
  staticTypes := #[(.object "java/io/InputStream"), (.object "java/io/PrintStream"), (.object "java/io/PrintStream"), (.object "java/io/InputStream"), .int, .int, .int, (.object "java/lang/SecurityManager"), (.object "java/lang/String"), (.object "java/io/Console"), (.object "java/io/PrintStream"), (.object "java/util/Properties"), (.object "java/lang/String"), (.object "java/lang/ModuleLayer")]
  resolved := Array.replicate 834 none
  statics := none }

def pool16 : Array CpInfo := pool [(2, .class_ 4), (1, u "java/lang/Object"), (0, u "<init>"), (0, u "()V"), (17, .class_ 26), (1, u "jdk/internal/util/Preconditions"), (20, u "checkFromToIndex"), (7, .class_ 56), (0, u "jdk/internal/util/Preconditions$4"), (57, .class_ 115), (0, u "jdk/internal/util/Preconditions$1"), (7, u "SIOOBE_FORMATTER"), (0, u "Ljava/util/function/BiFunction;"), (0, .class_ 126), (0, u "jdk/internal/util/Preconditions$2"), (3, u "AIOOBE_FORMATTER"), (0, .class_ 132), (0, u "jdk/internal/util/Preconditions$3"), (3, u "IOOBE_FORMATTER"), (46, u "(IIILjava/util/function/BiFunction;)I")] 10

def k16m0 : Method := { name := "<init>", desc := "()V", sig := { parameters := [], returnType := none }, accessFlags := 1, code := none }
def k16c1 : Code := { maxStack := 4, maxLocals := 4, code := jdk_41_method_12_code, exceptionTable := #[], attributes := #[] }
def k16m1 : Method := { name := "checkFromToIndex", desc := "(IIILjava/util/function/BiFunction;)I", sig := { parameters := [.int, .int, .int, (.object "java/util/function/BiFunction")], returnType := some .int }, accessFlags := 9, code := some k16c1 }
/-- jdk/internal/util/Preconditions -/
def k16 : Class := { plain "jdk/internal/util/Preconditions" (some 0) with
  accessFlags := 33
  interfaces := #[]
  cf := some (fileOf pool16 24 #[.nestMembers #[55, 131, 125, 114]] #[{ accessFlags := 1, nameIndex := 5, descriptorIndex := 6, attributes := #[] }, { accessFlags := 9, nameIndex := 47, descriptorIndex := 183, attributes := #[] }] 33 2 #[] #[{ accessFlags := 25, nameIndex := 123, descriptorIndex := 124, attributes := #[] }, { accessFlags := 25, nameIndex := 130, descriptorIndex := 124, attributes := #[] }, { accessFlags := 25, nameIndex := 136, descriptorIndex := 124, attributes := #[] }])
  fields := #[{ name := "SIOOBE_FORMATTER", type := (.object "java/util/function/BiFunction"), accessFlags := 25, slot := 0, constantValue := 0 }, { name := "AIOOBE_FORMATTER", type := (.object "java/util/function/BiFunction"), accessFlags := 25, slot := 1, constantValue := 0 }, { name := "IOOBE_FORMATTER", type := (.object "java/util/function/BiFunction"), accessFlags := 25, slot := 2, constantValue := 0 }]
  methods := #[k16m0, k16m1]
  instanceTypes := #[]
  staticTypes := #[(.object "java/util/function/BiFunction"), (.object "java/util/function/BiFunction"), (.object "java/util/function/BiFunction")]
  resolved := Array.replicate 194 none
  statics := some 1 }

def pool17 : Array CpInfo := pool [(2, .class_ 4), (1, u "java/lang/Object"), (0, u "<init>"), (0, u "()V"), (7, .class_ 16), (1, u "java/util/Arrays"), (57, .class_ 76), (1, u "java/util/Arrays$NaturalOrder"), (36, .class_ 115), (1, u "java/util/Arrays$LegacyMergeSort"), (1, u "Z"), (21, u "copyOfRange"), (10, .methodref 151 152), (0, .class_ 153), (0, .nameAndType 154 155), (0, u "java/lang/System"), (0, u "arraycopy"), (0, u "(Ljava/lang/Object;ILjava/lang/Object;II)V"), (148, .methodref 305 306), (0, .class_ 307), (0, .nameAndType 308 309), (0, u "java/lang/Math"), (0, u "min"), (0, u "(II)I"), (29, .methodref 14 340), (0, .nameAndType 341 342), (0, u "copyOfRangeByte"), (0, u "([BII)[B"), (0, .methodref 14 344), (0, .nameAndType 345 346), (0, u "checkLength"), (0, u "(II)V"), (28, .class_ 376), (0, u "java/util/Arrays$ArrayList"), (68, u "$assertionsDisabled"), (269, u "MIN_ARRAY_SORT_GRAN"), (0, u "I"), (2, u "INSERTIONSORT_THRESHOLD"), (255, .class_ 976), (0, u "java/util/Arrays$ArrayItr")] 52

def k17m0 : Method := { name := "<init>", desc := "()V", sig := { parameters := [], returnType := none }, accessFlags := 2, code := none }
def k17c1 : Code := { maxStack := 4, maxLocals := 2, code := jdk_65_method_131_code, exceptionTable := #[], attributes := #[] }
def k17m1 : Method := { name := "checkLength", desc := "(II)V", sig := { parameters := [.int, .int], returnType := none }, accessFlags := 10, code := some k17c1 }
def k17c2 : Code := { maxStack := 3, maxLocals := 3, code := jdk_65_method_132_code, exceptionTable := #[], attributes := #[] }
def k17m2 : Method := { name := "copyOfRange", desc := "([BII)[B", sig := { parameters := [(.array .byte), .int, .int], returnType := some (.array .byte) }, accessFlags := 9, code := some k17c2 }
def k17c3 : Code := { maxStack := 6, maxLocals := 5, code := jdk_65_method_133_code, exceptionTable := #[], attributes := #[] }
def k17m3 : Method := { name := "copyOfRangeByte", desc := "([BII)[B", sig := { parameters := [(.array .byte), .int, .int], returnType := some (.array .byte) }, accessFlags := 10, code := some k17c3 }
/-- java/util/Arrays -/
def k17 : Class := { plain "java/util/Arrays" (some 0) with
  accessFlags := 49
  interfaces := #[]
  cf := some (fileOf pool17 14 #[.nestMembers #[975, 375, 113, 74]] #[{ accessFlags := 2, nameIndex := 5, descriptorIndex := 6, attributes := #[] }, { accessFlags := 10, nameIndex := 345, descriptorIndex := 346, attributes := #[] }, { accessFlags := 9, nameIndex := 139, descriptorIndex := 342, attributes := #[] }, { accessFlags := 10, nameIndex := 341, descriptorIndex := 342, attributes := #[] }] 49 2 #[] #[{ accessFlags := 26, nameIndex := 715, descriptorIndex := 716, attributes := #[] }, { accessFlags := 26, nameIndex := 719, descriptorIndex := 716, attributes := #[] }, { accessFlags := 4120, nameIndex := 445, descriptorIndex := 117, attributes := #[] }])
  fields := #[{ name := "MIN_ARRAY_SORT_GRAN", type := .int, accessFlags := 26, slot := 0, constantValue := 0 }, { name := "INSERTIONSORT_THRESHOLD", type := .int, accessFlags := 26, slot := 1, constantValue := 0 }, { name := "$assertionsDisabled", type := .boolean, accessFlags := 4120, slot := 2, constantValue := 0 }]
  methods := #[k17m0, k17m1, k17m2, k17m3]
  instanceTypes := #[]
  staticTypes := #[.int, .int, .boolean]
  resolved := Array.replicate 1029 none
  statics := none }

def pool18 : Array CpInfo := pool [(1, .class_ 2), (0, u "java/lang/Math"), (1, .class_ 6), (1, u "java/lang/Object"), (0, u "<init>"), (0, u "()V"), (89, .class_ 100), (1, u "java/lang/Math$RandomNumberGeneratorHolder"), (71, u "negativeZeroFloatBits"), (0, u "J"), (2, u "negativeZeroDoubleBits"), (24, u "min"), (43, u "$assertionsDisabled"), (0, u "Z"), (88, u "(II)I"), (2, u "twoToTheDoubleScaleDown"), (0, u "D"), (4, u "twoToTheDoubleScaleUp"), (9, u "E"), (3, u "PI"), (2, u "TAU"), (2, u "DEGREES_TO_RADIANS"), (0, u "RADIANS_TO_DEGREES")] 94

def k18m0 : Method := { name := "<init>", desc := "()V", sig := { parameters := [], returnType := none }, accessFlags := 2, code := none }
def k18c1 : Code := { maxStack := 2, maxLocals := 2, code := jdk_29_method_69_code, exceptionTable := #[], attributes := #[] }
def k18m1 : Method := { name := "min", desc := "(II)I", sig := { parameters := [.int, .int], returnType := some .int }, accessFlags := 9, code := some k18c1 }
/-- java/lang/Math -/
def k18 : Class := { plain "java/lang/Math" (some 0) with
  accessFlags := 49
  interfaces := #[]
  cf := some (fileOf pool18 1 #[.nestMembers #[98]] #[{ accessFlags := 2, nameIndex := 7, descriptorIndex := 8, attributes := #[] }, { accessFlags := 9, nameIndex := 201, descriptorIndex := 335, attributes := #[] }] 49 4 #[] #[{ accessFlags := 25, nameIndex := 354, descriptorIndex := 339, attributes := #[] }, { accessFlags := 25, nameIndex := 358, descriptorIndex := 339, attributes := #[] }, { accessFlags := 25, nameIndex := 361, descriptorIndex := 339, attributes := #[] }, { accessFlags := 26, nameIndex := 364, descriptorIndex := 339, attributes := #[] }, { accessFlags := 26, nameIndex := 365, descriptorIndex := 339, attributes := #[] }, { accessFlags := 26, nameIndex := 172, descriptorIndex := 173, attributes := #[] }, { accessFlags := 26, nameIndex := 176, descriptorIndex := 173, attributes := #[] }, { accessFlags := 8, nameIndex := 344, descriptorIndex := 339, attributes := #[] }, { accessFlags := 8, nameIndex := 338, descriptorIndex := 339, attributes := #[] }, { accessFlags := 4120, nameIndex := 245, descriptorIndex := 246, attributes := #[] }])
  fields := #[{ name := "E", type := .double, accessFlags := 25, slot := 0, constantValue := 0 }, { name := "PI", type := .double, accessFlags := 25, slot := 1, constantValue := 0 }, { name := "TAU", type := .double, accessFlags := 25, slot := 2, constantValue := 0 }, { name := "DEGREES_TO_RADIANS", type := .double, accessFlags := 26, slot := 3, constantValue := 0 }, { name := "RADIANS_TO_DEGREES", type := .double, accessFlags := 26, slot := 4, constantValue := 0 }, { name := "negativeZeroFloatBits", type := .long, accessFlags := 26, slot := 5, constantValue := 0 }, { name := "negativeZeroDoubleBits", type := .long, accessFlags := 26, slot := 6, constantValue := 0 }, { name := "twoToTheDoubleScaleUp", type := .double, accessFlags := 8, slot := 7, constantValue := 0 }, { name := "twoToTheDoubleScaleDown", type := .double, accessFlags := 8, slot := 8, constantValue := 0 }, { name := "$assertionsDisabled", type := .boolean, accessFlags := 4120, slot := 9, constantValue := 0 }]
  methods := #[k18m0, k18m1]
  instanceTypes := #[]
  staticTypes := #[.double, .double, .double, .double, .double, .long, .long, .double, .double, .boolean]
  resolved := Array.replicate 460 none
  statics := none }

def pool19 : Array CpInfo := pool [(9, u "<init>"), (6, .class_ 18), (1, u "java/lang/Object"), (0, u "()V"), (1, .class_ 23), (1, u "jdk/internal/util/ArraysSupport"), (0, u "LOG2_ARRAY_LONG_INDEX_SCALE"), (0, u "I"), (2, u "U"), (0, u "Ljdk/internal/misc/Unsafe;"), (8, u "BIG_ENDIAN"), (0, u "Z"), (8, u "LOG2_BYTE_BIT_SIZE"), (4, u "LOG2_ARRAY_INT_INDEX_SCALE"), (54, u "JLA"), (0, u "Ljdk/internal/access/JavaLangAccess;"), (11, u "LOG2_ARRAY_BOOLEAN_INDEX_SCALE"), (9, u "LOG2_ARRAY_BYTE_INDEX_SCALE"), (5, u "LOG2_ARRAY_CHAR_INDEX_SCALE"), (5, u "LOG2_ARRAY_SHORT_INDEX_SCALE"), (18, u "LOG2_ARRAY_FLOAT_INDEX_SCALE"), (24, u "LOG2_ARRAY_DOUBLE_INDEX_SCALE"), (89, u "T_BOOLEAN"), (2, u "T_CHAR"), (1, u "T_FLOAT"), (1, u "T_DOUBLE"), (1, u "T_BYTE"), (1, u "T_SHORT"), (1, u "T_INT"), (1, u "T_LONG"), (1, u "SOFT_MAX_ARRAY_LENGTH")] 83

def k19m0 : Method := { name := "<init>", desc := "()V", sig := { parameters := [], returnType := none }, accessFlags := 2, code := none }
/-- jdk/internal/util/ArraysSupport -/
def k19 : Class := { plain "jdk/internal/util/ArraysSupport" (some 0) with
  accessFlags := 33
  interfaces := #[]
  cf := some (fileOf pool19 21 #[] #[{ accessFlags := 2, nameIndex := 9, descriptorIndex := 19, attributes := #[] }] 33 16 #[] #[{ accessFlags := 24, nameIndex := 28, descriptorIndex := 29, attributes := #[] }, { accessFlags := 26, nameIndex := 38, descriptorIndex := 39, attributes := #[] }, { accessFlags := 25, nameIndex := 121, descriptorIndex := 25, attributes := #[] }, { accessFlags := 25, nameIndex := 131, descriptorIndex := 25, attributes := #[] }, { accessFlags := 25, nameIndex := 137, descriptorIndex := 25, attributes := #[] }, { accessFlags := 25, nameIndex := 143, descriptorIndex := 25, attributes := #[] }, { accessFlags := 25, nameIndex := 53, descriptorIndex := 25, attributes := #[] }, { accessFlags := 25, nameIndex := 24, descriptorIndex := 25, attributes := #[] }, { accessFlags := 25, nameIndex := 162, descriptorIndex := 25, attributes := #[] }, { accessFlags := 25, nameIndex := 187, descriptorIndex := 25, attributes := #[] }, { accessFlags := 26, nameIndex := 48, descriptorIndex := 25, attributes := #[] }, { accessFlags := 25, nameIndex := 277, descriptorIndex := 25, attributes := #[] }, { accessFlags := 25, nameIndex := 280, descriptorIndex := 25, attributes := #[] }, { accessFlags := 25, nameIndex := 282, descriptorIndex := 25, attributes := #[] }, { accessFlags := 25, nameIndex := 284, descriptorIndex := 25, attributes := #[] }, { accessFlags := 25, nameIndex := 286, descriptorIndex := 25, attributes := #[] }, { accessFlags := 25, nameIndex := 288, descriptorIndex := 25, attributes := #[] }, { accessFlags := 25, nameIndex := 290, descriptorIndex := 25, attributes := #[] }, { accessFlags := 25, nameIndex := 292, descriptorIndex := 25, attributes := #[] }, { accessFlags := 26, nameIndex := 108, descriptorIndex := 109, attributes := #[] }, { accessFlags := 25, nameIndex := 294, descriptorIndex := 25, attributes := #[] }])
  fields := #[{ name := "U", type := (.object "jdk/internal/misc/Unsafe"), accessFlags := 24, slot := 0, constantValue := 0 }, { name := "BIG_ENDIAN", type := .boolean, accessFlags := 26, slot := 1, constantValue := 0 }, { name := "LOG2_ARRAY_BOOLEAN_INDEX_SCALE", type := .int, accessFlags := 25, slot := 2, constantValue := 0 }, { name := "LOG2_ARRAY_BYTE_INDEX_SCALE", type := .int, accessFlags := 25, slot := 3, constantValue := 0 }, { name := "LOG2_ARRAY_CHAR_INDEX_SCALE", type := .int, accessFlags := 25, slot := 4, constantValue := 0 }, { name := "LOG2_ARRAY_SHORT_INDEX_SCALE", type := .int, accessFlags := 25, slot := 5, constantValue := 0 }, { name := "LOG2_ARRAY_INT_INDEX_SCALE", type := .int, accessFlags := 25, slot := 6, constantValue := 0 }, { name := "LOG2_ARRAY_LONG_INDEX_SCALE", type := .int, accessFlags := 25, slot := 7, constantValue := 0 }, { name := "LOG2_ARRAY_FLOAT_INDEX_SCALE", type := .int, accessFlags := 25, slot := 8, constantValue := 0 }, { name := "LOG2_ARRAY_DOUBLE_INDEX_SCALE", type := .int, accessFlags := 25, slot := 9, constantValue := 0 }, { name := "LOG2_BYTE_BIT_SIZE", type := .int, accessFlags := 26, slot := 10, constantValue := 0 }, { name := "T_BOOLEAN", type := .int, accessFlags := 25, slot := 11, constantValue := 0 }, { name := "T_CHAR", type := .int, accessFlags := 25, slot := 12, constantValue := 0 }, { name := "T_FLOAT", type := .int, accessFlags := 25, slot := 13, constantValue := 0 }, { name := "T_DOUBLE", type := .int, accessFlags := 25, slot := 14, constantValue := 0 }, { name := "T_BYTE", type := .int, accessFlags := 25, slot := 15, constantValue := 0 }, { name := "T_SHORT", type := .int, accessFlags := 25, slot := 16, constantValue := 0 }, { name := "T_INT", type := .int, accessFlags := 25, slot := 17, constantValue := 0 }, { name := "T_LONG", type := .int, accessFlags := 25, slot := 18, constantValue := 0 }, { name := "JLA", type := (.object "jdk/internal/access/JavaLangAccess"), accessFlags := 26, slot := 19, constantValue := 0 }, { name := "SOFT_MAX_ARRAY_LENGTH", type := .int, accessFlags := 25, slot := 20, constantValue := 0 }]
  methods := #[k19m0]
  instanceTypes := #[]
  staticTypes := #[(.object "jdk/internal/misc/Unsafe"), .boolean, .int, .int, .int, .int, .int, .int, .int, .int, .int, .int, .int, .int, .int, .int, .int, .int, .int, (.object "jdk/internal/access/JavaLangAccess"), .int]
  resolved := Array.replicate 378 none
  statics := none }

def pool20 : Array CpInfo := pool [(1, u "java/lang/Cloneable"), (0, .class_ 1), (0, u "java/lang/Object"), (0, .class_ 3)] 3

/-- java/lang/Cloneable -/
def k20 : Class := { plain "java/lang/Cloneable" (some 0) with
  accessFlags := 1537
  interfaces := #[]
  cf := some (fileOf pool20 2 #[] #[] 1537 4 #[] #[])
  fields := #[]
  methods := #[]
  instanceTypes := #[]
  staticTypes := #[]
  resolved := Array.replicate 8 none
  statics := none }

/-- the primitive byte -/
def k21 : Class := { plain "byte" none with kind := .primitive 'B', accessFlags := 0x411 }
/-- [B -/
def k22 : Class := { plain "[B" (some 0) with kind := .array 21 .byte, interfaces := #[20, 2], accessFlags := 1041 }

/-- the primitive char -/
def k23 : Class := { plain "char" none with kind := .primitive 'C', accessFlags := 0x411 }
/-- [C -/
def k24 : Class := { plain "[C" (some 0) with kind := .array 23 .char, interfaces := #[20, 2], accessFlags := 1041 }

/-- the primitive int -/
def k25 : Class := { plain "int" none with kind := .primitive 'I', accessFlags := 0x411 }
/-- [I -/
def k26 : Class := { plain "[I" (some 0) with kind := .array 25 .int, interfaces := #[20, 2], accessFlags := 1041 }

def heap : Heap := #[{ cls := 7, slots := #[.long 0, .int 1, .null, .int 0, .null, .int 0, .int 0], vm := .statics 7 },
  { cls := 16, slots := #[.null, .null, .null], vm := .statics 16 }]
def classes : Array Class := #[k0, k1, k2, k3, k4, k5, k6, k7, k8, k9, k10, k11, k12, k13, k14, k15, k16, k17, k18, k19, k20, k21, k22, k23, k24, k25, k26]
def interned : List (Array UInt16 × Addr) := []
def slotsUsed : Nat := 10
def theMethod : MethodId := ⟨1, 3⟩
def args0 : Array Value := #[.int 9, .long 5, .long 6, .int 7]
def aboutOver (below : List Frame) : State where
  vm := { classes := classes, interned := interned.toArray }
  heap := heap
  slotsUsed := slotsUsed
  threads := #[{ frames := .invoking theMethod args0 :: below }]
def below0 : List Frame := [.native { method := ⟨0, 0⟩, args := #[] }]
def about1 : State := aboutOver below0
def p0 : Program := .bare "" "" ""
def e0 : Env := launch0.env 0 0 0
theorem w_frames : about1.frames = Frame.invoking theMethod args0 :: below0 := rfl
set_option maxRecDepth 65536 in
theorem w_args : argsFit about1.vm theMethod args0 = true := by decide +kernel
set_option maxRecDepth 65536 in
theorem w_heap : heapFits about1 = true := by decide +kernel
set_option maxRecDepth 65536 in
theorem w_runnable : about1.curStatus? = some .runnable := by decide +kernel
set_option maxRecDepth 65536 in
theorem w_alone : about1.alone = true := by decide +kernel
set_option maxRecDepth 65536 in
theorem w_named : about1.methodNamed? x = some theMethod := by decide +kernel
set_option maxRecDepth 65536 in
theorem w_hears : about1.hears theMethod below0 = true := by decide +kernel
set_option maxRecDepth 65536 in
theorem w_ripe : about1.ripe theMethod args0 below0 = true := by decide +kernel
theorem w_running : about1.status = .running := rfl
set_option maxRecDepth 65536 in
theorem w_room : about1.hasRoom e0.platform room_1 = true :=
  launch0.hasRoom_least _ room_1 (by decide +kernel) (by decide +kernel) (by decide +kernel) (by decide +kernel) (by decide +kernel) (by decide +kernel)
theorem allAtoms_all (ts : List Jvm.Cond) (a : Array Jvm.Value) (st : Jvm.State) : (allAtoms ts).before a st = ts.all (fun c => c.before a st) := by
  induction ts with
  | nil => rfl
  | cons c t ih =>
    show (Jvm.Cond.and c (allAtoms t)).before a st = _
    rw [Jvm.Cond.before_and, ih, List.all_cons]
def words1 : List Jvm.Cond := Jvm.Cond.code x code maxLocals ret :: tables_1
/-- a 'code' word, met by the world's own term for the bytes: nothing is compared byte by byte -/
theorem code_word {y : MethodName} {bytes : ByteArray} {mx : Nat} {rt : Option FieldType} {a : Array Value} {s : State} {m : MethodId} {meth : Method} {c : Code} (h1 : s.methodNamed? y = some m) (h2 : s.vm.method? m = some meth) (h3 : meth.code = some c) (h4 : c.code = bytes)
    (h5 : (c.maxLocals == mx && c.exceptionTable.isEmpty && decide (c.maxStack ≤ mostOperands) && decide (meth.sig.returnType = rt) && !meth.locks && decide (parseMethodDescriptor y.desc = some meth.sig)) = true) : (Jvm.Cond.code y bytes mx rt).before a s = true := by
  simp only [Bool.and_eq_true, beq_iff_eq, Bool.not_eq_true', decide_eq_true_eq] at h5
  obtain ⟨⟨⟨⟨⟨g1, g2⟩, g3⟩, g4⟩, g5⟩, g6⟩ := h5
  simp [Cond.before, Cond.holds, Cond.value, h1, h2, h3, h4, g1, g2, g3, g4, g5, g6]
def isCode : Jvm.Cond → Bool
  | .code _ _ _ _ => true
  | _ => false
theorem all_split {L : List Jvm.Cond} {P : Jvm.Cond → Bool} (h1 : L.all (fun c => isCode c || P c) = true) (h2 : ∀ c ∈ L.filter isCode, P c = true) : L.all P = true := by
  refine List.all_eq_true.mpr fun c hc => ?_
  have h := List.all_eq_true.mp h1 c hc
  rcases Bool.eq_false_or_eq_true (isCode c) with hi | hi
  · exact h2 c (List.mem_filter.mpr ⟨hc, hi⟩)
  · simpa [hi] using h
set_option maxRecDepth 65536 in
theorem w_c0 : (Jvm.Cond.code x code maxLocals ret).before args0 about1 = true := code_word (m := ⟨1, 3⟩) (meth := k1m3) (c := k1c3) (by decide +kernel) rfl rfl rfl (by decide +kernel)
set_option maxRecDepth 65536 in
theorem w_c1 : (Jvm.Cond.code ({ cls := "com/example/undercroft/undercroft/store/UriSpacePathOfPinLaw", name := "put", desc := "([CIIJ)V" } : Jvm.MethodName) method_3_code (5 : Nat) (Option.none : Option Jvm.ClassFile.FieldType)).before args0 about1 = true := code_word (m := ⟨1, 2⟩) (meth := k1m2) (c := k1c2) (by decide +kernel) rfl rfl rfl (by decide +kernel)
set_option maxRecDepth 65536 in
theorem w_c2 : (Jvm.Cond.code ({ cls := "java/lang/String", name := "<init>", desc := "([C)V" } : Jvm.MethodName) jdk_42_method_3_code (2 : Nat) (Option.none : Option Jvm.ClassFile.FieldType)).before args0 about1 = true := code_word (m := ⟨7, 1⟩) (meth := k7m1) (c := k7c1) (by decide +kernel) rfl rfl rfl (by decide +kernel)
set_option maxRecDepth 65536 in
theorem w_c3 : (Jvm.Cond.code ({ cls := "java/lang/String", name := "<init>", desc := "([CIILjava/lang/Void;)V" } : Jvm.MethodName) jdk_42_method_149_code (6 : Nat) (Option.none : Option Jvm.ClassFile.FieldType)).before args0 about1 = true := code_word (m := ⟨7, 9⟩) (meth := k7m9) (c := k7c9) (by decide +kernel) rfl rfl rfl (by decide +kernel)
set_option maxRecDepth 65536 in
theorem w_c4 : (Jvm.Cond.code ({ cls := "java/lang/Object", name := "<init>", desc := "()V" } : Jvm.MethodName) object_method_1_code (1 : Nat) (Option.none : Option Jvm.ClassFile.FieldType)).before args0 about1 = true := code_word (m := ⟨0, 0⟩) (meth := k0m0) (c := k0c0) (by decide +kernel) rfl rfl rfl (by decide +kernel)
set_option maxRecDepth 65536 in
theorem w_c5 : (Jvm.Cond.code ({ cls := "java/lang/StringUTF16", name := "compress", desc := "([CII)[B" } : Jvm.MethodName) jdk_52_method_16_code (6 : Nat) (Option.some (Jvm.ClassFile.FieldType.array Jvm.ClassFile.FieldType.byte))).before args0 about1 = true := code_word (m := ⟨8, 2⟩) (meth := k8m2) (c := k8c2) (by decide +kernel) rfl rfl rfl (by decide +kernel)
set_option maxRecDepth 65536 in
theorem w_c6 : (Jvm.Cond.code ({ cls := "java/lang/StringUTF16", name := "compress", desc := "([CI[BII)I" } : Jvm.MethodName) jdk_52_method_21_code (7 : Nat) (Option.some Jvm.ClassFile.FieldType.int)).before args0 about1 = true := code_word (m := ⟨8, 3⟩) (meth := k8m3) (c := k8c3) (by decide +kernel) rfl rfl rfl (by decide +kernel)
set_option maxRecDepth 65536 in
theorem w_c7 : (Jvm.Cond.code ({ cls := "java/lang/StringUTF16", name := "coderFromArrayLen", desc := "([BI)B" } : Jvm.MethodName) jdk_52_method_15_code (2 : Nat) (Option.some Jvm.ClassFile.FieldType.byte)).before args0 about1 = true := code_word (m := ⟨8, 1⟩) (meth := k8m1) (c := k8c1) (by decide +kernel) rfl rfl rfl (by decide +kernel)
set_option maxRecDepth 65536 in
theorem w_c8 : (Jvm.Cond.code ({ cls := "java/lang/String", name := "valueOf", desc := "(C)Ljava/lang/String;" } : Jvm.MethodName) jdk_42_method_139_code (1 : Nat) (Option.some (Jvm.ClassFile.FieldType.object "java/lang/String"))).before args0 about1 = true := code_word (m := ⟨7, 7⟩) (meth := k7m7) (c := k7c7) (by decide +kernel) rfl rfl rfl (by decide +kernel)
set_option maxRecDepth 65536 in
theorem w_c9 : (Jvm.Cond.code ({ cls := "java/lang/StringLatin1", name := "canEncode", desc := "(C)Z" } : Jvm.MethodName) jdk_43_method_3_code (1 : Nat) (Option.some Jvm.ClassFile.FieldType.boolean)).before args0 about1 = true := code_word (m := ⟨11, 1⟩) (meth := k11m1) (c := k11c1) (by decide +kernel) rfl rfl rfl (by decide +kernel)
set_option maxRecDepth 65536 in
theorem w_c10 : (Jvm.Cond.code ({ cls := "java/lang/StringLatin1", name := "toBytes", desc := "(C)[B" } : Jvm.MethodName) jdk_43_method_46_code (1 : Nat) (Option.some (Jvm.ClassFile.FieldType.array Jvm.ClassFile.FieldType.byte))).before args0 about1 = true := code_word (m := ⟨11, 3⟩) (meth := k11m3) (c := k11c3) (by decide +kernel) rfl rfl rfl (by decide +kernel)
set_option maxRecDepth 65536 in
theorem w_c11 : (Jvm.Cond.code ({ cls := "java/lang/String", name := "<init>", desc := "([BB)V" } : Jvm.MethodName) jdk_42_method_151_code (3 : Nat) (Option.none : Option Jvm.ClassFile.FieldType)).before args0 about1 = true := code_word (m := ⟨7, 11⟩) (meth := k7m11) (c := k7c11) (by decide +kernel) rfl rfl rfl (by decide +kernel)
set_option maxRecDepth 65536 in
theorem w_c12 : (Jvm.Cond.code ({ cls := "com/example/undercroft/undercroft/store/UriSpace", name := "<init>", desc := "(Ljava/lang/String;Ljava/lang/String;)V" } : Jvm.MethodName) prog_21_method_1_code (3 : Nat) (Option.none : Option Jvm.ClassFile.FieldType)).before args0 about1 = true := code_word (m := ⟨10, 0⟩) (meth := k10m0) (c := k10c0) (by decide +kernel) rfl rfl rfl (by decide +kernel)
set_option maxRecDepth 65536 in
theorem w_c13 : (Jvm.Cond.code ({ cls := "java/lang/Record", name := "<init>", desc := "()V" } : Jvm.MethodName) jdk_30_method_1_code (1 : Nat) (Option.none : Option Jvm.ClassFile.FieldType)).before args0 about1 = true := code_word (m := ⟨9, 0⟩) (meth := k9m0) (c := k9c0) (by decide +kernel) rfl rfl rfl (by decide +kernel)
set_option maxRecDepth 65536 in
theorem w_c14 : (Jvm.Cond.code ({ cls := "com/example/undercroft/undercroft/store/UriSpace", name := "pathOf", desc := "(Ljava/lang/String;)Ljava/lang/String;" } : Jvm.MethodName) prog_21_method_9_code (2 : Nat) (Option.some (Jvm.ClassFile.FieldType.object "java/lang/String"))).before args0 about1 = true := code_word (m := ⟨10, 2⟩) (meth := k10m2) (c := k10c2) (by decide +kernel) rfl rfl rfl (by decide +kernel)
set_option maxRecDepth 65536 in
theorem w_c15 : (Jvm.Cond.code ({ cls := "java/lang/StringBuilder", name := "<init>", desc := "()V" } : Jvm.MethodName) jdk_67_method_1_code (1 : Nat) (Option.none : Option Jvm.ClassFile.FieldType)).before args0 about1 = true := code_word (m := ⟨14, 0⟩) (meth := k14m0) (c := k14c0) (by decide +kernel) rfl rfl rfl (by decide +kernel)
set_option maxRecDepth 65536 in
theorem w_c16 : (Jvm.Cond.code ({ cls := "java/lang/AbstractStringBuilder", name := "<init>", desc := "(I)V" } : Jvm.MethodName) jdk_68_method_2_code (2 : Nat) (Option.none : Option Jvm.ClassFile.FieldType)).before args0 about1 = true := code_word (m := ⟨13, 1⟩) (meth := k13m1) (c := k13c1) (by decide +kernel) rfl rfl rfl (by decide +kernel)
set_option maxRecDepth 65536 in
theorem w_c17 : (Jvm.Cond.code ({ cls := "java/lang/StringBuilder", name := "append", desc := "(Ljava/lang/String;)Ljava/lang/StringBuilder;" } : Jvm.MethodName) jdk_67_method_7_code (2 : Nat) (Option.some (Jvm.ClassFile.FieldType.object "java/lang/StringBuilder"))).before args0 about1 = true := code_word (m := ⟨14, 1⟩) (meth := k14m1) (c := k14c1) (by decide +kernel) rfl rfl rfl (by decide +kernel)
set_option maxRecDepth 65536 in
theorem w_c18 : (Jvm.Cond.code ({ cls := "java/lang/AbstractStringBuilder", name := "append", desc := "(Ljava/lang/String;)Ljava/lang/AbstractStringBuilder;" } : Jvm.MethodName) jdk_68_method_22_code (3 : Nat) (Option.some (Jvm.ClassFile.FieldType.object "java/lang/AbstractStringBuilder"))).before args0 about1 = true := code_word (m := ⟨13, 4⟩) (meth := k13m4) (c := k13c4) (by decide +kernel) rfl rfl rfl (by decide +kernel)
set_option maxRecDepth 65536 in
theorem w_c19 : (Jvm.Cond.code ({ cls := "java/lang/String", name := "length", desc := "()I" } : Jvm.MethodName) jdk_42_method_54_code (1 : Nat) (Option.some Jvm.ClassFile.FieldType.int)).before args0 about1 = true := code_word (m := ⟨7, 3⟩) (meth := k7m3) (c := k7c3) (by decide +kernel) rfl rfl rfl (by decide +kernel)
set_option maxRecDepth 65536 in
theorem w_c20 : (Jvm.Cond.code ({ cls := "java/lang/String", name := "coder", desc := "()B" } : Jvm.MethodName) jdk_42_method_152_code (1 : Nat) (Option.some Jvm.ClassFile.FieldType.byte)).before args0 about1 = true := code_word (m := ⟨7, 12⟩) (meth := k7m12) (c := k7c12) (by decide +kernel) rfl rfl rfl (by decide +kernel)
set_option maxRecDepth 65536 in
theorem w_c21 : (Jvm.Cond.code ({ cls := "java/lang/AbstractStringBuilder", name := "ensureCapacityInternal", desc := "(I)V" } : Jvm.MethodName) jdk_68_method_9_code (3 : Nat) (Option.none : Option Jvm.ClassFile.FieldType)).before args0 about1 = true := code_word (m := ⟨13, 3⟩) (meth := k13m3) (c := k13c3) (by decide +kernel) rfl rfl rfl (by decide +kernel)
set_option maxRecDepth 65536 in
theorem w_c22 : (Jvm.Cond.code ({ cls := "java/lang/AbstractStringBuilder", name := "putStringAt", desc := "(ILjava/lang/String;)V" } : Jvm.MethodName) jdk_68_method_73_code (3 : Nat) (Option.none : Option Jvm.ClassFile.FieldType)).before args0 about1 = true := code_word (m := ⟨13, 8⟩) (meth := k13m8) (c := k13c8) (by decide +kernel) rfl rfl rfl (by decide +kernel)
set_option maxRecDepth 65536 in
theorem w_c23 : (Jvm.Cond.code ({ cls := "java/lang/AbstractStringBuilder", name := "inflateIfNeededFor", desc := "(Ljava/lang/String;)V" } : Jvm.MethodName) jdk_68_method_71_code (2 : Nat) (Option.none : Option Jvm.ClassFile.FieldType)).before args0 about1 = true := code_word (m := ⟨13, 7⟩) (meth := k13m7) (c := k13c7) (by decide +kernel) rfl rfl rfl (by decide +kernel)
set_option maxRecDepth 65536 in
theorem w_c24 : (Jvm.Cond.code ({ cls := "java/lang/String", name := "getBytes", desc := "([BIB)V" } : Jvm.MethodName) jdk_42_method_147_code (4 : Nat) (Option.none : Option Jvm.ClassFile.FieldType)).before args0 about1 = true := code_word (m := ⟨7, 8⟩) (meth := k7m8) (c := k7c8) (by decide +kernel) rfl rfl rfl (by decide +kernel)
set_option maxRecDepth 65536 in
theorem w_c25 : (Jvm.Cond.code ({ cls := "java/lang/String", name := "substring", desc := "(I)Ljava/lang/String;" } : Jvm.MethodName) jdk_42_method_91_code (2 : Nat) (Option.some (Jvm.ClassFile.FieldType.object "java/lang/String"))).before args0 about1 = true := code_word (m := ⟨7, 5⟩) (meth := k7m5) (c := k7c5) (by decide +kernel) rfl rfl rfl (by decide +kernel)
set_option maxRecDepth 65536 in
theorem w_c26 : (Jvm.Cond.code ({ cls := "java/lang/String", name := "substring", desc := "(II)Ljava/lang/String;" } : Jvm.MethodName) jdk_42_method_92_code (5 : Nat) (Option.some (Jvm.ClassFile.FieldType.object "java/lang/String"))).before args0 about1 = true := code_word (m := ⟨7, 6⟩) (meth := k7m6) (c := k7c6) (by decide +kernel) rfl rfl rfl (by decide +kernel)
set_option maxRecDepth 65536 in
theorem w_c27 : (Jvm.Cond.code ({ cls := "java/lang/String", name := "checkBoundsBeginEnd", desc := "(III)V" } : Jvm.MethodName) jdk_42_method_158_code (3 : Nat) (Option.none : Option Jvm.ClassFile.FieldType)).before args0 about1 = true := code_word (m := ⟨7, 14⟩) (meth := k7m14) (c := k7c14) (by decide +kernel) rfl rfl rfl (by decide +kernel)
set_option maxRecDepth 65536 in
theorem w_c28 : (Jvm.Cond.code ({ cls := "jdk/internal/util/Preconditions", name := "checkFromToIndex", desc := "(IIILjava/util/function/BiFunction;)I" } : Jvm.MethodName) jdk_41_method_12_code (4 : Nat) (Option.some Jvm.ClassFile.FieldType.int)).before args0 about1 = true := code_word (m := ⟨16, 1⟩) (meth := k16m1) (c := k16c1) (by decide +kernel) rfl rfl rfl (by decide +kernel)
set_option maxRecDepth 65536 in
theorem w_c29 : (Jvm.Cond.code ({ cls := "java/lang/StringBuilder", name := "toString", desc := "()Ljava/lang/String;" } : Jvm.MethodName) jdk_67_method_42_code (1 : Nat) (Option.some (Jvm.ClassFile.FieldType.object "java/lang/String"))).before args0 about1 = true := code_word (m := ⟨14, 2⟩) (meth := k14m2) (c := k14c2) (by decide +kernel) rfl rfl rfl (by decide +kernel)
set_option maxRecDepth 65536 in
theorem w_c30 : (Jvm.Cond.code ({ cls := "java/lang/String", name := "<init>", desc := "(Ljava/lang/StringBuilder;)V" } : Jvm.MethodName) jdk_42_method_53_code (2 : Nat) (Option.none : Option Jvm.ClassFile.FieldType)).before args0 about1 = true := code_word (m := ⟨7, 2⟩) (meth := k7m2) (c := k7c2) (by decide +kernel) rfl rfl rfl (by decide +kernel)
set_option maxRecDepth 65536 in
theorem w_c31 : (Jvm.Cond.code ({ cls := "java/lang/String", name := "<init>", desc := "(Ljava/lang/AbstractStringBuilder;Ljava/lang/Void;)V" } : Jvm.MethodName) jdk_42_method_150_code (5 : Nat) (Option.none : Option Jvm.ClassFile.FieldType)).before args0 about1 = true := code_word (m := ⟨7, 10⟩) (meth := k7m10) (c := k7c10) (by decide +kernel) rfl rfl rfl (by decide +kernel)
set_option maxRecDepth 65536 in
theorem w_c32 : (Jvm.Cond.code ({ cls := "java/lang/AbstractStringBuilder", name := "getValue", desc := "()[B" } : Jvm.MethodName) jdk_68_method_64_code (1 : Nat) (Option.some (Jvm.ClassFile.FieldType.array Jvm.ClassFile.FieldType.byte))).before args0 about1 = true := code_word (m := ⟨13, 5⟩) (meth := k13m5) (c := k13c5) (by decide +kernel) rfl rfl rfl (by decide +kernel)
set_option maxRecDepth 65536 in
theorem w_c33 : (Jvm.Cond.code ({ cls := "java/lang/StringBuilder", name := "length", desc := "()I" } : Jvm.MethodName) jdk_67_method_93_code (1 : Nat) (Option.some Jvm.ClassFile.FieldType.int)).before args0 about1 = true := code_word (m := ⟨14, 3⟩) (meth := k14m3) (c := k14c3) (by decide +kernel) rfl rfl rfl (by decide +kernel)
set_option maxRecDepth 65536 in
theorem w_c34 : (Jvm.Cond.code ({ cls := "java/lang/AbstractStringBuilder", name := "length", desc := "()I" } : Jvm.MethodName) jdk_68_method_6_code (1 : Nat) (Option.some Jvm.ClassFile.FieldType.int)).before args0 about1 = true := code_word (m := ⟨13, 2⟩) (meth := k13m2) (c := k13c2) (by decide +kernel) rfl rfl rfl (by decide +kernel)
set_option maxRecDepth 65536 in
theorem w_c35 : (Jvm.Cond.code ({ cls := "java/lang/AbstractStringBuilder", name := "isLatin1", desc := "()Z" } : Jvm.MethodName) jdk_68_method_68_code (1 : Nat) (Option.some Jvm.ClassFile.FieldType.boolean)).before args0 about1 = true := code_word (m := ⟨13, 6⟩) (meth := k13m6) (c := k13c6) (by decide +kernel) rfl rfl rfl (by decide +kernel)
set_option maxRecDepth 65536 in
theorem w_c36 : (Jvm.Cond.code ({ cls := "java/util/Arrays", name := "copyOfRange", desc := "([BII)[B" } : Jvm.MethodName) jdk_65_method_132_code (3 : Nat) (Option.some (Jvm.ClassFile.FieldType.array Jvm.ClassFile.FieldType.byte))).before args0 about1 = true := code_word (m := ⟨17, 2⟩) (meth := k17m2) (c := k17c2) (by decide +kernel) rfl rfl rfl (by decide +kernel)
set_option maxRecDepth 65536 in
theorem w_c37 : (Jvm.Cond.code ({ cls := "java/util/Arrays", name := "copyOfRangeByte", desc := "([BII)[B" } : Jvm.MethodName) jdk_65_method_133_code (5 : Nat) (Option.some (Jvm.ClassFile.FieldType.array Jvm.ClassFile.FieldType.byte))).before args0 about1 = true := code_word (m := ⟨17, 3⟩) (meth := k17m3) (c := k17c3) (by decide +kernel) rfl rfl rfl (by decide +kernel)
set_option maxRecDepth 65536 in
theorem w_c38 : (Jvm.Cond.code ({ cls := "java/util/Arrays", name := "checkLength", desc := "(II)V" } : Jvm.MethodName) jdk_65_method_131_code (2 : Nat) (Option.none : Option Jvm.ClassFile.FieldType)).before args0 about1 = true := code_word (m := ⟨17, 1⟩) (meth := k17m1) (c := k17c1) (by decide +kernel) rfl rfl rfl (by decide +kernel)
set_option maxRecDepth 65536 in
theorem w_c39 : (Jvm.Cond.code ({ cls := "java/lang/Math", name := "min", desc := "(II)I" } : Jvm.MethodName) jdk_29_method_69_code (2 : Nat) (Option.some Jvm.ClassFile.FieldType.int)).before args0 about1 = true := code_word (m := ⟨18, 1⟩) (meth := k18m1) (c := k18c1) (by decide +kernel) rfl rfl rfl (by decide +kernel)
set_option maxRecDepth 65536 in
theorem w_c40 : (Jvm.Cond.code ({ cls := "java/lang/String", name := "equals", desc := "(Ljava/lang/Object;)Z" } : Jvm.MethodName) jdk_42_method_66_code (3 : Nat) (Option.some Jvm.ClassFile.FieldType.boolean)).before args0 about1 = true := code_word (m := ⟨7, 4⟩) (meth := k7m4) (c := k7c4) (by decide +kernel) rfl rfl rfl (by decide +kernel)
set_option maxRecDepth 65536 in
theorem w_c41 : (Jvm.Cond.code ({ cls := "java/lang/StringLatin1", name := "equals", desc := "([B[B)Z" } : Jvm.MethodName) jdk_43_method_13_code (3 : Nat) (Option.some Jvm.ClassFile.FieldType.boolean)).before args0 about1 = true := code_word (m := ⟨11, 2⟩) (meth := k11m2) (c := k11c2) (by decide +kernel) rfl rfl rfl (by decide +kernel)
set_option maxRecDepth 65536 in
theorem w_c42 : (Jvm.Cond.code ({ cls := "com/example/undercroft/undercroft/store/UriSpace", name := "uriOfPath", desc := "(Ljava/lang/String;)Ljava/lang/String;" } : Jvm.MethodName) prog_21_method_8_code (2 : Nat) (Option.some (Jvm.ClassFile.FieldType.object "java/lang/String"))).before args0 about1 = true := code_word (m := ⟨10, 1⟩) (meth := k10m1) (c := k10c1) (by decide +kernel) rfl rfl rfl (by decide +kernel)
set_option maxRecDepth 65536 in
theorem w_c43 : (Jvm.Cond.code ({ cls := "java/lang/String", name := "isLatin1", desc := "()Z" } : Jvm.MethodName) jdk_42_method_154_code (1 : Nat) (Option.some Jvm.ClassFile.FieldType.boolean)).before args0 about1 = true := code_word (m := ⟨7, 13⟩) (meth := k7m13) (c := k7c13) (by decide +kernel) rfl rfl rfl (by decide +kernel)
set_option maxRecDepth 65536 in
theorem w_c44 : (Jvm.Cond.code ({ cls := "java/lang/StringLatin1", name := "newString", desc := "([BII)Ljava/lang/String;" } : Jvm.MethodName) jdk_43_method_47_code (3 : Nat) (Option.some (Jvm.ClassFile.FieldType.object "java/lang/String"))).before args0 about1 = true := code_word (m := ⟨11, 4⟩) (meth := k11m4) (c := k11c4) (by decide +kernel) rfl rfl rfl (by decide +kernel)
set_option maxRecDepth 65536 in
theorem w_c45 : (Jvm.Cond.code ({ cls := "com/example/undercroft/undercroft/store/UriSpacePathOfPinLaw", name := "ch", desc := "(JI)C" } : Jvm.MethodName) method_2_code (3 : Nat) (Option.some Jvm.ClassFile.FieldType.char)).before args0 about1 = true := code_word (m := ⟨1, 1⟩) (meth := k1m1) (c := k1c1) (by decide +kernel) rfl rfl rfl (by decide +kernel)
def codes1 : List Jvm.Cond := [Jvm.Cond.code x code maxLocals ret, Jvm.Cond.code ({ cls := "com/example/undercroft/undercroft/store/UriSpacePathOfPinLaw", name := "put", desc := "([CIIJ)V" } : Jvm.MethodName) method_3_code (5 : Nat) (Option.none : Option Jvm.ClassFile.FieldType), Jvm.Cond.code ({ cls := "java/lang/String", name := "<init>", desc := "([C)V" } : Jvm.MethodName) jdk_42_method_3_code (2 : Nat) (Option.none : Option Jvm.ClassFile.FieldType), Jvm.Cond.code ({ cls := "java/lang/String", name := "<init>", desc := "([CIILjava/lang/Void;)V" } : Jvm.MethodName) jdk_42_method_149_code (6 : Nat) (Option.none : Option Jvm.ClassFile.FieldType), Jvm.Cond.code ({ cls := "java/lang/Object", name := "<init>", desc := "()V" } : Jvm.MethodName) object_method_1_code (1 : Nat) (Option.none : Option Jvm.ClassFile.FieldType), Jvm.Cond.code ({ cls := "java/lang/StringUTF16", name := "compress", desc := "([CII)[B" } : Jvm.MethodName) jdk_52_method_16_code (6 : Nat) (Option.some (Jvm.ClassFile.FieldType.array Jvm.ClassFile.FieldType.byte)), Jvm.Cond.code ({ cls := "java/lang/StringUTF16", name := "compress", desc := "([CI[BII)I" } : Jvm.MethodName) jdk_52_method_21_code (7 : Nat) (Option.some Jvm.ClassFile.FieldType.int), Jvm.Cond.code ({ cls := "java/lang/StringUTF16", name := "coderFromArrayLen", desc := "([BI)B" } : Jvm.MethodName) jdk_52_method_15_code (2 : Nat) (Option.some Jvm.ClassFile.FieldType.byte), Jvm.Cond.code ({ cls := "java/lang/String", name := "valueOf", desc := "(C)Ljava/lang/String;" } : Jvm.MethodName) jdk_42_method_139_code (1 : Nat) (Option.some (Jvm.ClassFile.FieldType.object "java/lang/String")), Jvm.Cond.code ({ cls := "java/lang/StringLatin1", name := "canEncode", desc := "(C)Z" } : Jvm.MethodName) jdk_43_method_3_code (1 : Nat) (Option.some Jvm.ClassFile.FieldType.boolean), Jvm.Cond.code ({ cls := "java/lang/StringLatin1", name := "toBytes", desc := "(C)[B" } : Jvm.MethodName) jdk_43_method_46_code (1 : Nat) (Option.some (Jvm.ClassFile.FieldType.array Jvm.ClassFile.FieldType.byte)), Jvm.Cond.code ({ cls := "java/lang/String", name := "<init>", desc := "([BB)V" } : Jvm.MethodName) jdk_42_method_151_code (3 : Nat) (Option.none : Option Jvm.ClassFile.FieldType), Jvm.Cond.code ({ cls := "com/example/undercroft/undercroft/store/UriSpace", name := "<init>", desc := "(Ljava/lang/String;Ljava/lang/String;)V" } : Jvm.MethodName) prog_21_method_1_code (3 : Nat) (Option.none : Option Jvm.ClassFile.FieldType), Jvm.Cond.code ({ cls := "java/lang/Record", name := "<init>", desc := "()V" } : Jvm.MethodName) jdk_30_method_1_code (1 : Nat) (Option.none : Option Jvm.ClassFile.FieldType), Jvm.Cond.code ({ cls := "com/example/undercroft/undercroft/store/UriSpace", name := "pathOf", desc := "(Ljava/lang/String;)Ljava/lang/String;" } : Jvm.MethodName) prog_21_method_9_code (2 : Nat) (Option.some (Jvm.ClassFile.FieldType.object "java/lang/String")), Jvm.Cond.code ({ cls := "java/lang/StringBuilder", name := "<init>", desc := "()V" } : Jvm.MethodName) jdk_67_method_1_code (1 : Nat) (Option.none : Option Jvm.ClassFile.FieldType), Jvm.Cond.code ({ cls := "java/lang/AbstractStringBuilder", name := "<init>", desc := "(I)V" } : Jvm.MethodName) jdk_68_method_2_code (2 : Nat) (Option.none : Option Jvm.ClassFile.FieldType), Jvm.Cond.code ({ cls := "java/lang/StringBuilder", name := "append", desc := "(Ljava/lang/String;)Ljava/lang/StringBuilder;" } : Jvm.MethodName) jdk_67_method_7_code (2 : Nat) (Option.some (Jvm.ClassFile.FieldType.object "java/lang/StringBuilder")), Jvm.Cond.code ({ cls := "java/lang/AbstractStringBuilder", name := "append", desc := "(Ljava/lang/String;)Ljava/lang/AbstractStringBuilder;" } : Jvm.MethodName) jdk_68_method_22_code (3 : Nat) (Option.some (Jvm.ClassFile.FieldType.object "java/lang/AbstractStringBuilder")), Jvm.Cond.code ({ cls := "java/lang/String", name := "length", desc := "()I" } : Jvm.MethodName) jdk_42_method_54_code (1 : Nat) (Option.some Jvm.ClassFile.FieldType.int), Jvm.Cond.code ({ cls := "java/lang/String", name := "coder", desc := "()B" } : Jvm.MethodName) jdk_42_method_152_code (1 : Nat) (Option.some Jvm.ClassFile.FieldType.byte), Jvm.Cond.code ({ cls := "java/lang/AbstractStringBuilder", name := "ensureCapacityInternal", desc := "(I)V" } : Jvm.MethodName) jdk_68_method_9_code (3 : Nat) (Option.none : Option Jvm.ClassFile.FieldType), Jvm.Cond.code ({ cls := "java/lang/AbstractStringBuilder", name := "putStringAt", desc := "(ILjava/lang/String;)V" } : Jvm.MethodName) jdk_68_method_73_code (3 : Nat) (Option.none : Option Jvm.ClassFile.FieldType), Jvm.Cond.code ({ cls := "java/lang/AbstractStringBuilder", name := "inflateIfNeededFor", desc := "(Ljava/lang/String;)V" } : Jvm.MethodName) jdk_68_method_71_code (2 : Nat) (Option.none : Option Jvm.ClassFile.FieldType), Jvm.Cond.code ({ cls := "java/lang/String", name := "getBytes", desc := "([BIB)V" } : Jvm.MethodName) jdk_42_method_147_code (4 : Nat) (Option.none : Option Jvm.ClassFile.FieldType), Jvm.Cond.code ({ cls := "java/lang/String", name := "substring", desc := "(I)Ljava/lang/String;" } : Jvm.MethodName) jdk_42_method_91_code (2 : Nat) (Option.some (Jvm.ClassFile.FieldType.object "java/lang/String")), Jvm.Cond.code ({ cls := "java/lang/String", name := "substring", desc := "(II)Ljava/lang/String;" } : Jvm.MethodName) jdk_42_method_92_code (5 : Nat) (Option.some (Jvm.ClassFile.FieldType.object "java/lang/String")), Jvm.Cond.code ({ cls := "java/lang/String", name := "checkBoundsBeginEnd", desc := "(III)V" } : Jvm.MethodName) jdk_42_method_158_code (3 : Nat) (Option.none : Option Jvm.ClassFile.FieldType), Jvm.Cond.code ({ cls := "jdk/internal/util/Preconditions", name := "checkFromToIndex", desc := "(IIILjava/util/function/BiFunction;)I" } : Jvm.MethodName) jdk_41_method_12_code (4 : Nat) (Option.some Jvm.ClassFile.FieldType.int), Jvm.Cond.code ({ cls := "java/lang/StringBuilder", name := "toString", desc := "()Ljava/lang/String;" } : Jvm.MethodName) jdk_67_method_42_code (1 : Nat) (Option.some (Jvm.ClassFile.FieldType.object "java/lang/String")), Jvm.Cond.code ({ cls := "java/lang/String", name := "<init>", desc := "(Ljava/lang/StringBuilder;)V" } : Jvm.MethodName) jdk_42_method_53_code (2 : Nat) (Option.none : Option Jvm.ClassFile.FieldType), Jvm.Cond.code ({ cls := "java/lang/String", name := "<init>", desc := "(Ljava/lang/AbstractStringBuilder;Ljava/lang/Void;)V" } : Jvm.MethodName) jdk_42_method_150_code (5 : Nat) (Option.none : Option Jvm.ClassFile.FieldType), Jvm.Cond.code ({ cls := "java/lang/AbstractStringBuilder", name := "getValue", desc := "()[B" } : Jvm.MethodName) jdk_68_method_64_code (1 : Nat) (Option.some (Jvm.ClassFile.FieldType.array Jvm.ClassFile.FieldType.byte)), Jvm.Cond.code ({ cls := "java/lang/StringBuilder", name := "length", desc := "()I" } : Jvm.MethodName) jdk_67_method_93_code (1 : Nat) (Option.some Jvm.ClassFile.FieldType.int), Jvm.Cond.code ({ cls := "java/lang/AbstractStringBuilder", name := "length", desc := "()I" } : Jvm.MethodName) jdk_68_method_6_code (1 : Nat) (Option.some Jvm.ClassFile.FieldType.int), Jvm.Cond.code ({ cls := "java/lang/AbstractStringBuilder", name := "isLatin1", desc := "()Z" } : Jvm.MethodName) jdk_68_method_68_code (1 : Nat) (Option.some Jvm.ClassFile.FieldType.boolean), Jvm.Cond.code ({ cls := "java/util/Arrays", name := "copyOfRange", desc := "([BII)[B" } : Jvm.MethodName) jdk_65_method_132_code (3 : Nat) (Option.some (Jvm.ClassFile.FieldType.array Jvm.ClassFile.FieldType.byte)), Jvm.Cond.code ({ cls := "java/util/Arrays", name := "copyOfRangeByte", desc := "([BII)[B" } : Jvm.MethodName) jdk_65_method_133_code (5 : Nat) (Option.some (Jvm.ClassFile.FieldType.array Jvm.ClassFile.FieldType.byte)), Jvm.Cond.code ({ cls := "java/util/Arrays", name := "checkLength", desc := "(II)V" } : Jvm.MethodName) jdk_65_method_131_code (2 : Nat) (Option.none : Option Jvm.ClassFile.FieldType), Jvm.Cond.code ({ cls := "java/lang/Math", name := "min", desc := "(II)I" } : Jvm.MethodName) jdk_29_method_69_code (2 : Nat) (Option.some Jvm.ClassFile.FieldType.int), Jvm.Cond.code ({ cls := "java/lang/String", name := "equals", desc := "(Ljava/lang/Object;)Z" } : Jvm.MethodName) jdk_42_method_66_code (3 : Nat) (Option.some Jvm.ClassFile.FieldType.boolean), Jvm.Cond.code ({ cls := "java/lang/StringLatin1", name := "equals", desc := "([B[B)Z" } : Jvm.MethodName) jdk_43_method_13_code (3 : Nat) (Option.some Jvm.ClassFile.FieldType.boolean), Jvm.Cond.code ({ cls := "com/example/undercroft/undercroft/store/UriSpace", name := "uriOfPath", desc := "(Ljava/lang/String;)Ljava/lang/String;" } : Jvm.MethodName) prog_21_method_8_code (2 : Nat) (Option.some (Jvm.ClassFile.FieldType.object "java/lang/String")), Jvm.Cond.code ({ cls := "java/lang/String", name := "isLatin1", desc := "()Z" } : Jvm.MethodName) jdk_42_method_154_code (1 : Nat) (Option.some Jvm.ClassFile.FieldType.boolean), Jvm.Cond.code ({ cls := "java/lang/StringLatin1", name := "newString", desc := "([BII)Ljava/lang/String;" } : Jvm.MethodName) jdk_43_method_47_code (3 : Nat) (Option.some (Jvm.ClassFile.FieldType.object "java/lang/String")), Jvm.Cond.code ({ cls := "com/example/undercroft/undercroft/store/UriSpacePathOfPinLaw", name := "ch", desc := "(JI)C" } : Jvm.MethodName) method_2_code (3 : Nat) (Option.some Jvm.ClassFile.FieldType.char)]
set_option maxRecDepth 65536 in
theorem codes_eq : words1.filter isCode = codes1 := rfl
theorem w_codes : ∀ c ∈ words1.filter isCode, c.before args0 about1 = true := by
  rw [codes_eq]
  intro c hc
  simp only [codes1, List.mem_cons, List.not_mem_nil, or_false] at hc
  rcases hc with rfl | rfl | rfl | rfl | rfl | rfl | rfl | rfl | rfl | rfl | rfl | rfl | rfl | rfl | rfl | rfl | rfl | rfl | rfl | rfl | rfl | rfl | rfl | rfl | rfl | rfl | rfl | rfl | rfl | rfl | rfl | rfl | rfl | rfl | rfl | rfl | rfl | rfl | rfl | rfl | rfl | rfl | rfl | rfl | rfl | rfl
  · exact w_c0
  · exact w_c1
  · exact w_c2
  · exact w_c3
  · exact w_c4
  · exact w_c5
  · exact w_c6
  · exact w_c7
  · exact w_c8
  · exact w_c9
  · exact w_c10
  · exact w_c11
  · exact w_c12
  · exact w_c13
  · exact w_c14
  · exact w_c15
  · exact w_c16
  · exact w_c17
  · exact w_c18
  · exact w_c19
  · exact w_c20
  · exact w_c21
  · exact w_c22
  · exact w_c23
  · exact w_c24
  · exact w_c25
  · exact w_c26
  · exact w_c27
  · exact w_c28
  · exact w_c29
  · exact w_c30
  · exact w_c31
  · exact w_c32
  · exact w_c33
  · exact w_c34
  · exact w_c35
  · exact w_c36
  · exact w_c37
  · exact w_c38
  · exact w_c39
  · exact w_c40
  · exact w_c41
  · exact w_c42
  · exact w_c43
  · exact w_c44
  · exact w_c45
set_option maxRecDepth 65536 in
theorem w_t1 : (words1.take 24).all (fun c => isCode c || c.before args0 about1) = true := by decide +kernel
set_option maxRecDepth 65536 in
theorem w_t2 : ((words1.drop 24).take 24).all (fun c => isCode c || c.before args0 about1) = true := by decide +kernel
set_option maxRecDepth 65536 in
theorem w_t3 : (((words1.drop 24).drop 24).take 24).all (fun c => isCode c || c.before args0 about1) = true := by decide +kernel
set_option maxRecDepth 65536 in
theorem w_t4 : ((((words1.drop 24).drop 24).drop 24).take 24).all (fun c => isCode c || c.before args0 about1) = true := by decide +kernel
set_option maxRecDepth 65536 in
theorem w_t5 : (((((words1.drop 24).drop 24).drop 24).drop 24).take 24).all (fun c => isCode c || c.before args0 about1) = true := by decide +kernel
set_option maxRecDepth 65536 in
theorem w_t6 : ((((((words1.drop 24).drop 24).drop 24).drop 24).drop 24).take 24).all (fun c => isCode c || c.before args0 about1) = true := by decide +kernel
set_option maxRecDepth 65536 in
theorem w_t7 : (((((((words1.drop 24).drop 24).drop 24).drop 24).drop 24).drop 24).take 24).all (fun c => isCode c || c.before args0 about1) = true := by decide +kernel
set_option maxRecDepth 65536 in
theorem w_t8 : ((((((((words1.drop 24).drop 24).drop 24).drop 24).drop 24).drop 24).drop 24).take 24).all (fun c => isCode c || c.before args0 about1) = true := by decide +kernel
set_option maxRecDepth 65536 in
theorem w_t9 : (((((((((words1.drop 24).drop 24).drop 24).drop 24).drop 24).drop 24).drop 24).drop 24).take 24).all (fun c => isCode c || c.before args0 about1) = true := by decide +kernel
set_option maxRecDepth 65536 in
theorem w_t10 : (((((((((words1.drop 24).drop 24).drop 24).drop 24).drop 24).drop 24).drop 24).drop 24).drop 24).all (fun c => isCode c || c.before args0 about1) = true := by decide +kernel
theorem w_tables : (allAtoms (Jvm.Cond.code x code maxLocals ret :: tables_1)).before args0 about1 = true := by
  rw [allAtoms_all]
  show words1.all (fun c => c.before args0 about1) = true
  refine all_split ?_ w_codes
  rw [← List.take_append_drop 24 words1, List.all_append, w_t1, ← List.take_append_drop 24 (words1.drop 24), List.all_append, w_t2, ← List.take_append_drop 24 ((words1.drop 24).drop 24), List.all_append, w_t3, ← List.take_append_drop 24 (((words1.drop 24).drop 24).drop 24), List.all_append, w_t4, ← List.take_append_drop 24 ((((words1.drop 24).drop 24).drop 24).drop 24), List.all_append, w_t5, ← List.take_append_drop 24 (((((words1.drop 24).drop 24).drop 24).drop 24).drop 24), List.all_append, w_t6, ← List.take_append_drop 24 ((((((words1.drop 24).drop 24).drop 24).drop 24).drop 24).drop 24), List.all_append, w_t7, ← List.take_append_drop 24 (((((((words1.drop 24).drop 24).drop 24).drop 24).drop 24).drop 24).drop 24), List.all_append, w_t8, ← List.take_append_drop 24 ((((((((words1.drop 24).drop 24).drop 24).drop 24).drop 24).drop 24).drop 24).drop 24), List.all_append, w_t9, w_t10]
  rfl
set_option maxRecDepth 65536 in
theorem w_rest : rest_1_c.before args0 about1 = true := by decide +kernel
set_option maxRecDepth 65536 in
theorem w_case : (Jvm.Cond.and given_1 narrow_1).before args0 about1 = true := by decide +kernel
set_option maxRecDepth 65536 in
theorem w_consts : constsHeld consts_1 about1 := Jvm.Lit.constsHeldB_iff.mp (by decide +kernel)
theorem w_applies : (headSpec (Jvm.Cond.code x code maxLocals ret :: tables_1) room_1).applies x e0.platform about1 = true :=
  (Spec.applies_iff w_frames).mpr ⟨w_running, w_runnable, w_alone, w_named, w_hears, w_ripe, w_room, w_tables⟩
theorem atStart : AtStart classFile x code maxLocals ret World_1 tables_1 room_1 Calls_1 rest_1 Pre_1 launch0 p0 e0 about1 theMethod args0 below0 :=
  ⟨lists_1, trivial, launch0.admits_env _ _ _, launch0.least_env, fairChoices_fair.cas, fairChoices_fair.clock, w_frames, w_args, w_heap, w_applies, ⟨w_consts, trivial⟩, w_rest, w_case⟩
end start1
theorem witness_1 : WitnessClaimed_1 := ⟨start1.p0, start1.e0, start1.about1, start1.theMethod, start1.args0, start1.below0, start1.atStart⟩
end Jvm.Pilot.@@N@@
