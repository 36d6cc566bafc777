import JvmDerived
import JvmDerived.Pilot.@@N@@Statement
import JvmDerived.Pilot.@@N@@Code
set_option linter.unusedVariables false
set_option linter.unusedSimpArgs false
/- laws to paste: Road.backV (cut by pick.py; bodies as the Statement names them) -/
namespace Jvm.Pilot.@@N@@
namespace StrChars
open Jvm Sem ClassFile Op Lib Jvm.Stand Jvm.Free.XT Jvm.Free.ALB Jvm.Free.JM Jvm.Free
open Jvm.Lib.Cold (StaticIs)
/-- a char array whose places are chars -/
def Ch (a : Addr) (A : Cell) (U : State) : Prop := Arr .char a A U ∧ Typed .char A
theorem Ch.mv {a : Addr} {A : Cell} {U U' : State} (h : Ch a A U) (hal : U.vm.Alike U'.vm) (hh : U'.heap = U.heap) : Ch a A U' := ⟨h.1.mv hal hh, h.2⟩
theorem Ch.keep {a : Addr} {A : Cell} {U U' : State} (h : Ch a A U) (hal : U.vm.Alike U'.vm) (hk : U'.heap[a]? = some A) : Ch a A U' := ⟨h.1.keep hal hk, h.2⟩
/-- what place i of a char[]'s cell holds -/
def cv (A : Cell) (i : Nat) : Int32 := match A.slots[i]? with | some (.int x) => x | _ => 0
theorem Ch.get {a : Addr} {A : Cell} {U : State} (h : Ch a A U) {i : Nat} (hi : i < A.slots.size) : A.slots[i]? = some (.int (cv A i)) := by
  have e := Array.getElem?_eq_getElem hi
  have f := h.2 i _ e
  unfold cv; rw [e]
  generalize A.slots[i] = v at f
  cases v <;> simp [fits] at f ⊢
/-- the byte that i2b leaves of a char -/
def lo8 (x : Int32) : Int32 := x.toInt8.toInt32
theorem fits_lo8 (y : Int32) : fits .byte (.int (lo8 y)) = true := by
  have h1 := y.toInt8.le_toInt
  have h2 := y.toInt8.toInt_lt
  simp only [lo8, fits, Bool.and_eq_true, decide_eq_true_eq, Int32.le_iff_toInt_le, Int8.toInt_toInt32, show (-128 : Int32).toInt = -128 from by decide, show (127 : Int32).toInt = 127 from by decide]
  omega
/-- A' is A but that each place j of lo .. hi - 1 holds f j -/
def Laid (A A' : Cell) (lo hi : Nat) (f : Nat → Value) : Prop := A'.cls = A.cls ∧ A'.vm = A.vm ∧ A'.slots.size = A.slots.size ∧ ∀ i, A'.slots[i]? = if lo ≤ i ∧ i < hi then some (f i) else A.slots[i]?
theorem Laid.zero (A : Cell) (lo : Nat) (f : Nat → Value) : Laid A A lo (lo + 0) f := ⟨rfl, rfl, rfl, fun i => by rw [if_neg (by omega)]⟩
theorem Laid.step {A Ak : Cell} {lo k : Nat} {f : Nat → Value} {v : Value} (h : Laid A Ak lo k f) (hlo : lo ≤ k) (hk : k < Ak.slots.size) (hv : v = f k) : Laid A (Ak.setSlot k v) lo (k + 1) f := by
  refine ⟨h.1, h.2.1, by simpa [Cell.setSlot] using h.2.2.1, fun i => ?_⟩
  by_cases e : k = i
  · subst e; rw [Cell.slots_setSlot_self v hk, if_pos (by omega), hv]
  · rw [Cell.slots_setSlot_ne v e, h.2.2.2 i]
    by_cases q : lo ≤ i ∧ i < k
    · rw [if_pos q, if_pos (by omega)]
    · rw [if_neg q, if_neg (by omega)]
def U16 : String := "java/lang/StringUTF16"
namespace Cmp5
def yN : MethodName := ⟨"java/lang/StringUTF16", "compress", "([CI[BII)I"⟩
abbrev yB : ByteArray := jdk_52_method_21_code
theorem d0 : decode yB 0 = .ok (.iconst 0, 1) := by decide +kernel
theorem d1 : decode yB 1 = .ok (.istore 5, 2) := by decide +kernel
theorem d3 : decode yB 3 = .ok (.iload 5, 2) := by decide +kernel
theorem d5 : decode yB 5 = .ok (.iload 4, 2) := by decide +kernel
theorem d7 : decode yB 7 = .ok (.if_icmp (.ge) 37, 3) := by decide +kernel
theorem d10 : decode yB 10 = .ok (.aload_n 0, 1) := by decide +kernel
theorem d11 : decode yB 11 = .ok (.iload_n 1, 1) := by decide +kernel
theorem d12 : decode yB 12 = .ok (.caload, 1) := by decide +kernel
theorem d13 : decode yB 13 = .ok (.istore 6, 2) := by decide +kernel
theorem d15 : decode yB 15 = .ok (.iload 6, 2) := by decide +kernel
theorem d17 : decode yB 17 = .ok (.sipush 255, 3) := by decide +kernel
theorem d20 : decode yB 20 = .ok (.if_icmp (.le) 6, 3) := by decide +kernel
theorem d26 : decode yB 26 = .ok (.aload_n 2, 1) := by decide +kernel
theorem d27 : decode yB 27 = .ok (.iload_n 3, 1) := by decide +kernel
theorem d28 : decode yB 28 = .ok (.iload 6, 2) := by decide +kernel
theorem d30 : decode yB 30 = .ok (.i2b, 1) := by decide +kernel
theorem d31 : decode yB 31 = .ok (.bastore, 1) := by decide +kernel
theorem d32 : decode yB 32 = .ok (.iinc 1 1, 3) := by decide +kernel
theorem d35 : decode yB 35 = .ok (.iinc 3 1, 3) := by decide +kernel
theorem d38 : decode yB 38 = .ok (.iinc 5 1, 3) := by decide +kernel
theorem d41 : decode yB 41 = .ok (.goto (-38), 3) := by decide +kernel
theorem d44 : decode yB 44 = .ok (.iload 4, 2) := by decide +kernel
theorem d46 : decode yB 46 = .ok (.ireturn, 1) := by decide +kernel
def site : List Cond := []
def tab : Cond := tabOf yN yB 7 (some .int) site
def P (b : Addr) (A : Cell) (d : Addr) (B : Cell) (o q len : Nat) (args : Array Value) (s : State) : Prop := args = #[.ref b, .int (Int32.ofNat o), .ref d, .int (Int32.ofNat q), .int (Int32.ofNat len)] ∧ Ch b A s ∧ Arr .byte d B s ∧ b ≠ d ∧ o + len ≤ A.slots.size ∧ q + len ≤ B.slots.size ∧ ∀ i, i < len → ¬ 255 < cv A (o + i)
def E (b : Addr) (A : Cell) (d : Addr) (B : Cell) (o q len : Nat) (r : Option Value) (s u : State) : Prop := r = some (.int (Int32.ofNat len)) ∧ ∃ B', Put d B' s u ∧ Laid B B' q (q + len) (fun j => Value.int (lo8 (cv A (o + (j - q)))))
/-- no char of the range above 255: len; the places written hold each char's low byte -/
theorem law (l : Launch) (b : Addr) (A : Cell) (d : Addr) (B : Cell) (o q len : Nat) : Law l yN 5 5 0 0 yB 7 (some .int) site (P b A d B o q len) (E b A d B o q len) (copyLocs d q len) 0 0 := by
  refine Law.of_walk (plainFor_of_name (by decide +kernel)) (by decide +kernel) (by decide +kernel) (by decide) (fun _ _ h => by rw [h.1]; rfl) (fun _ U U' hal hh h => ⟨h.1, h.2.1.mv hal hh, h.2.2.1.mv hal hh, h.2.2.2⟩) (fun r U U' V V' h1 hal h2 h => ⟨h.1, h.2.elim fun B' q => ⟨B', q.1.mv h1 h2, q.2⟩⟩) ?_
  intro p e s m args below meth c s₁ X0 hexec hbytes hml hret hlk hnm hown hh0 W hP
  obtain ⟨rfl, hA, hB, hne, l1, l2, hp⟩ := hP
  have c1 : Steps p.tables e below (s₁.setTop (entryFrame m #[.ref b, .int (Int32.ofNat o), .ref d, .int (Int32.ofNat q), .int (Int32.ofNat len)] 7)) (s₁.setTop (mkF m 0 #[.val (.ref b), .val (.int (Int32.ofNat o)), .val (.ref d), .val (.int (Int32.ofNat q)), .val (.int (Int32.ofNat len)), .unset, .unset] [])) := entry rfl
  have hA0 := hA.1.mv X0.warmed.alike hh0
  have hB0 := hB.mv X0.warmed.alike hh0
  have a31 := hA.1.2.2.2
  have c2 : Steps p.tables e below (s₁.setTop (entryFrame m #[.ref b, .int (Int32.ofNat o), .ref d, .int (Int32.ofNat q), .int (Int32.ofNat len)] 7)) (s₁.setTop (mkF m 3 #[.val (.ref b), .val (.int (Int32.ofNat o)), .val (.ref d), .val (.int (Int32.ofNat q)), .val (.int (Int32.ofNat len)), .val (.int 0), .unset] [])) := c1.trans (by
    refine iconstV X0.here hexec rfl 0 (hb hbytes d0) (by decide) ?_
    refine XS.istore X0.here hexec rfl (hb hbytes d1) rfl rfl ?_
    exact Steps.refl _)
  have loop : ∀ (r i : Nat), i + r = len → ∀ (z : Slot), (z = .unset ∨ ∃ w, z = .val w ∧ w.category = 1) → ∀ (Tl : State) (Bk : Cell), Stand p l e { frames := 0, locals := 0, cells := 0, slots := 0 } s m #[.ref b, .int (Int32.ofNat o), .ref d, .int (Int32.ofNat q), .int (Int32.ofNat len)] below meth c Tl ([] ++ copyLocs d q i) 0 0 → Put d Bk s₁ Tl → Laid B Bk q (q + i) (fun j => Value.int (lo8 (cv A (o + (j - q))))) →
      Steps p.tables e below (s₁.setTop (entryFrame m #[.ref b, .int (Int32.ofNat o), .ref d, .int (Int32.ofNat q), .int (Int32.ofNat len)] 7)) (Tl.setTop (mkF m 3 #[.val (.ref b), .val (.int (Int32.ofNat (o + i))), .val (.ref d), .val (.int (Int32.ofNat (q + i))), .val (.int (Int32.ofNat len)), .val (.int (Int32.ofNat i)), z] [])) → ∃ (T' : State) (B' : Cell) (z' : Slot), Stand p l e { frames := 0, locals := 0, cells := 0, slots := 0 } s m #[.ref b, .int (Int32.ofNat o), .ref d, .int (Int32.ofNat q), .int (Int32.ofNat len)] below meth c T' ([] ++ copyLocs d q len) 0 0 ∧ Put d B' s₁ T' ∧ Laid B B' q (q + len) (fun j => Value.int (lo8 (cv A (o + (j - q))))) ∧
      Steps p.tables e below (s₁.setTop (entryFrame m #[.ref b, .int (Int32.ofNat o), .ref d, .int (Int32.ofNat q), .int (Int32.ofNat len)] 7)) (T'.setTop (mkF m 3 #[.val (.ref b), .val (.int (Int32.ofNat (o + len))), .val (.ref d), .val (.int (Int32.ofNat (q + len))), .val (.int (Int32.ofNat len)), .val (.int (Int32.ofNat len)), z'] [])) := by
    intro r
    induction r with
    | zero =>
      intro i hi z hz Tl Bk Xl pl fl cl
      have hil : i = len := by omega
      rw [hil] at Xl fl cl
      exact ⟨Tl, Bk, z, Xl, pl, fl, cl⟩
    | succ r ih =>
      intro i hi z hz Tl Bk Xl pl fl cl
      have all := X0.warmed.alike.symm.trans Xl.warmed.alike
      have hAl := hA0.keep all (pl.other hne hA0.1)
      have hBk := hB0.like all pl.1 fl.1 fl.2.1 fl.2.2.1
      have hlt : q + i < Bk.slots.size := by rw [fl.2.2.1]; omega
      have c3 : Steps p.tables e below (s₁.setTop (entryFrame m #[.ref b, .int (Int32.ofNat o), .ref d, .int (Int32.ofNat q), .int (Int32.ofNat len)] 7)) (Tl.setTop (mkF m 12 #[.val (.ref b), .val (.int (Int32.ofNat (o + i))), .val (.ref d), .val (.int (Int32.ofNat (q + i))), .val (.int (Int32.ofNat len)), .val (.int (Int32.ofNat i)), z] [.int (Int32.ofNat (o + i)), .ref b])) := cl.trans (by
        refine XS.iload Xl.here hexec rfl (hb hbytes d3) rfl ?_
        refine XS.iload Xl.here hexec rfl (hb hbytes d5) rfl ?_
        refine XS.icmpNo Xl.here hexec rfl (hb hbytes d7) rfl (ii_ge_f (lt32 (by omega) (by omega))) ?_
        refine XS.aloadN Xl.here hexec rfl (hb hbytes d10) rfl rfl ?_
        refine XS.iloadN Xl.here hexec rfl (hb hbytes d11) rfl ?_
        exact Steps.refl _)
      have c4 : Steps p.tables e below (s₁.setTop (entryFrame m #[.ref b, .int (Int32.ofNat o), .ref d, .int (Int32.ofNat q), .int (Int32.ofNat len)] 7)) (Tl.setTop (mkF m 13 #[.val (.ref b), .val (.int (Int32.ofNat (o + i))), .val (.ref d), .val (.int (Int32.ofNat (q + i))), .val (.int (Int32.ofNat len)), .val (.int (Int32.ofNat i)), z] [.int (cv A (o + i))])) := c3.trans (by
        refine Xl.aget hexec hAl rfl (hA.get (i := o + i) (by omega)) rfl rfl (hb hbytes d12) ?_
        exact Steps.refl _)
      have c5 : Steps p.tables e below (s₁.setTop (entryFrame m #[.ref b, .int (Int32.ofNat o), .ref d, .int (Int32.ofNat q), .int (Int32.ofNat len)] 7)) (Tl.setTop (mkF m 15 #[.val (.ref b), .val (.int (Int32.ofNat (o + i))), .val (.ref d), .val (.int (Int32.ofNat (q + i))), .val (.int (Int32.ofNat len)), .val (.int (Int32.ofNat i)), .val (.int (cv A (o + i)))] [])) := c4.trans (by
        refine XS.istoreS Xl.here hexec rfl (hb hbytes d13) rfl rfl hz ?_
        exact Steps.refl _)
      have c6 : Steps p.tables e below (s₁.setTop (entryFrame m #[.ref b, .int (Int32.ofNat o), .ref d, .int (Int32.ofNat q), .int (Int32.ofNat len)] 7)) (Tl.setTop (mkF m 31 #[.val (.ref b), .val (.int (Int32.ofNat (o + i))), .val (.ref d), .val (.int (Int32.ofNat (q + i))), .val (.int (Int32.ofNat len)), .val (.int (Int32.ofNat i)), .val (.int (cv A (o + i)))] [.int (lo8 (cv A (o + i))), .int (Int32.ofNat (q + i)), .ref d])) := c5.trans (by
        refine XS.iload Xl.here hexec rfl (hb hbytes d15) rfl ?_
        refine sipushV Xl.here hexec rfl 255 (hb hbytes d17) (by decide) ?_
        refine XS.icmpYes Xl.here hexec rfl (pc0 := 20) rfl (hb hbytes d20) rfl (ii_le_t (hp i (by omega))) (by decide) rfl ?_
        refine XS.aloadN Xl.here hexec rfl (hb hbytes d26) rfl rfl ?_
        refine XS.iloadN Xl.here hexec rfl (hb hbytes d27) rfl ?_
        refine XS.iload Xl.here hexec rfl (hb hbytes d28) rfl ?_
        refine i2b Xl.here hexec rfl (hb hbytes d30) rfl ?_
        exact Steps.refl _)
      obtain ⟨T7, X7, p7, st7⟩ := Xl.aput hexec hBk rfl hlt rfl (fits_lo8 (cv A (o + i))) (g := (mkF m 31 #[.val (.ref b), .val (.int (Int32.ofNat (o + i))), .val (.ref d), .val (.int (Int32.ofNat (q + i))), .val (.int (Int32.ofNat len)), .val (.int (Int32.ofNat i)), .val (.int (cv A (o + i)))] [.int (lo8 (cv A (o + i))), .int (Int32.ofNat (q + i)), .ref d])) rfl (rest := []) rfl (hb hbytes d31)
      have c8 : Steps p.tables e below (s₁.setTop (entryFrame m #[.ref b, .int (Int32.ofNat o), .ref d, .int (Int32.ofNat q), .int (Int32.ofNat len)] 7)) (T7.setTop (mkF m 32 #[.val (.ref b), .val (.int (Int32.ofNat (o + i))), .val (.ref d), .val (.int (Int32.ofNat (q + i))), .val (.int (Int32.ofNat len)), .val (.int (Int32.ofNat i)), .val (.int (cv A (o + i)))] [])) := c6.trans (st7 _ (Steps.refl _))
      have c9 : Steps p.tables e below (s₁.setTop (entryFrame m #[.ref b, .int (Int32.ofNat o), .ref d, .int (Int32.ofNat q), .int (Int32.ofNat len)] 7)) (T7.setTop (mkF m 3 #[.val (.ref b), .val (.int (Int32.ofNat (o + i) + 1)), .val (.ref d), .val (.int (Int32.ofNat (q + i) + 1)), .val (.int (Int32.ofNat len)), .val (.int (Int32.ofNat i + 1)), .val (.int (cv A (o + i)))] [])) := c8.trans (by
        refine iincV X7.here hexec rfl 1 (hb hbytes d32) (by decide) rfl rfl ?_
        refine iincV X7.here hexec rfl 1 (hb hbytes d35) (by decide) rfl rfl ?_
        refine iincV X7.here hexec rfl 1 (hb hbytes d38) (by decide) rfl rfl ?_
        refine XS.goto X7.here hexec rfl (pc0 := 41) rfl (hb hbytes d41) (by decide) rfl ?_
        exact Steps.refl _)
      have c10 : Steps p.tables e below (s₁.setTop (entryFrame m #[.ref b, .int (Int32.ofNat o), .ref d, .int (Int32.ofNat q), .int (Int32.ofNat len)] 7)) (T7.setTop (mkF m 3 #[.val (.ref b), .val (.int (Int32.ofNat (o + (i + 1)))), .val (.ref d), .val (.int (Int32.ofNat (q + (i + 1)))), .val (.int (Int32.ofNat len)), .val (.int (Int32.ofNat (i + 1))), .val (.int (cv A (o + i)))] [])) := by
        have := c9
        rw [succ32, succ32, succ32] at this
        exact this
      exact ih (i + 1) (by omega) _ (Or.inr ⟨_, rfl, rfl⟩) T7 _ (by rw [copyLocs_step, ← List.append_assoc]; exact X7) (pl.trans p7) (fl.step (by omega) hlt (by simp)) c10
  obtain ⟨T9, B9, z9, X9, p9, f9, g9⟩ := loop len 0 (by omega) .unset (Or.inl rfl) s₁ B (by simpa [copyLocs] using X0) ⟨hB0.1, fun _ _ => rfl, rfl⟩ (Laid.zero _ _ _) c2
  have c11 : Steps p.tables e below (s₁.setTop (entryFrame m #[.ref b, .int (Int32.ofNat o), .ref d, .int (Int32.ofNat q), .int (Int32.ofNat len)] 7)) (T9.setTop (mkF m 46 #[.val (.ref b), .val (.int (Int32.ofNat (o + len))), .val (.ref d), .val (.int (Int32.ofNat (q + len))), .val (.int (Int32.ofNat len)), .val (.int (Int32.ofNat len)), z9] [.int (Int32.ofNat len)])) := g9.trans (by
    refine XS.iload X9.here hexec rfl (hb hbytes d3) rfl ?_
    refine XS.iload X9.here hexec rfl (hb hbytes d5) rfl ?_
    refine XS.icmpYes X9.here hexec rfl (pc0 := 7) rfl (hb hbytes d7) rfl (ii_ge_t (nlt32 (by omega) (Nat.le_refl _))) (by decide) rfl ?_
    refine XS.iload X9.here hexec rfl (hb hbytes d44) rfl ?_
    exact Steps.refl _)
  exact ⟨T9, some (.int (Int32.ofNat len)), _, _, _, X9, by simp, rfl, rfl, (fun h => by cases h), ⟨rfl, B9, p9.from hh0, f9⟩, fun fs hl => c11.trans (X9.ireturnOut hexec hret rfl (Or.inl rfl) (hb hbytes d46) hl)⟩
end Cmp5
namespace Cmp3
def yN : MethodName := ⟨"java/lang/StringUTF16", "compress", "([CII)[B"⟩
abbrev yB : ByteArray := jdk_52_method_16_code
theorem d0 : decode yB 0 = .ok (.iload_n 2, 1) := by decide +kernel
theorem d1 : decode yB 1 = .ok (.newarray .byte, 2) := by decide +kernel
theorem d3 : decode yB 3 = .ok (.astore_n 3, 1) := by decide +kernel
theorem d4 : decode yB 4 = .ok (.aload_n 0, 1) := by decide +kernel
theorem d5 : decode yB 5 = .ok (.iload_n 1, 1) := by decide +kernel
theorem d6 : decode yB 6 = .ok (.aload_n 3, 1) := by decide +kernel
theorem d7 : decode yB 7 = .ok (.iconst 0, 1) := by decide +kernel
theorem d8 : decode yB 8 = .ok (.iload_n 2, 1) := by decide +kernel
theorem d9 : decode yB 9 = .ok (.invokestatic 115, 3) := by decide +kernel
theorem d12 : decode yB 12 = .ok (.istore 4, 2) := by decide +kernel
theorem d14 : decode yB 14 = .ok (.iload 4, 2) := by decide +kernel
theorem d16 : decode yB 16 = .ok (.iload_n 2, 1) := by decide +kernel
theorem d17 : decode yB 17 = .ok (.if_icmp (.eq) 40, 3) := by decide +kernel
theorem d57 : decode yB 57 = .ok (.aload_n 3, 1) := by decide +kernel
theorem d58 : decode yB 58 = .ok (.areturn, 1) := by decide +kernel
def site : List Cond := [.arrayClass .byte, Cmp5.tab] ++ staticW U16 115 Cmp5.yN
def tab : Cond := tabOf yN yB 6 (some (.array .byte)) site
def P (b : Addr) (A : Cell) (o len : Nat) (args : Array Value) (s : State) : Prop := args = #[.ref b, .int (Int32.ofNat o), .int (Int32.ofNat len)] ∧ Ch b A s ∧ o + len ≤ A.slots.size ∧ len ≤ 536870912 ∧ ∀ i, i < len → ¬ 255 < cv A (o + i)
def E (b : Addr) (A : Cell) (o len : Nat) (r : Option Value) (s u : State) : Prop := NewArr .byte "[B" len (fun j => .int (lo8 (cv A (o + j)))) r s u ∧ u.heap.size = s.heap.size + 1
/-- no char of the range above 255: a new byte[] of their low bytes -/
theorem law (l : Launch) (b : Addr) (A : Cell) (o len : Nat) : Law l yN 3 3 1 18 yB 6 (some (.array .byte)) site (P b A o len) (E b A o len) [] 1 len := by
  refine Law.of_walk (plainFor_of_name (by decide +kernel)) (by decide +kernel) (by decide +kernel) (by decide) (fun _ _ h => by rw [h.1]; rfl) (fun _ U U' hal hh h => ⟨h.1, h.2.1.mv hal hh, h.2.2⟩) (fun r U U' V V' h1 hal h2 h => ⟨NewArr.mv r U U' V V' h1 hal h2 h.1, by rw [h1, h2]; exact h.2⟩) ?_
  intro p e s m args below meth c s₁ X0 hexec hbytes hml hret hlk hnm hown hh0 W hP
  obtain ⟨rfl, hA, l1, l2, hp⟩ := hP
  have a31 := hA.1.2.2.2
  have c1 : Steps p.tables e below (s₁.setTop (entryFrame m #[.ref b, .int (Int32.ofNat o), .int (Int32.ofNat len)] 6)) (s₁.setTop (mkF m 0 #[.val (.ref b), .val (.int (Int32.ofNat o)), .val (.int (Int32.ofNat len)), .unset, .unset, .unset] [])) := entry rfl
  have c2 : Steps p.tables e below (s₁.setTop (entryFrame m #[.ref b, .int (Int32.ofNat o), .int (Int32.ofNat len)] 6)) (s₁.setTop (mkF m 1 #[.val (.ref b), .val (.int (Int32.ofNat o)), .val (.int (Int32.ofNat len)), .unset, .unset, .unset] [.int (Int32.ofNat len)])) := c1.trans (by
    refine XS.iloadN X0.here hexec rfl (hb hbytes d0) rfl ?_
    exact Steps.refl _)
  obtain ⟨T3, B3, X3, ba3, bs3, bv3, bh3, bf3, st3⟩ := X0.anew hexec (atype := .byte) (wk W (.arrayClass .byte)) rfl (by show len * 1 ≤ _; omega) (by omega) (g := (mkF m 1 #[.val (.ref b), .val (.int (Int32.ofNat o)), .val (.int (Int32.ofNat len)), .unset, .unset, .unset] [.int (Int32.ofNat len)])) rfl (hb hbytes d1) (rest := []) rfl (Nat.le_refl _) (by show 0 + len ≤ len; omega)
  rw [hh0] at ba3 st3
  have kp3 : XT.Kept s T3 := (XT.Kept.of_eq hh0).push bh3
  have hA3 := hA.keep X3.warmed.alike (kp3 _ _ hA.1.1)
  have hne : b ≠ s.heap.size := hA.1.ne
  have c4 : Steps p.tables e below (s₁.setTop (entryFrame m #[.ref b, .int (Int32.ofNat o), .int (Int32.ofNat len)] 6)) (T3.setTop (mkF m 3 #[.val (.ref b), .val (.int (Int32.ofNat o)), .val (.int (Int32.ofNat len)), .unset, .unset, .unset] [.ref s.heap.size])) := c2.trans (st3 _ (Steps.refl _))
  have c5 : Steps p.tables e below (s₁.setTop (entryFrame m #[.ref b, .int (Int32.ofNat o), .int (Int32.ofNat len)] 6)) (T3.setTop (mkF m 9 #[.val (.ref b), .val (.int (Int32.ofNat o)), .val (.int (Int32.ofNat len)), .val (.ref s.heap.size), .unset, .unset] [.int (Int32.ofNat len), .int 0, .ref s.heap.size, .int (Int32.ofNat o), .ref b])) := c4.trans (by
    refine XS.astoreN X3.here hexec rfl (hb hbytes d3) rfl rfl rfl ?_
    refine XS.aloadN X3.here hexec rfl (hb hbytes d4) rfl rfl ?_
    refine XS.iloadN X3.here hexec rfl (hb hbytes d5) rfl ?_
    refine XS.aloadN X3.here hexec rfl (hb hbytes d6) rfl rfl ?_
    refine iconstV X3.here hexec rfl 0 (hb hbytes d7) (by decide) ?_
    refine XS.iloadN X3.here hexec rfl (hb hbytes d8) rfl ?_
    exact Steps.refl _)
  obtain ⟨v6, T6, X6, E6, g6⟩ := X3.callS hexec (Cmp5.law l b A s.heap.size B3 o 0 len) hown (wks W (staticW U16 115 Cmp5.yN)) (wk W Cmp5.tab) (W := 0) (Nat.le_of_ble_eq_true rfl) (Nat.le_of_ble_eq_true rfl) (Nat.le_refl _) (by show 0 + len + 0 ≤ len; omega) (g := (mkF m 9 #[.val (.ref b), .val (.int (Int32.ofNat o)), .val (.int (Int32.ofNat len)), .val (.ref s.heap.size), .unset, .unset] [.int (Int32.ofNat len), .int (Int32.ofNat 0), .ref s.heap.size, .int (Int32.ofNat o), .ref b])) rfl (by rw [hml]; rfl) c5 (argsL := [.ref b, .int (Int32.ofNat o), .ref s.heap.size, .int (Int32.ofNat 0), .int (Int32.ofNat len)]) (rest := []) rfl rfl (by show 2 * 0 + 0 ≤ _; decide) (hb hbytes d9) (⟨rfl, hA3, ba3, hne, l1, by rw [bs3]; simp, hp⟩)
  obtain ⟨rfl, B6, p6, f6⟩ := E6
  have c7 : Steps p.tables e below (s₁.setTop (entryFrame m #[.ref b, .int (Int32.ofNat o), .int (Int32.ofNat len)] 6)) (T6.setTop (mkF m 12 #[.val (.ref b), .val (.int (Int32.ofNat o)), .val (.int (Int32.ofNat len)), .val (.ref s.heap.size), .unset, .unset] [.int (Int32.ofNat len)])) := g6
  have c8 : Steps p.tables e below (s₁.setTop (entryFrame m #[.ref b, .int (Int32.ofNat o), .int (Int32.ofNat len)] 6)) (T6.setTop (mkF m 58 #[.val (.ref b), .val (.int (Int32.ofNat o)), .val (.int (Int32.ofNat len)), .val (.ref s.heap.size), .val (.int (Int32.ofNat len)), .unset] [.ref s.heap.size])) := c7.trans (by
    refine XS.istore X6.here hexec rfl (hb hbytes d12) rfl rfl ?_
    refine XS.iload X6.here hexec rfl (hb hbytes d14) rfl ?_
    refine XS.iloadN X6.here hexec rfl (hb hbytes d16) rfl ?_
    refine XS.icmpYes X6.here hexec rfl (pc0 := 17) rfl (hb hbytes d17) rfl (ii_eq_t rfl) (by decide) rfl ?_
    refine XS.aloadN X6.here hexec rfl (hb hbytes d57) rfl rfl ?_
    exact Steps.refl _)
  have X8 := X6.wide (L' := []) (cells' := 1) (slots' := len) (fun x hx hlt => by
    simp only [List.nil_append, copyLocs, List.mem_map, List.mem_range] at hx
    obtain ⟨i, -, rfl⟩ := hx
    exact absurd hlt (Nat.lt_irrefl _)) (Nat.le_refl _) (by omega)
  exact ⟨T6, some (.ref s.heap.size), _, _, _, X8, rfl, rfl, rfl, (fun h => by cases h), ⟨⟨rfl, B6, ba3.like (X3.warmed.alike.symm.trans X6.warmed.alike) p6.1 f6.1 f6.2.1 f6.2.2.1, f6.2.1.trans bv3, by rw [X6.warmed.alike.findClass, f6.1]; exact bf3, by rw [f6.2.2.1, bs3]; simp, fun j hj => by rw [f6.2.2.2 j, if_pos (by omega)]; rfl, kp3.put p6 (Nat.le_refl _)⟩, by rw [p6.2.2, bh3, hh0]; simp⟩, fun fs hl => c8.trans (X8.areturnOut hexec rfl hret rfl (hb hbytes d58) hl)⟩
end Cmp3
namespace CodL
def yN : MethodName := ⟨"java/lang/StringUTF16", "coderFromArrayLen", "([BI)B"⟩
abbrev yB : ByteArray := jdk_52_method_15_code
theorem d0 : decode yB 0 = .ok (.iload_n 1, 1) := by decide +kernel
theorem d1 : decode yB 1 = .ok (.aload_n 0, 1) := by decide +kernel
theorem d2 : decode yB 2 = .ok (.arraylength, 1) := by decide +kernel
theorem d3 : decode yB 3 = .ok (.isub, 1) := by decide +kernel
theorem d4 : decode yB 4 = .ok (.bipush 31, 2) := by decide +kernel
theorem d6 : decode yB 6 = .ok (.iushr, 1) := by decide +kernel
theorem d7 : decode yB 7 = .ok (.i2b, 1) := by decide +kernel
theorem d8 : decode yB 8 = .ok (.ireturn, 1) := by decide +kernel
def site : List Cond := []
def tab : Cond := tabOf yN yB 2 (some .byte) site
def P (d : Addr) (B : Cell) (args : Array Value) (s : State) : Prop := args = #[.ref d, .int (Int32.ofNat B.slots.size)] ∧ Arr .byte d B s
def E (r : Option Value) (s u : State) : Prop := XT.PureE (some (.int 0)) r s u
/-- an array as long as the number of chars: LATIN1 -/
theorem law (l : Launch) (d : Addr) (B : Cell) : Law l yN 2 2 0 0 yB 2 (some .byte) site (P d B) E [] 0 0 := by
  refine Law.of_walk (plainFor_of_name (by decide +kernel)) (by decide +kernel) (by decide +kernel) (by decide) (fun _ _ h => by rw [h.1]; rfl) (fun _ U U' hal hh h => ⟨h.1, h.2.mv hal hh⟩) (fun r U U' V V' h1 hal h2 h => XT.PureE.mv r U U' V V' h1 hal h2 h) ?_
  intro p e s m args below meth c s₁ X0 hexec hbytes hml hret hlk hnm hown hh0 W hP
  obtain ⟨rfl, hB⟩ := hP
  have hB0 := hB.mv X0.warmed.alike hh0
  have c1 : Steps p.tables e below (s₁.setTop (entryFrame m #[.ref d, .int (Int32.ofNat B.slots.size)] 2)) (s₁.setTop (mkF m 0 #[.val (.ref d), .val (.int (Int32.ofNat B.slots.size))] [])) := entry rfl
  have c2 : Steps p.tables e below (s₁.setTop (entryFrame m #[.ref d, .int (Int32.ofNat B.slots.size)] 2)) (s₁.setTop (mkF m 2 #[.val (.ref d), .val (.int (Int32.ofNat B.slots.size))] [.ref d, .int (Int32.ofNat B.slots.size)])) := c1.trans (by
    refine XS.iloadN X0.here hexec rfl (hb hbytes d0) rfl ?_
    refine XS.aloadN X0.here hexec rfl (hb hbytes d1) rfl rfl ?_
    exact Steps.refl _)
  have c3 : Steps p.tables e below (s₁.setTop (entryFrame m #[.ref d, .int (Int32.ofNat B.slots.size)] 2)) (s₁.setTop (mkF m 8 #[.val (.ref d), .val (.int (Int32.ofNat B.slots.size))] [.int (lo8 (ushr (Int32.ofNat B.slots.size - Int32.ofNat B.slots.size) 31))])) := c2.trans (by
    refine X0.alen hexec hB0 rfl rfl (hb hbytes d2) ?_
    refine XS.isub X0.here hexec rfl (hb hbytes d3) rfl ?_
    refine bipushV X0.here hexec rfl 31 (hb hbytes d4) (by decide) ?_
    refine iushr X0.here hexec rfl (hb hbytes d6) rfl ?_
    refine i2b X0.here hexec rfl (hb hbytes d7) rfl ?_
    exact Steps.refl _)
  have e0 : lo8 (ushr (Int32.ofNat B.slots.size - Int32.ofNat B.slots.size) 31) = 0 := by rw [Int32.sub_self]; decide
  rw [e0] at c3
  exact ⟨s₁, some (.int 0), _, _, _, X0, rfl, rfl, rfl, (fun h => by cases h), ⟨rfl, hh0⟩, fun fs hl => c3.trans (X0.ireturnOut hexec hret rfl (Or.inr (Or.inr (Or.inl rfl))) (hb hbytes d8) hl)⟩
end CodL
/-- the String at a is Latin-1 over a new byte[] (the heap's one new cell): the low bytes of the len chars of A from o on; every cell but a is kept -/
def Got (a : Addr) (D : Cell) (fV fC : Field) (A : Cell) (o len : Nat) (r : Option Value) (s u : State) : Prop := r = none ∧ ∃ D' V : Cell, Blank "java/lang/String" a D' u ∧ Same D D' [fV.slot, fC.slot] ∧ D'.slots[fV.slot]? = some (.ref s.heap.size) ∧ D'.slots[fC.slot]? = some (.int 0) ∧ Arr .byte s.heap.size V u ∧ V.vm = .none ∧ u.vm.findClass "[B" = some V.cls ∧ V.slots.size = len ∧ (∀ j, j < len → V.slots[j]? = some (.int (lo8 (cv A (o + j))))) ∧ (∀ (y : Addr) (c : Cell), y ≠ a → s.heap[y]? = some c → u.heap[y]? = some c) ∧ u.heap.size = s.heap.size + 1
theorem Got.mv {a : Addr} {D A : Cell} {fV fC : Field} {o len : Nat} : ∀ r (U U' V V' : State), U'.heap = U.heap → V.vm.Alike V'.vm → V'.heap = V.heap → Got a D fV fC A o len r U V → Got a D fV fC A o len r U' V' :=
  fun r U U' V V' h1 hal h2 ⟨e0, D', X, a1, a2, a3, a4, a5, a6, a7, a8, a9, a10, a11⟩ => ⟨e0, D', X, a1.mv hal h2, a2, by rw [h1]; exact a3, a4, by rw [h1]; exact a5.mv hal h2, a6, by rw [hal.findClass]; exact a7, a8, a9, by rw [h1, h2]; exact a10, by rw [h1, h2]; exact a11⟩
namespace New4
def yN : MethodName := ⟨"java/lang/String", "<init>", "([CIILjava/lang/Void;)V"⟩
abbrev yB : ByteArray := jdk_42_method_149_code
theorem d0 : decode yB 0 = .ok (.aload_n 0, 1) := by decide +kernel
theorem d1 : decode yB 1 = .ok (.invokespecial 1, 3) := by decide +kernel
theorem d4 : decode yB 4 = .ok (.iload_n 3, 1) := by decide +kernel
theorem d5 : decode yB 5 = .ok (.ifCond (.ne) 22, 3) := by decide +kernel
theorem d27 : decode yB 27 = .ok (.getstatic 38, 3) := by decide +kernel
theorem d30 : decode yB 30 = .ok (.ifCond (.eq) 28, 3) := by decide +kernel
theorem d33 : decode yB 33 = .ok (.aload_n 1, 1) := by decide +kernel
theorem d34 : decode yB 34 = .ok (.iload_n 2, 1) := by decide +kernel
theorem d35 : decode yB 35 = .ok (.iload_n 3, 1) := by decide +kernel
theorem d36 : decode yB 36 = .ok (.invokestatic 177, 3) := by decide +kernel
theorem d39 : decode yB 39 = .ok (.astore 5, 2) := by decide +kernel
theorem d41 : decode yB 41 = .ok (.aload_n 0, 1) := by decide +kernel
theorem d42 : decode yB 42 = .ok (.aload 5, 2) := by decide +kernel
theorem d44 : decode yB 44 = .ok (.iload_n 3, 1) := by decide +kernel
theorem d45 : decode yB 45 = .ok (.invokestatic 47, 3) := by decide +kernel
theorem d48 : decode yB 48 = .ok (.putfield 15, 3) := by decide +kernel
theorem d51 : decode yB 51 = .ok (.aload_n 0, 1) := by decide +kernel
theorem d52 : decode yB 52 = .ok (.aload 5, 2) := by decide +kernel
theorem d54 : decode yB 54 = .ok (.putfield 9, 3) := by decide +kernel
theorem d57 : decode yB 57 = .ok (.return_, 1) := by decide +kernel
def site : List Cond := [.fieldLink "java/lang/String" 38 "java/lang/String" "COMPACT_STRINGS" "Z", Cmp3.tab, CodL.tab, .laysFinal "java/lang/String" "java/lang/String" "value" "[B", .fieldLink "java/lang/String" 9 "java/lang/String" "value" "[B", .laysFinal "java/lang/String" "java/lang/String" "coder" "B", .fieldLink "java/lang/String" 15 "java/lang/String" "coder" "B"] ++ objW "java/lang/String" 1 ++ staticW "java/lang/String" 177 Cmp3.yN ++ staticW "java/lang/String" 47 CodL.yN
def tab : Cond := tabOf yN yB 6 none site
def P (a : Addr) (D : Cell) (fV fC : Field) (b : Addr) (A : Cell) (z : Int32) (o len : Nat) (args : Array Value) (s : State) : Prop := args = #[.ref a, .ref b, .int (Int32.ofNat o), .int (Int32.ofNat len), .null] ∧ Blank "java/lang/String" a D s ∧ Found "java/lang/String" "value" "[B" fV s ∧ Found "java/lang/String" "coder" "B" fC s ∧ Ch b A s ∧ StaticIs s "java/lang/String" "COMPACT_STRINGS" "Z" (.int z) ∧ ¬ z = 0 ∧ 0 < len ∧ o + len ≤ A.slots.size ∧ len ≤ 536870912 ∧ ∀ i, i < len → ¬ 255 < cv A (o + i)
def E (a : Addr) (D : Cell) (fV fC : Field) (A : Cell) (o len : Nat) (r : Option Value) (s u : State) : Prop := Got a D fV fC A o len r s u
/-- len > 0, no char of the range above 255: a Latin-1 String of their low bytes -/
theorem law (l : Launch) (a : Addr) (D : Cell) (fV fC : Field) (b : Addr) (A : Cell) (z : Int32) (o len : Nat) : Law l yN 5 4 2 35 yB 6 none site (P a D fV fC b A z o len) (E a D fV fC A o len) [⟨a, fC.slot⟩, ⟨a, fV.slot⟩] 1 len := by
  refine Law.of_walk (plainFor_of_name (by decide +kernel)) (by decide +kernel) (by decide +kernel) (by decide) (fun _ _ h => by rw [h.1]; rfl) (fun _ U U' hal hh h => ⟨h.1, h.2.1.mv hal hh, h.2.2.1.al hal, h.2.2.2.1.al hal, h.2.2.2.2.1.mv hal hh, h.2.2.2.2.2.1.there hal hh, h.2.2.2.2.2.2⟩) (fun r U U' V V' h1 hal h2 h => Got.mv r U U' V V' h1 hal h2 h) ?_
  intro p e s m args below meth c s₁ X0 hexec hbytes hml hret hlk hnm hown hh0 W hP
  obtain ⟨rfl, hB, f1, f2, hA, s1, hz, l0, l1, l2, hp⟩ := hP
  have a31 := hA.1.2.2.2
  have c1 : Steps p.tables e below (s₁.setTop (entryFrame m #[.ref a, .ref b, .int (Int32.ofNat o), .int (Int32.ofNat len), .null] 6)) (s₁.setTop (mkF m 0 #[.val (.ref a), .val (.ref b), .val (.int (Int32.ofNat o)), .val (.int (Int32.ofNat len)), .val .null, .unset] [])) := entry rfl
  have c2 : Steps p.tables e below (s₁.setTop (entryFrame m #[.ref a, .ref b, .int (Int32.ofNat o), .int (Int32.ofNat len), .null] 6)) (s₁.setTop (mkF m 1 #[.val (.ref a), .val (.ref b), .val (.int (Int32.ofNat o)), .val (.int (Int32.ofNat len)), .val .null, .unset] [.ref a])) := c1.trans (by
    refine XS.aloadN X0.here hexec rfl (hb hbytes d0) rfl rfl ?_
    exact Steps.refl _)
  obtain ⟨T3, X3, q3, st3⟩ := X0.oinit hexec hown (wks W (objW "java/lang/String" 1)) (g := (mkF m 1 #[.val (.ref a), .val (.ref b), .val (.int (Int32.ofNat o)), .val (.int (Int32.ofNat len)), .val .null, .unset] [.ref a])) rfl (by rw [hml]; rfl) (rest := []) rfl (hb hbytes d1) (W := 0) (by show 2 * 0 + 0 ≤ _; decide) (Nat.le_of_ble_eq_true rfl) (Nat.le_of_ble_eq_true rfl)
  have hh3 := q3.trans hh0
  have c4 : Steps p.tables e below (s₁.setTop (entryFrame m #[.ref a, .ref b, .int (Int32.ofNat o), .int (Int32.ofNat len), .null] 6)) (T3.setTop (mkF m 27 #[.val (.ref a), .val (.ref b), .val (.int (Int32.ofNat o)), .val (.int (Int32.ofNat len)), .val .null, .unset] [])) := (c2.trans (st3 _ (Steps.refl _))).trans (by
    refine XS.iloadN X3.here hexec rfl (hb hbytes d4) rfl ?_
    refine XS.ifYes X3.here hexec rfl (pc0 := 5) rfl (hb hbytes d5) rfl (i0_ne_t (nz32 (by omega) l0)) (by decide) rfl ?_
    exact Steps.refl _)
  obtain ⟨T5, X5, q5, st5⟩ := X3.sget hexec hown (wk W (.fieldLink "java/lang/String" 38 "java/lang/String" "COMPACT_STRINGS" "Z")) s1 (fun _ _ h => by rw [hh3]; exact h) (g := (mkF m 27 #[.val (.ref a), .val (.ref b), .val (.int (Int32.ofNat o)), .val (.int (Int32.ofNat len)), .val .null, .unset] [])) rfl (hb hbytes d27)
  have hh5 := q5.trans hh3
  have c6 : Steps p.tables e below (s₁.setTop (entryFrame m #[.ref a, .ref b, .int (Int32.ofNat o), .int (Int32.ofNat len), .null] 6)) (T5.setTop (mkF m 30 #[.val (.ref a), .val (.ref b), .val (.int (Int32.ofNat o)), .val (.int (Int32.ofNat len)), .val .null, .unset] [.int z])) := c4.trans (st5 _ (Steps.refl _))
  have c7 : Steps p.tables e below (s₁.setTop (entryFrame m #[.ref a, .ref b, .int (Int32.ofNat o), .int (Int32.ofNat len), .null] 6)) (T5.setTop (mkF m 36 #[.val (.ref a), .val (.ref b), .val (.int (Int32.ofNat o)), .val (.int (Int32.ofNat len)), .val .null, .unset] [.int (Int32.ofNat len), .int (Int32.ofNat o), .ref b])) := c6.trans (by
    refine XS.ifNo X5.here hexec rfl (hb hbytes d30) rfl (i0_eq_f hz) ?_
    refine XS.aloadN X5.here hexec rfl (hb hbytes d33) rfl rfl ?_
    refine XS.iloadN X5.here hexec rfl (hb hbytes d34) rfl ?_
    refine XS.iloadN X5.here hexec rfl (hb hbytes d35) rfl ?_
    exact Steps.refl _)
  obtain ⟨v8, T8, X8, E8, g8⟩ := X5.callS hexec (Cmp3.law l b A o len) hown (wks W (staticW "java/lang/String" 177 Cmp3.yN)) (wk W Cmp3.tab) (W := 0) (Nat.le_of_ble_eq_true rfl) (Nat.le_of_ble_eq_true rfl) (Nat.le_refl _) (by show 0 + len ≤ len; omega) (g := (mkF m 36 #[.val (.ref a), .val (.ref b), .val (.int (Int32.ofNat o)), .val (.int (Int32.ofNat len)), .val .null, .unset] [.int (Int32.ofNat len), .int (Int32.ofNat o), .ref b])) rfl (by rw [hml]; rfl) c7 (argsL := [.ref b, .int (Int32.ofNat o), .int (Int32.ofNat len)]) (rest := []) rfl rfl (by show 2 * 0 + 0 ≤ _; decide) (hb hbytes d36) (⟨rfl, hA.mv X5.warmed.alike hh5, l1, l2, hp⟩)
  obtain ⟨e8, z8⟩ := E8
  obtain ⟨rfl, N, n1, n2, n3, n4, n5, n6⟩ := NewArr.mv _ T5 s _ _ hh5.symm (Vm.Alike.refl _) rfl e8
  rw [hh5] at z8
  have hB1 := hB.keep X8.warmed.alike (n6 _ _ hB.1)
  have hne : s.heap.size ≠ a := (Nat.ne_of_lt (Array.getElem?_eq_some_iff.mp hB.1).1).symm
  have c9 : Steps p.tables e below (s₁.setTop (entryFrame m #[.ref a, .ref b, .int (Int32.ofNat o), .int (Int32.ofNat len), .null] 6)) (T8.setTop (mkF m 39 #[.val (.ref a), .val (.ref b), .val (.int (Int32.ofNat o)), .val (.int (Int32.ofNat len)), .val .null, .unset] [.ref s.heap.size])) := g8
  have c10 : Steps p.tables e below (s₁.setTop (entryFrame m #[.ref a, .ref b, .int (Int32.ofNat o), .int (Int32.ofNat len), .null] 6)) (T8.setTop (mkF m 45 #[.val (.ref a), .val (.ref b), .val (.int (Int32.ofNat o)), .val (.int (Int32.ofNat len)), .val .null, .val (.ref s.heap.size)] [.int (Int32.ofNat N.slots.size), .ref s.heap.size, .ref a])) := by
    have hc : Steps p.tables e below (s₁.setTop (entryFrame m #[.ref a, .ref b, .int (Int32.ofNat o), .int (Int32.ofNat len), .null] 6)) (T8.setTop (mkF m 45 #[.val (.ref a), .val (.ref b), .val (.int (Int32.ofNat o)), .val (.int (Int32.ofNat len)), .val .null, .val (.ref s.heap.size)] [.int (Int32.ofNat len), .ref s.heap.size, .ref a])) := c9.trans (by
      refine XS.astore X8.here hexec rfl (hb hbytes d39) rfl rfl rfl ?_
      refine XS.aloadN X8.here hexec rfl (hb hbytes d41) rfl rfl ?_
      refine XS.aload X8.here hexec rfl (hb hbytes d42) rfl rfl ?_
      refine XS.iloadN X8.here hexec rfl (hb hbytes d44) rfl ?_
      exact Steps.refl _)
    rw [n4]; exact hc
  obtain ⟨v11, T11, X11, E11, g11⟩ := X8.callS hexec (CodL.law l s.heap.size N) hown (wks W (staticW "java/lang/String" 47 CodL.yN)) (wk W CodL.tab) (W := 1) (Nat.le_of_ble_eq_true rfl) (Nat.le_of_ble_eq_true rfl) (Nat.le_refl _) (by show 0 + len + 0 ≤ len; omega) (g := (mkF m 45 #[.val (.ref a), .val (.ref b), .val (.int (Int32.ofNat o)), .val (.int (Int32.ofNat len)), .val .null, .val (.ref s.heap.size)] [.int (Int32.ofNat N.slots.size), .ref s.heap.size, .ref a])) rfl (by rw [hml]; rfl) c10 (argsL := [.ref s.heap.size, .int (Int32.ofNat N.slots.size)]) (rest := [.ref a]) rfl rfl (by show 2 * 0 + (1 + 0) ≤ _; decide) (hb hbytes d45) (⟨rfl, n1⟩)
  obtain ⟨rfl, q11⟩ := E11
  have hB11 := hB1.mv (X8.warmed.alike.symm.trans X11.warmed.alike) q11
  have c12 : Steps p.tables e below (s₁.setTop (entryFrame m #[.ref a, .ref b, .int (Int32.ofNat o), .int (Int32.ofNat len), .null] 6)) (T11.setTop (mkF m 48 #[.val (.ref a), .val (.ref b), .val (.int (Int32.ofNat o)), .val (.int (Int32.ofNat len)), .val .null, .val (.ref s.heap.size)] [.int 0, .ref a])) := g11
  obtain ⟨T13, X13, p13, bl13, sl13, st13⟩ := X11.finit hexec hown (wk W (.fieldLink "java/lang/String" 15 "java/lang/String" "coder" "B")) (Or.inr ⟨_, (wk W (.laysFinal "java/lang/String" "java/lang/String" "coder" "B"))⟩) (Or.inl ⟨rfl, hnm⟩) f2 (Or.inl rfl) hB11 (t := .byte) (by decide +kernel) rfl (g := (mkF m 48 #[.val (.ref a), .val (.ref b), .val (.int (Int32.ofNat o)), .val (.int (Int32.ofNat len)), .val .null, .val (.ref s.heap.size)] [.int 0, .ref a])) rfl (rest := []) rfl (hb hbytes d48)
  have c14 : Steps p.tables e below (s₁.setTop (entryFrame m #[.ref a, .ref b, .int (Int32.ofNat o), .int (Int32.ofNat len), .null] 6)) (T13.setTop (mkF m 54 #[.val (.ref a), .val (.ref b), .val (.int (Int32.ofNat o)), .val (.int (Int32.ofNat len)), .val .null, .val (.ref s.heap.size)] [.ref s.heap.size, .ref a])) := (c12.trans (st13 _ (Steps.refl _))).trans (by
    refine XS.aloadN X13.here hexec rfl (hb hbytes d51) rfl rfl ?_
    refine XS.aload X13.here hexec rfl (hb hbytes d52) rfl rfl ?_
    exact Steps.refl _)
  obtain ⟨T15, X15, p15, bl15, sl15, st15⟩ := X13.finit hexec hown (wk W (.fieldLink "java/lang/String" 9 "java/lang/String" "value" "[B")) (Or.inr ⟨_, (wk W (.laysFinal "java/lang/String" "java/lang/String" "value" "[B"))⟩) (Or.inl ⟨rfl, hnm⟩) f1 (Or.inl rfl) bl13 (t := (.array .byte)) (by decide +kernel) rfl (g := (mkF m 54 #[.val (.ref a), .val (.ref b), .val (.int (Int32.ofNat o)), .val (.int (Int32.ofNat len)), .val .null, .val (.ref s.heap.size)] [.ref s.heap.size, .ref a])) rfl (rest := []) rfl (hb hbytes d54)
  have c16 : Steps p.tables e below (s₁.setTop (entryFrame m #[.ref a, .ref b, .int (Int32.ofNat o), .int (Int32.ofNat len), .null] 6)) (T15.setTop (mkF m 57 #[.val (.ref a), .val (.ref b), .val (.int (Int32.ofNat o)), .val (.int (Int32.ofNat len)), .val .null, .val (.ref s.heap.size)] [])) := c14.trans (st15 _ (Steps.refl _))
  have ap := apart (Or.inr ⟨_, (wk W (.laysFinal "java/lang/String" "java/lang/String" "value" "[B"))⟩) (Or.inr ⟨_, (wk W (.laysFinal "java/lang/String" "java/lang/String" "coder" "B"))⟩) f1 f2 (t₁ := .array .byte) (t₂ := .byte) (by decide +kernel) (by decide +kernel) (by decide)
  have al := X8.warmed.alike.symm.trans X15.warmed.alike
  have n7 : T11.heap[s.heap.size]? = some N := by rw [q11]; exact n1.1
  exact ⟨T15, none, _, _, _, X15, by simp, rfl, by omega, (fun _ => rfl), ⟨rfl, _, N, bl15, ((Same.refl D _).set _ (by simp)).set _ (by simp), sl15, (Cell.slots_setSlot_ne _ ap).trans sl13, n1.keep al (p15.other hne (p13.other hne n7)), n2, by rw [al.findClass]; exact n3, n4, n5, fun y c h1 h2 => p15.other h1 (p13.other h1 (by rw [q11]; exact n6 y c h2)), by rw [p15.2.2, p13.2.2, q11]; exact z8⟩, fun fs hl => c16.trans (X15.returnOut hexec hret (hb hbytes d57) hl)⟩
end New4
namespace New1
def yN : MethodName := ⟨"java/lang/String", "<init>", "([C)V"⟩
abbrev yB : ByteArray := jdk_42_method_3_code
theorem d0 : decode yB 0 = .ok (.aload_n 0, 1) := by decide +kernel
theorem d1 : decode yB 1 = .ok (.aload_n 1, 1) := by decide +kernel
theorem d2 : decode yB 2 = .ok (.iconst 0, 1) := by decide +kernel
theorem d3 : decode yB 3 = .ok (.aload_n 1, 1) := by decide +kernel
theorem d4 : decode yB 4 = .ok (.arraylength, 1) := by decide +kernel
theorem d5 : decode yB 5 = .ok (.aconst_null, 1) := by decide +kernel
theorem d6 : decode yB 6 = .ok (.invokespecial 27, 3) := by decide +kernel
theorem d9 : decode yB 9 = .ok (.return_, 1) := by decide +kernel
def site : List Cond := [New4.tab] ++ initW "java/lang/String" 27 New4.yN
def tab : Cond := tabOf yN yB 2 none site
def P (a : Addr) (D : Cell) (fV fC : Field) (b : Addr) (A : Cell) (z : Int32) (args : Array Value) (s : State) : Prop := args = #[.ref a, .ref b] ∧ Blank "java/lang/String" a D s ∧ Found "java/lang/String" "value" "[B" fV s ∧ Found "java/lang/String" "coder" "B" fC s ∧ Ch b A s ∧ StaticIs s "java/lang/String" "COMPACT_STRINGS" "Z" (.int z) ∧ ¬ z = 0 ∧ 0 < A.slots.size ∧ A.slots.size ≤ 536870912 ∧ ∀ i, i < A.slots.size → ¬ 255 < cv A i
def E (a : Addr) (D : Cell) (fV fC : Field) (A : Cell) (r : Option Value) (s u : State) : Prop := Got a D fV fC A 0 A.slots.size r s u
/-- new String(chars), not empty, no char above 255: a Latin-1 String of their low bytes -/
theorem law (l : Launch) (a : Addr) (D : Cell) (fV fC : Field) (b : Addr) (A : Cell) (z : Int32) : Law l yN 2 1 3 52 yB 2 none site (P a D fV fC b A z) (E a D fV fC A) [⟨a, fC.slot⟩, ⟨a, fV.slot⟩] 1 A.slots.size := by
  refine Law.of_walk (plainFor_of_name (by decide +kernel)) (by decide +kernel) (by decide +kernel) (by decide) (fun _ _ h => by rw [h.1]; rfl) (fun _ U U' hal hh h => ⟨h.1, h.2.1.mv hal hh, h.2.2.1.al hal, h.2.2.2.1.al hal, h.2.2.2.2.1.mv hal hh, h.2.2.2.2.2.1.there hal hh, h.2.2.2.2.2.2⟩) (fun r U U' V V' h1 hal h2 h => Got.mv r U U' V V' h1 hal h2 h) ?_
  intro p e s m args below meth c s₁ X0 hexec hbytes hml hret hlk hnm hown hh0 W hP
  obtain ⟨rfl, hB, f1, f2, hA, s1, hz, l0, l2, hp⟩ := hP
  have c1 : Steps p.tables e below (s₁.setTop (entryFrame m #[.ref a, .ref b] 2)) (s₁.setTop (mkF m 0 #[.val (.ref a), .val (.ref b)] [])) := entry rfl
  have c2 : Steps p.tables e below (s₁.setTop (entryFrame m #[.ref a, .ref b] 2)) (s₁.setTop (mkF m 6 #[.val (.ref a), .val (.ref b)] [.null, .int (Int32.ofNat A.slots.size), .int 0, .ref b, .ref a])) := c1.trans (by
    refine XS.aloadN X0.here hexec rfl (hb hbytes d0) rfl rfl ?_
    refine XS.aloadN X0.here hexec rfl (hb hbytes d1) rfl rfl ?_
    refine iconstV X0.here hexec rfl 0 (hb hbytes d2) (by decide) ?_
    refine XS.aloadN X0.here hexec rfl (hb hbytes d3) rfl rfl ?_
    refine X0.alen hexec (hA.1.mv X0.warmed.alike hh0) rfl rfl (hb hbytes d4) ?_
    refine XS.aconstNull X0.here hexec rfl (hb hbytes d5) ?_
    exact Steps.refl _)
  obtain ⟨v3, T3, X3, E3, g3⟩ := X0.callN hexec (New4.law l a D fV fC b A z 0 A.slots.size) rfl hown (wks W (initW "java/lang/String" 27 New4.yN)) (W New4.tab (by simp only [site, List.mem_cons, List.mem_append, true_or, or_true])) (W := 0) (Nat.le_of_ble_eq_true rfl) (Nat.le_of_ble_eq_true rfl) (Nat.le_refl _) (by show 0 + A.slots.size ≤ A.slots.size; omega) (g := (mkF m 6 #[.val (.ref a), .val (.ref b)] [.null, .int (Int32.ofNat A.slots.size), .int (Int32.ofNat 0), .ref b, .ref a])) rfl (by rw [hml]; rfl) c2 (argsL := [.ref b, .int (Int32.ofNat 0), .int (Int32.ofNat A.slots.size), .null]) (rest := []) rfl rfl (by show 2 * 0 + 0 ≤ _; decide) (hb hbytes d6) (⟨rfl, hB.mv X0.warmed.alike hh0, f1.al X0.warmed.alike, f2.al X0.warmed.alike, hA.mv X0.warmed.alike hh0, s1.there X0.warmed.alike hh0, hz, l0, by omega, l2, fun i hi => by rw [Nat.zero_add]; exact hp i hi⟩)
  have e0 := Got.mv _ s₁ s _ _ hh0.symm (Vm.Alike.refl _) rfl E3
  obtain rfl := e0.1
  have c4 : Steps p.tables e below (s₁.setTop (entryFrame m #[.ref a, .ref b] 2)) (T3.setTop (mkF m 9 #[.val (.ref a), .val (.ref b)] [])) := g3
  exact ⟨T3, none, _, _, _, X3, by simp, rfl, by omega, (fun _ => rfl), e0, fun fs hl => c4.trans (X3.returnOut hexec hret (hb hbytes d9) hl)⟩
theorem pays {l : Launch} {R : Room} {p : Program} {e : Env} {below : List Frame} {s : State} {sargs : Array Value} {len W : Nat} (a : Addr) (D : Cell) (fV fC : Field) (b : Addr) (A : Cell) (z : Int32) (htab : tab.before sargs s = true) (hfr : 4 ≤ R.frames) (hlo : W + 65 ≤ R.locals) :
    Back l R p e below s sargs yN len W (fun A₁ a₁ => A₁.cells + 1 ≤ R.cells ∧ A₁.slots + A.slots.size ≤ R.slots ∧ P a D fV fC b A z a₁ A₁.U) (fun A₁ _ v₁ B₁ => E a D fV fC A v₁ A₁.U B₁.U ∧ B₁.locs = A₁.locs ++ [⟨a, fC.slot⟩, ⟨a, fV.slot⟩] ∧ B₁.cells = A₁.cells + 1 ∧ B₁.slots = A₁.slots + A.slots.size) :=
  (law l a D fV fC b A z).pays htab hfr (by omega)
end New1
end StrChars
namespace StrChars.Road
open Jvm Sem ClassFile Op Lib Jvm.Stand Jvm.Free Jvm.Free.XT
open Jvm.Lib.Cold (StaticIs)
abbrev ST : String := "java/lang/String"
/-- every table word that New1's law asks, flat -/
abbrev words : List Jvm.Cond := [.code New1.yN New1.yB 2 none, .initialized ST, .methodLink ST 27 New4.yN, .instanceMethod New4.yN,
  .code New4.yN New4.yB 6 none, .fieldLink ST 38 ST "COMPACT_STRINGS" "Z", .laysFinal ST ST "value" "[B", .fieldLink ST 9 ST "value" "[B", .laysFinal ST ST "coder" "B", .fieldLink ST 15 ST "coder" "B",
  .methodLink ST 1 Lib.objectInit, .instanceMethod Lib.objectInit, .code Lib.objectInit ⟨#[0xb1]⟩ 1 none, .methodLink ST 177 Cmp3.yN, .static Cmp3.yN, .methodLink ST 47 CodL.yN, .static CodL.yN,
  .code Cmp3.yN Cmp3.yB 6 (some (.array .byte)), .initialized U16, .arrayClass .byte, .methodLink U16 115 Cmp5.yN, .static Cmp5.yN, .code Cmp5.yN Cmp5.yB 7 (some .int), .code CodL.yN CodL.yB 2 (some .byte)]
theorem tab_of {a : Array Value} {s : State} (h : ∀ w ∈ words, w.before a s = true) : New1.tab.before a s = true := by
  have h5 : Cmp5.tab.before a s = true := unparts (wk h (.code Cmp5.yN Cmp5.yB 7 (some .int))) (wks h (.initialized Cmp5.yN.cls :: Cmp5.site))
  have hc : CodL.tab.before a s = true := unparts (wk h (.code CodL.yN CodL.yB 2 (some .byte))) (wks h (.initialized CodL.yN.cls :: CodL.site))
  have q5 : ∀ w ∈ Cmp5.tab :: words, w.before a s = true := fun w hw => (List.mem_cons.mp hw).elim (fun e => e ▸ h5) (h w)
  have h3 : Cmp3.tab.before a s = true := unparts (wk q5 (.code Cmp3.yN Cmp3.yB 6 (some (.array .byte)))) (wks q5 (.initialized Cmp3.yN.cls :: Cmp3.site))
  have q3 : ∀ w ∈ Cmp3.tab :: CodL.tab :: words, w.before a s = true := fun w hw => (List.mem_cons.mp hw).elim (fun e => e ▸ h3) fun hw => (List.mem_cons.mp hw).elim (fun e => e ▸ hc) (h w)
  have h4 : New4.tab.before a s = true := unparts (wk q3 (.code New4.yN New4.yB 6 none)) (wks q3 (.initialized New4.yN.cls :: New4.site))
  have q4 : ∀ w ∈ New4.tab :: words, w.before a s = true := fun w hw => (List.mem_cons.mp hw).elim (fun e => e ▸ h4) (h w)
  exact unparts (wk q4 (.code New1.yN New1.yB 2 none)) (wks q4 (.initialized New1.yN.cls :: New1.site))
/-- the words ride from the start Z to the walk's own state -/
theorem moved {Z s : State} {a0 args : Array Value} (hZ : Z.Warmed39 s.vm) (hw : ∀ d ∈ words, d.before a0 Z = true) : ∀ d ∈ words, d.before args s = true := fun d hd => by
  have q := hw d hd
  have t : ∀ d ∈ words, d = .arrayClass .byte ∨ (d.onTables && d.keepsFace) = true := by decide +kernel
  rcases t d hd with rfl | t
  · exact RoadKit.mvA hZ q
  · exact RoadKit.mv hZ q t
/-- WHAT COMES BACK, over the tables of the start Z: h the heap at the call, h' behind it -/
def Q (Z : State) (x : Addr) (A : Cell) (h : Heap) (v : Option Value) (h' : Heap) (L : List Loc) : Prop := v = none ∧ (∀ y ∈ L, y.base = x) ∧ RoadKit.Keep h h' [x] ∧ h'.size = h.size + 1 ∧ RoadKit.Exa Z h' x ST ∧ RoadKit.Fld Z h' x ST "value" "[B" (.ref h.size) ∧ RoadKit.Fld Z h' x ST "coder" "B" (.int 0) ∧
  (∃ V : Cell, RoadKit.Arr Z h' h.size V .byte ∧ V.vm = .none ∧ Z.vm.findClass "[B" = some V.cls ∧ V.slots.size = A.slots.size ∧ ∀ j, j < A.slots.size → V.slots[j]? = some (.int (lo8 (cv A j)))) ∧
  ∀ (O n d : String) (w : Value), RoadKit.Fld Z h x O n d w → RoadKit.slotOf Z O n d ≠ RoadKit.slotOf Z ST "value" "[B" → RoadKit.slotOf Z O n d ≠ RoadKit.slotOf Z ST "coder" "B" → RoadKit.Fld Z h' x O n d w
/-- **new String(chars) AT A CALL, IN THE ROAD'S FORM**: for specialBack behind newO: x the fresh String, b the char[] with the cell A -/
theorem back {p : Program} {l : Launch} {e : Env} {R : Room} {s : State} {args : Array Value} {below : List Frame} {len W : Nat} {Z : State} {a0 : Array Value} {h : Heap} (hZ : Z.Warmed39 s.vm) (hw : ∀ d ∈ words, d.before a0 Z = true) {kI : Nat} (wi : (Jvm.Cond.instantiable ST kI).before a0 Z = true)
    {x b : Addr} {A : Cell} {z : Int32} {v0 c0 : Value} (E : RoadKit.Exa Z h x ST) (V : RoadKit.Fld Z h x ST "value" "[B" v0) (C : RoadKit.Fld Z h x ST "coder" "B" c0) (K : RoadKit.Arr Z h b A .char) (hty : Typed .char A) (S : RoadKit.Sta Z h ST "COMPACT_STRINGS" "Z" (.int z)) (hz : ¬ z = 0)
    (l0 : 0 < A.slots.size) (l2 : A.slots.size ≤ 536870912) (hp : ∀ i, i < A.slots.size → ¬ 255 < cv A i) (hfr : 4 ≤ R.frames) (hlo : W + 65 ≤ R.locals) :
    Back l R p e below s args New1.yN len W (fun P a => a = #[.ref x, .ref b] ∧ P.U.heap = h ∧ P.cells + 1 ≤ R.cells ∧ P.slots + A.slots.size ≤ R.slots)
      (fun P _ v B => ∃ L, Q Z x A h v B.U.heap L ∧ B.locs = P.locs ++ L ∧ B.cells = P.cells + 1 ∧ B.slots = P.slots + A.slots.size) := by
  intro m meth c P g ig mk a X hg hsize hdg hW hn hp'
  obtain ⟨rfl, rfl, r1, r2⟩ := hp'
  have al : Z.vm.Alike P.U.vm := hZ.alike.trans X.warmed.alike
  obtain ⟨D, cfV, kV, iV, fV, hD, gV, stV, knV, obV, asV, slV⟩ := id V
  obtain ⟨D', cfC, kC, iC, fC, hD', gC, stC, -, -, asC, slC⟩ := id C
  cases hD.symm.trans hD'
  obtain ⟨D2, kD, e1, e2, e3, e4, e5⟩ := id E
  cases hD.symm.trans e1
  obtain ⟨c2, k2, i1, i2, i3, -⟩ := Cond.instantiable_spec wi
  cases e2.symm.trans i1
  cases e3.symm.trans i2
  obtain ⟨kU, u1, u2⟩ := al.2.2 _ _ e3
  have hB : Blank ST x D P.U := ⟨hD, ⟨knV, fun q hq => by rw [hq] at obV; cases obV⟩, by rw [al.findClass]; exact e2, kU, u1, by rw [u2]; exact i3, by rw [u2]; exact e5 i3⟩
  have F1 : Found ST "value" "[B" fV P.U := ⟨SBG.found_only al ⟨cfV, kV, iV, gV⟩, stV⟩
  have F2 : Found ST "coder" "B" fC P.U := ⟨SBG.found_only al ⟨cfC, kC, iC, gC⟩, stC⟩
  have hA : Ch b A P.U := ⟨⟨K.1, State.isArrayOf_alike al K.2.1, K.2.2, by omega⟩, hty⟩
  have hS : StaticIs P.U ST "COMPACT_STRINGS" "Z" (.int z) := by
    obtain ⟨cfS, iS, kS, fS, st, cS, t1, t2, t3, t4, t5, t6, t7⟩ := S
    exact StaticIs.there (s := { Z with heap := P.U.heap }) ⟨cfS, iS, kS, fS, st, cS, t1, t2, t3, t4, t5, (fun q => by rw [q] at t6; cases t6), t7⟩ al rfl
  obtain ⟨v, B, X', ⟨⟨hv, E', V', q1, q2, q3, q4, q5, q6, q7, q8, q9, q10, q11⟩, hl, hc, hs⟩, st⟩ := New1.pays x D fV fC b A z (tab_of (moved hZ hw)) hfr hlo m meth c P g ig mk _ X hg hsize hdg hW hn ⟨r1, r2, rfl, hB, F1, F2, hA, hS, hz, l0, l2, hp⟩
  have al' : Z.vm.Alike B.U.vm := hZ.alike.trans X'.warmed.alike
  have hsz : E'.slots.size = D.slots.size := by
    obtain ⟨-, -, -, kB, w1, w2, w3⟩ := q1
    obtain ⟨kB', y1, y2⟩ := al'.2.2 _ _ e3
    rw [q2.2.1] at w1
    cases w1.symm.trans y1
    rw [w3, e5 i3, y2]
  refine ⟨v, B, X', ⟨_, ⟨hv, ?_, ⟨by omega, fun y cy hy hn' => q10 y cy (by simpa using hn') hy, fun y cy hy => ?_⟩, q11, ⟨E', _, q1.1, by rw [q2.2.1]; exact e2, by rw [q2.2.1]; exact e3, by rw [q2.1]; exact obV, fun _ => by rw [hsz]; exact e5 i3⟩,
    ⟨E', cfV, kV, iV, fV, q1.1, gV, stV, by rw [q2.1]; exact knV, by rw [q2.1]; exact obV, by rw [q2.2.1]; exact asV, q3⟩, ⟨E', cfC, kC, iC, fC, q1.1, gC, stC, by rw [q2.1]; exact knV, by rw [q2.1]; exact obV, by rw [q2.2.1]; exact asC, q4⟩,
    ⟨V', ⟨q5.1, State.isArrayOf_alike al'.symm q5.2.1, q5.2.2.1⟩, q6, by rw [← al'.findClass]; exact q7, q8, fun j hj => by have := q9 j hj; rwa [Nat.zero_add] at this⟩, fun O n d w F n1 n2 => ?_⟩, hl, hc, hs⟩, st⟩
  · intro y hy
    simp only [List.mem_cons, List.not_mem_nil, or_false] at hy
    rcases hy with rfl | rfl <;> rfl
  · by_cases q : y = x
    · subst q
      cases hD.symm.trans hy
      exact ⟨E', q1.1, q2.2.1, q2.1, hsz⟩
    · exact ⟨cy, q10 y cy q hy, rfl, rfl, rfl⟩
  · obtain ⟨D3, cf, k, i, f, g1, g2, g3, g4, g5, g6, g7⟩ := F
    cases hD.symm.trans g1
    simp only [RoadKit.slotOf, g2, gV, gC, Option.map_some, Option.getD_some] at n1 n2
    exact ⟨E', cf, k, i, f, q1.1, g2, g3, by rw [q2.1]; exact g4, by rw [q2.1]; exact g5, by rw [q2.2.1]; exact g6, by rw [q2.2.2 f.slot (by simp [n1, n2])]; exact g7⟩
end StrChars.Road
namespace StrChars.Road
open Jvm Sem ClassFile Op Lib Jvm.Stand Jvm.Free Jvm.Free.XT
/-- WHAT COMES BACK, the byte[] as a list of values -/
def QA (Z : State) (x : Addr) (zn : Int32) (cs : List Int32) (h : Heap) (v : Option Value) (h' : Heap) (L : List Loc) : Prop := v = none ∧ (∀ y ∈ L, y.base = x) ∧ RoadKit.Keep h h' [x] ∧ h'.size = h.size + 1 ∧ RoadKit.Exa Z h' x ST ∧ RoadKit.Fld Z h' x ST "value" "[B" (.ref h.size) ∧ RoadKit.Fld Z h' x ST "coder" "B" (.int 0) ∧
  (∃ kb, Z.vm.findClass "[B" = some kb ∧ RoadKit.Arv Z h' h.size kb .byte zn (cs.map fun c => .int (lo8 c)) (.int 0)) ∧
  ∀ (O n d : String) (w : Value), RoadKit.Fld Z h x O n d w → RoadKit.slotOf Z O n d ≠ RoadKit.slotOf Z ST "value" "[B" → RoadKit.slotOf Z O n d ≠ RoadKit.slotOf Z ST "coder" "B" → RoadKit.Fld Z h' x O n d w
/-- **new String(chars) AT A CALL, THE ARRAYS AS LISTS**: the char[] at b holds cs, not empty, no char above 255 -/
theorem backArv {p : Program} {l : Launch} {e : Env} {R : Room} {s : State} {args : Array Value} {below : List Frame} {len W : Nat} {Z : State} {a0 : Array Value} {h : Heap} (hZ : Z.Warmed39 s.vm) (hw : ∀ d ∈ words, d.before a0 Z = true) {kI : Nat} (wi : (Jvm.Cond.instantiable ST kI).before a0 Z = true)
    {x b : Addr} {k : ClassId} {zn z : Int32} {cs : List Int32} {dv v0 c0 : Value} (E : RoadKit.Exa Z h x ST) (V : RoadKit.Fld Z h x ST "value" "[B" v0) (C : RoadKit.Fld Z h x ST "coder" "B" c0) (K : RoadKit.Arv Z h b k .char zn (cs.map Value.int) dv) (S : RoadKit.Sta Z h ST "COMPACT_STRINGS" "Z" (.int z)) (hz : ¬ z = 0)
    (hlen : zn.toNatClampNeg = cs.length) (h0 : 0 < cs.length) (hbig : cs.length ≤ 536870912) (hall : ∀ c ∈ cs, ¬ 255 < c) (hfr : 4 ≤ R.frames) (hlo : W + 65 ≤ R.locals) :
    Back l R p e below s args New1.yN len W (fun P a => a = #[.ref x, .ref b] ∧ P.U.heap = h ∧ P.cells + 1 ≤ R.cells ∧ P.slots + cs.length ≤ R.slots)
      (fun P _ v B => ∃ L, QA Z x zn cs h v B.U.heap L ∧ B.locs = P.locs ++ L ∧ B.cells = P.cells + 1 ∧ B.slots = P.slots + cs.length) := by
  obtain ⟨A, K1, K2, K3, K4, K5, K6⟩ := K
  have e : A.slots.size = cs.length := K3.trans hlen
  have hat : ∀ (i : Nat) (hi : i < cs.length), A.slots[i]? = some (.int cs[i]) := fun i hi => by rw [K5 i (by omega)]; simp [List.getD_eq_getElem?_getD, hi]
  have hcv : ∀ (i : Nat) (hi : i < cs.length), cv A i = cs[i] := fun i hi => by unfold cv; rw [hat i hi]
  have hty : Typed .char A := fun i v hv => by
    have hi : i < A.slots.size := (Array.getElem?_eq_some_iff.mp hv).1
    have q := K5 i hi
    rw [hv] at q
    rw [Option.some.inj q]
    exact K6 i hi
  refine Back.mono (back hZ hw wi E V C K1 hty S hz (by omega) (by omega) (fun i hi => by rw [hcv i (by omega)]; exact hall _ (List.getElem_mem _)) hfr hlo) (fun P a hp => ⟨hp.1, hp.2.1, hp.2.2.1, by rw [e]; exact hp.2.2.2⟩) (fun P a v B hp hq => ?_)
  obtain ⟨L, ⟨q1, q2, q3, q4, q5, q6, q7, ⟨V', v1, v2, v3, v4, v5⟩, q9⟩, hl, hc, hs⟩ := hq
  refine ⟨L, ⟨q1, q2, q3, q4, q5, q6, q7, ⟨V'.cls, v3, V', v1, rfl, by rw [v4, e, hlen], K4, fun i hi => ?_, fun i hi => ?_⟩, q9⟩, hl, hc, by rw [hs, e]⟩
  · have hi' : i < cs.length := by omega
    rw [v5 i (by omega), hcv i hi']; simp [List.getD_eq_getElem?_getD, hi']
  · have hi' : i < cs.length := by omega
    simp only [List.getD_eq_getElem?_getD, List.getElem?_map, List.getElem?_eq_getElem hi', Option.map_some, Option.getD_some]
    exact fits_lo8 _
end StrChars.Road
namespace StrChars.Road
open Jvm Sem ClassFile Op Lib Jvm.Stand Jvm.Free Jvm.Free.XT
/-- WHAT COMES BACK, in the writer's own shape -/
def QV (Z : State) (x : Addr) (N : Int32) (bs : List Int32) (h : Heap) (n0 : Nat) (v : Option Value) (h' : Heap) (L : List Loc) : Prop := v = none ∧ RoadKit.Fr n0 L ∧ RoadKit.Keep h h' [x] ∧ RoadKit.Exa Z h' x ST ∧ RoadKit.Fld Z h' x ST "coder" "B" (.int 0) ∧
  ∃ (t : Addr) (kb : ClassId), n0 ≤ t ∧ h.size ≤ t ∧ ¬ t = x ∧ RoadKit.Fld Z h' x ST "value" "[B" (.ref t) ∧ RoadKit.Arv Z h' t kb .byte N (bs.map Value.int) (.int 0)
/-- **new String(chars) AT A CALL, FOR THE WRITER**: a char[] of n known ints, each 0 to 255 -/
theorem backV {p : Program} {l : Launch} {e : Env} {R : Room} {s : State} {args : Array Value} {below : List Frame} {len W : Nat} {Z : State} {a0 : Array Value} {h : Heap} (hZ : Z.Warmed39 s.vm) (hw : ∀ d ∈ words, d.before a0 Z = true) {kI : Nat} (wi : (Jvm.Cond.instantiable ST kI).before a0 Z = true)
    {x b : Addr} {kC : ClassId} {cs bs : List Int32} {d v0 c0 : Value} {z N : Int32} {n n0 : Nat} (hx0 : n0 ≤ x) (hh0 : n0 ≤ h.size) (E : RoadKit.Exa Z h x ST) (V : RoadKit.Fld Z h x ST "value" "[B" v0) (C : RoadKit.Fld Z h x ST "coder" "B" c0) (K : RoadKit.Arv Z h b kC .char N (cs.map Value.int) d) (S : RoadKit.Sta Z h ST "COMPACT_STRINGS" "Z" (.int z)) (hz : ¬ z = 0)
    (hn : cs.length = n) (hN : N = Int32.ofNat n) (l0 : 0 < n) (l2 : n ≤ 4000) (hp : ∀ c ∈ cs, ¬ c < 0 ∧ ¬ (255 : Int32) < c) (hb : bs = cs.map (fun c => c.toInt8.toInt32)) (hfr : 4 ≤ R.frames) (hlo : W + 65 ≤ R.locals) :
    Back l R p e below s args (⟨"java/lang/String", "<init>", "([C)V"⟩ : MethodName) len W (fun P a => a = #[.ref x, .ref b] ∧ P.U.heap = h ∧ P.cells + 1 ≤ R.cells ∧ P.slots + n ≤ R.slots)
      (fun P _ v B => ∃ L, QV Z x N bs h n0 v B.U.heap L ∧ B.locs = P.locs ++ L ∧ B.cells = P.cells + 1 ∧ B.slots = P.slots + n) := by
  subst hn hN hb
  refine Back.mono (backArv hZ hw wi E V C K S hz (n32 (by omega)) l0 (by omega) (fun c hc => (hp c hc).2) hfr hlo) (fun P a hp => hp) (fun P a v B hp hq => ?_)
  obtain ⟨L, ⟨q1, q2, q3, q4, q5, q6, q7, ⟨kb, v1, v2⟩, q9⟩, hl, hc, hs⟩ := hq
  exact ⟨L, ⟨q1, fun y hy => by rw [q2 y hy]; exact hx0, q3, q5, q7, h.size, kb, hh0, Nat.le_refl _, Nat.ne_of_gt E.lt, q6, by rw [List.map_map]; exact v2⟩, hl, hc, hs⟩
end StrChars.Road
end Jvm.Pilot.@@N@@
namespace Jvm.OwnK
def EL : List (String × Nat) := [("java/lang/String", 7)]
end Jvm.OwnK
namespace Jvm.OwnK
open Sem ClassFile Op Lib Jvm.Stand Jvm.Free Jvm.LawKit Jvm.RoadKit
/-- what a body leaves: Q of its value and heap; what it wrote lies in new cells; the old cells stand -/
def Out (Z s : State) (Q : Option Value → Heap → Prop) (k n : Nat) (o : Outcome) (U : State) : Prop :=
  ∃ v L, o = .returned v ∧ (Q v U.heap ∧ Fr Z.heap.size L ∧ Old Z Z.heap.size U.heap) ∧ CHr Z EL s.vm s.heap U.vm U.heap ∧ ReturnedEndW s o U L k n
/-- the words under which String constants are loaded -/
def Wd (Z : State) : Prop := ∃ a0, EW Z a0 EL ∧ ∀ a ∈ Bundle.stringAtoms, a.before a0 Z = true
/-- from here the walk ends, and G holds of its end -/
def Go (tb : Tables) (e : Env) (below : List Frame) (G : Outcome → State → Prop) (T : State) (F : JFrame) : Prop :=
  ∃ s₂ o, Steps tb e below (T.setTop F) s₂ ∧ s₂.status = .running ∧ Ended s₂ below o ∧ G o s₂
/-- where the walk stands, with its heap -/
def Wk (p : Program) (l : Launch) (e : Env) (R : Room) (s : State) (m : MethodId) (args : Array Value) (below : List Frame) (meth : Method) (c : Code) (Z T : State) (h : Heap) (k n : Nat) (ss : List Addr) : Prop :=
  ∃ locs vm0 k0, Stand p l e R (s.setVm vm0) m args below meth c T locs k n ∧ T.heap = h ∧ Fr Z.heap.size locs ∧ Old Z Z.heap.size h ∧ s.Since vm0 k0 ∧ k0 ≤ h.size ∧ CHr Z EL s.vm s.heap vm0 h ∧ ∀ x ∈ ss, x < h.size ∧ Safe Z EL vm0 h x
/-- what is known of the body -/
def Bdy (p : Program) (Z s : State) (m : MethodId) (meth : Method) (c : Code) (own : String) (bytes : ByteArray) (maxL : Nat) (ret : Option FieldType) (nm : String) : Prop :=
  p.tables.exec = Jvm.exec ∧ Z.Warmed39 s.vm ∧ s.vm.findClass own = some m.cls ∧ c.code = bytes ∧ c.maxLocals = maxL ∧ meth.sig.returnType = ret ∧ meth.locks = false ∧ meth.name = nm ∧ Wd Z
/-- a contract -/
def Con (l : Launch) (Z : State) (y : MethodName) (bytes : ByteArray) (maxL : Nat) (ret : Option FieldType) (ws : List Cond) (rm : Room) (as' : Array Value) (h0 : Heap) (Q : Option Value → Heap → Prop) (ss : List Addr) : Prop :=
  Wd Z → Old Z Z.heap.size h0 → MetFree l y (head1 (Cond.code y bytes maxL ret :: ws) rm) (fun a U => a = as' ∧ Z.Warmed39 U.vm ∧ U.heap = h0 ∧ CHv Z EL U.vm h0 ∧ ∀ x ∈ ss, x < h0.size ∧ Safe Z EL U.vm h0 x) (fun _ _ _ _ _ => True) (fun _ U o U' => Out Z U Q rm.cells rm.slots o U')
def bi (b : Bool) : Int32 := if b then 1 else 0
theorem bi_t {b : Bool} (h : b = true) : ¬ bi b = 0 := by subst h; decide
theorem bi_f {b : Bool} (h : b = false) : bi b = 0 := by subst h; rfl
theorem bi_nar (b : Bool) : nar .boolean (bi b) = bi b := by cases b <;> rfl
theorem bi_tt : bi true = 1 := rfl
theorem bi_ff : bi false = 0 := rfl
theorem bi_inj {a b : Bool} : (bi a = bi b) = (a = b) := by cases a <;> cases b <;> decide
theorem own_nb (b : Bool) : narrow .boolean (.int (bi b)) = .int (bi b) := by cases b <;> rfl
theorem own_fb (b : Bool) : fits .boolean (.int (bi b)) = true := by cases b <;> rfl
theorem own_fr {t : FieldType} {v : Value} (ht : t.isReference = true) (hv : v.isRef = true) : fits t v = true := by cases t <;> cases v <;> first | rfl | (exfalso; revert ht hv; simp [FieldType.isReference, Value.isRef]; done)
theorem own_i2c (a : Int32) : ∃ x : Int32, a.toUInt32.toUInt16.toUInt32.toInt32 = x ∧ nar .char x = x ∧ 0 ≤ x.toInt ∧ x.toInt < 65536 := by
  refine ⟨_, rfl, ?_, (c_i2c a).2.1, (c_i2c a).2.2⟩
  show (a.toUInt32.toUInt16.toUInt32.toInt32).toUInt32.toUInt16.toUInt32.toInt32 = _
  simp only [UInt32.toUInt32_toInt32, UInt16.toUInt16_toUInt32]
theorem own_i2cm (a : Int32) : ∃ x : Int32, (a &&& 255).toUInt32.toUInt16.toUInt32.toInt32 = x ∧ nar .char x = x ∧ ¬ x < 0 ∧ ¬ 255 < x := by
  refine ⟨_, rfl, ?_, ?_⟩
  · show ((a &&& 255).toUInt32.toUInt16.toUInt32.toInt32).toUInt32.toUInt16.toUInt32.toInt32 = _
    simp only [UInt32.toUInt32_toInt32, UInt16.toUInt16_toUInt32]
  · rw [i2c_mask]
    have q := c_and a 255 (by decide)
    simp only [Int32.lt_iff_toInt_lt, Int32.reduceToInt] at *; omega
theorem own_and1 {a b : Bool} (h : b = true) : (bi a &&& 1) = bi (a && b) := by subst h; cases a <;> decide
theorem own_and0 {a b : Bool} (h : b = false) : (bi a &&& 0) = bi (a && b) := by subst h; cases a <;> decide
theorem own_andb (a b : Bool) : (bi a &&& bi b) = bi (a && b) := by cases a <;> cases b <;> decide
theorem own_inc (i : Nat) : Int32.ofNat i + 1 = Int32.ofNat (i + 1) := (Int32.ofNat_add i 1).symm
theorem own_ofNat {i : Nat} (h : i < 2147483648) : (Int32.ofNat i).toInt = i := by
  have := Int32.toInt_ofNat_of_lt (n := i) (by omega); exact this
theorem own_clamp {i : Nat} (h : i < 2147483648) : (Int32.ofNat i).toNatClampNeg = i := by
  simp only [Int32.toNatClampNeg, own_ofNat h]; omega
theorem own_lt {i j : Nat} (hi : i < 2147483648) (hj : j < 2147483648) : (Int32.ofNat i < Int32.ofNat j) ↔ i < j := by
  rw [Int32.lt_iff_toInt_lt, own_ofNat hi, own_ofNat hj]; omega
theorem own_ixok {i n : Nat} (hi : i < n) (hn : n < 2147483648) : ¬ Int32.ofNat i < 0 ∧ Int32.ofNat i < Int32.ofNat n := by
  refine ⟨?_, (own_lt (by omega) hn).mpr hi⟩
  rw [Int32.lt_iff_toInt_lt, own_ofNat (by omega)]; show ¬ ((i : Int) < 0); omega
theorem nar_b0 : nar .boolean 0 = 0 := by decide
theorem nar_b1 : nar .boolean 1 = 1 := by decide
theorem old_le {Z : State} {h : Heap} (O : Old Z Z.heap.size h) : Z.heap.size ≤ h.size := O.2.1
theorem nlt {x : Addr} {n : Nat} (h : x < n) : @LT.lt Nat _ x n := h
theorem nne {x y : Addr} (h : ¬ @Eq Nat x y) : x ≠ y := h
theorem own_root {Z : State} {a0 : Array Value} {O K : String} {kk : Nat} (w : (Cond.noSuperclass O).before a0 Z = true) (wk : (Cond.instantiable K kk).before a0 Z = true) (hn : O ≠ K) : NS Z O K := by
  obtain ⟨c, k, h1, h2, h3, -, -⟩ := Cond.noSuperclass_spec w
  obtain ⟨t, kt, g1, -⟩ := Cond.instantiable_spec wk
  have ne := ids_ne h1 g1 hn
  refine ⟨c, t, h1, g1, fun fuel => ?_⟩
  cases fuel with
  | zero => rfl
  | succ f => simp [Vm.isSubclassAux, ne, h2, h3]
theorem own_no {Z : State} {a0 : Array Value} {C S K : String} {kk : Nat} (w : (Cond.superclass C S).before a0 Z = true) (wk : (Cond.instantiable K kk).before a0 Z = true) (n : NS Z C K) (hn : C ≠ K) : ∃ c t, Z.vm.findClass C = some c ∧ Z.vm.findClass K = some t ∧ Z.vm.assignable c t = false := by
  obtain ⟨c, t, h0, g0, n3⟩ := n
  obtain ⟨p, k, kp, h1, h2, h3, h4, h5, -, h7⟩ := Cond.superclass_spec h0 w
  obtain ⟨t', kt, g1, g2, g3, g4, -⟩ := Cond.instantiable_spec wk
  cases g0.symm.trans g1
  have ne := ids_ne h0 g0 hn
  have g5 : kt.isInterface = false := by cases hq : kt.isInterface <;> simp [hq] at g4 ⊢
  refine ⟨c, t, h0, g0, ?_⟩
  show Z.vm.assignableAux (255 + 1) c t = false
  simp [Vm.assignableAux, ne, h2, g2, h5, g3, g5, Vm.isSubclass, n3]
theorem own_03 (x : Int32) : (x &&& 3) = 0 ∨ (x &&& 3) = 1 ∨ (x &&& 3) = 2 ∨ (x &&& 3) = 3 := by
  have q := c_and x 3 (by decide)
  simp only [← Int32.toInt_inj, Int32.reduceToInt] at *; omega
section K
variable {p : Program} {l : Launch} {e : Env} {R : Room} {s : State} {m : MethodId} {args : Array Value} {below : List Frame} {meth : Method} {c : Code} {Z T T' : State} {h h' : Heap} {k n : Nat} {own nm : String} {bytes : ByteArray} {maxL : Nat} {ret : Option FieldType} {G : Outcome → State → Prop} {pc : Nat} {ls : Array Slot} {st : List Value} {Q : Option Value → Heap → Prop} {a0 : Array Value} {ss : List Addr}
theorem Bdy.nameOf (B : Bdy p Z s m meth c own bytes maxL ret nm) : meth.name = nm := B.2.2.2.2.2.2.2.1
theorem Go.by {tb : Tables} {F F' : JFrame} (hs : ∀ t, Steps tb e below (T'.setTop F') t → Steps tb e below (T.setTop F) t) (q : Go tb e below G T' F') : Go tb e below G T F := by
  obtain ⟨s2, o, a, b⟩ := q; exact ⟨s2, o, hs _ a, b⟩
theorem own_gc {tb : Tables} {v v' : Int32} (hv : v = v') (q : Go tb e below G T (mkF m pc ls (.int v :: st))) : Go tb e below G T (mkF m pc ls (.int v' :: st)) := hv ▸ q
theorem Go.cast {tb : Tables} {F F' : JFrame} (hs : F = F') (q : Go tb e below G T F') : Go tb e below G T F := hs ▸ q
theorem Con.of {y : MethodName} {ws : List Cond} {rm : Room} {as' : Array Value} {h0 : Heap} (hpl : plainFor y = true)
    (body : ∀ p e s m below meth c T, Bdy p Z s m meth c y.cls bytes maxL ret y.name → Wk p l e rm s m as' below meth c Z T h0 0 0 ss → Go p.tables e below (Out Z s Q rm.cells rm.slots) T (entryFrame m as' maxL)) : Con l Z y bytes maxL ret ws rm as' h0 Q ss := by
  intro hWd hO
  refine MetFree.of_bodySF hpl hisR ?_
  intro p e s m args below meth c s₁ Bd hml0 hP hK
  obtain ⟨rfl, hZ, hh, hC, hss⟩ := hP
  subst hh
  exact body p e s m below meth c s₁ ⟨Bd.exec, hZ, findClass_of_methodNamed Bd.named, Bd.bytes, hml0, Bd.returns, Bd.notSynchronized, (name_of_methodNamed Bd.named Bd.method).1, hWd⟩ ⟨[], s.vm, s.heap.size, Stand.of_body Bd, by rw [Bd.state]; rfl, Fr.nil _, hO, (State.WarmedH.refl s).since _, Nat.le_refl _, CHr.refl hC, hss⟩
theorem Bdy.at {vm0 : Vm} {k0 : Nat} (B : Bdy p Z s m meth c own bytes maxL ret nm) (S : s.Since vm0 k0) : Bdy p Z (s.setVm vm0) m meth c own bytes maxL ret nm :=
  ⟨B.1, State.Warmed39.trans B.2.1 S.1, (S.1.alike.findClass _ _).trans B.2.2.1, B.2.2.2⟩
theorem Wk.size (W : Wk p l e R s m args below meth c Z T h k n ss) : Z.heap.size ≤ h.size := by obtain ⟨_, _, _, _, _, _, O, _⟩ := W; exact O.2.1
theorem Wk.old (W : Wk p l e R s m args below meth c Z T h k n ss) : Old Z Z.heap.size h := by obtain ⟨_, _, _, _, _, _, O, _⟩ := W; exact O
theorem Sta.old {C nf d : String} {v : Value} (F : Sta Z Z.heap C nf d v) (W : Old Z Z.heap.size h) : Sta Z h C nf d v := F.ext W.2
theorem Wk.sub {ss' : List Addr} (W : Wk p l e R s m args below meth c Z T h k n ss) (hs : ∀ x ∈ ss', x ∈ ss) : Wk p l e R s m args below meth c Z T h k n ss' := by
  obtain ⟨locs, vm0, k0, X, eT, N, O, S, hk, H, hss⟩ := W
  exact ⟨locs, vm0, k0, X, eT, N, O, S, hk, H, fun x q => hss x (hs x q)⟩
theorem Wk.more {k' n' : Nat} (W : Wk p l e R s m args below meth c Z T h k n ss) (hk : k ≤ k') (hn : n ≤ n') : Wk p l e R s m args below meth c Z T h k' n' ss := by
  obtain ⟨locs, vm0, k0, X, r⟩ := W; exact ⟨locs, vm0, k0, X.more hk hn, r⟩
/-! ### the ends -/
theorem go_end (B : Bdy p Z s m meth c own bytes maxL ret nm) (W : Wk p l e R s m args below meth c Z T h k n ss) {F : JFrame} {v : Option Value} {k' n' : Nat} (hv : ret = none → v = none) (hQ : Q v h) (hk : k ≤ k') (hn : n ≤ n')
    (hst : ∀ (s : State) (locs : List Loc) (fs : List Frame), Stand p l e R s m args below meth c T locs k n → (∀ (f : JFrame) (acts : List Action), f.method = m → f.locked = none → f.entered = [] → (doReturn e (T.setTop f) acts v).1 = T.setFrames fs) → Steps p.tables e below (T.setTop F) (T.setFrames fs)) :
    Go p.tables e below (Out Z s Q k' n') T F := by
  obtain ⟨locs, vm0, k0, X, eT, N, O, S, hk0, H, hss⟩ := W
  have B' := B.at S
  obtain ⟨a0, hEW, -⟩ := B.2.2.2.2.2.2.2.2
  obtain ⟨fs, hr, hrun, hended, e1, e2, e3, e4⟩ := X.leaveW S (by rw [eT]; exact hk0) (v := v) (fun q => hv (B.2.2.2.2.2.1 ▸ q)) B.2.2.2.2.2.2.1
  have eT' : (T.setFrames fs).heap = h := eT
  have H2 := H.trans (CHv.at X B'.2.1 hEW H.1)
  exact ⟨_, _, hst _ locs fs X hr, hrun, hended, _, _, rfl, ⟨by rw [eT']; exact hQ, N, by rw [eT']; exact O⟩, by rw [eT']; exact H2, e1, e2, e3, e4.mono hk hn⟩
theorem r_i (B : Bdy p Z s m meth c own bytes maxL (some .int) nm) (W : Wk p l e R s m args below meth c Z T h k n ss) {z : Int32} {k' n' : Nat} (hd : decode bytes pc = .ok (.ireturn, 1)) (hk : k ≤ k') (hn : n ≤ n') (hQ : Q (some (.int z)) h) : Go p.tables e below (Out Z s Q k' n') T (mkF m pc ls (.int z :: st)) :=
  go_end B W (fun q => by cases q) hQ hk hn fun _ _ _ X hr => retOut X B.1 B.2.2.2.2.2.1 rfl (Or.inl ⟨rfl, Or.inl rfl, _, rfl⟩) (hb B.2.2.2.1 hd) hr
theorem r_b (B : Bdy p Z s m meth c own bytes maxL (some .boolean) nm) (W : Wk p l e R s m args below meth c Z T h k n ss) {b : Bool} {k' n' : Nat} (hd : decode bytes pc = .ok (.ireturn, 1)) (hk : k ≤ k') (hn : n ≤ n') (hQ : Q (some (.int (bi b))) h) : Go p.tables e below (Out Z s Q k' n') T (mkF m pc ls (.int (bi b) :: st)) :=
  go_end B W (fun q => by cases q) (v := some (.int (nar .boolean (bi b)))) (by rw [bi_nar]; exact hQ) hk hn fun _ _ _ X hr => retN X B.1 B.2.2.2.2.2.1 (Or.inl rfl) (hb B.2.2.2.1 hd) hr
theorem r_n (B : Bdy p Z s m meth c own bytes maxL ret nm) (W : Wk p l e R s m args below meth c Z T h k n ss) {t : FieldType} {z : Int32} {k' n' : Nat} (hret : ret = some t) (ht : t = .boolean ∨ t = .byte ∨ t = .char ∨ t = .short) (hd : decode bytes pc = .ok (.ireturn, 1)) (hk : k ≤ k') (hn : n ≤ n') (hQ : Q (some (.int (nar t z))) h) : Go p.tables e below (Out Z s Q k' n') T (mkF m pc ls (.int z :: st)) :=
  go_end B W (fun q => by rw [hret] at q; cases q) hQ hk hn fun _ _ _ X hr => retN X B.1 (B.2.2.2.2.2.1.trans hret) ht (hb B.2.2.2.1 hd) hr
theorem nar_ref {t : FieldType} {v : Value} (ht : t.isReference = true) : narrow t v = v := by cases t <;> first | rfl | (exfalso; revert ht; simp [FieldType.isReference]; done) | (cases v <;> rfl)
theorem r_a (B : Bdy p Z s m meth c own bytes maxL ret nm) (W : Wk p l e R s m args below meth c Z T h k n ss) {t : FieldType} {v : Value} {k' n' : Nat} (hret : ret = some t) (ht : t.isReference = true) (hv : v.isRef = true) (hd : decode bytes pc = .ok (.areturn, 1)) (hk : k ≤ k') (hn : n ≤ n') (hQ : Q (some v) h) : Go p.tables e below (Out Z s Q k' n') T (mkF m pc ls (v :: st)) :=
  go_end B W (fun q => by rw [hret] at q; cases q) hQ hk hn fun _ _ _ X hr => retOut X B.1 (B.2.2.2.2.2.1.trans hret) (nar_ref ht) (Or.inr (Or.inr (Or.inr (Or.inr ⟨rfl, ht, hv⟩)))) (hb B.2.2.2.1 hd) hr
theorem r_v (B : Bdy p Z s m meth c own bytes maxL none nm) (W : Wk p l e R s m args below meth c Z T h k n ss) {k' n' : Nat} (hd : decode bytes pc = .ok (.return_, 1)) (hk : k ≤ k') (hn : n ≤ n') (hQ : Q none h) : Go p.tables e below (Out Z s Q k' n') T (mkF m pc ls []) :=
  go_end B W (fun _ => rfl) hQ hk hn fun _ _ _ X hr => X.returnOut B.1 B.2.2.2.2.2.1 (hb B.2.2.2.1 hd) hr
theorem r_l (B : Bdy p Z s m meth c own bytes maxL (some .long) nm) (W : Wk p l e R s m args below meth c Z T h k n ss) {z : Int64} {k' n' : Nat} (hd : decode bytes pc = .ok (.lreturn, 1)) (hk : k ≤ k') (hn : n ≤ n') (hQ : Q (some (.long z)) h) : Go p.tables e below (Out Z s Q k' n') T (mkF m pc ls (.long z :: st)) :=
  go_end B W (fun q => by cases q) hQ hk hn fun _ _ _ X hr => retOut X B.1 B.2.2.2.2.2.1 rfl (Or.inr (Or.inl ⟨rfl, rfl, _, rfl⟩)) (hb B.2.2.2.1 hd) hr
/-! ### plain steps -/
theorem g_aload_n (B : Bdy p Z s m meth c own bytes maxL ret nm) (W : Wk p l e R s m args below meth c Z T h k n ss) {i : Fin 4} {v : Value} (hd : decode bytes pc = .ok (.aload_n i, 1)) (hl : ls[i.val]? = some (.val v)) (hv : v.isRef = true) (q : Go p.tables e below G T (mkF m (pc + 1) ls (v :: st))) : Go p.tables e below G T (mkF m pc ls st) := by
  obtain ⟨_, _, _, X, -⟩ := W
  exact Go.by (fun t q => XS.aloadN X.here B.1 rfl (hb B.2.2.2.1 hd) hl hv q) q
theorem g_aload (B : Bdy p Z s m meth c own bytes maxL ret nm) (W : Wk p l e R s m args below meth c Z T h k n ss) {i : Nat} {v : Value} (hd : decode bytes pc = .ok (.aload i, 2)) (hl : ls[i]? = some (.val v)) (hv : v.isRef = true) (q : Go p.tables e below G T (mkF m (pc + 2) ls (v :: st))) : Go p.tables e below G T (mkF m pc ls st) := by
  obtain ⟨_, _, _, X, -⟩ := W
  exact Go.by (fun t q => XS.aload X.here B.1 rfl (hb B.2.2.2.1 hd) hl hv q) q
theorem g_iload_n (B : Bdy p Z s m meth c own bytes maxL ret nm) (W : Wk p l e R s m args below meth c Z T h k n ss) {i : Fin 4} {v : Int32} (hd : decode bytes pc = .ok (.iload_n i, 1)) (hl : ls[i.val]? = some (.val (.int v))) (q : Go p.tables e below G T (mkF m (pc + 1) ls (.int v :: st))) : Go p.tables e below G T (mkF m pc ls st) := by
  obtain ⟨_, _, _, X, -⟩ := W
  exact Go.by (fun t q => XS.iloadN X.here B.1 rfl (hb B.2.2.2.1 hd) hl q) q
theorem g_iload (B : Bdy p Z s m meth c own bytes maxL ret nm) (W : Wk p l e R s m args below meth c Z T h k n ss) {i : Nat} {v : Int32} (hd : decode bytes pc = .ok (.iload i, 2)) (hl : ls[i]? = some (.val (.int v))) (q : Go p.tables e below G T (mkF m (pc + 2) ls (.int v :: st))) : Go p.tables e below G T (mkF m pc ls st) := by
  obtain ⟨_, _, _, X, -⟩ := W
  exact Go.by (fun t q => XS.iload X.here B.1 rfl (hb B.2.2.2.1 hd) hl q) q
theorem g_lload_n (B : Bdy p Z s m meth c own bytes maxL ret nm) (W : Wk p l e R s m args below meth c Z T h k n ss) {i : Fin 4} {v : Int64} (hd : decode bytes pc = .ok (.lload_n i, 1)) (hl : ls[i.val]? = some (.val (.long v))) (q : Go p.tables e below G T (mkF m (pc + 1) ls (.long v :: st))) : Go p.tables e below G T (mkF m pc ls st) := by
  obtain ⟨_, _, _, X, -⟩ := W
  exact Go.by (fun t q => XT.lloadN X.here B.1 rfl (hb B.2.2.2.1 hd) hl q) q
theorem g_lload (B : Bdy p Z s m meth c own bytes maxL ret nm) (W : Wk p l e R s m args below meth c Z T h k n ss) {i : Nat} {v : Int64} (hd : decode bytes pc = .ok (.lload i, 2)) (hl : ls[i]? = some (.val (.long v))) (q : Go p.tables e below G T (mkF m (pc + 2) ls (.long v :: st))) : Go p.tables e below G T (mkF m pc ls st) := by
  obtain ⟨_, _, _, X, -⟩ := W
  exact Go.by (fun t q => XT.lload X.here B.1 rfl (hb B.2.2.2.1 hd) hl q) q
theorem g_istore_n (B : Bdy p Z s m meth c own bytes maxL ret nm) (W : Wk p l e R s m args below meth c Z T h k n ss) {i : Fin 4} {v : Int32} {l' : Array Slot} (hd : decode bytes pc = .ok (.istore_n i, 1)) (hl : storeLocals ls i.val (.int v) = some l') (q : Go p.tables e below G T (mkF m (pc + 1) l' st)) : Go p.tables e below G T (mkF m pc ls (.int v :: st)) := by
  obtain ⟨_, _, _, X, -⟩ := W
  exact Go.by (fun t q => XS.istoreN X.here B.1 rfl (hb B.2.2.2.1 hd) rfl hl q) q
theorem g_istore (B : Bdy p Z s m meth c own bytes maxL ret nm) (W : Wk p l e R s m args below meth c Z T h k n ss) {i : Nat} {v : Int32} {l' : Array Slot} (hd : decode bytes pc = .ok (.istore i, 2)) (hl : storeLocals ls i (.int v) = some l') (q : Go p.tables e below G T (mkF m (pc + 2) l' st)) : Go p.tables e below G T (mkF m pc ls (.int v :: st)) := by
  obtain ⟨_, _, _, X, -⟩ := W
  exact Go.by (fun t q => XS.istore X.here B.1 rfl (hb B.2.2.2.1 hd) rfl hl q) q
theorem g_lstore_n (B : Bdy p Z s m meth c own bytes maxL ret nm) (W : Wk p l e R s m args below meth c Z T h k n ss) {i : Fin 4} {v : Int64} {l' : Array Slot} (hd : decode bytes pc = .ok (.lstore_n i, 1)) (hl : storeLocals ls i.val (.long v) = some l') (q : Go p.tables e below G T (mkF m (pc + 1) l' st)) : Go p.tables e below G T (mkF m pc ls (.long v :: st)) := by
  obtain ⟨_, _, _, X, -⟩ := W
  exact Go.by (fun t q => XT.lstoreN X.here B.1 rfl (hb B.2.2.2.1 hd) rfl hl q) q
theorem g_lstore (B : Bdy p Z s m meth c own bytes maxL ret nm) (W : Wk p l e R s m args below meth c Z T h k n ss) {i : Nat} {v : Int64} {l' : Array Slot} (hd : decode bytes pc = .ok (.lstore i, 2)) (hl : storeLocals ls i (.long v) = some l') (q : Go p.tables e below G T (mkF m (pc + 2) l' st)) : Go p.tables e below G T (mkF m pc ls (.long v :: st)) := by
  obtain ⟨_, _, _, X, -⟩ := W
  exact Go.by (fun t q => XT.lstore X.here B.1 rfl (hb B.2.2.2.1 hd) rfl hl q) q
theorem g_astore_n (B : Bdy p Z s m meth c own bytes maxL ret nm) (W : Wk p l e R s m args below meth c Z T h k n ss) {i : Fin 4} {v : Value} {l' : Array Slot} (hd : decode bytes pc = .ok (.astore_n i, 1)) (hv : v.isRef = true) (hl : storeLocals ls i.val v = some l') (q : Go p.tables e below G T (mkF m (pc + 1) l' st)) : Go p.tables e below G T (mkF m pc ls (v :: st)) := by
  obtain ⟨_, _, _, X, -⟩ := W
  exact Go.by (fun t q => XS.astoreN X.here B.1 rfl (hb B.2.2.2.1 hd) rfl hv hl q) q
theorem g_astore (B : Bdy p Z s m meth c own bytes maxL ret nm) (W : Wk p l e R s m args below meth c Z T h k n ss) {i : Nat} {v : Value} {l' : Array Slot} (hd : decode bytes pc = .ok (.astore i, 2)) (hv : v.isRef = true) (hl : storeLocals ls i v = some l') (q : Go p.tables e below G T (mkF m (pc + 2) l' st)) : Go p.tables e below G T (mkF m pc ls (v :: st)) := by
  obtain ⟨_, _, _, X, -⟩ := W
  exact Go.by (fun t q => XS.astore X.here B.1 rfl (hb B.2.2.2.1 hd) rfl hv hl q) q
theorem g_iconst (B : Bdy p Z s m meth c own bytes maxL ret nm) (W : Wk p l e R s m args below meth c Z T h k n ss) {i : Int} {v : Int32} (hd : decode bytes pc = .ok (.iconst i, 1)) (hv : Int32.ofInt i = v) (q : Go p.tables e below G T (mkF m (pc + 1) ls (.int v :: st))) : Go p.tables e below G T (mkF m pc ls st) := by
  obtain ⟨_, _, _, X, -⟩ := W
  exact Go.by (fun t q => XT.iconstV X.here B.1 rfl _ (hb B.2.2.2.1 hd) hv q) q
theorem g_bipush (B : Bdy p Z s m meth c own bytes maxL ret nm) (W : Wk p l e R s m args below meth c Z T h k n ss) {i : Int} {v : Int32} (hd : decode bytes pc = .ok (.bipush i, 2)) (hv : (Int8.ofInt i).toInt32 = v) (q : Go p.tables e below G T (mkF m (pc + 2) ls (.int v :: st))) : Go p.tables e below G T (mkF m pc ls st) := by
  obtain ⟨_, _, _, X, -⟩ := W
  exact Go.by (fun t q => XT.bipushV X.here B.1 rfl _ (hb B.2.2.2.1 hd) hv q) q
theorem g_sipush (B : Bdy p Z s m meth c own bytes maxL ret nm) (W : Wk p l e R s m args below meth c Z T h k n ss) {i : Int} {v : Int32} (hd : decode bytes pc = .ok (.sipush i, 3)) (hv : (Int16.ofInt i).toInt32 = v) (q : Go p.tables e below G T (mkF m (pc + 3) ls (.int v :: st))) : Go p.tables e below G T (mkF m pc ls st) := by
  obtain ⟨_, _, _, X, -⟩ := W
  exact Go.by (fun t q => XT.sipushV X.here B.1 rfl _ (hb B.2.2.2.1 hd) hv q) q
theorem g_lconst (B : Bdy p Z s m meth c own bytes maxL ret nm) (W : Wk p l e R s m args below meth c Z T h k n ss) {i : Fin 2} {v : Int64} (hd : decode bytes pc = .ok (.lconst i, 1)) (hv : Int64.ofNat i = v) (q : Go p.tables e below G T (mkF m (pc + 1) ls (.long v :: st))) : Go p.tables e below G T (mkF m pc ls st) := by
  obtain ⟨_, _, _, X, -⟩ := W
  exact Go.by (fun t q => XT.lconstV X.here B.1 rfl _ (hb B.2.2.2.1 hd) hv q) q
theorem g_aconst_null (B : Bdy p Z s m meth c own bytes maxL ret nm) (W : Wk p l e R s m args below meth c Z T h k n ss)  (hd : decode bytes pc = .ok (.aconst_null, 1))  (q : Go p.tables e below G T (mkF m (pc + 1) ls (.null :: st))) : Go p.tables e below G T (mkF m pc ls st) := by
  obtain ⟨_, _, _, X, -⟩ := W
  exact Go.by (fun t q => XS.aconstNull X.here B.1 rfl (hb B.2.2.2.1 hd) q) q
theorem g_iadd (B : Bdy p Z s m meth c own bytes maxL ret nm) (W : Wk p l e R s m args below meth c Z T h k n ss) {x y : Int32} (hd : decode bytes pc = .ok (.iadd, 1))  (q : Go p.tables e below G T (mkF m (pc + 1) ls (.int (x + y) :: st))) : Go p.tables e below G T (mkF m pc ls (.int y :: .int x :: st)) := by
  obtain ⟨_, _, _, X, -⟩ := W
  exact Go.by (fun t q => XS.iadd X.here B.1 rfl (hb B.2.2.2.1 hd) rfl q) q
theorem g_isub (B : Bdy p Z s m meth c own bytes maxL ret nm) (W : Wk p l e R s m args below meth c Z T h k n ss) {x y : Int32} (hd : decode bytes pc = .ok (.isub, 1))  (q : Go p.tables e below G T (mkF m (pc + 1) ls (.int (x - y) :: st))) : Go p.tables e below G T (mkF m pc ls (.int y :: .int x :: st)) := by
  obtain ⟨_, _, _, X, -⟩ := W
  exact Go.by (fun t q => XS.isub X.here B.1 rfl (hb B.2.2.2.1 hd) rfl q) q
theorem g_iand (B : Bdy p Z s m meth c own bytes maxL ret nm) (W : Wk p l e R s m args below meth c Z T h k n ss) {x y : Int32} (hd : decode bytes pc = .ok (.iand, 1))  (q : Go p.tables e below G T (mkF m (pc + 1) ls (.int (x &&& y) :: st))) : Go p.tables e below G T (mkF m pc ls (.int y :: .int x :: st)) := by
  obtain ⟨_, _, _, X, -⟩ := W
  exact Go.by (fun t q => XS.iand X.here B.1 rfl (hb B.2.2.2.1 hd) rfl q) q
theorem g_imul (B : Bdy p Z s m meth c own bytes maxL ret nm) (W : Wk p l e R s m args below meth c Z T h k n ss) {x y : Int32} (hd : decode bytes pc = .ok (.imul, 1))  (q : Go p.tables e below G T (mkF m (pc + 1) ls (.int (x * y) :: st))) : Go p.tables e below G T (mkF m pc ls (.int y :: .int x :: st)) := by
  obtain ⟨_, _, _, X, -⟩ := W
  exact Go.by (fun t q => XS.imul X.here B.1 rfl (hb B.2.2.2.1 hd) rfl q) q
theorem g_ior (B : Bdy p Z s m meth c own bytes maxL ret nm) (W : Wk p l e R s m args below meth c Z T h k n ss) {x y : Int32} (hd : decode bytes pc = .ok (.ior, 1))  (q : Go p.tables e below G T (mkF m (pc + 1) ls (.int (x ||| y) :: st))) : Go p.tables e below G T (mkF m pc ls (.int y :: .int x :: st)) := by
  obtain ⟨_, _, _, X, -⟩ := W
  exact Go.by (fun t q => XT.ior X.here B.1 rfl (hb B.2.2.2.1 hd) rfl q) q
theorem g_ixor (B : Bdy p Z s m meth c own bytes maxL ret nm) (W : Wk p l e R s m args below meth c Z T h k n ss) {x y : Int32} (hd : decode bytes pc = .ok (.ixor, 1))  (q : Go p.tables e below G T (mkF m (pc + 1) ls (.int (x ^^^ y) :: st))) : Go p.tables e below G T (mkF m pc ls (.int y :: .int x :: st)) := by
  obtain ⟨_, _, _, X, -⟩ := W
  exact Go.by (fun t q => XT.ixor X.here B.1 rfl (hb B.2.2.2.1 hd) rfl q) q
theorem g_ishl (B : Bdy p Z s m meth c own bytes maxL ret nm) (W : Wk p l e R s m args below meth c Z T h k n ss) {x y : Int32} (hd : decode bytes pc = .ok (.ishl, 1))  (q : Go p.tables e below G T (mkF m (pc + 1) ls (.int (x <<< (y &&& 31)) :: st))) : Go p.tables e below G T (mkF m pc ls (.int y :: .int x :: st)) := by
  obtain ⟨_, _, _, X, -⟩ := W
  exact Go.by (fun t q => XT.ishl X.here B.1 rfl (hb B.2.2.2.1 hd) rfl q) q
theorem g_ishr (B : Bdy p Z s m meth c own bytes maxL ret nm) (W : Wk p l e R s m args below meth c Z T h k n ss) {x y : Int32} (hd : decode bytes pc = .ok (.ishr, 1))  (q : Go p.tables e below G T (mkF m (pc + 1) ls (.int (x >>> (y &&& 31)) :: st))) : Go p.tables e below G T (mkF m pc ls (.int y :: .int x :: st)) := by
  obtain ⟨_, _, _, X, -⟩ := W
  exact Go.by (fun t q => XT.ishr X.here B.1 rfl (hb B.2.2.2.1 hd) rfl q) q
theorem g_iushr (B : Bdy p Z s m meth c own bytes maxL ret nm) (W : Wk p l e R s m args below meth c Z T h k n ss) {x y : Int32} (hd : decode bytes pc = .ok (.iushr, 1))  (q : Go p.tables e below G T (mkF m (pc + 1) ls (.int (XT.ushr x y) :: st))) : Go p.tables e below G T (mkF m pc ls (.int y :: .int x :: st)) := by
  obtain ⟨_, _, _, X, -⟩ := W
  exact Go.by (fun t q => XT.iushr X.here B.1 rfl (hb B.2.2.2.1 hd) rfl q) q
theorem g_idiv (B : Bdy p Z s m meth c own bytes maxL ret nm) (W : Wk p l e R s m args below meth c Z T h k n ss) {x y : Int32} (hd : decode bytes pc = .ok (.idiv, 1)) (hy : y ≠ 0) (q : Go p.tables e below G T (mkF m (pc + 1) ls (.int (x / y) :: st))) : Go p.tables e below G T (mkF m pc ls (.int y :: .int x :: st)) := by
  obtain ⟨_, _, _, X, -⟩ := W
  exact Go.by (fun t q => XS.idiv X.here B.1 rfl (hb B.2.2.2.1 hd) rfl hy q) q
theorem g_irem (B : Bdy p Z s m meth c own bytes maxL ret nm) (W : Wk p l e R s m args below meth c Z T h k n ss) {x y : Int32} (hd : decode bytes pc = .ok (.irem, 1)) (hy : y ≠ 0) (q : Go p.tables e below G T (mkF m (pc + 1) ls (.int (x % y) :: st))) : Go p.tables e below G T (mkF m pc ls (.int y :: .int x :: st))   := by
  obtain ⟨_, _, _, X, -⟩ := W
  exact Go.by (fun t q => iremM X B.1 rfl (hb B.2.2.2.1 hd) rfl hy q) q
theorem g_ineg (B : Bdy p Z s m meth c own bytes maxL ret nm) (W : Wk p l e R s m args below meth c Z T h k n ss) {x : Int32} (hd : decode bytes pc = .ok (.ineg, 1))  (q : Go p.tables e below G T (mkF m (pc + 1) ls (.int (-x) :: st))) : Go p.tables e below G T (mkF m pc ls (.int x :: st)) := by
  obtain ⟨_, _, _, X, -⟩ := W
  exact Go.by (fun t q => XS.ineg X.here B.1 rfl (hb B.2.2.2.1 hd) rfl q) q
theorem g_i2c (B : Bdy p Z s m meth c own bytes maxL ret nm) (W : Wk p l e R s m args below meth c Z T h k n ss) {x : Int32} (hd : decode bytes pc = .ok (.i2c, 1))  (q : Go p.tables e below G T (mkF m (pc + 1) ls (.int x.toUInt32.toUInt16.toUInt32.toInt32 :: st))) : Go p.tables e below G T (mkF m pc ls (.int x :: st)) := by
  obtain ⟨_, _, _, X, -⟩ := W
  exact Go.by (fun t q => XT.i2c X.here B.1 rfl (hb B.2.2.2.1 hd) rfl q) q
theorem g_i2b (B : Bdy p Z s m meth c own bytes maxL ret nm) (W : Wk p l e R s m args below meth c Z T h k n ss) {x : Int32} (hd : decode bytes pc = .ok (.i2b, 1))  (q : Go p.tables e below G T (mkF m (pc + 1) ls (.int x.toInt8.toInt32 :: st))) : Go p.tables e below G T (mkF m pc ls (.int x :: st)) := by
  obtain ⟨_, _, _, X, -⟩ := W
  exact Go.by (fun t q => XT.i2b X.here B.1 rfl (hb B.2.2.2.1 hd) rfl q) q
theorem g_i2l (B : Bdy p Z s m meth c own bytes maxL ret nm) (W : Wk p l e R s m args below meth c Z T h k n ss) {x : Int32} (hd : decode bytes pc = .ok (.i2l, 1))  (q : Go p.tables e below G T (mkF m (pc + 1) ls (.long x.toInt64 :: st))) : Go p.tables e below G T (mkF m pc ls (.int x :: st)) := by
  obtain ⟨_, _, _, X, -⟩ := W
  exact Go.by (fun t q => XT.i2l X.here B.1 rfl (hb B.2.2.2.1 hd) rfl q) q
theorem g_l2i (B : Bdy p Z s m meth c own bytes maxL ret nm) (W : Wk p l e R s m args below meth c Z T h k n ss) {x : Int64} (hd : decode bytes pc = .ok (.l2i, 1))  (q : Go p.tables e below G T (mkF m (pc + 1) ls (.int x.toInt32 :: st))) : Go p.tables e below G T (mkF m pc ls (.long x :: st)) := by
  obtain ⟨_, _, _, X, -⟩ := W
  exact Go.by (fun t q => XT.l2i X.here B.1 rfl (hb B.2.2.2.1 hd) rfl q) q
theorem g_land (B : Bdy p Z s m meth c own bytes maxL ret nm) (W : Wk p l e R s m args below meth c Z T h k n ss) {x y : Int64} (hd : decode bytes pc = .ok (.land, 1))  (q : Go p.tables e below G T (mkF m (pc + 1) ls (.long (x &&& y) :: st))) : Go p.tables e below G T (mkF m pc ls (.long y :: .long x :: st)) := by
  obtain ⟨_, _, _, X, -⟩ := W
  exact Go.by (fun t q => XT.land X.here B.1 rfl (hb B.2.2.2.1 hd) rfl q) q
theorem g_ladd (B : Bdy p Z s m meth c own bytes maxL ret nm) (W : Wk p l e R s m args below meth c Z T h k n ss) {x y : Int64} (hd : decode bytes pc = .ok (.ladd, 1))  (q : Go p.tables e below G T (mkF m (pc + 1) ls (.long (x + y) :: st))) : Go p.tables e below G T (mkF m pc ls (.long y :: .long x :: st)) := by
  obtain ⟨_, _, _, X, -⟩ := W
  exact Go.by (fun t q => XT.ladd X.here B.1 rfl (hb B.2.2.2.1 hd) rfl q) q
theorem g_lcmp (B : Bdy p Z s m meth c own bytes maxL ret nm) (W : Wk p l e R s m args below meth c Z T h k n ss) {x y : Int64} (hd : decode bytes pc = .ok (.lcmp, 1))  (q : Go p.tables e below G T (mkF m (pc + 1) ls (.int (XT.cmpL x y) :: st))) : Go p.tables e below G T (mkF m pc ls (.long y :: .long x :: st)) := by
  obtain ⟨_, _, _, X, -⟩ := W
  exact Go.by (fun t q => XT.lcmp X.here B.1 rfl (hb B.2.2.2.1 hd) rfl q) q
theorem g_lushr (B : Bdy p Z s m meth c own bytes maxL ret nm) (W : Wk p l e R s m args below meth c Z T h k n ss) {x : Int64} {y : Int32} (hd : decode bytes pc = .ok (.lushr, 1))  (q : Go p.tables e below G T (mkF m (pc + 1) ls (.long (XT.ushrL x y) :: st))) : Go p.tables e below G T (mkF m pc ls (.int y :: .long x :: st)) := by
  obtain ⟨_, _, _, X, -⟩ := W
  exact Go.by (fun t q => XT.lushr X.here B.1 rfl (hb B.2.2.2.1 hd) rfl q) q
theorem g_iinc (B : Bdy p Z s m meth c own bytes maxL ret nm) (W : Wk p l e R s m args below meth c Z T h k n ss) {i : Nat} {cst : Int} {x v : Int32} {l' : Array Slot} (hd : decode bytes pc = .ok (.iinc i cst, 3)) (hv : Int32.ofInt cst = v) (hl : ls[i]? = some (.val (.int x))) (hl' : storeLocals ls i (.int (x + v)) = some l') (q : Go p.tables e below G T (mkF m (pc + 3) l' st)) : Go p.tables e below G T (mkF m pc ls st) := by
  obtain ⟨_, _, _, X, -⟩ := W
  exact Go.by (fun t q => XT.iincV X.here B.1 rfl _ (hb B.2.2.2.1 hd) hv hl hl' q) q
theorem g_dup (B : Bdy p Z s m meth c own bytes maxL ret nm) (W : Wk p l e R s m args below meth c Z T h k n ss) {v : Value} (hd : decode bytes pc = .ok (.dup, 1)) (hv : v.category = 1) (q : Go p.tables e below G T (mkF m (pc + 1) ls (v :: v :: st))) : Go p.tables e below G T (mkF m pc ls (v :: st)) := by
  obtain ⟨_, _, _, X, -⟩ := W
  exact Go.by (fun t q => XS.dup X.here B.1 rfl (hb B.2.2.2.1 hd) rfl hv q) q
theorem g_dup_x1 (B : Bdy p Z s m meth c own bytes maxL ret nm) (W : Wk p l e R s m args below meth c Z T h k n ss) {v w : Value} (hd : decode bytes pc = .ok (.dup_x1, 1)) (hv : v.category = 1) (hw' : w.category = 1) (q : Go p.tables e below G T (mkF m (pc + 1) ls (v :: w :: v :: st))) : Go p.tables e below G T (mkF m pc ls (v :: w :: st)) := by
  obtain ⟨_, _, _, X, -⟩ := W
  exact Go.by (fun t q => XT.dupX1 X.here B.1 rfl (hb B.2.2.2.1 hd) rfl hv hw' q) q
theorem g_pop (B : Bdy p Z s m meth c own bytes maxL ret nm) (W : Wk p l e R s m args below meth c Z T h k n ss) {v : Value} (hd : decode bytes pc = .ok (.pop, 1)) (hv : v.category = 1) (q : Go p.tables e below G T (mkF m (pc + 1) ls st)) : Go p.tables e below G T (mkF m pc ls (v :: st)) := by
  obtain ⟨_, _, _, X, -⟩ := W
  exact Go.by (fun t q => XT.pop X.here B.1 rfl (hb B.2.2.2.1 hd) rfl hv q) q
theorem g_goto (B : Bdy p Z s m meth c own bytes maxL ret nm) (W : Wk p l e R s m args below meth c Z T h k n ss)  {o : Int} {pc' : Nat} (hd : decode bytes pc = .ok (.goto o, 3))  (hp : (pc : Int) + o = (pc' : Int)) (q : Go p.tables e below G T (mkF m pc' ls st)) : Go p.tables e below G T (mkF m pc ls st)   := by
  obtain ⟨_, _, _, X, -⟩ := W
  exact Go.by (fun t q => XS.goto X.here B.1 rfl rfl (hb B.2.2.2.1 hd)  (by rw [hp]; exact Int.natCast_nonneg _) (by rw [hp]; exact Int.toNat_natCast _) q) q
theorem g_if_y (B : Bdy p Z s m meth c own bytes maxL ret nm) (W : Wk p l e R s m args below meth c Z T h k n ss) {cd : ClassFile.Cond} {x : Int32} {o : Int} {pc' : Nat} (hd : decode bytes pc = .ok (.ifCond cd o, 3)) (hc : ifCond.holds cd x = true) (hp : (pc : Int) + o = (pc' : Int)) (q : Go p.tables e below G T (mkF m pc' ls st)) : Go p.tables e below G T (mkF m pc ls (.int x :: st))   := by
  obtain ⟨_, _, _, X, -⟩ := W
  exact Go.by (fun t q => XS.ifYes X.here B.1 rfl rfl (hb B.2.2.2.1 hd) rfl hc (by rw [hp]; exact Int.natCast_nonneg _) (by rw [hp]; exact Int.toNat_natCast _) q) q
theorem g_if_n (B : Bdy p Z s m meth c own bytes maxL ret nm) (W : Wk p l e R s m args below meth c Z T h k n ss) {cd : ClassFile.Cond} {x : Int32} {o : Int} (hd : decode bytes pc = .ok (.ifCond cd o, 3)) (hc : ifCond.holds cd x = false) (q : Go p.tables e below G T (mkF m (pc + 3) ls st)) : Go p.tables e below G T (mkF m pc ls (.int x :: st))   := by
  obtain ⟨_, _, _, X, -⟩ := W
  exact Go.by (fun t q => XS.ifNo X.here B.1 rfl (hb B.2.2.2.1 hd) rfl hc q) q
theorem g_icmp_y (B : Bdy p Z s m meth c own bytes maxL ret nm) (W : Wk p l e R s m args below meth c Z T h k n ss) {cd : ClassFile.Cond} {x y : Int32} {o : Int} {pc' : Nat} (hd : decode bytes pc = .ok (.if_icmp cd o, 3)) (hc : if_icmp.holds cd x y = true) (hp : (pc : Int) + o = (pc' : Int)) (q : Go p.tables e below G T (mkF m pc' ls st)) : Go p.tables e below G T (mkF m pc ls (.int y :: .int x :: st))   := by
  obtain ⟨_, _, _, X, -⟩ := W
  exact Go.by (fun t q => XS.icmpYes X.here B.1 rfl rfl (hb B.2.2.2.1 hd) rfl hc (by rw [hp]; exact Int.natCast_nonneg _) (by rw [hp]; exact Int.toNat_natCast _) q) q
theorem g_icmp_n (B : Bdy p Z s m meth c own bytes maxL ret nm) (W : Wk p l e R s m args below meth c Z T h k n ss) {cd : ClassFile.Cond} {x y : Int32} {o : Int} (hd : decode bytes pc = .ok (.if_icmp cd o, 3)) (hc : if_icmp.holds cd x y = false) (q : Go p.tables e below G T (mkF m (pc + 3) ls st)) : Go p.tables e below G T (mkF m pc ls (.int y :: .int x :: st))   := by
  obtain ⟨_, _, _, X, -⟩ := W
  exact Go.by (fun t q => XS.icmpNo X.here B.1 rfl (hb B.2.2.2.1 hd) rfl hc q) q
theorem g_ifnull_y (B : Bdy p Z s m meth c own bytes maxL ret nm) (W : Wk p l e R s m args below meth c Z T h k n ss)  {o : Int} {pc' : Nat} (hd : decode bytes pc = .ok (.ifnull o, 3))  (hp : (pc : Int) + o = (pc' : Int)) (q : Go p.tables e below G T (mkF m pc' ls st)) : Go p.tables e below G T (mkF m pc ls (.null :: st))   := by
  obtain ⟨_, _, _, X, -⟩ := W
  exact Go.by (fun t q => XS.ifnullYes X.here B.1 rfl rfl (hb B.2.2.2.1 hd) rfl (by rw [hp]; exact Int.natCast_nonneg _) (by rw [hp]; exact Int.toNat_natCast _) q) q
theorem g_ifnull_n (B : Bdy p Z s m meth c own bytes maxL ret nm) (W : Wk p l e R s m args below meth c Z T h k n ss) {a : Addr} {o : Int} (hd : decode bytes pc = .ok (.ifnull o, 3))  (q : Go p.tables e below G T (mkF m (pc + 3) ls st)) : Go p.tables e below G T (mkF m pc ls (.ref a :: st))   := by
  obtain ⟨_, _, _, X, -⟩ := W
  exact Go.by (fun t q => XS.ifnullNo X.here B.1 rfl (hb B.2.2.2.1 hd) rfl q) q
theorem g_ifnonnull_y (B : Bdy p Z s m meth c own bytes maxL ret nm) (W : Wk p l e R s m args below meth c Z T h k n ss) {a : Addr} {o : Int} {pc' : Nat} (hd : decode bytes pc = .ok (.ifnonnull o, 3))  (hp : (pc : Int) + o = (pc' : Int)) (q : Go p.tables e below G T (mkF m pc' ls st)) : Go p.tables e below G T (mkF m pc ls (.ref a :: st))   := by
  obtain ⟨_, _, _, X, -⟩ := W
  exact Go.by (fun t q => XT.ifnonnullYes X.here B.1 rfl rfl (hb B.2.2.2.1 hd) rfl (by rw [hp]; exact Int.natCast_nonneg _) (by rw [hp]; exact Int.toNat_natCast _) q) q
theorem g_ifnonnull_n (B : Bdy p Z s m meth c own bytes maxL ret nm) (W : Wk p l e R s m args below meth c Z T h k n ss)  {o : Int} (hd : decode bytes pc = .ok (.ifnonnull o, 3))  (q : Go p.tables e below G T (mkF m (pc + 3) ls st)) : Go p.tables e below G T (mkF m pc ls (.null :: st))   := by
  obtain ⟨_, _, _, X, -⟩ := W
  exact Go.by (fun t q => XT.ifnonnullNo X.here B.1 rfl (hb B.2.2.2.1 hd) rfl q) q
theorem g_acmp_y (B : Bdy p Z s m meth c own bytes maxL ret nm) (W : Wk p l e R s m args below meth c Z T h k n ss) {cd : ClassFile.ACond} {x y : Value} {o : Int} {pc' : Nat} (hd : decode bytes pc = .ok (.if_acmp cd o, 3)) (hx' : x.isRef = true) (hy' : y.isRef = true) (hc : XT.acmp cd x y = true) (hp : (pc : Int) + o = (pc' : Int)) (q : Go p.tables e below G T (mkF m pc' ls st)) : Go p.tables e below G T (mkF m pc ls (y :: x :: st))   := by
  obtain ⟨_, _, _, X, -⟩ := W
  exact Go.by (fun t q => XT.acmpYes X.here B.1 rfl rfl (hb B.2.2.2.1 hd) rfl hx' hy' hc (by rw [hp]; exact Int.natCast_nonneg _) (by rw [hp]; exact Int.toNat_natCast _) q) q
theorem g_acmp_n (B : Bdy p Z s m meth c own bytes maxL ret nm) (W : Wk p l e R s m args below meth c Z T h k n ss) {cd : ClassFile.ACond} {x y : Value} {o : Int} (hd : decode bytes pc = .ok (.if_acmp cd o, 3)) (hx' : x.isRef = true) (hy' : y.isRef = true) (hc : XT.acmp cd x y = false) (q : Go p.tables e below G T (mkF m (pc + 3) ls st)) : Go p.tables e below G T (mkF m pc ls (y :: x :: st))   := by
  obtain ⟨_, _, _, X, -⟩ := W
  exact Go.by (fun t q => XT.acmpNo X.here B.1 rfl (hb B.2.2.2.1 hd) rfl hx' hy' hc q) q
theorem ss_mono {vm0 vm1 : Vm} (A : CHr Z EL vm0 h vm1 h') (hss : ∀ x ∈ ss, x < h.size ∧ Safe Z EL vm0 h x) : ∀ x ∈ ss, x < h'.size ∧ Safe Z EL vm1 h' x := fun x q => ⟨Nat.lt_of_lt_of_le (hss x q).1 A.2.1, A.safe (hss x q).1 (hss x q).2⟩
theorem own_ssn {vm0 : Vm} (E : Ext h h') (H : CHv Z EL vm0 h) (hlt : h.size < h'.size) (hss : ∀ x ∈ ss, x < h.size ∧ Safe Z EL vm0 h x) : ∀ x ∈ h.size :: ss, x < h'.size ∧ Safe Z EL vm0 h' x := fun x q => by
  rcases List.mem_cons.mp q with rfl | q
  · exact ⟨hlt, Safe.ext E H (Safe.new (Nat.le_refl _))⟩
  · exact ss_mono (CHr.ext E H) hss x q
theorem g_dia (P : Prop) [Decidable P] {tb : Tables} {F : JFrame} {pc' : Nat} (h1 : P → Go tb e below G T (mkF m pc' ls (.int 1 :: st)) → Go tb e below G T F) (h0 : ¬ P → Go tb e below G T (mkF m pc' ls (.int 0 :: st)) → Go tb e below G T F) (q : Go tb e below G T (mkF m pc' ls (.int (bi (decide P)) :: st))) : Go tb e below G T F := by
  by_cases hp : P
  · rw [decide_eq_true hp] at q; exact h1 hp q
  · rw [decide_eq_false hp] at q; exact h0 hp q
theorem g_diab (b : Bool) {tb : Tables} {F : JFrame} {pc' : Nat} (h1 : b = true → Go tb e below G T (mkF m pc' ls (.int 1 :: st)) → Go tb e below G T F) (h0 : b = false → Go tb e below G T (mkF m pc' ls (.int 0 :: st)) → Go tb e below G T F) (q : Go tb e below G T (mkF m pc' ls (.int (bi b) :: st))) : Go tb e below G T F := by
  cases b
  · exact h0 rfl q
  · exact h1 rfl q
theorem g_ldcI (B : Bdy p Z s m meth c own bytes maxL ret nm) (W : Wk p l e R s m args below meth c Z T h k n ss) {i : Nat} {v : Int32} (hd : decode bytes pc = .ok (.ldc i, 2)) (w : (Cond.constant own i v).before a0 Z = true) (q : Go p.tables e below G T (mkF m (pc + 2) ls (.int v :: st))) : Go p.tables e below G T (mkF m pc ls st) := by
  obtain ⟨_, _, _, X, _, _, _, S, -⟩ := W
  have B := B.at S
  exact Go.by (fun t q => X.ldcI B.1 B.2.2.1 (mv B.2.1 w) rfl (hb B.2.2.2.1 hd) q) q
theorem g_ldcL (B : Bdy p Z s m meth c own bytes maxL ret nm) (W : Wk p l e R s m args below meth c Z T h k n ss) {i : Nat} {v : Int64} (hd : decode bytes pc = .ok (.ldc2_w i, 3)) (w : (Cond.constantLong own i v).before a0 Z = true) (q : Go p.tables e below G T (mkF m (pc + 3) ls (.long v :: st))) : Go p.tables e below G T (mkF m pc ls st) := by
  obtain ⟨_, _, _, X, _, _, _, S, -⟩ := W
  have B := B.at S
  exact Go.by (fun t q => X.ldc2J B.1 B.2.2.1 (mv B.2.1 w) rfl (hb B.2.2.2.1 hd) q) q
/-! ### the heap's steps -/
theorem x_new (B : Bdy p Z s m meth c own bytes maxL ret nm) (W : Wk p l e R s m args below meth c Z T h k n ss) {C : String} {i sz : Nat} (hd : decode bytes pc = .ok (.new i, 3)) (w : (Cond.classLink own i C).before a0 Z = true) (wi : (Cond.instantiable C sz).before a0 Z = true) (wz : (Cond.initialized C).before a0 Z = true) (hc : k + 1 ≤ R.cells) (hl : n + sz ≤ R.slots) (ls : Array Slot) (st : List Value) :
    ∃ T' h' b, b = h.size ∧ Wk p l e R s m args below meth c Z T' h' (k + 1) (n + sz) (b :: ss) ∧ Keep h h' [] ∧ Exa Z h' b C ∧ (∀ {O nf d : String} {ty : FieldType}, Laid Z a0 C O nf d → parseFieldDescriptor d = some ty → Fld Z h' b O nf d (defaultValue ty)) ∧
      (∀ G, Go p.tables e below G T' (mkF m (pc + 3) ls (.ref b :: st)) → Go p.tables e below G T (mkF m pc ls st)) := by
  obtain ⟨locs, vm0, k0, X, eT, N, O, S, hk, H, hss⟩ := W
  have B := B.at S
  obtain ⟨T', h', X', e', E', A', D', -, st'⟩ := newO X B.1 B.2.1 B.2.2.1 w wi wz eT (g := mkF m pc ls st) rfl (hb B.2.2.2.1 hd) hc hl
  exact ⟨T', h', _, rfl, ⟨locs, vm0, k0, X', e', N, O.ext E', S, Nat.le_trans hk E'.1, H.trans (CHr.ext E' H.1), own_ssn E' H.1 (by first | exact A'.lt | exact (Arv.new A' hn).lt) hss⟩, (Keep.refl h []).ext E', A', D', fun G q => Go.by st' q⟩
theorem x_init (B : Bdy p Z s m meth c own bytes maxL ret nm) (W : Wk p l e R s m args below meth c Z T h k n ss) {i : Nat} (hd : decode bytes pc = .ok (.invokespecial i, 3)) (w1 : (Cond.methodLink own i Lib.objectInit).before a0 Z = true) (w2 : (Cond.instanceMethod Lib.objectInit).before a0 Z = true)
    (w3 : (Cond.code Lib.objectInit ⟨#[0xb1]⟩ 1 none).before a0 Z = true) (b : Addr) (ls : Array Slot) (st : List Value) (hsz : ls.size = maxL) (V : Nat) (hV : (st.map fun v => v.category).sum = V) (hf : 1 ≤ R.frames) (hl : V + 12 ≤ R.locals) :
    ∃ T', Wk p l e R s m args below meth c Z T' h k n ss ∧ (∀ G, Go p.tables e below G T' (mkF m (pc + 3) ls st) → Go p.tables e below G T (mkF m pc ls (.ref b :: st))) := by
  obtain ⟨locs, vm0, k0, X, eT, N, O, S, hk, H, hss⟩ := W
  have B := B.at S
  obtain ⟨T', X', e', st'⟩ := initO X B.1 B.2.1 B.2.2.1 w1 w2 w3 eT (g := mkF m pc ls (.ref b :: st)) rfl (hsz.trans B.2.2.2.2.1.symm) rfl (hb B.2.2.2.1 hd) hf (W := V) (by show 2 * 0 + _ ≤ _; omega) hl
  exact ⟨T', ⟨locs, vm0, k0, X', e', N, O, S, hk, H, hss⟩, fun G q => Go.by st' q⟩
theorem x_get (B : Bdy p Z s m meth c own bytes maxL ret nm) (W : Wk p l e R s m args below meth c Z T h k n ss) {R0 O nf d host : String} {i : Nat} {b : Addr} {v : Value} (hd : decode bytes pc = .ok (.getfield i, 3)) (w : (Cond.fieldLink own i R0 nf d).before a0 Z = true ∨ (Cond.fieldLinkNest own i R0 nf d host).before a0 Z = true) (via : Via Z R0 O nf d) (F : Fld Z h b O nf d v) (ls : Array Slot) (st : List Value) :
    ∃ T', Wk p l e R s m args below meth c Z T' h k n ss ∧ (∀ G, Go p.tables e below G T' (mkF m (pc + 3) ls (v :: st)) → Go p.tables e below G T (mkF m pc ls (.ref b :: st))) := by
  obtain ⟨locs, vm0, k0, X, eT, N, O', S, hk, H, hss⟩ := W
  have B := B.at S
  obtain ⟨T', X', e', st'⟩ := getF X B.1 B.2.1 B.2.2.1 w via eT F (g := mkF m pc ls (.ref b :: st)) rfl rfl (hb B.2.2.2.1 hd)
  exact ⟨T', ⟨locs, vm0, k0, X', e', N, O', S, hk, H, hss⟩, fun G q => Go.by st' q⟩
theorem x_gets (B : Bdy p Z s m meth c own bytes maxL ret nm) (W : Wk p l e R s m args below meth c Z T h k n ss) {R0 O nf d host : String} {i : Nat} {v : Value} (hd : decode bytes pc = .ok (.getstatic i, 3)) (w : (Cond.fieldLink own i R0 nf d).before a0 Z = true ∨ (Cond.fieldLinkNest own i R0 nf d host).before a0 Z = true) (via : Via Z R0 O nf d) (F : Sta Z Z.heap O nf d v) (ls : Array Slot) (st : List Value) :
    ∃ T', Wk p l e R s m args below meth c Z T' h k n ss ∧ (∀ G, Go p.tables e below G T' (mkF m (pc + 3) ls (v :: st)) → Go p.tables e below G T (mkF m pc ls st)) := by
  obtain ⟨locs, vm0, k0, X, eT, N, O', S, hk, H, hss⟩ := W
  have B := B.at S
  obtain ⟨T', X', e', st'⟩ := getS2 X B.1 B.2.1 B.2.2.1 w via eT (F.ext O'.2) (g := mkF m pc ls st) rfl (hb B.2.2.2.1 hd)
  exact ⟨T', ⟨locs, vm0, k0, X', e', N, O', S, hk, H, hss⟩, fun G q => Go.by st' q⟩
theorem x_put (B : Bdy p Z s m meth c own bytes maxL ret nm) (W : Wk p l e R s m args below meth c Z T h k n ss) {R0 O nf d C : String} {i kk : Nat} {ty : FieldType} {b : Addr} {v v' old : Value} (hd : decode bytes pc = .ok (.putfield i, 3)) (w : (Cond.fieldLink own i R0 nf d).before a0 Z = true) (via : Via Z R0 O nf d) (F : Fld Z h b O nf d old) (E : Exa Z h b C) (L : (Cond.lays C O nf d).before a0 Z = true ∨ ((Cond.laysFinal C O nf d).before a0 Z = true ∧ own = O ∧ nm = "<init>")) (wi : (Cond.instantiable C kk).before a0 Z = true)
    (hty : parseFieldDescriptor d = some ty) (hn : narrow ty v = v') (hf : fits ty v' = true) (hb' : Z.heap.size ≤ b) (hsf : (C ≠ "java/lang/String" ∧ C ≠ "[B") ∨ b ∈ ss) (ls : Array Slot) (st : List Value) :
    ∃ T' h', Wk p l e R s m args below meth c Z T' h' k n ss ∧ Keep h h' [b] ∧ Wr h h' b (RoadKit.slotOf Z O nf d) v' ∧ Fld Z h' b O nf d v' ∧ Exa Z h' b C ∧ (∀ G, Go p.tables e below G T' (mkF m (pc + 3) ls st) → Go p.tables e below G T (mkF m pc ls (v :: .ref b :: st))) := by
  obtain ⟨locs, vm0, k0, X, eT, N, O', S, hk, H, hss⟩ := W
  have B := B.at S
  obtain ⟨T', h', X', e', W', st'⟩ := putFN X B.1 B.2.1 B.2.2.1 w via eT F E (L.imp id fun q => ⟨q.1, q.2.1, B.nameOf.trans q.2.2⟩) wi hty hn hf (g := mkF m pc ls (v :: .ref b :: st)) rfl rfl (hb B.2.2.2.1 hd)
  exact ⟨T', h', ⟨_, vm0, k0, X', e', Fr.snoc X' N hb', O'.wr W' hb', S, by rw [W'.size]; exact hk, H.trans (CHr.wr W' (hsf.elim (fun q => Safe.exa B.2.1.alike E q.1 q.2) fun q => (hss _ q).2) H.1), ss_mono (CHr.wr W' (hsf.elim (fun q => Safe.exa B.2.1.alike E q.1 q.2) fun q => (hss _ q).2) H.1) hss⟩, Keep.of_wr W', W', F.same W', E.wr W', fun G q => Go.by st' q⟩
theorem x_instY (B : Bdy p Z s m meth c own bytes maxL ret nm) (W : Wk p l e R s m args below meth c Z T h k n ss) {K : String} {i : Nat} {b : Addr} (hd : decode bytes pc = .ok (.instanceof i, 3)) (w : (Cond.classLink own i K).before a0 Z = true) (F : Ins Z h b K true) (ls : Array Slot) (st : List Value) :
    ∃ T', Wk p l e R s m args below meth c Z T' h k n ss ∧ (∀ G, Go p.tables e below G T' (mkF m (pc + 3) ls (.int 1 :: st)) → Go p.tables e below G T (mkF m pc ls (.ref b :: st))) := by
  obtain ⟨locs, vm0, k0, X, eT, N, O, S, hk, H, hss⟩ := W
  have B := B.at S
  obtain ⟨T', X', e', st'⟩ := instY X B.1 B.2.1 B.2.2.1 w eT F (g := mkF m pc ls (.ref b :: st)) rfl rfl (hb B.2.2.2.1 hd)
  exact ⟨T', ⟨locs, vm0, k0, X', e', N, O, S, hk, H, hss⟩, fun G q => Go.by st' q⟩
theorem x_instN (B : Bdy p Z s m meth c own bytes maxL ret nm) (W : Wk p l e R s m args below meth c Z T h k n ss) {K C : String} {i : Nat} {b : Addr} (hd : decode bytes pc = .ok (.instanceof i, 3)) (w : (Cond.classLink own i K).before a0 Z = true) (E : Exa Z h b C) (F : ∃ c t, Z.vm.findClass C = some c ∧ Z.vm.findClass K = some t ∧ Z.vm.assignable c t = false) (ls : Array Slot) (st : List Value) :
    ∃ T', Wk p l e R s m args below meth c Z T' h k n ss ∧ (∀ G, Go p.tables e below G T' (mkF m (pc + 3) ls (.int 0 :: st)) → Go p.tables e below G T (mkF m pc ls (.ref b :: st))) := by
  obtain ⟨locs, vm0, k0, X, eT, N, O, S, hk, H, hss⟩ := W
  have B := B.at S
  obtain ⟨T', X', e', st'⟩ := instNo X B.1 B.2.1 B.2.2.1 w eT E F (g := mkF m pc ls (.ref b :: st)) rfl rfl (hb B.2.2.2.1 hd)
  exact ⟨T', ⟨locs, vm0, k0, X', e', N, O, S, hk, H, hss⟩, fun G q => Go.by st' q⟩
theorem x_castY (B : Bdy p Z s m meth c own bytes maxL ret nm) (W : Wk p l e R s m args below meth c Z T h k n ss) {K : String} {i : Nat} {b : Addr} (hd : decode bytes pc = .ok (.checkcast i, 3)) (w : (Cond.classLink own i K).before a0 Z = true) (F : Ins Z h b K true) (ls : Array Slot) (st : List Value) :
    ∃ T', Wk p l e R s m args below meth c Z T' h k n ss ∧ (∀ G, Go p.tables e below G T' (mkF m (pc + 3) ls (.ref b :: st)) → Go p.tables e below G T (mkF m pc ls (.ref b :: st))) := by
  obtain ⟨locs, vm0, k0, X, eT, N, O, S, hk, H, hss⟩ := W
  have B := B.at S
  obtain ⟨T', X', e', st'⟩ := castY X B.1 B.2.1 B.2.2.1 w eT F (g := mkF m pc ls (.ref b :: st)) rfl rfl (hb B.2.2.2.1 hd)
  exact ⟨T', ⟨locs, vm0, k0, X', e', N, O, S, hk, H, hss⟩, fun G q => Go.by st' q⟩
/-! ### arrays -/
theorem x_newA (B : Bdy p Z s m meth c own bytes maxL ret nm) (W : Wk p l e R s m args below meth c Z T h k n ss) {aty : ArrayType} {z : Int32} (cap : Nat) (hd : decode bytes pc = .ok (.newarray aty, 2)) (w : (Cond.arrayClass (newarray.typeOf aty)).before a0 Z = true) (hn : ¬ z < 0) (hcap : z.toNatClampNeg ≤ cap) (hbg : cap * 8 ≤ 536870912) (hc : k + 1 ≤ R.cells) (hl : n + cap ≤ R.slots) (ls : Array Slot) (st : List Value) :
    ∃ T' h' b cA, b = h.size ∧ Wk p l e R s m args below meth c Z T' h' (k + 1) (n + cap) (b :: ss) ∧ Keep h h' [] ∧ Arv Z h' b cA (newarray.typeOf aty) z (List.replicate cap (defaultValue (newarray.typeOf aty))) (defaultValue (newarray.typeOf aty)) ∧
      (∀ G, Go p.tables e below G T' (mkF m (pc + 2) ls (.ref b :: st)) → Go p.tables e below G T (mkF m pc ls (.int z :: st))) := by
  obtain ⟨locs, vm0, k0, X, eT, N, O, S, hk, H, hss⟩ := W
  have B := B.at S
  obtain ⟨T', h', cA, X', e', E', A', st'⟩ := newP X B.1 B.2.1 w eT (g := mkF m pc ls (.int z :: st)) rfl (hb B.2.2.2.1 hd) rfl hn hcap hbg hc hl
  exact ⟨T', h', _, cA, rfl, ⟨locs, vm0, k0, X', e', N, O.ext E', S, Nat.le_trans hk E'.1, H.trans (CHr.ext E' H.1), own_ssn E' H.1 (by first | exact A'.lt | exact (Arv.new A' hn).lt) hss⟩, (Keep.refl h []).ext E', (Arv.new A' hn).pad (vs' := [] ++ List.replicate cap _) (pad_rep [] _ cap), fun G q => Go.by st' q⟩
theorem arv_put {kc : ClassId} {ty : FieldType} {z j : Int32} {vs : List Value} {dv v : Value} {b : Addr} (F : Arv Z h b kc ty z vs dv) (hv : fits ty v = true) (hW : Wr h h' b j.toNatClampNeg v) (hi : j.toNatClampNeg < vs.length) : Arv Z h' b kc ty z (vs.set j.toNatClampNeg v) dv := by
  obtain ⟨cl, A, r1, r2, r3, H, Gf⟩ := F
  exact Arv.set A r1 r2 r3 H Gf hv hW _ rfl hi
theorem x_castore (B : Bdy p Z s m meth c own bytes maxL ret nm) (W : Wk p l e R s m args below meth c Z T h k n ss) {kc : ClassId} {z j x : Int32} {vs : List Value} {dv : Value} {b : Addr} (hd : decode bytes pc = .ok (.castore, 1)) (F : Arv Z h b kc .char z vs dv) (hj : ¬ j < 0 ∧ j < z) (hi : j.toNatClampNeg < vs.length) (hb' : Z.heap.size ≤ b) (ls : Array Slot) (st : List Value) :
    ∃ T' h', Wk p l e R s m args below meth c Z T' h' k n ss ∧ Keep h h' [b] ∧ Arv Z h' b kc .char z (vs.set j.toNatClampNeg (.int (nar .char x))) dv ∧ (∀ G, Go p.tables e below G T' (mkF m (pc + 1) ls st) → Go p.tables e below G T (mkF m pc ls (.int x :: .int j :: .ref b :: st))) := by
  obtain ⟨locs, vm0, k0, X, eT, N, O, S, hk, H, hss⟩ := W
  have B := B.at S
  have F' := F
  obtain ⟨cl, A, r1, r2, r3, Hs, Gf⟩ := F
  obtain ⟨T', h', X', e', W', st'⟩ := stC X B.1 B.2.1 eT A (inb_of r2 hj) (g := mkF m pc ls (.int x :: .int j :: .ref b :: st)) rfl rfl (hb B.2.2.2.1 hd)
  exact ⟨T', h', ⟨_, vm0, k0, X', e', Fr.snoc X' N hb', O.wr W' hb', S, by rw [W'.size]; exact hk, H.trans (CHr.wr W' (Safe.arv B.2.1.alike F' (by decide)) H.1), ss_mono (CHr.wr W' (Safe.arv B.2.1.alike F' (by decide)) H.1) hss⟩, Keep.of_wr W', arv_put F' (fits_nar_char _) W' hi, fun G q => Go.by st' q⟩
theorem arv_read {kc : ClassId} {ty : FieldType} {z : Int32} {vs : List Value} {dv : Value} {b : Addr} (F : Arv Z h b kc ty z vs dv) {j : Int32} (hj : ¬ j < 0 ∧ j < z) {v : Value} (hv : vs.getD j.toNatClampNeg dv = v) : ∃ cl : Cell, Arr Z h b cl ty ∧ ¬ (j < 0 ∨ cl.slots.size ≤ j.toNatClampNeg) ∧ cl.slots[j.toNatClampNeg]? = some v := by
  obtain ⟨cl, A, r1, r2, r3, H, -⟩ := F
  exact ⟨cl, A, inb_of r2 hj, H.at (inb_of r2 hj) hv⟩
theorem g_caload (B : Bdy p Z s m meth c own bytes maxL ret nm) (W : Wk p l e R s m args below meth c Z T h k n ss) {kc : ClassId} {z j : Int32} {vs : List Value} {dv v : Value} {b : Addr} (hd : decode bytes pc = .ok (.caload, 1)) (F : Arv Z h b kc .char z vs dv) (hj : ¬ j < 0 ∧ j < z) (hv : vs.getD j.toNatClampNeg dv = v)
    (q : Go p.tables e below G T (mkF m (pc + 1) ls (v :: st))) : Go p.tables e below G T (mkF m pc ls (.int j :: .ref b :: st)) := by
  obtain ⟨locs, vm0, k0, X, eT, N, O, S, hk, H, hss⟩ := W
  have B := B.at S
  obtain ⟨cl, A, hin, hat⟩ := arv_read F hj hv
  exact Go.by (X.caload B.1 (by rw [eT]; exact A.1) (State.isArrayOf_alike B.2.1.alike A.2.1) A.2.2 hin hat (g := mkF m pc ls (.int j :: .ref b :: st)) rfl rfl (hb B.2.2.2.1 hd)) q
theorem g_caloadK (B : Bdy p Z s m meth c own bytes maxL ret nm) (W : Wk p l e R s m args below meth c Z T h k n ss) {j : Int32} {v : Value} {cl : Cell} {b : Addr} (hd : decode bytes pc = .ok (.caload, 1)) (A : Arr Z h b cl .char) (hin : ¬ (j < 0 ∨ cl.slots.size ≤ j.toNatClampNeg)) (hat : cl.slots[j.toNatClampNeg]? = some v)
    (q : Go p.tables e below G T (mkF m (pc + 1) ls (v :: st))) : Go p.tables e below G T (mkF m pc ls (.int j :: .ref b :: st)) := by
  obtain ⟨locs, vm0, k0, X, eT, N, O, S, hk, H, hss⟩ := W
  have B := B.at S
  exact Go.by (X.caload B.1 (by rw [eT]; exact A.1) (State.isArrayOf_alike B.2.1.alike A.2.1) A.2.2 hin hat (g := mkF m pc ls (.int j :: .ref b :: st)) rfl rfl (hb B.2.2.2.1 hd)) q
theorem g_alenK (B : Bdy p Z s m meth c own bytes maxL ret nm) (W : Wk p l e R s m args below meth c Z T h k n ss) {ty : FieldType} {z : Int32} {cl : Cell} {b : Addr} (hd : decode bytes pc = .ok (.arraylength, 1)) (A : Arr Z h b cl ty) (hz : cl.slots.size.toInt32 = z)
    (q : Go p.tables e below G T (mkF m (pc + 1) ls (.int z :: st))) : Go p.tables e below G T (mkF m pc ls (.ref b :: st)) := by
  obtain ⟨locs, vm0, k0, X, eT, N, O, S, hk, H, hss⟩ := W
  have B := B.at S
  refine Go.by (X.arraylength B.1 (by rw [eT]; exact A.1) (State.isArrayOf_alike B.2.1.alike A.2.1) (g := mkF m pc ls (.ref b :: st)) rfl rfl (hb B.2.2.2.1 hd)) ?_
  rw [hz]; exact q
theorem g_aalen (B : Bdy p Z s m meth c own bytes maxL ret nm) (W : Wk p l e R s m args below meth c Z T h k n ss) {kc : ClassId} {ty : FieldType} {z : Int32} {vs : List Value} {dv : Value} {b : Addr} (hd : decode bytes pc = .ok (.arraylength, 1)) (F : Arv Z h b kc ty z vs dv)
    (q : Go p.tables e below G T (mkF m (pc + 1) ls (.int z :: st))) : Go p.tables e below G T (mkF m pc ls (.ref b :: st)) := by
  obtain ⟨locs, vm0, k0, X, eT, N, O, S, hk, H, hss⟩ := W
  have B := B.at S
  obtain ⟨cl, A, r1, r2, r3, H, -⟩ := F
  refine Go.by (X.arraylength B.1 (by rw [eT]; exact A.1) (State.isArrayOf_alike B.2.1.alike A.2.1) (g := mkF m pc ls (.ref b :: st)) rfl rfl (hb B.2.2.2.1 hd)) ?_
  rw [len_of r2 r3]; exact q
theorem g_aaload (B : Bdy p Z s m meth c own bytes maxL ret nm) (W : Wk p l e R s m args below meth c Z T h k n ss) {ty : FieldType} {j : Int32} {v : Value} {cl : Cell} {b : Addr} (hd : decode bytes pc = .ok (.aaload, 1)) (A : Arr Z h b cl ty) (ht : ty.isReference = true) (hin : ¬ (j < 0 ∨ cl.slots.size ≤ j.toNatClampNeg)) (hat : cl.slots[j.toNatClampNeg]? = some v)
    (q : Go p.tables e below G T (mkF m (pc + 1) ls (v :: st))) : Go p.tables e below G T (mkF m pc ls (.int j :: .ref b :: st)) := by
  obtain ⟨locs, vm0, k0, X, eT, N, O, S, hk, H, hss⟩ := W
  have B := B.at S
  exact Go.by (X.aaload B.1 (by rw [eT]; exact A.1) (State.isArrayOf_alike B.2.1.alike A.2.1) ht A.2.2 hin hat (g := mkF m pc ls (.int j :: .ref b :: st)) rfl rfl (hb B.2.2.2.1 hd)) q
theorem g_instNull (B : Bdy p Z s m meth c own bytes maxL ret nm) (W : Wk p l e R s m args below meth c Z T h k n ss) {i : Nat} (hd : decode bytes pc = .ok (.instanceof i, 3)) (q : Go p.tables e below G T (mkF m (pc + 3) ls (.int 0 :: st))) : Go p.tables e below G T (mkF m pc ls (.null :: st)) := by
  obtain ⟨_, _, _, X, _, _, _, S, -⟩ := W
  have B := B.at S
  exact Go.by (X.instanceofNull B.1 (g := mkF m pc ls (.null :: st)) rfl rfl (hb B.2.2.2.1 hd)) q
theorem g_castNull (B : Bdy p Z s m meth c own bytes maxL ret nm) (W : Wk p l e R s m args below meth c Z T h k n ss) {i : Nat} (hd : decode bytes pc = .ok (.checkcast i, 3)) (q : Go p.tables e below G T (mkF m (pc + 3) ls (.null :: st))) : Go p.tables e below G T (mkF m pc ls (.null :: st)) := by
  obtain ⟨_, _, _, X, _, _, _, S, -⟩ := W
  have B := B.at S
  refine Go.by (fun t q => ?_) q
  jvm_step X.here [B.1, (hb B.2.2.2.1 hd), checkcast.sem]
  exact q
theorem x_newR (B : Bdy p Z s m meth c own bytes maxL ret nm) (W : Wk p l e R s m args below meth c Z T h k n ss) {C : String} {i : Nat} {z : Int32} (cap : Nat) (hd : decode bytes pc = .ok (.anewarray i, 3)) (w1 : (Cond.classLink own i C).before a0 Z = true) (w2 : (Cond.arrayOver (.object C)).before a0 Z = true) (hn : ¬ z < 0) (hcap : z.toNatClampNeg ≤ cap) (hbg : cap * 8 ≤ 536870912) (hc : k + 1 ≤ R.cells) (hl : n + cap ≤ R.slots) (ls : Array Slot) (st : List Value) :
    ∃ T' h' b cA, b = h.size ∧ Wk p l e R s m args below meth c Z T' h' (k + 1) (n + cap) (b :: ss) ∧ Keep h h' [] ∧ Arv Z h' b cA (.object C) z (List.replicate cap .null) .null ∧ Ovr Z cA C ∧
      (∀ G, Go p.tables e below G T' (mkF m (pc + 3) ls (.ref b :: st)) → Go p.tables e below G T (mkF m pc ls (.int z :: st))) := by
  obtain ⟨locs, vm0, k0, X, eT, N, O, S, hk, H, hss⟩ := W
  have B := B.at S
  obtain ⟨T', h', cA, X', e', E', A', Ov', st'⟩ := newR X B.1 B.2.1 B.2.2.1 w1 w2 eT (g := mkF m pc ls (.int z :: st)) rfl (hb B.2.2.2.1 hd) rfl hn hcap hbg hc hl
  exact ⟨T', h', _, cA, rfl, ⟨locs, vm0, k0, X', e', N, O.ext E', S, Nat.le_trans hk E'.1, H.trans (CHr.ext E' H.1), own_ssn E' H.1 (by first | exact A'.lt | exact (Arv.new A' hn).lt) hss⟩, (Keep.refl h []).ext E', (Arv.new A' hn).pad (vs' := [] ++ List.replicate cap _) (pad_rep [] _ cap), Ov', fun G q => Go.by st' q⟩
theorem x_aastore (B : Bdy p Z s m meth c own bytes maxL ret nm) (W : Wk p l e R s m args below meth c Z T h k n ss) {kc : ClassId} {ty : FieldType} {z j : Int32} {vs : List Value} {dv v : Value} {b : Addr} (hd : decode bytes pc = .ok (.aastore, 1)) (F : Arv Z h b kc ty z vs dv) (ht : ty.isReference = true) (hj : ¬ j < 0 ∧ j < z) (hi : j.toNatClampNeg < vs.length) (hv : v.isRef = true) (hS : ∀ cl, Arr Z h b cl ty → cl.cls = kc → Sto Z h b v) (hb' : Z.heap.size ≤ b) (ls : Array Slot) (st : List Value) :
    ∃ T' h', Wk p l e R s m args below meth c Z T' h' k n ss ∧ Keep h h' [b] ∧ Arv Z h' b kc ty z (vs.set j.toNatClampNeg v) dv ∧ (∀ G, Go p.tables e below G T' (mkF m (pc + 1) ls st) → Go p.tables e below G T (mkF m pc ls (v :: .int j :: .ref b :: st))) := by
  obtain ⟨locs, vm0, k0, X, eT, N, O, S, hk, H, hss⟩ := W
  have B := B.at S
  have F' := F
  have hby : ty ≠ .byte := fun q => by rw [q] at ht; cases ht
  obtain ⟨cl, A, r1, r2, r3, Hs, Gf⟩ := F
  obtain ⟨T', h', X', e', W', st'⟩ := stR X B.1 B.2.1 eT A (inb_of r2 hj) ht (hS cl A r1) (g := mkF m pc ls (v :: .int j :: .ref b :: st)) rfl rfl (hb B.2.2.2.1 hd)
  exact ⟨T', h', ⟨_, vm0, k0, X', e', Fr.snoc X' N hb', O.wr W' hb', S, by rw [W'.size]; exact hk, H.trans (CHr.wr W' (Safe.arv B.2.1.alike F' hby) H.1), ss_mono (CHr.wr W' (Safe.arv B.2.1.alike F' hby) H.1) hss⟩, Keep.of_wr W', arv_put F' (own_fr ht hv) W' hi, fun G q => Go.by st' q⟩
theorem g_aaloadV (B : Bdy p Z s m meth c own bytes maxL ret nm) (W : Wk p l e R s m args below meth c Z T h k n ss) {kc : ClassId} {ty : FieldType} {z j : Int32} {vs : List Value} {dv v : Value} {b : Addr} (hd : decode bytes pc = .ok (.aaload, 1)) (F : Arv Z h b kc ty z vs dv) (ht : ty.isReference = true) (hj : ¬ j < 0 ∧ j < z) (hv : vs.getD j.toNatClampNeg dv = v)
    (q : Go p.tables e below G T (mkF m (pc + 1) ls (v :: st))) : Go p.tables e below G T (mkF m pc ls (.int j :: .ref b :: st)) := by
  obtain ⟨cl, A, hin, hat⟩ := arv_read F hj hv
  exact g_aaload B W hd A ht hin hat q
theorem x_clone (B : Bdy p Z s m meth c own bytes maxL ret nm) (W : Wk p l e R s m args below meth c Z T h k n ss) {ad : String} {i : Nat} {b : Addr} {cl : Cell} {ty : FieldType} (cap : Nat) (hd : decode bytes pc = .ok (.invokevirtual i, 3)) (w1 : (Cond.methodLink own i ⟨ad, "clone", "()Ljava/lang/Object;"⟩).before a0 Z = true) (w2 : (Cond.sameMethod ad "java/lang/Object" "clone" "()Ljava/lang/Object;").before a0 Z = true) (w3 : (Cond.native ⟨"java/lang/Object", "clone", "()Ljava/lang/Object;"⟩).before a0 Z = true)
    (w4 : (Cond.instanceMethod ⟨"java/lang/Object", "clone", "()Ljava/lang/Object;"⟩).before a0 Z = true) (w5 : (Cond.selects ad ⟨ad, "clone", "()Ljava/lang/Object;"⟩ ⟨"java/lang/Object", "clone", "()Ljava/lang/Object;"⟩).before a0 Z = true) (w6 : (Cond.castable ad "java/lang/Cloneable").before a0 Z = true) (A : Arr Z h b cl ty) (E : Exa Z h b ad) (F : FitC Z cl)
    (ls : Array Slot) (st : List Value) (hsz : ls.size = maxL) (V : Nat) (hV : (st.map fun v => v.category).sum = V) (hf : 1 ≤ R.frames) (hl : V + 14 ≤ R.locals) (hcap : cl.slots.size ≤ cap) (hc : k + 1 ≤ R.cells) (hs : n + cap ≤ R.slots) :
    ∃ T' h' b', b' = h.size ∧ Wk p l e R s m args below meth c Z T' h' (k + 1) (n + cap) (b' :: ss) ∧ Keep h h' [] ∧ Arr Z h' b' (cloneOf cl) ty ∧ Exa Z h' b' ad ∧ (∀ G, Go p.tables e below G T' (mkF m (pc + 3) ls (.ref b' :: st)) → Go p.tables e below G T (mkF m pc ls (.ref b :: st))) := by
  obtain ⟨locs, vm0, k0, X, eT, N, O, S, hk, H, hss⟩ := W
  have B := B.at S
  obtain ⟨T', h', X', e', E', A', Ex', st'⟩ := cloneA X B.1 B.2.1 B.2.2.1 w1 w2 w3 w4 w5 w6 eT A E F (g := mkF m pc ls (.ref b :: st)) rfl (hsz.trans B.2.2.2.2.1.symm) rfl (hb B.2.2.2.1 hd) hf (W := V) (by show 2 * 0 + _ ≤ _; omega) hl hcap hc hs
  exact ⟨T', h', _, rfl, ⟨locs, vm0, k0, X', e', N, O.ext E', S, Nat.le_trans hk E'.1, H.trans (CHr.ext E' H.1), own_ssn E' H.1 (by first | exact A'.lt | exact (Arv.new A' hn).lt) hss⟩, (Keep.refl h []).ext E', A', Ex', fun G q => Go.by st' q⟩
theorem x_cloneV (B : Bdy p Z s m meth c own bytes maxL ret nm) (W : Wk p l e R s m args below meth c Z T h k n ss) {ad : String} {i : Nat} {b : Addr} {kc : ClassId} {ty : FieldType} {z : Int32} {vs : List Value} {dv : Value} (cap : Nat) (hd : decode bytes pc = .ok (.invokevirtual i, 3)) (w1 : (Cond.methodLink own i ⟨ad, "clone", "()Ljava/lang/Object;"⟩).before a0 Z = true) (w2 : (Cond.sameMethod ad "java/lang/Object" "clone" "()Ljava/lang/Object;").before a0 Z = true) (w3 : (Cond.native ⟨"java/lang/Object", "clone", "()Ljava/lang/Object;"⟩).before a0 Z = true)
    (w4 : (Cond.instanceMethod ⟨"java/lang/Object", "clone", "()Ljava/lang/Object;"⟩).before a0 Z = true) (w5 : (Cond.selects ad ⟨ad, "clone", "()Ljava/lang/Object;"⟩ ⟨"java/lang/Object", "clone", "()Ljava/lang/Object;"⟩).before a0 Z = true) (w6 : (Cond.castable ad "java/lang/Cloneable").before a0 Z = true) (F : Arv Z h b kc ty z vs dv) (E : Exa Z h b ad)
    (ls : Array Slot) (st : List Value) (hsz : ls.size = maxL) (V : Nat) (hV : (st.map fun v => v.category).sum = V) (hf : 1 ≤ R.frames) (hl : V + 14 ≤ R.locals) (hcap : z.toNatClampNeg ≤ cap) (hc : k + 1 ≤ R.cells) (hs : n + cap ≤ R.slots) :
    ∃ T' h' b', b' = h.size ∧ Wk p l e R s m args below meth c Z T' h' (k + 1) (n + cap) (b' :: ss) ∧ Keep h h' [] ∧ Arv Z h' b' kc ty z vs dv ∧ Exa Z h' b' ad ∧ (∀ G, Go p.tables e below G T' (mkF m (pc + 3) ls (.ref b' :: st)) → Go p.tables e below G T (mkF m pc ls (.ref b :: st))) := by
  obtain ⟨cl, A, r1, r2, r3, H, G⟩ := F
  obtain ⟨T', h', b', eb, W', K, A', E', st'⟩ := x_clone B W cap hd w1 w2 w3 w4 w5 w6 A E (fitC_of A (fun i hi v hv => by have q := H i hi; rw [hv] at q; cases q; exact G i hi)) ls st hsz V hV hf hl (r2 ▸ hcap) hc hs
  exact ⟨T', h', b', eb, W', K, ⟨_, A', r1, r2, r3, H, G⟩, E', st'⟩
theorem x_newE (B : Bdy p Z s m meth c own bytes maxL ret nm) (W : Wk p l e R s m args below meth c Z T h k n ss) {aty : ArrayType} {z : Int32} {ad : String} (cap : Nat) (hd : decode bytes pc = .ok (.newarray aty, 2)) (w : (Cond.arrayClass (newarray.typeOf aty)).before a0 Z = true) (hn : ¬ z < 0) (hcap : z.toNatClampNeg ≤ cap) (hbg : cap * 8 ≤ 536870912) (hc : k + 1 ≤ R.cells) (hl : n + cap ≤ R.slots) (had : "[" ++ (newarray.typeOf aty).toString = ad) (ls : Array Slot) (st : List Value) :
    ∃ T' h' b cA, b = h.size ∧ Wk p l e R s m args below meth c Z T' h' (k + 1) (n + cap) (b :: ss) ∧ Keep h h' [] ∧ Arv Z h' b cA (newarray.typeOf aty) z (List.replicate cap (defaultValue (newarray.typeOf aty))) (defaultValue (newarray.typeOf aty)) ∧ Exa Z h' b ad ∧
      (∀ G, Go p.tables e below G T' (mkF m (pc + 2) ls (.ref b :: st)) → Go p.tables e below G T (mkF m pc ls (.int z :: st))) := by
  obtain ⟨locs, vm0, k0, X, eT, N, O, S, hk, H, hss⟩ := W
  have B := B.at S
  obtain ⟨T', h', cA, X', e', E', A', Ex', st'⟩ := newPE X B.1 B.2.1 w eT (g := mkF m pc ls (.int z :: st)) rfl (hb B.2.2.2.1 hd) rfl hn hcap hbg hc hl had
  exact ⟨T', h', _, cA, rfl, ⟨locs, vm0, k0, X', e', N, O.ext E', S, Nat.le_trans hk E'.1, H.trans (CHr.ext E' H.1), own_ssn E' H.1 (by first | exact A'.lt | exact (Arv.new A' hn).lt) hss⟩, (Keep.refl h []).ext E', (Arv.new A' hn).pad (vs' := [] ++ List.replicate cap _) (pad_rep [] _ cap), Ex', fun G q => Go.by st' q⟩
theorem x_bastore (B : Bdy p Z s m meth c own bytes maxL ret nm) (W : Wk p l e R s m args below meth c Z T h k n ss) {kc : ClassId} {z j x : Int32} {vs : List Value} {dv : Value} {b : Addr} (hd : decode bytes pc = .ok (.bastore, 1)) (F : Arv Z h b kc .byte z vs dv) (hj : ¬ j < 0 ∧ j < z) (hi : j.toNatClampNeg < vs.length) (hb' : Z.heap.size ≤ b) (hsb : b ∈ ss) (ls : Array Slot) (st : List Value) :
    ∃ T' h', Wk p l e R s m args below meth c Z T' h' k n ss ∧ Keep h h' [b] ∧ Arv Z h' b kc .byte z (vs.set j.toNatClampNeg (.int (nar .byte x))) dv ∧ (∀ G, Go p.tables e below G T' (mkF m (pc + 1) ls st) → Go p.tables e below G T (mkF m pc ls (.int x :: .int j :: .ref b :: st))) := by
  obtain ⟨locs, vm0, k0, X, eT, N, O, S, hk, H, hss⟩ := W
  have B := B.at S
  have F' := F
  obtain ⟨cl, A, r1, r2, r3, Hs, Gf⟩ := F
  obtain ⟨T', h', X', e', W', st'⟩ := stB X B.1 B.2.1 eT A (inb_of r2 hj) (g := mkF m pc ls (.int x :: .int j :: .ref b :: st)) rfl rfl (hb B.2.2.2.1 hd)
  exact ⟨T', h', ⟨_, vm0, k0, X', e', Fr.snoc X' N hb', O.wr W' hb', S, by rw [W'.size]; exact hk, H.trans (CHr.wr W' (hss _ hsb).2 H.1), ss_mono (CHr.wr W' (hss _ hsb).2 H.1) hss⟩, Keep.of_wr W', arv_put F' (fits_nar_byte _) W' hi, fun G q => Go.by st' q⟩
theorem g_baload (B : Bdy p Z s m meth c own bytes maxL ret nm) (W : Wk p l e R s m args below meth c Z T h k n ss) {kc : ClassId} {z j : Int32} {vs : List Value} {dv v : Value} {b : Addr} (hd : decode bytes pc = .ok (.baload, 1)) (F : Arv Z h b kc .byte z vs dv) (hj : ¬ j < 0 ∧ j < z) (hv : vs.getD j.toNatClampNeg dv = v)
    (q : Go p.tables e below G T (mkF m (pc + 1) ls (v :: st))) : Go p.tables e below G T (mkF m pc ls (.int j :: .ref b :: st)) := by
  obtain ⟨locs, vm0, k0, X, eT, N, O, S, hk, H, hss⟩ := W
  have B := B.at S
  obtain ⟨cl, A, hin, hat⟩ := arv_read F hj hv
  exact Go.by (X.baloadBytes B.1 (by rw [eT]; exact A.1) (State.isArrayOf_alike B.2.1.alike A.2.1) A.2.2 hin hat (g := mkF m pc ls (.int j :: .ref b :: st)) rfl rfl (hb B.2.2.2.1 hd)) q
theorem x_acopy (B : Bdy p Z s m meth c own bytes maxL ret nm) (W : Wk p l e R s m args below meth c Z T h k n ss) {i : Nat} {ka kb : ClassId} {ty ty' : FieldType} {za zb sp dp nn : Int32} {va vb us : List Value} {da db : Value} {a b : Addr} (hd : decode bytes pc = .ok (.invokestatic i, 3)) (w1 : (Cond.methodLink own i Jvm.Stand.acN).before a0 Z = true) (w2 : (Cond.native Jvm.Stand.acN).before a0 Z = true) (w3 : (Cond.static Jvm.Stand.acN).before a0 Z = true) (w4 : (Cond.initialized "java/lang/System").before a0 Z = true)
    (A : Arv Z h a ka ty za va da) (A' : Arv Z h b kb ty' zb vb db) (hty : (ty = ty' ∧ refKind ty = false) ∨ (refKind ty = true ∧ refKind ty' = true ∧ StoL Z h b us)) (h1 : ¬ sp < 0) (h2 : ¬ dp < 0) (h3 : ¬ nn < 0) (h4 : sp.toNatClampNeg + nn.toNatClampNeg ≤ za.toNatClampNeg) (h5 : dp.toNatClampNeg + nn.toNatClampNeg ≤ zb.toNatClampNeg)
    (hus : us = (List.range nn.toNatClampNeg).map fun i => va.getD (sp.toNatClampNeg + i) da) (hl : dp.toNatClampNeg + nn.toNatClampNeg ≤ vb.length) (hb' : Z.heap.size ≤ b) (hsb : b ∈ ss) (ls : Array Slot) (st : List Value) (hsz : ls.size = maxL) (V : Nat) (hV : (st.map fun v => v.category).sum = V) (hf : 1 ≤ R.frames) (hlo : V + (nativeFrameWords "java/lang/System" "arraycopy" 5 + 11) ≤ R.locals) :
    ∃ T' h', Wk p l e R s m args below meth c Z T' h' k n ss ∧ Keep h h' [b] ∧ Arv Z h' b kb ty' zb (vb.take dp.toNatClampNeg ++ us ++ vb.drop (dp.toNatClampNeg + nn.toNatClampNeg)) db ∧ (∀ G, Go p.tables e below G T' (mkF m (pc + 3) ls st) → Go p.tables e below G T (mkF m pc ls (.int nn :: .int dp :: .ref b :: .int sp :: .ref a :: st))) := by
  obtain ⟨locs, vm0, k0, X, eT, N, O, S, hk, H, hss⟩ := W
  have B := B.at S
  obtain ⟨T', h', L', X', e', N', K', F', st'⟩ := cpA X B.1 B.2.1 B.2.2.1 w1 w2 w3 w4 eT A A' hty h1 h2 h3 h4 h5 hus hl N hb' (g := mkF m pc ls (.int nn :: .int dp :: .ref b :: .int sp :: .ref a :: st)) rfl (hsz.trans B.2.2.2.2.1.symm) rfl (hb B.2.2.2.1 hd) hf (W := V) (by show 2 * 0 + _ ≤ _; omega) hlo
  exact ⟨T', h', ⟨_, vm0, k0, X', e', N', O.keep K' (allS hb' all0), S, Nat.le_trans hk K'.1, H.trans (CHr.keep K' (allS (hss _ hsb).2 all0) H.1), ss_mono (CHr.keep K' (allS (hss _ hsb).2 all0) H.1) hss⟩, K', F', fun G q => Go.by st' q⟩
def Mi (Z : State) (C : String) (mr : Addr) : Prop := ∃ (c : ClassId) (k : Class), Z.vm.findClass C = some c ∧ Z.vm.classes[c]? = some k ∧ k.mirror = some mr
theorem x_getClass (B : Bdy p Z s m meth c own bytes maxL ret nm) (W : Wk p l e R s m args below meth c Z T h k n ss) {C : String} {i : Nat} {b mr : Addr} (hd : decode bytes pc = .ok (.invokevirtual i, 3)) (w1 : (Cond.methodLink own i ⟨"java/lang/Object", "getClass", "()Ljava/lang/Class;"⟩).before a0 Z = true) (w2 : (Cond.declares ⟨"java/lang/Object", "getClass", "()Ljava/lang/Class;"⟩).before a0 Z = true) (w4 : (Cond.selects C ⟨"java/lang/Object", "getClass", "()Ljava/lang/Class;"⟩ ⟨"java/lang/Object", "getClass", "()Ljava/lang/Class;"⟩).before a0 Z = true)
    (w5 : (Cond.instanceMethod ⟨"java/lang/Object", "getClass", "()Ljava/lang/Class;"⟩).before a0 Z = true) (w6 : (Cond.native ⟨"java/lang/Object", "getClass", "()Ljava/lang/Class;"⟩).before a0 Z = true) (E : Exa Z h b C) (M : Mi Z C mr) (ls : Array Slot) (st : List Value) (hsz : ls.size = maxL) (V : Nat) (hV : (st.map fun v => v.category).sum = V) (hf : 1 ≤ R.frames) (hl : V + (nativeFrameWords "java/lang/Object" "getClass" 1 + 11) ≤ R.locals) :
    ∃ T', Wk p l e R s m args below meth c Z T' h k n ss ∧ (∀ G, Go p.tables e below G T' (mkF m (pc + 3) ls (.ref mr :: st)) → Go p.tables e below G T (mkF m pc ls (.ref b :: st))) := by
  obtain ⟨locs, vm0, k0, X, eT, N, O, S, hk, H, hss⟩ := W
  have B := B.at S
  obtain ⟨cB, kB, i1, i2, i3⟩ := isOf B.2.1 eT E
  obtain ⟨cc, kc, m1, m2, m3⟩ := M
  rw [B.2.1.alike.findClass] at i1
  cases i1.symm.trans m1
  obtain ⟨k', q, ek⟩ := B.2.1.alike.2.2 _ _ m2
  obtain ⟨vm', X', st'⟩ := X.getClassOf B.1 B.2.2.1 (mvT B.2.1 w1) (mvT B.2.1 w2) (notFace_of_selects (args := #[]) (mvT B.2.1 w4)) (mvT B.2.1 w4) (mvT B.2.1 w5) (mvT B.2.1 w6) (by rw [B.2.1.alike.findClass]; exact m1) i3 q (by rw [ek]; exact m3) (g := mkF m pc ls (.ref b :: st)) rfl (hsz.trans B.2.2.2.2.1.symm) rfl (hb B.2.2.2.1 hd) hf (by show 2 * 0 + _ + _ ≤ _; omega)
  have e' : (T.setVm vm').heap = h := eT
  have X' := X'
  exact ⟨_, ⟨locs, vm0, k0, X', e', N, O, S, hk, H, hss⟩, fun G q => Go.by st' q⟩
theorem x_ldcM (B : Bdy p Z s m meth c own bytes maxL ret nm) (W : Wk p l e R s m args below meth c Z T h k n ss) {C : String} {i : Nat} {mr : Addr} (hd : decode bytes pc = .ok (.ldc i, 2)) (w : (Cond.classLink own i C).before a0 Z = true) (M : Mi Z C mr) (ls : Array Slot) (st : List Value) :
    ∃ T', Wk p l e R s m args below meth c Z T' h k n ss ∧ (∀ G, Go p.tables e below G T' (mkF m (pc + 2) ls (.ref mr :: st)) → Go p.tables e below G T (mkF m pc ls st)) := by
  obtain ⟨locs, vm0, k0, X, eT, N, O, S, hk, H, hss⟩ := W
  have B := B.at S
  obtain ⟨cc, kc, m1, m2, m3⟩ := M
  obtain ⟨k', q, ek⟩ := B.2.1.alike.2.2 _ _ m2
  have m1' := (B.2.1.alike.findClass C none).trans m1
  have e0 : k'.mirror = some mr := by rw [ek]; exact m3
  obtain ⟨vm', X', st'⟩ := X.ldcMirror B.1 B.2.2.1 (mv B.2.1 w) (C := C) (a := mr) (by first | (simp [Term.eval, m1', q, e0]; done) | (simp [State.setVm] at m1' q; simp [Term.eval, State.setVm, m1', q, e0]; done)) (g := mkF m pc ls st) rfl (hb B.2.2.2.1 hd)
  have e' : (T.setVm vm').heap = h := eT
  exact ⟨_, ⟨locs, vm0, k0, X', e', N, O, S, hk, H, hss⟩, fun G q => Go.by st' q⟩
theorem x_newRE (B : Bdy p Z s m meth c own bytes maxL ret nm) (W : Wk p l e R s m args below meth c Z T h k n ss) {C ad : String} {i : Nat} {z : Int32} (cap : Nat) (hd : decode bytes pc = .ok (.anewarray i, 3)) (w1 : (Cond.classLink own i C).before a0 Z = true) (w2 : (Cond.arrayOver (.object C)).before a0 Z = true) (hn : ¬ z < 0) (hcap : z.toNatClampNeg ≤ cap) (hbg : cap * 8 ≤ 536870912) (hc : k + 1 ≤ R.cells) (hl : n + cap ≤ R.slots) (had : "[" ++ (FieldType.object C).toString = ad) (ls : Array Slot) (st : List Value) :
    ∃ T' h' b cA, b = h.size ∧ Wk p l e R s m args below meth c Z T' h' (k + 1) (n + cap) (b :: ss) ∧ Keep h h' [] ∧ Arv Z h' b cA (.object C) z (List.replicate cap .null) .null ∧ Ovr Z cA C ∧ Exa Z h' b ad ∧
      (∀ G, Go p.tables e below G T' (mkF m (pc + 3) ls (.ref b :: st)) → Go p.tables e below G T (mkF m pc ls (.int z :: st))) := by
  obtain ⟨locs, vm0, k0, X, eT, N, O, S, hk, H, hss⟩ := W
  have B := B.at S
  obtain ⟨T', h', cA, X', e', E', A', Ex', Ov', st'⟩ := newRE X B.1 B.2.1 B.2.2.1 w1 w2 eT (g := mkF m pc ls (.int z :: st)) rfl (hb B.2.2.2.1 hd) rfl hn hcap hbg hc hl had
  exact ⟨T', h', _, cA, rfl, ⟨locs, vm0, k0, X', e', N, O.ext E', S, Nat.le_trans hk E'.1, H.trans (CHr.ext E' H.1), own_ssn E' H.1 (by first | exact A'.lt | exact (Arv.new A' hn).lt) hss⟩, (Keep.refl h []).ext E', (Arv.new A' hn).pad (vs' := [] ++ List.replicate cap _) (pad_rep [] _ cap), Ov', Ex', fun G q => Go.by st' q⟩
/-! ### calls -/
theorem backC {vm0 : Vm} {y : MethodName} {yb : ByteArray} {yL : Nat} {yr : Option FieldType} {rm : Room} {len V : Nat} {as' : Array Value} {s0 : List Addr} (C : Con l Z y yb yL yr [] rm as' h Q s0) (O : Old Z Z.heap.size h) (hWd : Wd Z)
    (hZ : Z.Warmed39 vm0) (wc : (Cond.code y yb yL yr).before a0 Z = true) (wz : (Cond.initialized y.cls).before a0 Z = true) (hf : rm.frames + 1 ≤ R.frames) (hl : V + (yL + 11) + rm.locals ≤ R.locals) (H : CHv Z EL vm0 h) (hs0 : ∀ x ∈ s0, x < h.size ∧ Safe Z EL vm0 h x) :
    BackS l R p e below (s.setVm vm0) args y len V (fun A a => a = as' ∧ A.U.heap = h ∧ A.cells + rm.cells ≤ R.cells ∧ A.slots + rm.slots ≤ R.slots)
      (fun A _ v B => ∃ L, (Q v B.U.heap ∧ Fr Z.heap.size L ∧ Old Z Z.heap.size B.U.heap) ∧ B.locs = A.locs ++ L ∧ B.cells = A.cells + rm.cells ∧ B.slots = A.slots + rm.slots ∧ CHr Z EL vm0 h B.U.vm B.U.heap) := by
  obtain ⟨a1, hEL, -⟩ := id hWd
  refine BackS.of_freeW (bytes := yb) (maxL := yL) (ret := yr) (E := fun _ first o t L k n => (k = rm.cells ∧ n = rm.slots) ∧ ∃ v, o = .returned v ∧ (Q v t.heap ∧ Fr Z.heap.size L ∧ Old Z Z.heap.size t.heap) ∧ CHr Z EL first.vm first.heap t.vm t.heap) (C hWd O) hf hl ?_ ?_ (fun _ _ _ _ _ _ _ _ _ => trivial) ?_ ?_
  · intro m meth c A a Y hp
    have hU : Z.Warmed39 A.U.vm := wtrans (s := s.setVm vm0) hZ Y.warmed
    exact ⟨by show (Cond.and _ .tt).before a A.U = true; rw [Cond.before_and, mv hU wc]; rfl, mv hU wc, mv hU wz, hp.2.2.1, hp.2.2.2⟩
  · intro m meth c A a g mk Y hp
    have q := CHv.at Y hZ hEL H
    exact ⟨hp.1, wtrans (s := s.setVm vm0) hZ Y.warmed, hp.2.1, q.1, ss_mono q hs0⟩
  · rintro _ _ _ _ ⟨v, L, h1, h2, h3, h4⟩
    exact ⟨L, _, _, h4, ⟨rfl, rfl⟩, v, h1, h2, h3⟩
  · rintro m meth c A a g mk v t L k n Y hp _ _ ⟨⟨rfl, rfl⟩, v', e3, e4, e5⟩
    cases e3
    refine ⟨L, e4, rfl, rfl, rfl, (CHv.at Y hZ hEL H).trans ?_⟩
    have e6 : (A.U.calling g mk a).heap = h := hp.2.1
    rw [← e6]; exact e5
theorem x_static (B : Bdy p Z s m meth c own bytes maxL ret nm) (W : Wk p l e R s m args below meth c Z T h k n ss) {y : MethodName} {yb : ByteArray} {yL i : Nat} {yr : Option FieldType} {rm : Room} (argsL : List Value) {s0 : List Addr} (C : Con l Z y yb yL yr [] rm argsL.toArray h Q s0) (hs0 : ∀ x ∈ s0, x ∈ ss)
    (hd : decode bytes pc = .ok (.invokestatic i, 3)) (w1 : (Cond.methodLink own i y).before a0 Z = true) (w2 : (Cond.static y).before a0 Z = true) (wz : (Cond.initialized y.cls).before a0 Z = true) (wc : (Cond.code y yb yL yr).before a0 Z = true) (hy : y.cls ≠ "java/lang/invoke/MethodHandle" ∧ y.cls ≠ "java/lang/invoke/VarHandle")
    (hlen : ∀ sig, parseMethodDescriptor y.desc = some sig → argsL.length = sig.parameters.length) (ls : Array Slot) (st : List Value) (hsz : ls.size = maxL) (V : Nat) (hV : (st.map fun v => v.category).sum = V) (hf : rm.frames + 1 ≤ R.frames) (hl : V + (yL + 11) + rm.locals ≤ R.locals) (hc : k + rm.cells ≤ R.cells) (hs : n + rm.slots ≤ R.slots) :
    ∃ T' h' v, Wk p l e R s m args below meth c Z T' h' (k + rm.cells) (n + rm.slots) ss ∧ Q v h' ∧ (∀ G, Go p.tables e below G T' (mkF m (pc + 3) ls (v.toList ++ st)) → Go p.tables e below G T (mkF m pc ls (argsL.reverse ++ st))) := by
  obtain ⟨locs, vm0, k0, X, eT, N, O, S, hk, H, hss⟩ := W
  have B := B.at S
  obtain ⟨v, _, ⟨T', L', k', n'⟩, -, X', S', hg', ⟨Lc, hQ, l1, l2, l3, A'⟩, st'⟩ := callSS X B.1 (y := y) B.2.2.1 (mvT B.2.1 w1) (mvT B.2.1 w2) (mvT B.2.1 wz) (mvT B.2.1 wc) hy (backC (V := V) C O B.2.2.2.2.2.2.2.2 B.2.1 wc wz hf hl H.1 (fun x q => hss x (hs0 x q))) (g := mkF m pc ls (argsL.reverse ++ st)) rfl (hsz.trans B.2.2.2.2.1.symm) (argsL := argsL) (rest := st) hlen rfl (by show 2 * 0 + _ ≤ _; omega) (hb B.2.2.2.1 hd) (fun _ _ => ⟨rfl, eT, hc, hs⟩)
  dsimp only [Pt.U, Pt.locs, Pt.cells, Pt.slots] at X' S' hg' A' l1 l2 l3 st' hQ
  subst l1 l2 l3
  exact ⟨T', T'.heap, v, ⟨_, T'.vm, T'.heap.size, X', rfl, N.app hQ.2.1, hQ.2.2, S.trans S' (Nat.le_trans hk A'.2.1), Nat.le_refl _, H.trans A', ss_mono A' hss⟩, hQ.1, fun G q => Go.by (fun t q => st'.trans q) q⟩
theorem x_special (B : Bdy p Z s m meth c own bytes maxL ret nm) (W : Wk p l e R s m args below meth c Z T h k n ss) {y : MethodName} {yb : ByteArray} {yL i : Nat} {rm : Room} {b : Addr} (argsL : List Value) {s0 : List Addr} (C : Con l Z y yb yL none [] rm (.ref b :: argsL).toArray h Q s0) (hs0 : ∀ x ∈ s0, x ∈ ss)
    (hd : decode bytes pc = .ok (.invokespecial i, 3)) (hy1 : y.name = "<init>") (w1 : (Cond.methodLink own i y).before a0 Z = true) (w2 : (Cond.instanceMethod y).before a0 Z = true) (wz : (Cond.initialized y.cls).before a0 Z = true) (wc : (Cond.code y yb yL none).before a0 Z = true) (hy : y.cls ≠ "java/lang/invoke/MethodHandle" ∧ y.cls ≠ "java/lang/invoke/VarHandle")
    (hlen : ∀ sig, parseMethodDescriptor y.desc = some sig → argsL.length = sig.parameters.length) (ls : Array Slot) (st : List Value) (hsz : ls.size = maxL) (V : Nat) (hV : (st.map fun v => v.category).sum = V) (hf : rm.frames + 1 ≤ R.frames) (hl : V + (yL + 11) + rm.locals ≤ R.locals) (hc : k + rm.cells ≤ R.cells) (hs : n + rm.slots ≤ R.slots) :
    ∃ T' h' v, Wk p l e R s m args below meth c Z T' h' (k + rm.cells) (n + rm.slots) ss ∧ Q v h' ∧ (∀ G, Go p.tables e below G T' (mkF m (pc + 3) ls (v.toList ++ st)) → Go p.tables e below G T (mkF m pc ls (argsL.reverse ++ .ref b :: st))) := by
  obtain ⟨locs, vm0, k0, X, eT, N, O, S, hk, H, hss⟩ := W
  have B := B.at S
  obtain ⟨v, _, ⟨T', L', k', n'⟩, -, X', S', hg', ⟨Lc, hQ, l1, l2, l3, A'⟩, st'⟩ := X.specialBackS B.1 (y := y) hy1 B.2.2.1 (mvT B.2.1 w1) (mvT B.2.1 w2) (mvT B.2.1 wc) hy (backC (V := V) C O B.2.2.2.2.2.2.2.2 B.2.1 wc wz hf hl H.1 (fun x q => hss x (hs0 x q))) (g := mkF m pc ls (argsL.reverse ++ .ref b :: st)) rfl (hsz.trans B.2.2.2.2.1.symm) (Steps.refl _) (a := b) (argsL := argsL) (rest := st) hlen rfl (by show 2 * 0 + _ ≤ _; omega) (hb B.2.2.2.1 hd) (fun _ _ => ⟨rfl, eT, hc, hs⟩)
  dsimp only [Pt.U, Pt.locs, Pt.cells, Pt.slots] at X' S' hg' A' l1 l2 l3 st' hQ
  subst l1 l2 l3
  exact ⟨T', T'.heap, v, ⟨_, T'.vm, T'.heap.size, X', rfl, N.app hQ.2.1, hQ.2.2, S.trans S' (Nat.le_trans hk A'.2.1), Nat.le_refl _, H.trans A', ss_mono A' hss⟩, hQ.1, fun G q => Go.by (fun t q => st'.trans q) q⟩
theorem x_virtual (B : Bdy p Z s m meth c own bytes maxL ret nm) (W : Wk p l e R s m args below meth c Z T h k n ss) {y : MethodName} {yb : ByteArray} {yL i : Nat} {yr : Option FieldType} {rm : Room} {b : Addr} {D : String} (argsL : List Value) {s0 : List Addr} (C : Con l Z y yb yL yr [] rm (.ref b :: argsL).toArray h Q s0) (hs0 : ∀ x ∈ s0, x ∈ ss) (E : Exa Z h b D)
    (hd : decode bytes pc = .ok (.invokevirtual i, 3)) (w1 : (Cond.methodLink own i y).before a0 Z = true) (w2 : (Cond.declares y).before a0 Z = true) (w3 : (Cond.selects D y y).before a0 Z = true) (w4 : (Cond.instanceMethod y).before a0 Z = true) (wz : (Cond.initialized y.cls).before a0 Z = true) (wc : (Cond.code y yb yL yr).before a0 Z = true) (hy : y.cls ≠ "java/lang/invoke/MethodHandle" ∧ y.cls ≠ "java/lang/invoke/VarHandle")
    (hlen : ∀ sig, parseMethodDescriptor y.desc = some sig → argsL.length = sig.parameters.length) (ls : Array Slot) (st : List Value) (hsz : ls.size = maxL) (V : Nat) (hV : (st.map fun v => v.category).sum = V) (hf : rm.frames + 1 ≤ R.frames) (hl : V + (yL + 11) + rm.locals ≤ R.locals) (hc : k + rm.cells ≤ R.cells) (hs : n + rm.slots ≤ R.slots) :
    ∃ T' h' v, Wk p l e R s m args below meth c Z T' h' (k + rm.cells) (n + rm.slots) ss ∧ Q v h' ∧ (∀ G, Go p.tables e below G T' (mkF m (pc + 3) ls (v.toList ++ st)) → Go p.tables e below G T (mkF m pc ls (argsL.reverse ++ .ref b :: st))) := by
  obtain ⟨locs, vm0, k0, X, eT, N, O, S, hk, H, hss⟩ := W
  have B := B.at S
  obtain ⟨cq, kq, qa, qb, qc⟩ := isOf B.2.1 eT E
  obtain ⟨v, _, ⟨T', L', k', n'⟩, -, X', S', hg', ⟨Lc, hQ, l1, l2, l3, A'⟩, st'⟩ := X.virtualBackS B.1 (y := y) (z := y) B.2.2.1 (mvT B.2.1 w1) (mvT B.2.1 w2) (notFace_of_selects (args := #[]) (mvT B.2.1 w3)) (mvT B.2.1 w3) (mvT B.2.1 w4) hy (backC (V := V) C O B.2.2.2.2.2.2.2.2 B.2.1 wc wz hf hl H.1 (fun x q => hss x (hs0 x q))) qa qc (g := mkF m pc ls (argsL.reverse ++ .ref b :: st)) rfl (hsz.trans B.2.2.2.2.1.symm) (Steps.refl _) (argsL := argsL) (rest := st) hlen rfl (by show 2 * 0 + _ ≤ _; omega) (hb B.2.2.2.1 hd) (fun _ _ => ⟨rfl, eT, hc, hs⟩)
  dsimp only [Pt.U, Pt.locs, Pt.cells, Pt.slots] at X' S' hg' A' l1 l2 l3 st' hQ
  subst l1 l2 l3
  exact ⟨T', T'.heap, v, ⟨_, T'.vm, T'.heap.size, X', rfl, N.app hQ.2.1, hQ.2.2, S.trans S' (Nat.le_trans hk A'.2.1), Nat.le_refl _, H.trans A', ss_mono A' hss⟩, hQ.1, fun G q => Go.by (fun t q => st'.trans q) q⟩
theorem x_iface (B : Bdy p Z s m meth c own bytes maxL ret nm) (W : Wk p l e R s m args below meth c Z T h k n ss) {xi y : MethodName} {count : Nat} {D : String} {yb : ByteArray} {yL i : Nat} {yr : Option FieldType} {rm : Room} {b : Addr} (argsL : List Value) {s0 : List Addr} (C : Con l Z y yb yL yr [] rm (.ref b :: argsL).toArray h Q s0) (hs0 : ∀ x ∈ s0, x ∈ ss) (E : Exa Z h b D)
    (hd : decode bytes pc = .ok (.invokeinterface i count, 5)) (w1 : (Cond.methodLink own i xi).before a0 Z = true) (w2 : (Cond.declares xi).before a0 Z = true) (w3 : (Cond.interfaceMethod xi.cls xi.cls xi.name xi.desc).before a0 Z = true) (w4 : (Cond.selects D xi y).before a0 Z = true) (w5 : (Cond.instanceMethod y).before a0 Z = true) (w6 : (Cond.publicMethod y).before a0 Z = true) (w7 : (Cond.unhidden D xi.name xi.desc).before a0 Z = true) (w8 : (Cond.castable D xi.cls).before a0 Z = true) (hk3 : ((Cond.interfaceMethod xi.cls xi.cls xi.name xi.desc).onTables && (Cond.interfaceMethod xi.cls xi.cls xi.name xi.desc).keepsFace) = true) (wz : (Cond.initialized y.cls).before a0 Z = true) (wc : (Cond.code y yb yL yr).before a0 Z = true) (hy : xi.cls ≠ "java/lang/invoke/MethodHandle" ∧ xi.cls ≠ "java/lang/invoke/VarHandle")
    (hlen : ∀ sig, parseMethodDescriptor xi.desc = some sig → argsL.length = sig.parameters.length) (ls : Array Slot) (st : List Value) (hsz : ls.size = maxL) (V : Nat) (hV : (st.map fun v => v.category).sum = V) (hf : rm.frames + 1 ≤ R.frames) (hl : V + (yL + 11) + rm.locals ≤ R.locals) (hc : k + rm.cells ≤ R.cells) (hs : n + rm.slots ≤ R.slots) :
    ∃ T' h' v, Wk p l e R s m args below meth c Z T' h' (k + rm.cells) (n + rm.slots) ss ∧ Q v h' ∧ (∀ G, Go p.tables e below G T' (mkF m (pc + 5) ls (v.toList ++ st)) → Go p.tables e below G T (mkF m pc ls (argsL.reverse ++ .ref b :: st))) := by
  obtain ⟨locs, vm0, k0, X, eT, N, O, S, hk, H, hss⟩ := W
  have B := B.at S
  obtain ⟨cq, kq, qa, qb, qc⟩ := isOf B.2.1 eT E
  obtain ⟨v, _, ⟨T', L', k', n'⟩, -, X', S', hg', ⟨Lc, hQ, l1, l2, l3, A'⟩, st'⟩ := X.interfaceBackS B.1 (xi := xi) (y := y) B.2.2.1 (mvT B.2.1 w1) (mvT B.2.1 w2) (mvT B.2.1 w3 hk3) (mvT B.2.1 w4) (mvT B.2.1 w5) (mvT B.2.1 w6) (mvT B.2.1 w7) (mvT B.2.1 w8) hy (backC (V := V) C O B.2.2.2.2.2.2.2.2 B.2.1 wc wz hf hl H.1 (fun x q => hss x (hs0 x q))) qa qb qc (g := mkF m pc ls (argsL.reverse ++ .ref b :: st)) rfl (hsz.trans B.2.2.2.2.1.symm) (Steps.refl _) (argsL := argsL) (rest := st) hlen rfl (by show 2 * 0 + _ ≤ _; omega) (hb B.2.2.2.1 hd) (fun _ _ => ⟨rfl, eT, hc, hs⟩)
  dsimp only [Pt.U, Pt.locs, Pt.cells, Pt.slots] at X' S' hg' A' l1 l2 l3 st' hQ
  subst l1 l2 l3
  exact ⟨T', T'.heap, v, ⟨_, T'.vm, T'.heap.size, X', rfl, N.app hQ.2.1, hQ.2.2, S.trans S' (Nat.le_trans hk A'.2.1), Nat.le_refl _, H.trans A', ss_mono A' hss⟩, hQ.1, fun G q => Go.by (fun t q => st'.trans q) q⟩
theorem x_private (B : Bdy p Z s m meth c own bytes maxL ret nm) (W : Wk p l e R s m args below meth c Z T h k n ss) {y : MethodName} {D : String} {yb : ByteArray} {yL i : Nat} {yr : Option FieldType} {rm : Room} {b : Addr} (argsL : List Value) {s0 : List Addr} (C : Con l Z y yb yL yr [] rm (.ref b :: argsL).toArray h Q s0) (hs0 : ∀ x ∈ s0, x ∈ ss) (E : Exa Z h b D)
    (hd : decode bytes pc = .ok (.invokevirtual i, 3)) (w1 : (Cond.methodLink own i y).before a0 Z = true) (w2 : (Cond.instanceMethod y).before a0 Z = true) (w3 : (Cond.selects y.cls y y).before a0 Z = true) (w4 : (Cond.privateMethod y).before a0 Z = true) (wz : (Cond.initialized y.cls).before a0 Z = true) (wc : (Cond.code y yb yL yr).before a0 Z = true) (hy : y.cls ≠ "java/lang/invoke/MethodHandle" ∧ y.cls ≠ "java/lang/invoke/VarHandle")
    (hlen : ∀ sig, parseMethodDescriptor y.desc = some sig → argsL.length = sig.parameters.length) (ls : Array Slot) (st : List Value) (hsz : ls.size = maxL) (V : Nat) (hV : (st.map fun v => v.category).sum = V) (hf : rm.frames + 1 ≤ R.frames) (hl : V + (yL + 11) + rm.locals ≤ R.locals) (hc : k + rm.cells ≤ R.cells) (hs : n + rm.slots ≤ R.slots) :
    ∃ T' h' v, Wk p l e R s m args below meth c Z T' h' (k + rm.cells) (n + rm.slots) ss ∧ Q v h' ∧ (∀ G, Go p.tables e below G T' (mkF m (pc + 3) ls (v.toList ++ st)) → Go p.tables e below G T (mkF m pc ls (argsL.reverse ++ .ref b :: st))) := by
  obtain ⟨locs, vm0, k0, X, eT, N, O, S, hk, H, hss⟩ := W
  have B := B.at S
  obtain ⟨cell, qa, qb⟩ := Exa.cell E
  obtain ⟨v, _, ⟨T', L', k', n'⟩, -, X', S', hg', ⟨Lc, hQ, l1, l2, l3, A'⟩, st'⟩ := X.privateBackS B.1 (y := y) B.2.2.1 (mvT B.2.1 w1) (mvT B.2.1 w2) (mvT B.2.1 w3) (Cond.privateMethod_at (mvP B.2.1 w4 (args := #[]))) (mvT B.2.1 wc) hy (backC (V := V) C O B.2.2.2.2.2.2.2.2 B.2.1 wc wz hf hl H.1 (fun x q => hss x (hs0 x q))) (g := mkF m pc ls (argsL.reverse ++ .ref b :: st)) rfl (hsz.trans B.2.2.2.2.1.symm) (Steps.refl _) (a := b) (by rw [eT]; exact qa) qb (argsL := argsL) (rest := st) hlen rfl (by show 2 * 0 + _ ≤ _; omega) (hb B.2.2.2.1 hd) (fun _ _ => ⟨rfl, eT, hc, hs⟩)
  dsimp only [Pt.U, Pt.locs, Pt.cells, Pt.slots] at X' S' hg' A' l1 l2 l3 st' hQ
  subst l1 l2 l3
  exact ⟨T', T'.heap, v, ⟨_, T'.vm, T'.heap.size, X', rfl, N.app hQ.2.1, hQ.2.2, S.trans S' (Nat.le_trans hk A'.2.1), Nat.le_refl _, H.trans A', ss_mono A' hss⟩, hQ.1, fun G q => Go.by (fun t q => st'.trans q) q⟩
theorem x_specialB (B : Bdy p Z s m meth c own bytes maxL ret nm) (W : Wk p l e R s m args below meth c Z T h k n ss) {y : MethodName} {yb : ByteArray} {yL i V rc rs : Nat} {b : Addr} {QL : Option Value → Heap → List Loc → Prop} (argsL : List Value) (hK : ∀ s' : State, Z.Warmed39 s'.vm → Back l R p e below s' args y 3 V (fun A a => a = (.ref b :: argsL).toArray ∧ A.U.heap = h ∧ A.cells + rc ≤ R.cells ∧ A.slots + rs ≤ R.slots) (fun A _ v B => ∃ L, QL v B.U.heap L ∧ B.locs = A.locs ++ L ∧ B.cells = A.cells + rc ∧ B.slots = A.slots + rs))
    (hd : decode bytes pc = .ok (.invokespecial i, 3)) (hy1 : y.name = "<init>") (w1 : (Cond.methodLink own i y).before a0 Z = true) (w2 : (Cond.instanceMethod y).before a0 Z = true) (wc : (Cond.code y yb yL none).before a0 Z = true) (hy : y.cls ≠ "java/lang/invoke/MethodHandle" ∧ y.cls ≠ "java/lang/invoke/VarHandle")
    (hlen : ∀ sig, parseMethodDescriptor y.desc = some sig → argsL.length = sig.parameters.length) (ls : Array Slot) (st : List Value) (hsz : ls.size = maxL) (hV : (st.map fun v => v.category).sum = V) (hc : k + rc ≤ R.cells) (hs : n + rs ≤ R.slots) (wl : List Addr) (hwl : ∀ x ∈ wl, Z.heap.size ≤ x) (hsf : ∀ x ∈ wl, x ∈ ss) (hq : ∀ v h' L, QL v h' L → Fr Z.heap.size L ∧ Keep h h' wl) : ∃ T' h' v L, Wk p l e R s m args below meth c Z T' h' (k + rc) (n + rs) ss ∧ QL v h' L ∧ (∀ G, Go p.tables e below G T' (mkF m (pc + 3) ls (v.toList ++ st)) → Go p.tables e below G T (mkF m pc ls (argsL.reverse ++ .ref b :: st))) := by
  obtain ⟨locs, vm0, k0, X, eT, N, O, S, hk, H, hss⟩ := W
  have B := B.at S
  obtain ⟨v, _, ⟨T', L', k', n'⟩, -, X', ⟨Lc, hQ, l1, l2, l3⟩, st'⟩ := X.specialBack B.1 (y := y) hy1 B.2.2.1 (mvT B.2.1 w1) (mvT B.2.1 w2) (mvT B.2.1 wc) hy (hK _ B.2.1) (g := mkF m pc ls (argsL.reverse ++ .ref b :: st)) rfl (hsz.trans B.2.2.2.2.1.symm) (Steps.refl _) (a := b) (argsL := argsL) (rest := st) hlen rfl (by show 2 * 0 + _ ≤ _; omega) (hb B.2.2.2.1 hd) (fun _ _ => ⟨rfl, eT, hc, hs⟩)
  dsimp only [Pt.U, Pt.locs, Pt.cells, Pt.slots] at X' l1 l2 l3 st' hQ
  subst l1 l2 l3
  obtain ⟨hF, hKp⟩ := hq _ _ _ hQ
  exact ⟨T', T'.heap, v, Lc, ⟨_, vm0, k0, X', rfl, N.app hF, O.keep hKp hwl, S, Nat.le_trans hk hKp.1, H.trans (CHr.keep hKp (fun x q => (hss x (hsf x q)).2) H.1), ss_mono (CHr.keep hKp (fun x q => (hss x (hsf x q)).2) H.1) hss⟩, hQ, fun G q => Go.by (fun t q => st'.trans q) q⟩
theorem x_virtualB (B : Bdy p Z s m meth c own bytes maxL ret nm) (W : Wk p l e R s m args below meth c Z T h k n ss) {y : MethodName} {D : String} {i V rc rs : Nat} {b : Addr} {QL : Option Value → Heap → List Loc → Prop} (argsL : List Value) (hK : ∀ s' : State, Z.Warmed39 s'.vm → Back l R p e below s' args y 3 V (fun A a => a = (.ref b :: argsL).toArray ∧ A.U.heap = h ∧ A.cells + rc ≤ R.cells ∧ A.slots + rs ≤ R.slots) (fun A _ v B => ∃ L, QL v B.U.heap L ∧ B.locs = A.locs ++ L ∧ B.cells = A.cells + rc ∧ B.slots = A.slots + rs)) (E : Exa Z h b D)
    (hd : decode bytes pc = .ok (.invokevirtual i, 3)) (w1 : (Cond.methodLink own i y).before a0 Z = true) (w2 : (Cond.declares y).before a0 Z = true) (w3 : (Cond.selects D y y).before a0 Z = true) (w4 : (Cond.instanceMethod y).before a0 Z = true) (hy : y.cls ≠ "java/lang/invoke/MethodHandle" ∧ y.cls ≠ "java/lang/invoke/VarHandle")
    (hlen : ∀ sig, parseMethodDescriptor y.desc = some sig → argsL.length = sig.parameters.length) (ls : Array Slot) (st : List Value) (hsz : ls.size = maxL) (hV : (st.map fun v => v.category).sum = V) (hc : k + rc ≤ R.cells) (hs : n + rs ≤ R.slots) (wl : List Addr) (hwl : ∀ x ∈ wl, Z.heap.size ≤ x) (hsf : ∀ x ∈ wl, x ∈ ss) (hq : ∀ v h' L, QL v h' L → Fr Z.heap.size L ∧ Keep h h' wl) : ∃ T' h' v L, Wk p l e R s m args below meth c Z T' h' (k + rc) (n + rs) ss ∧ QL v h' L ∧ (∀ G, Go p.tables e below G T' (mkF m (pc + 3) ls (v.toList ++ st)) → Go p.tables e below G T (mkF m pc ls (argsL.reverse ++ .ref b :: st))) := by
  obtain ⟨locs, vm0, k0, X, eT, N, O, S, hk, H, hss⟩ := W
  have B := B.at S
  obtain ⟨cq, kq, qa, qb, qc⟩ := isOf B.2.1 eT E
  obtain ⟨v, _, ⟨T', L', k', n'⟩, -, X', ⟨Lc, hQ, l1, l2, l3⟩, st'⟩ := X.virtualBack B.1 (y := y) (z := y) B.2.2.1 (mvT B.2.1 w1) (mvT B.2.1 w2) (notFace_of_selects (args := #[]) (mvT B.2.1 w3)) (mvT B.2.1 w3) (mvT B.2.1 w4) hy (hK _ B.2.1) qa qc (g := mkF m pc ls (argsL.reverse ++ .ref b :: st)) rfl (hsz.trans B.2.2.2.2.1.symm) (Steps.refl _) (argsL := argsL) (rest := st) hlen rfl (by show 2 * 0 + _ ≤ _; omega) (hb B.2.2.2.1 hd) (fun _ _ => ⟨rfl, eT, hc, hs⟩)
  dsimp only [Pt.U, Pt.locs, Pt.cells, Pt.slots] at X' l1 l2 l3 st' hQ
  subst l1 l2 l3
  obtain ⟨hF, hKp⟩ := hq _ _ _ hQ
  exact ⟨T', T'.heap, v, Lc, ⟨_, vm0, k0, X', rfl, N.app hF, O.keep hKp hwl, S, Nat.le_trans hk hKp.1, H.trans (CHr.keep hKp (fun x q => (hss x (hsf x q)).2) H.1), ss_mono (CHr.keep hKp (fun x q => (hss x (hsf x q)).2) H.1) hss⟩, hQ, fun G q => Go.by (fun t q => st'.trans q) q⟩
theorem x_ldcS (B : Bdy p Z s m meth c own bytes maxL ret nm) (W : Wk p l e R s m args below meth c Z T h k n ss) {i : Nat} {text : String} (sz : Nat) (hd : decode bytes pc = .ok (.ldc i, 2)) (w : (Cond.stringLink own i text).before a0 Z = true) (wS : ∀ a ∈ Bundle.stringAtoms, a.before a0 Z = true) (hEL : EW Z a0 EL) (hn : 4 * text.toList.length ≤ sz) (hbig : sz ≤ 536870912) (hc : k + 2 ≤ R.cells) (hl : n + (sz + 4) ≤ R.slots) (ls : Array Slot) (st : List Value) :
    ∃ T' h' b, Wk p l e R s m args below meth c Z T' h' (k + 2) (n + (sz + 4)) ss ∧ Keep h h' [] ∧ (∀ G, Go p.tables e below G T' (mkF m (pc + 2) ls (.ref b :: st)) → Go p.tables e below G T (mkF m pc ls st)) := by
  obtain ⟨locs, vm0, k0, X, eT, N, O, S, hk, H, hss⟩ := W
  have B := B.at S
  obtain ⟨b, T', h', k1, X', e', E', S', hk', hZ', hf', A', -, st'⟩ := ldcOH X B.1 B.2.1 B.2.2.1 w wS eT S hk hEL H.1 (g := mkF m pc ls st) rfl (hb B.2.2.2.1 hd) hn hbig hc hl
  exact ⟨T', h', b, ⟨locs, T'.vm, k1, X', e', N, O.ext E', S', hk', H.trans A', ss_mono A' hss⟩, (Keep.refl h []).ext E', fun G q => Go.by st' q⟩
def OutR (Z s : State) (Q : Option Value → Heap → Prop) (k n : Nat) (o : Outcome) (U : State) : Prop := Out Z s Q k n o U ∧ ∀ x, o = .returned (some (.ref x)) → x < U.heap.size ∧ Safe Z EL U.vm U.heap x
/-- a contract of a body whose answer may be written to later -/
def ConR (l : Launch) (Z : State) (y : MethodName) (bytes : ByteArray) (maxL : Nat) (ret : Option FieldType) (ws : List Cond) (rm : Room) (as' : Array Value) (h0 : Heap) (Q : Option Value → Heap → Prop) (ss : List Addr) : Prop :=
  Wd Z → Old Z Z.heap.size h0 → MetFree l y (head1 (Cond.code y bytes maxL ret :: ws) rm) (fun a U => a = as' ∧ Z.Warmed39 U.vm ∧ U.heap = h0 ∧ CHv Z EL U.vm h0 ∧ ∀ x ∈ ss, x < h0.size ∧ Safe Z EL U.vm h0 x) (fun _ _ _ _ _ => True) (fun _ U o U' => OutR Z U Q rm.cells rm.slots o U')
theorem ConR.of {y : MethodName} {ws : List Cond} {rm : Room} {as' : Array Value} {h0 : Heap} (hpl : plainFor y = true)
    (body : ∀ p e s m below meth c T, Bdy p Z s m meth c y.cls bytes maxL ret y.name → Wk p l e rm s m as' below meth c Z T h0 0 0 ss → Go p.tables e below (OutR Z s Q rm.cells rm.slots) T (entryFrame m as' maxL)) : ConR l Z y bytes maxL ret ws rm as' h0 Q ss := by
  intro hWd hO
  refine MetFree.of_bodySF hpl hisR ?_
  intro p e s m args below meth c s₁ Bd hml0 hP hK
  obtain ⟨rfl, hZ, hh, hC, hss⟩ := hP
  subst hh
  exact body p e s m below meth c s₁ ⟨Bd.exec, hZ, findClass_of_methodNamed Bd.named, Bd.bytes, hml0, Bd.returns, Bd.notSynchronized, (name_of_methodNamed Bd.named Bd.method).1, hWd⟩ ⟨[], s.vm, s.heap.size, Stand.of_body Bd, by rw [Bd.state]; rfl, Fr.nil _, hO, (State.WarmedH.refl s).since _, Nat.le_refl _, CHr.refl hC, hss⟩
theorem r_aR (B : Bdy p Z s m meth c own bytes maxL ret nm) (W : Wk p l e R s m args below meth c Z T h k n ss) {t : FieldType} {b : Addr} {k' n' : Nat} (hret : ret = some t) (ht : t.isReference = true) (hd : decode bytes pc = .ok (.areturn, 1)) (hk : k ≤ k') (hn : n ≤ n') (hQ : Q (some (.ref b)) h) (hs : b ∈ ss) : Go p.tables e below (OutR Z s Q k' n') T (mkF m pc ls (.ref b :: st)) := by
  obtain ⟨locs, vm0, k0, X, eT, N, O, S, hk0, H, hss⟩ := W
  have B' := B.at S
  obtain ⟨a0, hEW, -⟩ := B.2.2.2.2.2.2.2.2
  obtain ⟨fs, hr, hrun, hended, e1, e2, e3, e4⟩ := X.leaveW S (by rw [eT]; exact hk0) (v := some (.ref b)) (fun q => by rw [B.2.2.2.2.2.1, hret] at q; cases q) B.2.2.2.2.2.2.1
  have eT' : (T.setFrames fs).heap = h := eT
  have A := CHv.at X B'.2.1 hEW H.1
  have H2 := H.trans A
  have hS := ss_mono A hss b hs
  exact ⟨_, _, retOut X B.1 (B.2.2.2.2.2.1.trans hret) (nar_ref ht) (Or.inr (Or.inr (Or.inr (Or.inr ⟨rfl, ht, rfl⟩)))) (hb B.2.2.2.1 hd) hr, hrun, hended, ⟨_, _, rfl, ⟨by rw [eT']; exact hQ, N, by rw [eT']; exact O⟩, by rw [eT']; exact H2, e1, e2, e3, e4.mono hk hn⟩, fun x q => by cases q; rw [eT']; exact hS⟩
theorem backCR {vm0 : Vm} {y : MethodName} {yb : ByteArray} {yL : Nat} {yr : Option FieldType} {rm : Room} {len V : Nat} {as' : Array Value} {s0 : List Addr} (C : ConR l Z y yb yL yr [] rm as' h Q s0) (O : Old Z Z.heap.size h) (hWd : Wd Z)
    (hZ : Z.Warmed39 vm0) (wc : (Cond.code y yb yL yr).before a0 Z = true) (wz : (Cond.initialized y.cls).before a0 Z = true) (hf : rm.frames + 1 ≤ R.frames) (hl : V + (yL + 11) + rm.locals ≤ R.locals) (H : CHv Z EL vm0 h) (hs0 : ∀ x ∈ s0, x < h.size ∧ Safe Z EL vm0 h x) :
    BackS l R p e below (s.setVm vm0) args y len V (fun A a => a = as' ∧ A.U.heap = h ∧ A.cells + rm.cells ≤ R.cells ∧ A.slots + rm.slots ≤ R.slots)
      (fun A _ v B => ∃ L, (Q v B.U.heap ∧ Fr Z.heap.size L ∧ Old Z Z.heap.size B.U.heap) ∧ B.locs = A.locs ++ L ∧ B.cells = A.cells + rm.cells ∧ B.slots = A.slots + rm.slots ∧ CHr Z EL vm0 h B.U.vm B.U.heap ∧ ∀ x, v = some (.ref x) → x < B.U.heap.size ∧ Safe Z EL B.U.vm B.U.heap x) := by
  obtain ⟨a1, hEL, -⟩ := id hWd
  refine BackS.of_freeW (bytes := yb) (maxL := yL) (ret := yr) (E := fun _ first o t L k n => (k = rm.cells ∧ n = rm.slots) ∧ ∃ v, o = .returned v ∧ (Q v t.heap ∧ Fr Z.heap.size L ∧ Old Z Z.heap.size t.heap) ∧ CHr Z EL first.vm first.heap t.vm t.heap ∧ ∀ x, v = some (.ref x) → x < t.heap.size ∧ Safe Z EL t.vm t.heap x) (C hWd O) hf hl ?_ ?_ (fun _ _ _ _ _ _ _ _ _ => trivial) ?_ ?_
  · intro m meth c A a Y hp
    have hU : Z.Warmed39 A.U.vm := wtrans (s := s.setVm vm0) hZ Y.warmed
    exact ⟨by show (Cond.and _ .tt).before a A.U = true; rw [Cond.before_and, mv hU wc]; rfl, mv hU wc, mv hU wz, hp.2.2.1, hp.2.2.2⟩
  · intro m meth c A a g mk Y hp
    have q := CHv.at Y hZ hEL H
    exact ⟨hp.1, wtrans (s := s.setVm vm0) hZ Y.warmed, hp.2.1, q.1, ss_mono q hs0⟩
  · rintro _ _ _ _ ⟨⟨v, L, h1, h2, h3, h4⟩, h5⟩
    exact ⟨L, _, _, h4, ⟨rfl, rfl⟩, v, h1, h2, h3, fun x q => h5 x (by rw [h1, q])⟩
  · rintro m meth c A a g mk v t L k n Y hp _ _ ⟨⟨rfl, rfl⟩, v', e3, e4, e5, e8⟩
    cases e3
    refine ⟨L, e4, rfl, rfl, rfl, (CHv.at Y hZ hEL H).trans ?_, e8⟩
    have e6 : (A.U.calling g mk a).heap = h := hp.2.1
    rw [← e6]; exact e5
theorem x_staticR (B : Bdy p Z s m meth c own bytes maxL ret nm) (W : Wk p l e R s m args below meth c Z T h k n ss) {y : MethodName} {yb : ByteArray} {yL i : Nat} {yr : Option FieldType} {rm : Room} (argsL : List Value) {s0 : List Addr} (C : ConR l Z y yb yL yr [] rm argsL.toArray h Q s0) (hs0 : ∀ x ∈ s0, x ∈ ss) (hQr : ∀ v h', Q v h' → ∃ b, v = some (.ref b))
    (hd : decode bytes pc = .ok (.invokestatic i, 3)) (w1 : (Cond.methodLink own i y).before a0 Z = true) (w2 : (Cond.static y).before a0 Z = true) (wz : (Cond.initialized y.cls).before a0 Z = true) (wc : (Cond.code y yb yL yr).before a0 Z = true) (hy : y.cls ≠ "java/lang/invoke/MethodHandle" ∧ y.cls ≠ "java/lang/invoke/VarHandle")
    (hlen : ∀ sig, parseMethodDescriptor y.desc = some sig → argsL.length = sig.parameters.length) (ls : Array Slot) (st : List Value) (hsz : ls.size = maxL) (V : Nat) (hV : (st.map fun v => v.category).sum = V) (hf : rm.frames + 1 ≤ R.frames) (hl : V + (yL + 11) + rm.locals ≤ R.locals) (hc : k + rm.cells ≤ R.cells) (hs : n + rm.slots ≤ R.slots) :
    ∃ T' h' b, Wk p l e R s m args below meth c Z T' h' (k + rm.cells) (n + rm.slots) (b :: ss) ∧ Q (some (.ref b)) h' ∧ (∀ G, Go p.tables e below G T' (mkF m (pc + 3) ls (.ref b :: st)) → Go p.tables e below G T (mkF m pc ls (argsL.reverse ++ st))) := by
  obtain ⟨locs, vm0, k0, X, eT, N, O, S, hk, H, hss⟩ := W
  have B := B.at S
  obtain ⟨v, _, ⟨T', L', k', n'⟩, -, X', S', hg', ⟨Lc, hQ, l1, l2, l3, A', hR⟩, st'⟩ := callSS X B.1 (y := y) B.2.2.1 (mvT B.2.1 w1) (mvT B.2.1 w2) (mvT B.2.1 wz) (mvT B.2.1 wc) hy (backCR (V := V) C O B.2.2.2.2.2.2.2.2 B.2.1 wc wz hf hl H.1 (fun x q => hss x (hs0 x q))) (g := mkF m pc ls (argsL.reverse ++ st)) rfl (hsz.trans B.2.2.2.2.1.symm) (argsL := argsL) (rest := st) hlen rfl (by show 2 * 0 + _ ≤ _; omega) (hb B.2.2.2.1 hd) (fun _ _ => ⟨rfl, eT, hc, hs⟩)
  dsimp only [Pt.U, Pt.locs, Pt.cells, Pt.slots] at X' S' hg' A' l1 l2 l3 st' hQ hR
  subst l1 l2 l3
  obtain ⟨b, rfl⟩ := hQr _ _ hQ.1
  exact ⟨T', T'.heap, b, ⟨_, T'.vm, T'.heap.size, X', rfl, N.app hQ.2.1, hQ.2.2, S.trans S' (Nat.le_trans hk A'.2.1), Nat.le_refl _, H.trans A', fun x q => by
    rcases List.mem_cons.mp q with rfl | q
    · exact hR _ rfl
    · exact ss_mono A' hss x q⟩, hQ.1, fun G q => Go.by (fun t q => st'.trans q) q⟩
theorem own_litB {vm : Vm} {own text : String} {i : Nat} {a t : Addr} (hW : Z.Warmed39 vm) (H : CHv Z EL vm h) (hmem : (own, i) ∈ EL) (w : (Cond.stringLink own i text).before a0 Z = true) (L : Lit (s.setVm vm) own i a) (V : Fld Z h a "java/lang/String" "value" "[B" (.ref t)) : Exa Z h t "[B" := by
  have hal : Z.vm.Alike vm := hW.alike
  have w2 : (Cond.stringLink own i text).before a0 (Wst Z vm h) = true := mvS (s := { Z with heap := h }) hW w
  have hq0 : (s.setVm vm).resolvedAt? own i = some (.string a) := L
  cases hf : vm.findClass own with
  | none => simp [State.resolvedAt?, hf] at hq0
  | some cc =>
    obtain ⟨k0', cf, i', units, hkx, hcf, hp, hu, -, htext, -⟩ := Cond.stringLink_spec (s := Wst Z vm h) hf w2
    have hk' : vm.classes[cc]? = some k0' := hkx
    have hres : k0'.resolved[i]? = some (some (.string a)) := by
      simp [State.resolvedAt?, hf, hk'] at hq0
      cases hr : k0'.resolved[i]? with
      | none => rw [hr] at hq0; cases hq0
      | some o => rw [hr] at hq0; cases o with
        | none => cases hq0
        | some r => simpa using hq0
    have hB0 : Booksv vm own i units a := ⟨cc, k0', cf, i', hf, hkx, hcf, hp, hu, Or.inl hres⟩
    obtain ⟨q, hqa, F⟩ := SlB.of (H _ hmem units a hB0)
    obtain ⟨cS, ⟨⟨s1, s2, s3, ⟨cv, kv, iv, s4, s4'⟩, -, s6, s7, s8, s9, s10, s11, -⟩, hfS, hcS⟩, -, hB, -⟩ := F
    subst hqa
    obtain ⟨kv', z4⟩ := ff_back (U := Wst Z vm h) hal s4
    obtain ⟨cell, cf2, k2, i2, f2, v1, v2, -, -, -, -, v7⟩ := V
    cases z4.symm.trans v2
    cases (show h[q.sa]? = some q.sC from s1).symm.trans v1
    have et : t = q.sd := by have := s8.symm.trans v7; simpa using this.symm
    subst et
    have hBZ : Z.vm.findClass "[B" = some q.SA.cls := by rw [← hal.findClass]; exact hB
    obtain ⟨kb, hkb, -⟩ := Vm.findClass_spec hBZ
    obtain ⟨kb', hkb', ekb⟩ := hal.2.2 _ _ hkb
    obtain ⟨hst, k9, hk9, comp, hkind9⟩ := s11
    have hk9 : vm.classes[q.SA.cls]? = some k9 := hk9
    have ek9 : k9 = kb' := Option.some.inj (hk9.symm.trans hkb')
    refine ⟨q.SA, kb, s10, hBZ, hkb, ?_, fun ho => ?_⟩
    · cases hq : q.SA.vm <;> first | rfl | exact absurd hq (hst _)
    · rw [ek9, ekb] at hkind9
      have := hkind9.symm.trans ho
      cases this
theorem x_ldcT (B : Bdy p Z s m meth c own bytes maxL ret nm) (W : Wk p l e R s m args below meth c Z T h k n ss) {i : Nat} {text : String} (sz : Nat) {vs : List Value} {z : Int32} (hd : decode bytes pc = .ok (.ldc i, 2)) (w : (Cond.stringLink own i text).before a0 Z = true) (wS : ∀ a ∈ Bundle.stringAtoms, a.before a0 Z = true) (hEL : EW Z a0 EL) (hmem : (own, i) ∈ EL) (ht : (∀ c ∈ text.toList, c.toNat < 256) ∧ text.toList.map (fun c => Value.int (Jvm.Lit.byteI c.toNat.toUInt16)) = vs) (hz : ¬ z < 0) (hlz : z.toNatClampNeg = vs.length) (hn : 4 * text.toList.length ≤ sz) (hbig : sz ≤ 536870912) (hc : k + 2 ≤ R.cells) (hl : n + (sz + 4) ≤ R.slots) (ls : Array Slot) (st : List Value) :
    ∃ T' h' b t kc, Wk p l e R s m args below meth c Z T' h' (k + 2) (n + (sz + 4)) ss ∧ Keep h h' [] ∧ Exa Z h' b "java/lang/String" ∧ Fld Z h' b "java/lang/String" "coder" "B" (.int 0) ∧ Fld Z h' b "java/lang/String" "value" "[B" (.ref t) ∧ Arv Z h' t kc .byte z vs (.int 0) ∧ Exa Z h' t "[B" ∧ (∀ x ∈ ss, x ≠ b ∧ x ≠ t) ∧ (∀ G, Go p.tables e below G T' (mkF m (pc + 2) ls (.ref b :: st)) → Go p.tables e below G T (mkF m pc ls st)) := by
  obtain ⟨locs, vm0, k0, X, eT, N, O, S, hk, H, hss⟩ := W
  have B := B.at S
  obtain ⟨b, T', h', k1, t, kc, X', e', E', S', hk', hZ', hf', q1, q2, q3, q4, -, -, A', Lt, q5, st'⟩ := ldcCH X B.1 B.2.1 B.2.2.1 w wS eT S hk hEL hmem H.1 ht hz hlz (g := mkF m pc ls st) rfl (hb B.2.2.2.1 hd) hn hbig hc hl
  have hs2 := ss_mono A' hss
  exact ⟨T', h', b, t, kc, ⟨locs, T'.vm, k1, X', e', N, O.ext E', S', hk', H.trans A', hs2⟩, (Keep.refl h []).ext E', q1, q2, q3, q4, own_litB hZ' A'.1 hmem w Lt q3, fun x hx => q5 x (hs2 x hx).2, fun G q => Go.by st' q⟩
end K
end Jvm.OwnK
namespace Jvm.Pilot.@@N@@
open Jvm Jvm.ClassFile Sem Op Lib Jvm.Free Jvm.Stand Jvm.LawKit Jvm.RoadKit Jvm.OwnK Bundle Jvm.Pilot.@@N@@.Jvm.D
theorem tw {Z : State} {a0 : Array Value} (hw : ∀ d ∈ tables_1, d.before a0 Z = true) (i : Nat) {d : Jvm.Cond} (h : tables_1[i]? = some d) : d.before a0 Z = true := hw _ (List.mem_of_getElem? h)
theorem d_method_4_0 : decode method_4_code 0 = .ok (.iload_n 1, 1) := by decide +kernel
theorem d_method_4_1 : decode method_4_code 1 = .ok (.invokestatic 26, 3) := by decide +kernel
theorem d_method_4_4 : decode method_4_code 4 = .ok (.istore_n 2, 1) := by decide +kernel
theorem d_method_4_5 : decode method_4_code 5 = .ok (.iload_n 2, 1) := by decide +kernel
theorem d_method_4_6 : decode method_4_code 6 = .ok (.ifCond .ne 7, 3) := by decide +kernel
theorem d_method_4_9 : decode method_4_code 9 = .ok (.iload_n 0, 1) := by decide +kernel
theorem d_method_4_10 : decode method_4_code 10 = .ok (.goto 9, 3) := by decide +kernel
theorem d_method_4_13 : decode method_4_code 13 = .ok (.bipush 31, 2) := by decide +kernel
theorem d_method_4_15 : decode method_4_code 15 = .ok (.iload_n 0, 1) := by decide +kernel
theorem d_method_4_16 : decode method_4_code 16 = .ok (.imul, 1) := by decide +kernel
theorem d_method_4_17 : decode method_4_code 17 = .ok (.iload_n 2, 1) := by decide +kernel
theorem d_method_4_18 : decode method_4_code 18 = .ok (.iadd, 1) := by decide +kernel
theorem d_method_4_19 : decode method_4_code 19 = .ok (.ireturn, 1) := by decide +kernel
theorem d_method_3_0 : decode method_3_code 0 = .ok (.iload_n 0, 1) := by decide +kernel
theorem d_method_3_1 : decode method_3_code 1 = .ok (.bipush 48, 2) := by decide +kernel
theorem d_method_3_3 : decode method_3_code 3 = .ok (.if_icmp .lt 11, 3) := by decide +kernel
theorem d_method_3_6 : decode method_3_code 6 = .ok (.iload_n 0, 1) := by decide +kernel
theorem d_method_3_7 : decode method_3_code 7 = .ok (.bipush 57, 2) := by decide +kernel
theorem d_method_3_9 : decode method_3_code 9 = .ok (.if_icmp .gt 5, 3) := by decide +kernel
theorem d_method_3_12 : decode method_3_code 12 = .ok (.iload_n 0, 1) := by decide +kernel
theorem d_method_3_13 : decode method_3_code 13 = .ok (.ireturn, 1) := by decide +kernel
theorem d_method_3_14 : decode method_3_code 14 = .ok (.iload_n 0, 1) := by decide +kernel
theorem d_method_3_15 : decode method_3_code 15 = .ok (.bipush 65, 2) := by decide +kernel
theorem d_method_3_17 : decode method_3_code 17 = .ok (.if_icmp .lt 11, 3) := by decide +kernel
theorem d_method_3_20 : decode method_3_code 20 = .ok (.iload_n 0, 1) := by decide +kernel
theorem d_method_3_21 : decode method_3_code 21 = .ok (.bipush 90, 2) := by decide +kernel
theorem d_method_3_23 : decode method_3_code 23 = .ok (.if_icmp .gt 5, 3) := by decide +kernel
theorem d_method_3_26 : decode method_3_code 26 = .ok (.iload_n 0, 1) := by decide +kernel
theorem d_method_3_27 : decode method_3_code 27 = .ok (.ireturn, 1) := by decide +kernel
theorem d_method_3_28 : decode method_3_code 28 = .ok (.iload_n 0, 1) := by decide +kernel
theorem d_method_3_29 : decode method_3_code 29 = .ok (.bipush 97, 2) := by decide +kernel
theorem d_method_3_31 : decode method_3_code 31 = .ok (.if_icmp .lt 17, 3) := by decide +kernel
theorem d_method_3_34 : decode method_3_code 34 = .ok (.iload_n 0, 1) := by decide +kernel
theorem d_method_3_35 : decode method_3_code 35 = .ok (.bipush 122, 2) := by decide +kernel
theorem d_method_3_37 : decode method_3_code 37 = .ok (.if_icmp .gt 11, 3) := by decide +kernel
theorem d_method_3_40 : decode method_3_code 40 = .ok (.iload_n 0, 1) := by decide +kernel
theorem d_method_3_41 : decode method_3_code 41 = .ok (.bipush 97, 2) := by decide +kernel
theorem d_method_3_43 : decode method_3_code 43 = .ok (.isub, 1) := by decide +kernel
theorem d_method_3_44 : decode method_3_code 44 = .ok (.bipush 65, 2) := by decide +kernel
theorem d_method_3_46 : decode method_3_code 46 = .ok (.iadd, 1) := by decide +kernel
theorem d_method_3_47 : decode method_3_code 47 = .ok (.ireturn, 1) := by decide +kernel
theorem d_method_3_48 : decode method_3_code 48 = .ok (.iconst 0, 1) := by decide +kernel
theorem d_method_3_49 : decode method_3_code 49 = .ok (.ireturn, 1) := by decide +kernel
theorem d_jdk_42_method_3_0 : decode jdk_42_method_3_code 0 = .ok (.aload_n 0, 1) := by decide +kernel
theorem d_jdk_42_method_3_1 : decode jdk_42_method_3_code 1 = .ok (.aload_n 1, 1) := by decide +kernel
theorem d_jdk_42_method_3_2 : decode jdk_42_method_3_code 2 = .ok (.iconst 0, 1) := by decide +kernel
theorem d_jdk_42_method_3_3 : decode jdk_42_method_3_code 3 = .ok (.aload_n 1, 1) := by decide +kernel
theorem d_jdk_42_method_3_4 : decode jdk_42_method_3_code 4 = .ok (.arraylength, 1) := by decide +kernel
theorem d_jdk_42_method_3_5 : decode jdk_42_method_3_code 5 = .ok (.aconst_null, 1) := by decide +kernel
theorem d_jdk_42_method_3_6 : decode jdk_42_method_3_code 6 = .ok (.invokespecial 27, 3) := by decide +kernel
theorem d_jdk_42_method_3_9 : decode jdk_42_method_3_code 9 = .ok (.return_, 1) := by decide +kernel
theorem d_jdk_42_method_149_0 : decode jdk_42_method_149_code 0 = .ok (.aload_n 0, 1) := by decide +kernel
theorem d_jdk_42_method_149_1 : decode jdk_42_method_149_code 1 = .ok (.invokespecial 1, 3) := by decide +kernel
theorem d_jdk_42_method_149_4 : decode jdk_42_method_149_code 4 = .ok (.iload_n 3, 1) := by decide +kernel
theorem d_jdk_42_method_149_5 : decode jdk_42_method_149_code 5 = .ok (.ifCond .ne 22, 3) := by decide +kernel
theorem d_jdk_42_method_149_8 : decode jdk_42_method_149_code 8 = .ok (.aload_n 0, 1) := by decide +kernel
theorem d_jdk_42_method_149_9 : decode jdk_42_method_149_code 9 = .ok (.ldc 7, 2) := by decide +kernel
theorem d_jdk_42_method_149_11 : decode jdk_42_method_149_code 11 = .ok (.getfield 9, 3) := by decide +kernel
theorem d_jdk_42_method_149_14 : decode jdk_42_method_149_code 14 = .ok (.putfield 9, 3) := by decide +kernel
theorem d_jdk_42_method_149_17 : decode jdk_42_method_149_code 17 = .ok (.aload_n 0, 1) := by decide +kernel
theorem d_jdk_42_method_149_18 : decode jdk_42_method_149_code 18 = .ok (.ldc 7, 2) := by decide +kernel
theorem d_jdk_42_method_149_20 : decode jdk_42_method_149_code 20 = .ok (.getfield 15, 3) := by decide +kernel
theorem d_jdk_42_method_149_23 : decode jdk_42_method_149_code 23 = .ok (.putfield 15, 3) := by decide +kernel
theorem d_jdk_42_method_149_26 : decode jdk_42_method_149_code 26 = .ok (.return_, 1) := by decide +kernel
theorem d_jdk_42_method_149_27 : decode jdk_42_method_149_code 27 = .ok (.getstatic 38, 3) := by decide +kernel
theorem d_jdk_42_method_149_30 : decode jdk_42_method_149_code 30 = .ok (.ifCond .eq 28, 3) := by decide +kernel
theorem d_jdk_42_method_149_33 : decode jdk_42_method_149_code 33 = .ok (.aload_n 1, 1) := by decide +kernel
theorem d_jdk_42_method_149_34 : decode jdk_42_method_149_code 34 = .ok (.iload_n 2, 1) := by decide +kernel
theorem d_jdk_42_method_149_35 : decode jdk_42_method_149_code 35 = .ok (.iload_n 3, 1) := by decide +kernel
theorem d_jdk_42_method_149_36 : decode jdk_42_method_149_code 36 = .ok (.invokestatic 177, 3) := by decide +kernel
theorem d_jdk_42_method_149_39 : decode jdk_42_method_149_code 39 = .ok (.astore 5, 2) := by decide +kernel
theorem d_jdk_42_method_149_41 : decode jdk_42_method_149_code 41 = .ok (.aload_n 0, 1) := by decide +kernel
theorem d_jdk_42_method_149_42 : decode jdk_42_method_149_code 42 = .ok (.aload 5, 2) := by decide +kernel
theorem d_jdk_42_method_149_44 : decode jdk_42_method_149_code 44 = .ok (.iload_n 3, 1) := by decide +kernel
theorem d_jdk_42_method_149_45 : decode jdk_42_method_149_code 45 = .ok (.invokestatic 47, 3) := by decide +kernel
theorem d_jdk_42_method_149_48 : decode jdk_42_method_149_code 48 = .ok (.putfield 15, 3) := by decide +kernel
theorem d_jdk_42_method_149_51 : decode jdk_42_method_149_code 51 = .ok (.aload_n 0, 1) := by decide +kernel
theorem d_jdk_42_method_149_52 : decode jdk_42_method_149_code 52 = .ok (.aload 5, 2) := by decide +kernel
theorem d_jdk_42_method_149_54 : decode jdk_42_method_149_code 54 = .ok (.putfield 9, 3) := by decide +kernel
theorem d_jdk_42_method_149_57 : decode jdk_42_method_149_code 57 = .ok (.return_, 1) := by decide +kernel
theorem d_jdk_52_method_16_0 : decode jdk_52_method_16_code 0 = .ok (.iload_n 2, 1) := by decide +kernel
theorem d_jdk_52_method_16_1 : decode jdk_52_method_16_code 1 = .ok (.newarray .byte, 2) := by decide +kernel
theorem d_jdk_52_method_16_3 : decode jdk_52_method_16_code 3 = .ok (.astore_n 3, 1) := by decide +kernel
theorem d_jdk_52_method_16_4 : decode jdk_52_method_16_code 4 = .ok (.aload_n 0, 1) := by decide +kernel
theorem d_jdk_52_method_16_5 : decode jdk_52_method_16_code 5 = .ok (.iload_n 1, 1) := by decide +kernel
theorem d_jdk_52_method_16_6 : decode jdk_52_method_16_code 6 = .ok (.aload_n 3, 1) := by decide +kernel
theorem d_jdk_52_method_16_7 : decode jdk_52_method_16_code 7 = .ok (.iconst 0, 1) := by decide +kernel
theorem d_jdk_52_method_16_8 : decode jdk_52_method_16_code 8 = .ok (.iload_n 2, 1) := by decide +kernel
theorem d_jdk_52_method_16_9 : decode jdk_52_method_16_code 9 = .ok (.invokestatic 115, 3) := by decide +kernel
theorem d_jdk_52_method_16_12 : decode jdk_52_method_16_code 12 = .ok (.istore 4, 2) := by decide +kernel
theorem d_jdk_52_method_16_14 : decode jdk_52_method_16_code 14 = .ok (.iload 4, 2) := by decide +kernel
theorem d_jdk_52_method_16_16 : decode jdk_52_method_16_code 16 = .ok (.iload_n 2, 1) := by decide +kernel
theorem d_jdk_52_method_16_17 : decode jdk_52_method_16_code 17 = .ok (.if_icmp .eq 40, 3) := by decide +kernel
theorem d_jdk_52_method_16_20 : decode jdk_52_method_16_code 20 = .ok (.aload_n 0, 1) := by decide +kernel
theorem d_jdk_52_method_16_21 : decode jdk_52_method_16_code 21 = .ok (.iload_n 1, 1) := by decide +kernel
theorem d_jdk_52_method_16_22 : decode jdk_52_method_16_code 22 = .ok (.iload_n 2, 1) := by decide +kernel
theorem d_jdk_52_method_16_23 : decode jdk_52_method_16_code 23 = .ok (.invokestatic 119, 3) := by decide +kernel
theorem d_jdk_52_method_16_26 : decode jdk_52_method_16_code 26 = .ok (.astore 5, 2) := by decide +kernel
theorem d_jdk_52_method_16_28 : decode jdk_52_method_16_code 28 = .ok (.aload 5, 2) := by decide +kernel
theorem d_jdk_52_method_16_30 : decode jdk_52_method_16_code 30 = .ok (.iload 4, 2) := by decide +kernel
theorem d_jdk_52_method_16_32 : decode jdk_52_method_16_code 32 = .ok (.invokestatic 71, 3) := by decide +kernel
theorem d_jdk_52_method_16_35 : decode jdk_52_method_16_code 35 = .ok (.sipush 255, 3) := by decide +kernel
theorem d_jdk_52_method_16_38 : decode jdk_52_method_16_code 38 = .ok (.if_icmp .gt 16, 3) := by decide +kernel
theorem d_jdk_52_method_16_54 : decode jdk_52_method_16_code 54 = .ok (.aload 5, 2) := by decide +kernel
theorem d_jdk_52_method_16_56 : decode jdk_52_method_16_code 56 = .ok (.areturn, 1) := by decide +kernel
theorem d_jdk_52_method_16_57 : decode jdk_52_method_16_code 57 = .ok (.aload_n 3, 1) := by decide +kernel
theorem d_jdk_52_method_16_58 : decode jdk_52_method_16_code 58 = .ok (.areturn, 1) := by decide +kernel
theorem d_jdk_52_method_21_0 : decode jdk_52_method_21_code 0 = .ok (.iconst 0, 1) := by decide +kernel
theorem d_jdk_52_method_21_1 : decode jdk_52_method_21_code 1 = .ok (.istore 5, 2) := by decide +kernel
theorem d_jdk_52_method_21_3 : decode jdk_52_method_21_code 3 = .ok (.iload 5, 2) := by decide +kernel
theorem d_jdk_52_method_21_5 : decode jdk_52_method_21_code 5 = .ok (.iload 4, 2) := by decide +kernel
theorem d_jdk_52_method_21_7 : decode jdk_52_method_21_code 7 = .ok (.if_icmp .ge 37, 3) := by decide +kernel
theorem d_jdk_52_method_21_10 : decode jdk_52_method_21_code 10 = .ok (.aload_n 0, 1) := by decide +kernel
theorem d_jdk_52_method_21_11 : decode jdk_52_method_21_code 11 = .ok (.iload_n 1, 1) := by decide +kernel
theorem d_jdk_52_method_21_12 : decode jdk_52_method_21_code 12 = .ok (.caload, 1) := by decide +kernel
theorem d_jdk_52_method_21_13 : decode jdk_52_method_21_code 13 = .ok (.istore 6, 2) := by decide +kernel
theorem d_jdk_52_method_21_15 : decode jdk_52_method_21_code 15 = .ok (.iload 6, 2) := by decide +kernel
theorem d_jdk_52_method_21_17 : decode jdk_52_method_21_code 17 = .ok (.sipush 255, 3) := by decide +kernel
theorem d_jdk_52_method_21_20 : decode jdk_52_method_21_code 20 = .ok (.if_icmp .le 6, 3) := by decide +kernel
theorem d_jdk_52_method_21_23 : decode jdk_52_method_21_code 23 = .ok (.iload 5, 2) := by decide +kernel
theorem d_jdk_52_method_21_25 : decode jdk_52_method_21_code 25 = .ok (.ireturn, 1) := by decide +kernel
theorem d_jdk_52_method_21_26 : decode jdk_52_method_21_code 26 = .ok (.aload_n 2, 1) := by decide +kernel
theorem d_jdk_52_method_21_27 : decode jdk_52_method_21_code 27 = .ok (.iload_n 3, 1) := by decide +kernel
theorem d_jdk_52_method_21_28 : decode jdk_52_method_21_code 28 = .ok (.iload 6, 2) := by decide +kernel
theorem d_jdk_52_method_21_30 : decode jdk_52_method_21_code 30 = .ok (.i2b, 1) := by decide +kernel
theorem d_jdk_52_method_21_31 : decode jdk_52_method_21_code 31 = .ok (.bastore, 1) := by decide +kernel
theorem d_jdk_52_method_21_32 : decode jdk_52_method_21_code 32 = .ok (.iinc 1 1, 3) := by decide +kernel
theorem d_jdk_52_method_21_35 : decode jdk_52_method_21_code 35 = .ok (.iinc 3 1, 3) := by decide +kernel
theorem d_jdk_52_method_21_38 : decode jdk_52_method_21_code 38 = .ok (.iinc 5 1, 3) := by decide +kernel
theorem d_jdk_52_method_21_41 : decode jdk_52_method_21_code 41 = .ok (.goto (-38), 3) := by decide +kernel
theorem d_jdk_52_method_21_44 : decode jdk_52_method_21_code 44 = .ok (.iload 4, 2) := by decide +kernel
theorem d_jdk_52_method_21_46 : decode jdk_52_method_21_code 46 = .ok (.ireturn, 1) := by decide +kernel
theorem d_jdk_52_method_15_0 : decode jdk_52_method_15_code 0 = .ok (.iload_n 1, 1) := by decide +kernel
theorem d_jdk_52_method_15_1 : decode jdk_52_method_15_code 1 = .ok (.aload_n 0, 1) := by decide +kernel
theorem d_jdk_52_method_15_2 : decode jdk_52_method_15_code 2 = .ok (.arraylength, 1) := by decide +kernel
theorem d_jdk_52_method_15_3 : decode jdk_52_method_15_code 3 = .ok (.isub, 1) := by decide +kernel
theorem d_jdk_52_method_15_4 : decode jdk_52_method_15_code 4 = .ok (.bipush 31, 2) := by decide +kernel
theorem d_jdk_52_method_15_6 : decode jdk_52_method_15_code 6 = .ok (.iushr, 1) := by decide +kernel
theorem d_jdk_52_method_15_7 : decode jdk_52_method_15_code 7 = .ok (.i2b, 1) := by decide +kernel
theorem d_jdk_52_method_15_8 : decode jdk_52_method_15_code 8 = .ok (.ireturn, 1) := by decide +kernel
theorem d_prog_7_method_10_0 : decode prog_7_method_10_code 0 = .ok (.aload_n 0, 1) := by decide +kernel
theorem d_prog_7_method_10_1 : decode prog_7_method_10_code 1 = .ok (.invokevirtual 80, 3) := by decide +kernel
theorem d_prog_7_method_10_4 : decode prog_7_method_10_code 4 = .ok (.invokestatic 98, 3) := by decide +kernel
theorem d_prog_7_method_10_7 : decode prog_7_method_10_code 7 = .ok (.ireturn, 1) := by decide +kernel
theorem d_jdk_42_method_129_0 : decode jdk_42_method_129_code 0 = .ok (.aload_n 0, 1) := by decide +kernel
theorem d_jdk_42_method_129_1 : decode jdk_42_method_129_code 1 = .ok (.invokevirtual 492, 3) := by decide +kernel
theorem d_jdk_42_method_129_4 : decode jdk_42_method_129_code 4 = .ok (.ifCond .eq 13, 3) := by decide +kernel
theorem d_jdk_42_method_129_7 : decode jdk_42_method_129_code 7 = .ok (.aload_n 0, 1) := by decide +kernel
theorem d_jdk_42_method_129_8 : decode jdk_42_method_129_code 8 = .ok (.getfield 9, 3) := by decide +kernel
theorem d_jdk_42_method_129_11 : decode jdk_42_method_129_code 11 = .ok (.invokestatic 299, 3) := by decide +kernel
theorem d_jdk_42_method_129_14 : decode jdk_42_method_129_code 14 = .ok (.goto 10, 3) := by decide +kernel
theorem d_jdk_42_method_129_17 : decode jdk_42_method_129_code 17 = .ok (.aload_n 0, 1) := by decide +kernel
theorem d_jdk_42_method_129_18 : decode jdk_42_method_129_code 18 = .ok (.getfield 9, 3) := by decide +kernel
theorem d_jdk_42_method_129_21 : decode jdk_42_method_129_code 21 = .ok (.invokestatic 303, 3) := by decide +kernel
theorem d_jdk_42_method_129_24 : decode jdk_42_method_129_code 24 = .ok (.areturn, 1) := by decide +kernel
theorem d_jdk_42_method_154_0 : decode jdk_42_method_154_code 0 = .ok (.getstatic 38, 3) := by decide +kernel
theorem d_jdk_42_method_154_3 : decode jdk_42_method_154_code 3 = .ok (.ifCond .eq 14, 3) := by decide +kernel
theorem d_jdk_42_method_154_6 : decode jdk_42_method_154_code 6 = .ok (.aload_n 0, 1) := by decide +kernel
theorem d_jdk_42_method_154_7 : decode jdk_42_method_154_code 7 = .ok (.getfield 15, 3) := by decide +kernel
theorem d_jdk_42_method_154_10 : decode jdk_42_method_154_code 10 = .ok (.ifCond .ne 7, 3) := by decide +kernel
theorem d_jdk_42_method_154_13 : decode jdk_42_method_154_code 13 = .ok (.iconst 1, 1) := by decide +kernel
theorem d_jdk_42_method_154_14 : decode jdk_42_method_154_code 14 = .ok (.goto 4, 3) := by decide +kernel
theorem d_jdk_42_method_154_17 : decode jdk_42_method_154_code 17 = .ok (.iconst 0, 1) := by decide +kernel
theorem d_jdk_42_method_154_18 : decode jdk_42_method_154_code 18 = .ok (.ireturn, 1) := by decide +kernel
theorem d_jdk_43_method_9_0 : decode jdk_43_method_9_code 0 = .ok (.aload_n 0, 1) := by decide +kernel
theorem d_jdk_43_method_9_1 : decode jdk_43_method_9_code 1 = .ok (.arraylength, 1) := by decide +kernel
theorem d_jdk_43_method_9_2 : decode jdk_43_method_9_code 2 = .ok (.newarray .char, 2) := by decide +kernel
theorem d_jdk_43_method_9_4 : decode jdk_43_method_9_code 4 = .ok (.astore_n 1, 1) := by decide +kernel
theorem d_jdk_43_method_9_5 : decode jdk_43_method_9_code 5 = .ok (.aload_n 0, 1) := by decide +kernel
theorem d_jdk_43_method_9_6 : decode jdk_43_method_9_code 6 = .ok (.iconst 0, 1) := by decide +kernel
theorem d_jdk_43_method_9_7 : decode jdk_43_method_9_code 7 = .ok (.aload_n 1, 1) := by decide +kernel
theorem d_jdk_43_method_9_8 : decode jdk_43_method_9_code 8 = .ok (.iconst 0, 1) := by decide +kernel
theorem d_jdk_43_method_9_9 : decode jdk_43_method_9_code 9 = .ok (.aload_n 0, 1) := by decide +kernel
theorem d_jdk_43_method_9_10 : decode jdk_43_method_9_code 10 = .ok (.arraylength, 1) := by decide +kernel
theorem d_jdk_43_method_9_11 : decode jdk_43_method_9_code 11 = .ok (.invokestatic 13, 3) := by decide +kernel
theorem d_jdk_43_method_9_14 : decode jdk_43_method_9_code 14 = .ok (.aload_n 1, 1) := by decide +kernel
theorem d_jdk_43_method_9_15 : decode jdk_43_method_9_code 15 = .ok (.areturn, 1) := by decide +kernel
theorem d_jdk_43_method_49_0 : decode jdk_43_method_49_code 0 = .ok (.iconst 0, 1) := by decide +kernel
theorem d_jdk_43_method_49_1 : decode jdk_43_method_49_code 1 = .ok (.istore 5, 2) := by decide +kernel
theorem d_jdk_43_method_49_3 : decode jdk_43_method_49_code 3 = .ok (.iload 5, 2) := by decide +kernel
theorem d_jdk_43_method_49_5 : decode jdk_43_method_49_code 5 = .ok (.iload 4, 2) := by decide +kernel
theorem d_jdk_43_method_49_7 : decode jdk_43_method_49_code 7 = .ok (.if_icmp .ge 26, 3) := by decide +kernel
theorem d_jdk_43_method_49_10 : decode jdk_43_method_49_code 10 = .ok (.aload_n 2, 1) := by decide +kernel
theorem d_jdk_43_method_49_11 : decode jdk_43_method_49_code 11 = .ok (.iload_n 3, 1) := by decide +kernel
theorem d_jdk_43_method_49_12 : decode jdk_43_method_49_code 12 = .ok (.iinc 3 1, 3) := by decide +kernel
theorem d_jdk_43_method_49_15 : decode jdk_43_method_49_code 15 = .ok (.aload_n 0, 1) := by decide +kernel
theorem d_jdk_43_method_49_16 : decode jdk_43_method_49_code 16 = .ok (.iload_n 1, 1) := by decide +kernel
theorem d_jdk_43_method_49_17 : decode jdk_43_method_49_code 17 = .ok (.iinc 1 1, 3) := by decide +kernel
theorem d_jdk_43_method_49_20 : decode jdk_43_method_49_code 20 = .ok (.baload, 1) := by decide +kernel
theorem d_jdk_43_method_49_21 : decode jdk_43_method_49_code 21 = .ok (.sipush 255, 3) := by decide +kernel
theorem d_jdk_43_method_49_24 : decode jdk_43_method_49_code 24 = .ok (.iand, 1) := by decide +kernel
theorem d_jdk_43_method_49_25 : decode jdk_43_method_49_code 25 = .ok (.i2c, 1) := by decide +kernel
theorem d_jdk_43_method_49_26 : decode jdk_43_method_49_code 26 = .ok (.castore, 1) := by decide +kernel
theorem d_jdk_43_method_49_27 : decode jdk_43_method_49_code 27 = .ok (.iinc 5 1, 3) := by decide +kernel
theorem d_jdk_43_method_49_30 : decode jdk_43_method_49_code 30 = .ok (.goto (-27), 3) := by decide +kernel
theorem d_jdk_43_method_49_33 : decode jdk_43_method_49_code 33 = .ok (.return_, 1) := by decide +kernel
theorem d_prog_7_method_11_0 : decode prog_7_method_11_code 0 = .ok (.iconst 0, 1) := by decide +kernel
theorem d_prog_7_method_11_1 : decode prog_7_method_11_code 1 = .ok (.istore_n 1, 1) := by decide +kernel
theorem d_prog_7_method_11_2 : decode prog_7_method_11_code 2 = .ok (.aload_n 0, 1) := by decide +kernel
theorem d_prog_7_method_11_3 : decode prog_7_method_11_code 3 = .ok (.astore_n 2, 1) := by decide +kernel
theorem d_prog_7_method_11_4 : decode prog_7_method_11_code 4 = .ok (.aload_n 2, 1) := by decide +kernel
theorem d_prog_7_method_11_5 : decode prog_7_method_11_code 5 = .ok (.arraylength, 1) := by decide +kernel
theorem d_prog_7_method_11_6 : decode prog_7_method_11_code 6 = .ok (.istore_n 3, 1) := by decide +kernel
theorem d_prog_7_method_11_7 : decode prog_7_method_11_code 7 = .ok (.iconst 0, 1) := by decide +kernel
theorem d_prog_7_method_11_8 : decode prog_7_method_11_code 8 = .ok (.istore 4, 2) := by decide +kernel
theorem d_prog_7_method_11_10 : decode prog_7_method_11_code 10 = .ok (.iload 4, 2) := by decide +kernel
theorem d_prog_7_method_11_12 : decode prog_7_method_11_code 12 = .ok (.iload_n 3, 1) := by decide +kernel
theorem d_prog_7_method_11_13 : decode prog_7_method_11_code 13 = .ok (.if_icmp .ge 49, 3) := by decide +kernel
theorem d_prog_7_method_11_16 : decode prog_7_method_11_code 16 = .ok (.aload_n 2, 1) := by decide +kernel
theorem d_prog_7_method_11_17 : decode prog_7_method_11_code 17 = .ok (.iload 4, 2) := by decide +kernel
theorem d_prog_7_method_11_19 : decode prog_7_method_11_code 19 = .ok (.caload, 1) := by decide +kernel
theorem d_prog_7_method_11_20 : decode prog_7_method_11_code 20 = .ok (.istore 5, 2) := by decide +kernel
theorem d_prog_7_method_11_22 : decode prog_7_method_11_code 22 = .ok (.iload 5, 2) := by decide +kernel
theorem d_prog_7_method_11_24 : decode prog_7_method_11_code 24 = .ok (.getstatic 76, 3) := by decide +kernel
theorem d_prog_7_method_11_27 : decode prog_7_method_11_code 27 = .ok (.arraylength, 1) := by decide +kernel
theorem d_prog_7_method_11_28 : decode prog_7_method_11_code 28 = .ok (.if_icmp .ge 12, 3) := by decide +kernel
theorem d_prog_7_method_11_31 : decode prog_7_method_11_code 31 = .ok (.getstatic 76, 3) := by decide +kernel
theorem d_prog_7_method_11_34 : decode prog_7_method_11_code 34 = .ok (.iload 5, 2) := by decide +kernel
theorem d_prog_7_method_11_36 : decode prog_7_method_11_code 36 = .ok (.caload, 1) := by decide +kernel
theorem d_prog_7_method_11_37 : decode prog_7_method_11_code 37 = .ok (.goto 4, 3) := by decide +kernel
theorem d_prog_7_method_11_40 : decode prog_7_method_11_code 40 = .ok (.iconst 0, 1) := by decide +kernel
theorem d_prog_7_method_11_41 : decode prog_7_method_11_code 41 = .ok (.istore 6, 2) := by decide +kernel
theorem d_prog_7_method_11_43 : decode prog_7_method_11_code 43 = .ok (.iload 6, 2) := by decide +kernel
theorem d_prog_7_method_11_45 : decode prog_7_method_11_code 45 = .ok (.ifCond .eq 11, 3) := by decide +kernel
theorem d_prog_7_method_11_48 : decode prog_7_method_11_code 48 = .ok (.bipush 31, 2) := by decide +kernel
theorem d_prog_7_method_11_50 : decode prog_7_method_11_code 50 = .ok (.iload_n 1, 1) := by decide +kernel
theorem d_prog_7_method_11_51 : decode prog_7_method_11_code 51 = .ok (.imul, 1) := by decide +kernel
theorem d_prog_7_method_11_52 : decode prog_7_method_11_code 52 = .ok (.iload 6, 2) := by decide +kernel
theorem d_prog_7_method_11_54 : decode prog_7_method_11_code 54 = .ok (.iadd, 1) := by decide +kernel
theorem d_prog_7_method_11_55 : decode prog_7_method_11_code 55 = .ok (.istore_n 1, 1) := by decide +kernel
theorem d_prog_7_method_11_56 : decode prog_7_method_11_code 56 = .ok (.iinc 4 1, 3) := by decide +kernel
theorem d_prog_7_method_11_59 : decode prog_7_method_11_code 59 = .ok (.goto (-49), 3) := by decide +kernel
theorem d_prog_7_method_11_62 : decode prog_7_method_11_code 62 = .ok (.iload_n 1, 1) := by decide +kernel
theorem d_prog_7_method_11_63 : decode prog_7_method_11_code 63 = .ok (.ireturn, 1) := by decide +kernel
theorem d_jdk_52_method_14_0 : decode jdk_52_method_14_code 0 = .ok (.iload_n 2, 1) := by decide +kernel
theorem d_jdk_52_method_14_1 : decode jdk_52_method_14_code 1 = .ok (.invokestatic 107, 3) := by decide +kernel
theorem d_jdk_52_method_14_4 : decode jdk_52_method_14_code 4 = .ok (.astore_n 3, 1) := by decide +kernel
theorem d_jdk_52_method_14_5 : decode jdk_52_method_14_code 5 = .ok (.iconst 0, 1) := by decide +kernel
theorem d_jdk_52_method_14_6 : decode jdk_52_method_14_code 6 = .ok (.istore 4, 2) := by decide +kernel
theorem d_jdk_52_method_14_8 : decode jdk_52_method_14_code 8 = .ok (.iload 4, 2) := by decide +kernel
theorem d_jdk_52_method_14_10 : decode jdk_52_method_14_code 10 = .ok (.iload_n 2, 1) := by decide +kernel
theorem d_jdk_52_method_14_11 : decode jdk_52_method_14_code 11 = .ok (.if_icmp .ge 21, 3) := by decide +kernel
theorem d_jdk_52_method_14_14 : decode jdk_52_method_14_code 14 = .ok (.aload_n 3, 1) := by decide +kernel
theorem d_jdk_52_method_14_15 : decode jdk_52_method_14_code 15 = .ok (.iload 4, 2) := by decide +kernel
theorem d_jdk_52_method_14_17 : decode jdk_52_method_14_code 17 = .ok (.aload_n 0, 1) := by decide +kernel
theorem d_jdk_52_method_14_18 : decode jdk_52_method_14_code 18 = .ok (.iload_n 1, 1) := by decide +kernel
theorem d_jdk_52_method_14_19 : decode jdk_52_method_14_code 19 = .ok (.caload, 1) := by decide +kernel
theorem d_jdk_52_method_14_20 : decode jdk_52_method_14_code 20 = .ok (.invokestatic 111, 3) := by decide +kernel
theorem d_jdk_52_method_14_23 : decode jdk_52_method_14_code 23 = .ok (.iinc 1 1, 3) := by decide +kernel
theorem d_jdk_52_method_14_26 : decode jdk_52_method_14_code 26 = .ok (.iinc 4 1, 3) := by decide +kernel
theorem d_jdk_52_method_14_29 : decode jdk_52_method_14_code 29 = .ok (.goto (-21), 3) := by decide +kernel
theorem d_jdk_52_method_14_32 : decode jdk_52_method_14_code 32 = .ok (.aload_n 3, 1) := by decide +kernel
theorem d_jdk_52_method_14_33 : decode jdk_52_method_14_code 33 = .ok (.areturn, 1) := by decide +kernel
theorem d_jdk_52_method_2_0 : decode jdk_52_method_2_code 0 = .ok (.iload_n 0, 1) := by decide +kernel
theorem d_jdk_52_method_2_1 : decode jdk_52_method_2_code 1 = .ok (.invokestatic 11, 3) := by decide +kernel
theorem d_jdk_52_method_2_4 : decode jdk_52_method_2_code 4 = .ok (.newarray .byte, 2) := by decide +kernel
theorem d_jdk_52_method_2_6 : decode jdk_52_method_2_code 6 = .ok (.areturn, 1) := by decide +kernel
theorem d_jdk_52_method_3_0 : decode jdk_52_method_3_code 0 = .ok (.iload_n 0, 1) := by decide +kernel
theorem d_jdk_52_method_3_1 : decode jdk_52_method_3_code 1 = .ok (.ifCond .ge 11, 3) := by decide +kernel
theorem d_jdk_52_method_3_12 : decode jdk_52_method_3_code 12 = .ok (.iload_n 0, 1) := by decide +kernel
theorem d_jdk_52_method_3_13 : decode jdk_52_method_3_code 13 = .ok (.ldc 20, 2) := by decide +kernel
theorem d_jdk_52_method_3_15 : decode jdk_52_method_3_code 15 = .ok (.if_icmp .lt 40, 3) := by decide +kernel
theorem d_jdk_52_method_3_55 : decode jdk_52_method_3_code 55 = .ok (.iload_n 0, 1) := by decide +kernel
theorem d_jdk_52_method_3_56 : decode jdk_52_method_3_code 56 = .ok (.iconst 1, 1) := by decide +kernel
theorem d_jdk_52_method_3_57 : decode jdk_52_method_3_code 57 = .ok (.ishl, 1) := by decide +kernel
theorem d_jdk_52_method_3_58 : decode jdk_52_method_3_code 58 = .ok (.ireturn, 1) := by decide +kernel
theorem d_jdk_52_method_4_0 : decode jdk_52_method_4_code 0 = .ok (.getstatic 44, 3) := by decide +kernel
theorem d_jdk_52_method_4_3 : decode jdk_52_method_4_code 3 = .ok (.ifCond .ne 25, 3) := by decide +kernel
theorem d_jdk_52_method_4_28 : decode jdk_52_method_4_code 28 = .ok (.iload_n 1, 1) := by decide +kernel
theorem d_jdk_52_method_4_29 : decode jdk_52_method_4_code 29 = .ok (.iconst 1, 1) := by decide +kernel
theorem d_jdk_52_method_4_30 : decode jdk_52_method_4_code 30 = .ok (.ishl, 1) := by decide +kernel
theorem d_jdk_52_method_4_31 : decode jdk_52_method_4_code 31 = .ok (.istore_n 1, 1) := by decide +kernel
theorem d_jdk_52_method_4_32 : decode jdk_52_method_4_code 32 = .ok (.aload_n 0, 1) := by decide +kernel
theorem d_jdk_52_method_4_33 : decode jdk_52_method_4_code 33 = .ok (.iload_n 1, 1) := by decide +kernel
theorem d_jdk_52_method_4_34 : decode jdk_52_method_4_code 34 = .ok (.iinc 1 1, 3) := by decide +kernel
theorem d_jdk_52_method_4_37 : decode jdk_52_method_4_code 37 = .ok (.iload_n 2, 1) := by decide +kernel
theorem d_jdk_52_method_4_38 : decode jdk_52_method_4_code 38 = .ok (.getstatic 59, 3) := by decide +kernel
theorem d_jdk_52_method_4_41 : decode jdk_52_method_4_code 41 = .ok (.ishr, 1) := by decide +kernel
theorem d_jdk_52_method_4_42 : decode jdk_52_method_4_code 42 = .ok (.i2b, 1) := by decide +kernel
theorem d_jdk_52_method_4_43 : decode jdk_52_method_4_code 43 = .ok (.bastore, 1) := by decide +kernel
theorem d_jdk_52_method_4_44 : decode jdk_52_method_4_code 44 = .ok (.aload_n 0, 1) := by decide +kernel
theorem d_jdk_52_method_4_45 : decode jdk_52_method_4_code 45 = .ok (.iload_n 1, 1) := by decide +kernel
theorem d_jdk_52_method_4_46 : decode jdk_52_method_4_code 46 = .ok (.iload_n 2, 1) := by decide +kernel
theorem d_jdk_52_method_4_47 : decode jdk_52_method_4_code 47 = .ok (.getstatic 63, 3) := by decide +kernel
theorem d_jdk_52_method_4_50 : decode jdk_52_method_4_code 50 = .ok (.ishr, 1) := by decide +kernel
theorem d_jdk_52_method_4_51 : decode jdk_52_method_4_code 51 = .ok (.i2b, 1) := by decide +kernel
theorem d_jdk_52_method_4_52 : decode jdk_52_method_4_code 52 = .ok (.bastore, 1) := by decide +kernel
theorem d_jdk_52_method_4_53 : decode jdk_52_method_4_code 53 = .ok (.return_, 1) := by decide +kernel
theorem d_jdk_52_method_5_0 : decode jdk_52_method_5_code 0 = .ok (.getstatic 44, 3) := by decide +kernel
theorem d_jdk_52_method_5_3 : decode jdk_52_method_5_code 3 = .ok (.ifCond .ne 25, 3) := by decide +kernel
theorem d_jdk_52_method_5_28 : decode jdk_52_method_5_code 28 = .ok (.iload_n 1, 1) := by decide +kernel
theorem d_jdk_52_method_5_29 : decode jdk_52_method_5_code 29 = .ok (.iconst 1, 1) := by decide +kernel
theorem d_jdk_52_method_5_30 : decode jdk_52_method_5_code 30 = .ok (.ishl, 1) := by decide +kernel
theorem d_jdk_52_method_5_31 : decode jdk_52_method_5_code 31 = .ok (.istore_n 1, 1) := by decide +kernel
theorem d_jdk_52_method_5_32 : decode jdk_52_method_5_code 32 = .ok (.aload_n 0, 1) := by decide +kernel
theorem d_jdk_52_method_5_33 : decode jdk_52_method_5_code 33 = .ok (.iload_n 1, 1) := by decide +kernel
theorem d_jdk_52_method_5_34 : decode jdk_52_method_5_code 34 = .ok (.iinc 1 1, 3) := by decide +kernel
theorem d_jdk_52_method_5_37 : decode jdk_52_method_5_code 37 = .ok (.baload, 1) := by decide +kernel
theorem d_jdk_52_method_5_38 : decode jdk_52_method_5_code 38 = .ok (.sipush 255, 3) := by decide +kernel
theorem d_jdk_52_method_5_41 : decode jdk_52_method_5_code 41 = .ok (.iand, 1) := by decide +kernel
theorem d_jdk_52_method_5_42 : decode jdk_52_method_5_code 42 = .ok (.getstatic 59, 3) := by decide +kernel
theorem d_jdk_52_method_5_45 : decode jdk_52_method_5_code 45 = .ok (.ishl, 1) := by decide +kernel
theorem d_jdk_52_method_5_46 : decode jdk_52_method_5_code 46 = .ok (.aload_n 0, 1) := by decide +kernel
theorem d_jdk_52_method_5_47 : decode jdk_52_method_5_code 47 = .ok (.iload_n 1, 1) := by decide +kernel
theorem d_jdk_52_method_5_48 : decode jdk_52_method_5_code 48 = .ok (.baload, 1) := by decide +kernel
theorem d_jdk_52_method_5_49 : decode jdk_52_method_5_code 49 = .ok (.sipush 255, 3) := by decide +kernel
theorem d_jdk_52_method_5_52 : decode jdk_52_method_5_code 52 = .ok (.iand, 1) := by decide +kernel
theorem d_jdk_52_method_5_53 : decode jdk_52_method_5_code 53 = .ok (.getstatic 63, 3) := by decide +kernel
theorem d_jdk_52_method_5_56 : decode jdk_52_method_5_code 56 = .ok (.ishl, 1) := by decide +kernel
theorem d_jdk_52_method_5_57 : decode jdk_52_method_5_code 57 = .ok (.ior, 1) := by decide +kernel
theorem d_jdk_52_method_5_58 : decode jdk_52_method_5_code 58 = .ok (.i2c, 1) := by decide +kernel
theorem d_jdk_52_method_5_59 : decode jdk_52_method_5_code 59 = .ok (.ireturn, 1) := by decide +kernel
theorem d_jdk_52_method_13_0 : decode jdk_52_method_13_code 0 = .ok (.aload_n 0, 1) := by decide +kernel
theorem d_jdk_52_method_13_1 : decode jdk_52_method_13_code 1 = .ok (.arraylength, 1) := by decide +kernel
theorem d_jdk_52_method_13_2 : decode jdk_52_method_13_code 2 = .ok (.iconst 1, 1) := by decide +kernel
theorem d_jdk_52_method_13_3 : decode jdk_52_method_13_code 3 = .ok (.ishr, 1) := by decide +kernel
theorem d_jdk_52_method_13_4 : decode jdk_52_method_13_code 4 = .ok (.newarray .char, 2) := by decide +kernel
theorem d_jdk_52_method_13_6 : decode jdk_52_method_13_code 6 = .ok (.astore_n 1, 1) := by decide +kernel
theorem d_jdk_52_method_13_7 : decode jdk_52_method_13_code 7 = .ok (.aload_n 0, 1) := by decide +kernel
theorem d_jdk_52_method_13_8 : decode jdk_52_method_13_code 8 = .ok (.iconst 0, 1) := by decide +kernel
theorem d_jdk_52_method_13_9 : decode jdk_52_method_13_code 9 = .ok (.aload_n 1, 1) := by decide +kernel
theorem d_jdk_52_method_13_10 : decode jdk_52_method_13_code 10 = .ok (.arraylength, 1) := by decide +kernel
theorem d_jdk_52_method_13_11 : decode jdk_52_method_13_code 11 = .ok (.aload_n 1, 1) := by decide +kernel
theorem d_jdk_52_method_13_12 : decode jdk_52_method_13_code 12 = .ok (.iconst 0, 1) := by decide +kernel
theorem d_jdk_52_method_13_13 : decode jdk_52_method_13_code 13 = .ok (.invokestatic 103, 3) := by decide +kernel
theorem d_jdk_52_method_13_16 : decode jdk_52_method_13_code 16 = .ok (.aload_n 1, 1) := by decide +kernel
theorem d_jdk_52_method_13_17 : decode jdk_52_method_13_code 17 = .ok (.areturn, 1) := by decide +kernel
theorem d_jdk_52_method_26_0 : decode jdk_52_method_26_code 0 = .ok (.iload_n 1, 1) := by decide +kernel
theorem d_jdk_52_method_26_1 : decode jdk_52_method_26_code 1 = .ok (.iload_n 2, 1) := by decide +kernel
theorem d_jdk_52_method_26_2 : decode jdk_52_method_26_code 2 = .ok (.if_icmp .ge 11, 3) := by decide +kernel
theorem d_jdk_52_method_26_5 : decode jdk_52_method_26_code 5 = .ok (.iload_n 1, 1) := by decide +kernel
theorem d_jdk_52_method_26_6 : decode jdk_52_method_26_code 6 = .ok (.iload_n 2, 1) := by decide +kernel
theorem d_jdk_52_method_26_7 : decode jdk_52_method_26_code 7 = .ok (.iload_n 1, 1) := by decide +kernel
theorem d_jdk_52_method_26_8 : decode jdk_52_method_26_code 8 = .ok (.isub, 1) := by decide +kernel
theorem d_jdk_52_method_26_9 : decode jdk_52_method_26_code 9 = .ok (.aload_n 0, 1) := by decide +kernel
theorem d_jdk_52_method_26_10 : decode jdk_52_method_26_code 10 = .ok (.invokestatic 173, 3) := by decide +kernel
theorem d_jdk_52_method_26_13 : decode jdk_52_method_26_code 13 = .ok (.iload_n 1, 1) := by decide +kernel
theorem d_jdk_52_method_26_14 : decode jdk_52_method_26_code 14 = .ok (.istore 5, 2) := by decide +kernel
theorem d_jdk_52_method_26_16 : decode jdk_52_method_26_code 16 = .ok (.iload 5, 2) := by decide +kernel
theorem d_jdk_52_method_26_18 : decode jdk_52_method_26_code 18 = .ok (.iload_n 2, 1) := by decide +kernel
theorem d_jdk_52_method_26_19 : decode jdk_52_method_26_code 19 = .ok (.if_icmp .ge 22, 3) := by decide +kernel
theorem d_jdk_52_method_26_22 : decode jdk_52_method_26_code 22 = .ok (.aload_n 3, 1) := by decide +kernel
theorem d_jdk_52_method_26_23 : decode jdk_52_method_26_code 23 = .ok (.iload 4, 2) := by decide +kernel
theorem d_jdk_52_method_26_25 : decode jdk_52_method_26_code 25 = .ok (.iinc 4 1, 3) := by decide +kernel
theorem d_jdk_52_method_26_28 : decode jdk_52_method_26_code 28 = .ok (.aload_n 0, 1) := by decide +kernel
theorem d_jdk_52_method_26_29 : decode jdk_52_method_26_code 29 = .ok (.iload 5, 2) := by decide +kernel
theorem d_jdk_52_method_26_31 : decode jdk_52_method_26_code 31 = .ok (.invokestatic 71, 3) := by decide +kernel
theorem d_jdk_52_method_26_34 : decode jdk_52_method_26_code 34 = .ok (.castore, 1) := by decide +kernel
theorem d_jdk_52_method_26_35 : decode jdk_52_method_26_code 35 = .ok (.iinc 5 1, 3) := by decide +kernel
theorem d_jdk_52_method_26_38 : decode jdk_52_method_26_code 38 = .ok (.goto (-22), 3) := by decide +kernel
theorem d_jdk_52_method_26_41 : decode jdk_52_method_26_code 41 = .ok (.return_, 1) := by decide +kernel
theorem d_jdk_52_method_94_0 : decode jdk_52_method_94_code 0 = .ok (.iload_n 0, 1) := by decide +kernel
theorem d_jdk_52_method_94_1 : decode jdk_52_method_94_code 1 = .ok (.iload_n 1, 1) := by decide +kernel
theorem d_jdk_52_method_94_2 : decode jdk_52_method_94_code 2 = .ok (.aload_n 2, 1) := by decide +kernel
theorem d_jdk_52_method_94_3 : decode jdk_52_method_94_code 3 = .ok (.invokestatic 48, 3) := by decide +kernel
theorem d_jdk_52_method_94_6 : decode jdk_52_method_94_code 6 = .ok (.invokestatic 419, 3) := by decide +kernel
theorem d_jdk_52_method_94_9 : decode jdk_52_method_94_code 9 = .ok (.pop, 1) := by decide +kernel
theorem d_jdk_52_method_94_10 : decode jdk_52_method_94_code 10 = .ok (.return_, 1) := by decide +kernel
theorem d_jdk_52_method_6_0 : decode jdk_52_method_6_code 0 = .ok (.aload_n 0, 1) := by decide +kernel
theorem d_jdk_52_method_6_1 : decode jdk_52_method_6_code 1 = .ok (.arraylength, 1) := by decide +kernel
theorem d_jdk_52_method_6_2 : decode jdk_52_method_6_code 2 = .ok (.iconst 1, 1) := by decide +kernel
theorem d_jdk_52_method_6_3 : decode jdk_52_method_6_code 3 = .ok (.ishr, 1) := by decide +kernel
theorem d_jdk_52_method_6_4 : decode jdk_52_method_6_code 4 = .ok (.ireturn, 1) := by decide +kernel
theorem d_jdk_42_method_157_0 : decode jdk_42_method_157_code 0 = .ok (.iload_n 0, 1) := by decide +kernel
theorem d_jdk_42_method_157_1 : decode jdk_42_method_157_code 1 = .ok (.iload_n 1, 1) := by decide +kernel
theorem d_jdk_42_method_157_2 : decode jdk_42_method_157_code 2 = .ok (.iload_n 2, 1) := by decide +kernel
theorem d_jdk_42_method_157_3 : decode jdk_42_method_157_code 3 = .ok (.getstatic 1053, 3) := by decide +kernel
theorem d_jdk_42_method_157_6 : decode jdk_42_method_157_code 6 = .ok (.invokestatic 1065, 3) := by decide +kernel
theorem d_jdk_42_method_157_9 : decode jdk_42_method_157_code 9 = .ok (.ireturn, 1) := by decide +kernel
theorem d_jdk_41_method_13_0 : decode jdk_41_method_13_code 0 = .ok (.iload_n 2, 1) := by decide +kernel
theorem d_jdk_41_method_13_1 : decode jdk_41_method_13_code 1 = .ok (.iload_n 0, 1) := by decide +kernel
theorem d_jdk_41_method_13_2 : decode jdk_41_method_13_code 2 = .ok (.ior, 1) := by decide +kernel
theorem d_jdk_41_method_13_3 : decode jdk_41_method_13_code 3 = .ok (.iload_n 1, 1) := by decide +kernel
theorem d_jdk_41_method_13_4 : decode jdk_41_method_13_code 4 = .ok (.ior, 1) := by decide +kernel
theorem d_jdk_41_method_13_5 : decode jdk_41_method_13_code 5 = .ok (.ifCond .lt 10, 3) := by decide +kernel
theorem d_jdk_41_method_13_8 : decode jdk_41_method_13_code 8 = .ok (.iload_n 1, 1) := by decide +kernel
theorem d_jdk_41_method_13_9 : decode jdk_41_method_13_code 9 = .ok (.iload_n 2, 1) := by decide +kernel
theorem d_jdk_41_method_13_10 : decode jdk_41_method_13_code 10 = .ok (.iload_n 0, 1) := by decide +kernel
theorem d_jdk_41_method_13_11 : decode jdk_41_method_13_code 11 = .ok (.isub, 1) := by decide +kernel
theorem d_jdk_41_method_13_12 : decode jdk_41_method_13_code 12 = .ok (.if_icmp .le 11, 3) := by decide +kernel
theorem d_jdk_41_method_13_23 : decode jdk_41_method_13_code 23 = .ok (.iload_n 0, 1) := by decide +kernel
theorem d_jdk_41_method_13_24 : decode jdk_41_method_13_code 24 = .ok (.ireturn, 1) := by decide +kernel
theorem pn_com_example_stratify_stratify_EnvironmentNamesSkeletonHashPinLaw : plainName "com/example/stratify/stratify/EnvironmentNamesSkeletonHashPinLaw" = true := by first | (simp [plainName, overriddenIn]; done) | decide +kernel
theorem pd__IC_I : parseMethodDescriptor "(IC)I" = some ⟨[.int, .char], some .int⟩ := by decide +kernel
theorem pd__C_I : parseMethodDescriptor "(C)I" = some ⟨[.char], some .int⟩ := by decide +kernel
theorem pn_java_lang_String : plainName "java/lang/String" = true := by first | (simp [plainName, overriddenIn]; done) | decide +kernel
theorem pd___C_V : parseMethodDescriptor "([C)V" = some ⟨[(.array .char)], none⟩ := by decide +kernel
theorem pd___CIILjava_lang_Void__V : parseMethodDescriptor "([CIILjava/lang/Void;)V" = some ⟨[(.array .char), .int, .int, (.object "java/lang/Void")], none⟩ := by decide +kernel
theorem pd___CII__B : parseMethodDescriptor "([CII)[B" = some ⟨[(.array .char), .int, .int], some (.array .byte)⟩ := by decide +kernel
theorem pd___BI_B : parseMethodDescriptor "([BI)B" = some ⟨[(.array .byte), .int], some .byte⟩ := by decide +kernel
theorem pn_java_lang_StringUTF16 : plainName "java/lang/StringUTF16" = true := by first | (simp [plainName, overriddenIn]; done) | decide +kernel
theorem pd___CI_BII_I : parseMethodDescriptor "([CI[BII)I" = some ⟨[(.array .char), .int, (.array .byte), .int, .int], some .int⟩ := by decide +kernel
theorem pd___BI_C : parseMethodDescriptor "([BI)C" = some ⟨[(.array .byte), .int], some .char⟩ := by decide +kernel
theorem pn_com_example_stratify_stratify_EnvironmentNames : plainName "com/example/stratify/stratify/EnvironmentNames" = true := by first | (simp [plainName, overriddenIn]; done) | decide +kernel
theorem pd__Ljava_lang_String__I : parseMethodDescriptor "(Ljava/lang/String;)I" = some ⟨[(.object "java/lang/String")], some .int⟩ := by decide +kernel
theorem pd____C : parseMethodDescriptor "()[C" = some ⟨[], some (.array .char)⟩ := by decide +kernel
theorem pd___C_I : parseMethodDescriptor "([C)I" = some ⟨[(.array .char)], some .int⟩ := by decide +kernel
theorem pd___Z : parseMethodDescriptor "()Z" = some ⟨[], some .boolean⟩ := by decide +kernel
theorem pd___B__C : parseMethodDescriptor "([B)[C" = some ⟨[(.array .byte)], some (.array .char)⟩ := by decide +kernel
theorem pn_java_lang_StringLatin1 : plainName "java/lang/StringLatin1" = true := by first | (simp [plainName, overriddenIn]; done) | decide +kernel
theorem pd___BI_CII_V : parseMethodDescriptor "([BI[CII)V" = some ⟨[(.array .byte), .int, (.array .char), .int, .int], none⟩ := by decide +kernel
theorem pd__I__B : parseMethodDescriptor "(I)[B" = some ⟨[.int], some (.array .byte)⟩ := by decide +kernel
theorem pd___BII_V : parseMethodDescriptor "([BII)V" = some ⟨[(.array .byte), .int, .int], none⟩ := by decide +kernel
theorem pd__I_I : parseMethodDescriptor "(I)I" = some ⟨[.int], some .int⟩ := by decide +kernel
theorem pd___B_I : parseMethodDescriptor "([B)I" = some ⟨[(.array .byte)], some .int⟩ := by decide +kernel
theorem pd___BII_CI_V : parseMethodDescriptor "([BII[CI)V" = some ⟨[(.array .byte), .int, .int, (.array .char), .int], none⟩ := by decide +kernel
theorem pd__II_B_V : parseMethodDescriptor "(II[B)V" = some ⟨[.int, .int, (.array .byte)], none⟩ := by decide +kernel
theorem pd__III_I : parseMethodDescriptor "(III)I" = some ⟨[.int, .int, .int], some .int⟩ := by decide +kernel
theorem pd__IIILjava_util_function_BiFunction__I : parseMethodDescriptor "(IIILjava/util/function/BiFunction;)I" = some ⟨[.int, .int, .int, (.object "java/util/function/BiFunction")], some .int⟩ := by decide +kernel
theorem pn_jdk_internal_util_Preconditions : plainName "jdk/internal/util/Preconditions" = true := by first | (simp [plainName, overriddenIn]; done) | decide +kernel
theorem own_sA : ∀ d ∈ Bundle.stringAtoms, d ∈ tables_1 := by decide +kernel
theorem own_wS {Z : State} {a0 : Array Value} (hw : ∀ d ∈ tables_1, d.before a0 Z = true) : ∀ a ∈ Bundle.stringAtoms, a.before a0 Z = true := fun d hd => hw d (own_sA d hd)
theorem own_EL {Z : State} {a0 : Array Value} (hw : ∀ d ∈ tables_1, d.before a0 Z = true) : EW Z a0 Jvm.OwnK.EL := (EW.cons (tw hw 104 rfl) (by decide) EW.nil)
theorem own_words : ∀ d ∈ StrChars.Road.words, d ∈ tables_1 := by decide +kernel
def StrIs (Z : State) (h : Heap) (b : Addr) (cs : List Int32) : Prop := ∃ (t : Addr) (kb : ClassId), Exa Z h b "java/lang/String" ∧ Fld Z h b "java/lang/String" "coder" "B" (.int 0) ∧ Fld Z h b "java/lang/String" "value" "[B" (.ref t) ∧ Arv Z h t kb .byte (Int32.ofNat cs.length) ((cs.map fun c => c.toInt8.toInt32).map Value.int) (.int 0) ∧ (∀ c ∈ cs, ¬ c < 0 ∧ ¬ 255 < c) ∧ cs.length ≤ 4000
theorem StrIs.keep {Z : State} {h h' : Heap} {b : Addr} {cs : List Int32} (F : StrIs Z h b cs) (K : Keep h h' []) : StrIs Z h' b cs := by
  obtain ⟨t, kb, q1, q2, q3, q4, r⟩ := F
  exact ⟨t, kb, q1.keep K, q2.keep K nin0, q3.keep K nin0, q4.keep K nin0, r⟩
theorem StrIs.ext {Z : State} {h h' : Heap} {b : Addr} {cs : List Int32} (F : StrIs Z h b cs) (K : Ext h h') : StrIs Z h' b cs := F.keep ((Keep.refl h []).ext K)
theorem StrIs.exa {Z : State} {h : Heap} {b : Addr} {cs : List Int32} (F : StrIs Z h b cs) : Exa Z h b "java/lang/String" := by obtain ⟨t, kb, q, -⟩ := F; exact q
theorem own_up {cs : List Int32} (h : ∀ c ∈ cs, ¬ c < 0 ∧ ¬ (255 : Int32) < c) : ∀ c ∈ cs, ¬ c < 0 ∧ ¬ (65535 : Int32) < c := fun c hc => by
  have q := h c hc
  simp only [Int32.lt_iff_toInt_lt, Int32.reduceToInt] at *; omega
theorem own_eqv {v : Option Value} {P : Prop} [Decidable P] (h : (v = some (.int 1) ∧ P) ∨ (v = some (.int 0) ∧ ¬ P)) : v = some (.int (bi (decide P))) := by
  rcases h with ⟨h, q⟩ | ⟨h, q⟩
  · rw [h, decide_eq_true q]; rfl
  · rw [h, decide_eq_false q]; rfl
theorem own_eqr {args : Array Value} {Z : State} {X F : Term} {idx : List Nat} {y : Addr} (hF : F.eval args Z none idx Z = some (.ref y)) (h : (Jvm.Cond.eq X F).value args Z none Z idx = some true) : X.eval args Z none idx Z = some (.ref y) := by
  cases hX : X.eval args Z none idx Z with
  | none => simp [Cond.value, hX] at h
  | some x => cases x <;> simp [Cond.value, hX, hF] at h ⊢ <;> exact h
theorem own_isref {args : Array Value} {s : State} {t : Term} (h : (Jvm.Cond.isRef t).value args s none s [] = some true) : ∃ v : Value, t.eval args s none [] s = some v ∧ v.isRef = true := by
  cases e : t.eval args s none [] s with
  | none => simp [Cond.value, e] at h
  | some v => exact ⟨v, rfl, by cases v <;> simp_all [Cond.value, Value.isRef]⟩
theorem own_nneg {i : Nat} (h : i < 2147483648) : ¬ Int32.ofNat i < 0 := by
  rw [Int32.lt_iff_toInt_lt, own_ofNat h]; show ¬ ((i : Int) < 0); omega
theorem own_inj {i j : Nat} (hi : i < 2147483648) (hj : j < 2147483648) : (Int32.ofNat i = Int32.ofNat j) ↔ i = j := by
  rw [← Int32.toInt_inj, own_ofNat hi, own_ofNat hj]; omega
theorem own_sub {i j : Nat} (h : j ≤ i) : Int32.ofNat i - Int32.ofNat j = Int32.ofNat (i - j) := by
  have q : Int32.ofNat i = Int32.ofNat (i - j) + Int32.ofNat j := by rw [← Int32.ofNat_add, Nat.sub_add_cancel h]
  rw [q, Int32.add_sub_cancel]
theorem own_dec {i : Nat} (h : 1 ≤ i) : Int32.ofNat i - 1 = Int32.ofNat (i - 1) := own_sub h
theorem own_dec1 (i : Nat) : Int32.ofNat (i + 1) + (-1) = Int32.ofNat i := by
  rw [← own_inc, Int32.add_assoc, show (1 + -1 : Int32) = 0 by decide, Int32.add_zero]
theorem own_add (i j : Nat) : Int32.ofNat i + Int32.ofNat j = Int32.ofNat (i + j) := (Int32.ofNat_add i j).symm
def arl (n : Nat) (f : Nat → Int32) : List Value := (List.range n).map fun i => Value.int (f i)
def lst (n : Nat) (f : Nat → Int32) : List Int32 := (List.range n).map f
theorem arl_len (n : Nat) (f : Nat → Int32) : (arl n f).length = n := by simp [arl]
theorem lst_len (n : Nat) (f : Nat → Int32) : (lst n f).length = n := by simp [lst]
theorem arl_get {n i : Nat} {f : Nat → Int32} {d : Value} (h : i < n) : (arl n f).getD i d = .int (f i) := by
  simp [arl, List.getD_eq_getElem?_getD, h]
theorem arl_rd {n i : Nat} (h : i < n) (hn : n < 2147483648) {f : Nat → Int32} {d : Value} : (arl n f).getD (Int32.ofNat i).toNatClampNeg d = .int (f i) := by
  rw [own_clamp (by omega)]; exact arl_get h
theorem arl_set {n i : Nat} {f : Nat → Int32} {x : Int32} : (arl n f).set i (.int x) = arl n (fun j => if j = i then x else f j) := by
  apply List.ext_getElem (by simp [arl])
  intro j h1 h2
  simp only [arl, List.getElem_set, List.getElem_map, List.getElem_range]
  by_cases q : i = j
  · subst q; simp
  · rw [if_neg q, if_neg (fun e => q e.symm)]
theorem arl_congr {n : Nat} {f g : Nat → Int32} (h : ∀ i, i < n → f i = g i) : arl n f = arl n g :=
  List.map_congr_left fun i hi => by rw [h i (List.mem_range.mp hi)]
theorem arl_zero (n : Nat) : List.replicate n (Value.int 0) = arl n (fun _ => 0) := by
  apply List.ext_getElem (by simp [arl])
  intro j h1 h2; simp [arl]
theorem lst_map {n : Nat} {f : Nat → Int32} {g : Int32 → Int32} : ((lst n f).map g).map Value.int = arl n (fun i => g (f i)) := by
  simp [arl, lst, Function.comp_def]
theorem lst_mem {n : Nat} {f : Nat → Int32} {P : Int32 → Prop} : (∀ c ∈ lst n f, P c) ↔ ∀ i, i < n → P (f i) := by
  simp [lst]
theorem arv_eq {Z : State} {h : Heap} {a : Addr} {k : ClassId} {ty : FieldType} {z : Int32} {vs vs' : List Value} {d : Value} (F : Arv Z h a k ty z vs d) (q : ∀ i, i < z.toNatClampNeg → vs.getD i d = vs'.getD i d) : Arv Z h a k ty z vs' d := by
  obtain ⟨c, A, r1, r2, r3, H, G⟩ := F
  exact ⟨c, A, r1, r2, r3, fun i hi => by rw [H i hi, q i (r2 ▸ hi)], fun i hi => by rw [← q i (r2 ▸ hi)]; exact G i hi⟩
theorem arl_of_rep {Z : State} {h : Heap} {a : Addr} {k : ClassId} {ty : FieldType} {n cap : Nat} (hn : n ≤ cap) (hc : cap < 2147483648) (F : Arv Z h a k ty (Int32.ofNat n) (List.replicate cap (Value.int 0)) (.int 0)) : Arv Z h a k ty (Int32.ofNat n) (arl n fun _ => 0) (.int 0) := by
  refine arv_eq F fun i hi => ?_
  rw [own_clamp (by omega)] at hi
  rw [arl_get hi, List.getD_eq_getElem?_getD, List.getElem?_replicate, if_pos (by omega)]; rfl
theorem own_b2c {c : Int32} (h0 : ¬ c < 0) (h1 : ¬ 255 < c) : (c.toInt8.toInt32 &&& 255).toUInt32.toUInt16.toUInt32.toInt32 = c := by
  have a := c_i2b c
  have b := c_mask c.toInt8.toInt32 255 8 (by decide) (by decide)
  have d := c_i2c (c.toInt8.toInt32 &&& 255)
  simp only [Int32.lt_iff_toInt_lt, Int32.reduceToInt] at h0 h1
  rw [← Int32.toInt_inj]; omega
theorem own_narc {c : Int32} (h0 : ¬ c < 0) (h1 : ¬ 65535 < c) : nar .char c = c := by
  show c.toUInt32.toUInt16.toUInt32.toInt32 = c
  have d := c_i2c c
  simp only [Int32.lt_iff_toInt_lt, Int32.reduceToInt] at h0 h1
  rw [← Int32.toInt_inj]; omega
theorem own_255 {c : Int32} (h1 : ¬ 255 < c) : ¬ 65535 < c := by
  simp only [Int32.lt_iff_toInt_lt, Int32.reduceToInt] at *; omega
theorem own_lo8 {c d : Int32} (hc : ¬ c < 0 ∧ ¬ 255 < c) (hd : ¬ d < 0 ∧ ¬ 255 < d) (q : c.toInt8.toInt32 = d.toInt8.toInt32) : c = d := by
  have a := c_i2b c; have b := c_i2b d
  rw [← Int32.toInt_inj] at q ⊢
  simp only [Int32.lt_iff_toInt_lt, Int32.reduceToInt] at hc hd; omega
theorem own_shr0 (z : Int32) : z >>> (0 &&& 31) = z := by
  rw [show (0 &&& 31 : Int32) = 0 by decide]; simp
theorem StrIs.op {Z : State} {h : Heap} {b : Addr} {n : Nat} {f : Nat → Int32} (F : StrIs Z h b (lst n f)) : ∃ (t : Addr) (kb : ClassId), Exa Z h b "java/lang/String" ∧ Fld Z h b "java/lang/String" "coder" "B" (.int 0) ∧ Fld Z h b "java/lang/String" "value" "[B" (.ref t) ∧ Arv Z h t kb .byte (Int32.ofNat n) (arl n fun i => (f i).toInt8.toInt32) (.int 0) ∧ (∀ i, i < n → ¬ f i < 0 ∧ ¬ 255 < f i) ∧ n ≤ 4000 := by
  obtain ⟨t, kb, q1, q2, q3, q4, q5, q6⟩ := F
  rw [lst_len] at q4 q6; rw [lst_map] at q4
  exact ⟨t, kb, q1, q2, q3, q4, lst_mem.mp q5, q6⟩
theorem StrIs.cl {Z : State} {h : Heap} {b t : Addr} {kb : ClassId} {n : Nat} {f : Nat → Int32} (q1 : Exa Z h b "java/lang/String") (q2 : Fld Z h b "java/lang/String" "coder" "B" (.int 0)) (q3 : Fld Z h b "java/lang/String" "value" "[B" (.ref t)) (q4 : Arv Z h t kb .byte (Int32.ofNat n) (arl n fun i => (f i).toInt8.toInt32) (.int 0)) (q5 : ∀ i, i < n → ¬ f i < 0 ∧ ¬ 255 < f i) (q6 : n ≤ 4000) : StrIs Z h b (lst n f) := by
  refine ⟨t, kb, q1, q2, q3, ?_, lst_mem.mpr q5, ?_⟩
  · rw [lst_len, lst_map]; exact q4
  · rw [lst_len]; exact q6
theorem ef_sI4 (m : MethodId) (a1 : Addr) (ar : Addr) : entryFrame m #[(.ref a1), (.ref ar), (.int 0), (.int 0), .null] 6 = mkF m 0 #[.val (.ref a1), .val (.ref ar), .val (.int 0), .val (.int 0), .val .null, .unset] [] := by first | (simp [entryFrame, mkF, argsToLocals, Value.category]; done) | rfl
def Q_sI4 (Z : State) (a1 : Addr) (ar : Addr) (h0 : Heap) (v : Option Value) (h : Heap) : Prop := v = none ∧ Keep h0 h [a1] ∧ StrIs Z h a1 []
set_option maxRecDepth 65536 in
set_option maxHeartbeats 40000000 in
theorem c_sI4 (l : Launch) (Z : State) (a0 : Array Value) (hw : ∀ d ∈ tables_1, d.before a0 Z = true) (a1 : Addr) (ar : Addr) (h0 : Heap) (E1 : Exa Z h0 a1 "java/lang/String") (F1 : Fld Z h0 a1 "java/lang/String" "value" "[B" .null) (F2 : Fld Z h0 a1 "java/lang/String" "coder" "B" (.int 0)) (g1 : Z.heap.size ≤ a1) :
    Con l Z (⟨"java/lang/String", "<init>", "([CIILjava/lang/Void;)V"⟩ : MethodName) jdk_42_method_149_code 6 (Option.none : Option FieldType) [] ({ frames := 1, cells := 4, slots := 8, locals := 12 } : Room) #[(.ref a1), (.ref ar), (.int 0), (.int 0), .null] h0 (Q_sI4 Z a1 ar h0) [a1] := by
  refine Con.of (plainFor_of_name pn_java_lang_String) ?_
  intro p e s m below meth c T0 B W0
  refine Go.cast (ef_sI4 m a1 ar ) ?_
  have l_a1 := nlt E1.lt
  refine g_aload_n B W0 (d_jdk_42_method_149_0) rfl rfl ?_
  obtain ⟨T101, W101, st101⟩ := x_init B W0 (d_jdk_42_method_149_1) (tw hw 20 rfl) (tw hw 21 rfl) (tw hw 22 rfl) a1 #[.val (.ref a1), .val (.ref ar), .val (.int 0), .val (.int 0), .val .null, .unset] [] rfl 0 rfl (by decide) (by decide)
  refine st101 _ ?_
  refine g_iload_n B W101 (d_jdk_42_method_149_4) rfl ?_
  refine g_if_n B W101 (d_jdk_42_method_149_5) (XT.i0_ne_f rfl) ?_
  show Go p.tables e below _ T101 (mkF m 8 #[.val (.ref a1), .val (.ref ar), .val (.int 0), .val (.int 0), .val .null, .unset] [])
  refine g_aload_n B W101 (d_jdk_42_method_149_8) rfl rfl ?_
  obtain ⟨T102, h102, b102, t102, kc102, W102, K102, E102, Fc102, Fv102, A102, Et102, ne102, st102⟩ := x_ldcT B W101 0 (vs := []) (z := 0) (d_jdk_42_method_149_9) (tw hw 104 rfl) (own_wS hw) (own_EL hw) (by decide) ⟨by decide, by decide⟩ (by decide) (by decide) (by decide) (by decide) (by decide) (by decide) #[.val (.ref a1), .val (.ref ar), .val (.int 0), .val (.int 0), .val .null, .unset] [(.ref a1)]
  have nb102_0 : ¬ @Eq Nat a1 b102 := (ne102 a1 (by simp)).1
  have nt102_0 : ¬ @Eq Nat a1 t102 := (ne102 a1 (by simp)).2
  refine st102 _ ?_
  have s103 := K102.1
  obtain ⟨T104, W104, st104⟩ := x_get B W102 (host := "") (d_jdk_42_method_149_11) (Or.inl (tw hw 37 rfl)) Via.refl Fv102 #[.val (.ref a1), .val (.ref ar), .val (.int 0), .val (.int 0), .val .null, .unset] [(.ref a1)]
  refine st104 _ ?_
  have f105 := (F1.keep K102 nin0)
  have f106 := (E1.keep K102)
  obtain ⟨T107, h107, W107, K107, R107, F107, E107, st107⟩ := x_put B W104 (d_jdk_42_method_149_14) ((tw hw 37 rfl)) Via.refl f105 f106 (Or.inr ⟨ (tw hw 38 rfl), rfl, rfl⟩) (tw hw 11 rfl) (ty := (.array .byte)) (v := (.ref t102)) (v' := (.ref t102)) (by decide) rfl rfl (by omega) (Or.inr (by simp)) #[.val (.ref a1), .val (.ref ar), .val (.int 0), .val (.int 0), .val .null, .unset] []
  refine st107 _ ?_
  have f108 := (F2.keep K102 nin0)
  have f109 := f108.other R107 (Or.inr (slot_ne (Or.inr (tw hw 36 rfl)) (Or.inr (tw hw 38 rfl)) (by decide) (t := .byte) (t' := (.array .byte)) (by decide) (by decide)))
  have s110 := K107.1
  refine g_aload_n B W107 (d_jdk_42_method_149_17) rfl rfl ?_
  obtain ⟨T111, h111, b111, t111, kc111, W111, K111, E111, Fc111, Fv111, A111, Et111, ne111, st111⟩ := x_ldcT B W107 0 (vs := []) (z := 0) (d_jdk_42_method_149_18) (tw hw 104 rfl) (own_wS hw) (own_EL hw) (by decide) ⟨by decide, by decide⟩ (by decide) (by decide) (by decide) (by decide) (by decide) (by decide) #[.val (.ref a1), .val (.ref ar), .val (.int 0), .val (.int 0), .val .null, .unset] [(.ref a1)]
  have nb111_0 : ¬ @Eq Nat a1 b111 := (ne111 a1 (by simp)).1
  have nt111_0 : ¬ @Eq Nat a1 t111 := (ne111 a1 (by simp)).2
  refine st111 _ ?_
  have s112 := K111.1
  obtain ⟨T113, W113, st113⟩ := x_get B W111 (host := "") (d_jdk_42_method_149_20) (Or.inl (tw hw 35 rfl)) Via.refl Fc111 #[.val (.ref a1), .val (.ref ar), .val (.int 0), .val (.int 0), .val .null, .unset] [(.ref a1)]
  refine st113 _ ?_
  have f114 := (f109.keep K111 nin0)
  have f115 := (E107.keep K111)
  obtain ⟨T116, h116, W116, K116, R116, F116, E116, st116⟩ := x_put B W113 (d_jdk_42_method_149_23) ((tw hw 35 rfl)) Via.refl f114 f115 (Or.inr ⟨ (tw hw 36 rfl), rfl, rfl⟩) (tw hw 11 rfl) (ty := .byte) (v := (.int 0)) (v' := (.int 0)) (by decide) rfl rfl (by omega) (Or.inr (by simp)) #[.val (.ref a1), .val (.ref ar), .val (.int 0), .val (.int 0), .val .null, .unset] []
  refine st116 _ ?_
  have f117 := (F107.keep K111 nin0)
  have f118 := f117.other R116 (Or.inr (slot_ne (Or.inr (tw hw 38 rfl)) (Or.inr (tw hw 36 rfl)) (by decide) (t := (.array .byte)) (t' := .byte) (by decide) (by decide)))
  have s119 := K116.1
  have f120 := ((A102.keep K107 (ninS (nne (by have q := nlt A102.lt; omega)) nin0)).keep K111 nin0)
  have f121 := (f120.keep K116 (ninS (nne (by have q := nlt f120.lt; omega)) nin0))
  exact r_v B W116 (d_jdk_42_method_149_26) (by decide) (by decide) ⟨rfl, (((((Keep.refl h0 [a1]).trans K102 all0).trans K107 (allS (Or.inl (by simp)) all0)).trans K111 all0).trans K116 (allS (Or.inl (by simp)) all0)), ⟨_, _, E116, F116, f118, f121, by simp, by simp⟩⟩
theorem ef_sI1 (m : MethodId) (a1 : Addr) (ar : Addr) (kA : ClassId) : entryFrame m #[(.ref a1), (.ref ar)] 2 = mkF m 0 #[.val (.ref a1), .val (.ref ar)] [] := by first | (simp [entryFrame, mkF, argsToLocals, Value.category]; done) | rfl
def Q_sI1 (Z : State) (a1 : Addr) (ar : Addr) (kA : ClassId) (h0 : Heap) (v : Option Value) (h : Heap) : Prop := v = none ∧ Keep h0 h [a1] ∧ StrIs Z h a1 []
set_option maxRecDepth 65536 in
set_option maxHeartbeats 40000000 in
theorem c_sI1 (l : Launch) (Z : State) (a0 : Array Value) (hw : ∀ d ∈ tables_1, d.before a0 Z = true) (a1 : Addr) (ar : Addr) (kA : ClassId) (h0 : Heap) (E1 : Exa Z h0 a1 "java/lang/String") (F1 : Fld Z h0 a1 "java/lang/String" "value" "[B" .null) (F2 : Fld Z h0 a1 "java/lang/String" "coder" "B" (.int 0)) (g1 : Z.heap.size ≤ a1) (A1 : Arv Z h0 ar kA .char 0 [] (.int 0)) :
    Con l Z (⟨"java/lang/String", "<init>", "([C)V"⟩ : MethodName) jdk_42_method_3_code 2 (Option.none : Option FieldType) [] ({ frames := 2, cells := 4, slots := 8, locals := 40 } : Room) #[(.ref a1), (.ref ar)] h0 (Q_sI1 Z a1 ar kA h0) [a1] := by
  refine Con.of (plainFor_of_name pn_java_lang_String) ?_
  intro p e s m below meth c T0 B W0
  refine Go.cast (ef_sI1 m a1 ar kA ) ?_
  refine g_aload_n B W0 (d_jdk_42_method_3_0) rfl rfl ?_
  refine g_aload_n B W0 (d_jdk_42_method_3_1) rfl rfl ?_
  refine g_iconst B W0 (d_jdk_42_method_3_2) (v := 0) (by decide) ?_
  refine g_aload_n B W0 (d_jdk_42_method_3_3) rfl rfl ?_
  refine g_aalen B W0 (d_jdk_42_method_3_4) A1 ?_
  refine g_aconst_null B W0 (d_jdk_42_method_3_5)  ?_
  obtain ⟨T101, h101, v101, W101, Q101, st101⟩ := x_special B W0 (b := a1) [(.ref ar), (.int 0), (.int 0), .null] (c_sI4 l Z a0 hw a1 ar h0 E1 F1 F2 g1) (by simp) (d_jdk_42_method_3_6) rfl (tw hw 16 rfl) (tw hw 17 rfl) (tw hw 12 rfl) (tw hw 19 rfl) (by decide) (lenOf pd___CIILjava_lang_Void__V rfl) #[.val (.ref a1), .val (.ref ar)] [] rfl 0 rfl (by decide) (by decide) (by decide) (by decide)
  obtain ⟨rfl, K101, S101⟩ := Q101
  have s102 := K101.1
  refine st101 _ ?_
  exact r_v B W101 (d_jdk_42_method_3_9) (by decide) (by decide) ⟨rfl, K101, S101⟩
theorem own_nb8 (x : Int32) : nar .byte x.toInt8.toInt32 = x.toInt8.toInt32 := by
  show x.toInt8.toInt32.toInt8.toInt32 = _
  have a := c_i2b x; have b := c_i2b x.toInt8.toInt32
  rw [← Int32.toInt_inj]; omega
def wbf (f : Nat → Int32) (j : Nat) : Int32 := if j % 2 = 0 then (f (j / 2)).toInt8.toInt32 else (f (j / 2) >>> ((8 : Int32) &&& 31)).toInt8.toInt32
theorem wbf_e (f : Nat → Int32) (i : Nat) : wbf f (2 * i) = (f i).toInt8.toInt32 := by
  unfold wbf; rw [if_pos (by omega), show 2 * i / 2 = i by omega]
theorem wbf_o (f : Nat → Int32) (i : Nat) : wbf f (2 * i + 1) = (f i >>> ((8 : Int32) &&& 31)).toInt8.toInt32 := by
  unfold wbf; rw [if_neg (by omega), show (2 * i + 1) / 2 = i by omega]
theorem own_glue {c : Int32} (h0 : ¬ c < 0) (h1 : ¬ 65535 < c) : (((c.toInt8.toInt32 &&& 255) <<< ((0 : Int32) &&& 31)) ||| (((c >>> ((8 : Int32) &&& 31)).toInt8.toInt32 &&& 255) <<< ((8 : Int32) &&& 31))).toUInt32.toUInt16.toUInt32.toInt32 = c := by
  rw [Int32.or_comm]
  have a1 := c_i2b c
  have a2 := c_mask c.toInt8.toInt32 255 8 (by decide) (by decide)
  have a3 := c_ishl (c.toInt8.toInt32 &&& 255) 0 0 (by decide)
  have a4 := rng32 ((c.toInt8.toInt32 &&& 255) <<< ((0 : Int32) &&& 31))
  have b0 := c_ishr c 8 8 (by decide)
  have b1 := c_i2b (c >>> ((8 : Int32) &&& 31))
  have b2 := c_mask (c >>> ((8 : Int32) &&& 31)).toInt8.toInt32 255 8 (by decide) (by decide)
  have b3 := c_ishl ((c >>> ((8 : Int32) &&& 31)).toInt8.toInt32 &&& 255) 8 8 (by decide)
  have b4 := rng32 (((c >>> ((8 : Int32) &&& 31)).toInt8.toInt32 &&& 255) <<< ((8 : Int32) &&& 31))
  generalize (c.toInt8.toInt32 &&& 255) <<< ((0 : Int32) &&& 31) = A at *
  generalize ((c >>> ((8 : Int32) &&& 31)).toInt8.toInt32 &&& 255) <<< ((8 : Int32) &&& 31) = B at *
  simp only [Int32.lt_iff_toInt_lt, Int32.reduceToInt] at h0 h1
  have c1 := c_or B A 8 (by decide) 256 (by decide) (by omega) (by omega) (by omega)
  have c2 := c_i2c (B ||| A)
  rw [← Int32.toInt_inj]; omega
theorem own_dbl {n : Nat} (h : n ≤ 8000) : Int32.ofNat n <<< ((1 : Int32) &&& 31) = Int32.ofNat (2 * n) := by
  have a := c_ishl (Int32.ofNat n) 1 1 (by decide); have r := rng32 (Int32.ofNat n <<< ((1 : Int32) &&& 31))
  rw [own_ofNat (by omega)] at a
  rw [← Int32.toInt_inj, own_ofNat (by omega)]; omega
theorem own_half {n : Nat} (h : n ≤ 8000) : Int32.ofNat (2 * n) >>> ((1 : Int32) &&& 31) = Int32.ofNat n := by
  have a := c_ishr (Int32.ofNat (2 * n)) 1 1 (by decide)
  rw [own_ofNat (by omega)] at a
  rw [← Int32.toInt_inj, own_ofNat (by omega)]; omega
theorem own_fill {P : Nat → Int32 → Prop} {i : Nat} {x : Int32} {g : Nat → Int32} (h : ∀ j, j < i → P j (g j)) (hx : P i x) : ∀ j, j < i + 1 → P j (if j = i then x else g j) := by
  intro j hj
  by_cases q : j = i
  · subst q; rw [if_pos rfl]; exact hx
  · rw [if_neg q]; exact h j (by omega)
theorem own_fill2 {f g : Nat → Int32} {i : Nat} (h : ∀ j, j < 2 * i → g j = wbf f j) : ∀ j, j < 2 * (i + 1) → (if j = 2 * i + 1 then (f i >>> ((8 : Int32) &&& 31)).toInt8.toInt32 else if j = 2 * i then (f i).toInt8.toInt32 else g j) = wbf f j := by
  intro j hj
  by_cases q : j = 2 * i + 1
  · rw [if_pos q, q, wbf_o]
  · rw [if_neg q]
    by_cases q2 : j = 2 * i
    · rw [if_pos q2, q2, wbf_e]
    · rw [if_neg q2]; exact h j (by omega)
theorem own_cod1 {n : Nat} (h : 1 ≤ n) (h8 : n ≤ 8) : nar .byte (XT.ushr (Int32.ofNat n - Int32.ofNat (2 * n)) 31).toInt8.toInt32 = 1 := by
  have t : ∀ k : Fin 9, ¬ k.val = 0 → nar .byte (XT.ushr (Int32.ofNat k.val - Int32.ofNat (2 * k.val)) 31).toInt8.toInt32 = 1 := by decide +kernel
  exact t ⟨n, by omega⟩ (by show ¬ n = 0; omega)
def StrC (Z : State) (h : Heap) (b : Addr) (n : Nat) (f : Nat → Int32) : Prop := ∃ (t : Addr) (kb : ClassId), Exa Z h b "java/lang/String" ∧ Fld Z h b "java/lang/String" "value" "[B" (.ref t) ∧ ((Fld Z h b "java/lang/String" "coder" "B" (.int 0) ∧ (∀ i, i < n → ¬ 255 < f i) ∧ Arv Z h t kb .byte (Int32.ofNat n) (arl n fun i => (f i).toInt8.toInt32) (.int 0)) ∨ (Fld Z h b "java/lang/String" "coder" "B" (.int 1) ∧ 1 ≤ n ∧ Arv Z h t kb .byte (Int32.ofNat (2 * n)) (arl (2 * n) (wbf f)) (.int 0))) ∧ (∀ i, i < n → ¬ f i < 0 ∧ ¬ 65535 < f i) ∧ n ≤ 4000
theorem StrC.keep {Z : State} {h h' : Heap} {b : Addr} {n : Nat} {f : Nat → Int32} (F : StrC Z h b n f) (K : Keep h h' []) : StrC Z h' b n f := by
  obtain ⟨t, kb, q1, q2, q3, r⟩ := F
  refine ⟨t, kb, q1.keep K, q2.keep K nin0, ?_, r⟩
  rcases q3 with ⟨c, l, a⟩ | ⟨c, l, a⟩
  · exact Or.inl ⟨c.keep K nin0, l, a.keep K nin0⟩
  · exact Or.inr ⟨c.keep K nin0, l, a.keep K nin0⟩
theorem StrC.exa {Z : State} {h : Heap} {b : Addr} {n : Nat} {f : Nat → Int32} (F : StrC Z h b n f) : Exa Z h b "java/lang/String" := by obtain ⟨t, kb, q, -⟩ := F; exact q
theorem StrC.of_nil {Z : State} {h : Heap} {b : Addr} {f : Nat → Int32} (F : StrIs Z h b []) : StrC Z h b 0 f := by
  obtain ⟨t, kb, q1, q2, q3, q4, -, -⟩ := F
  exact ⟨t, kb, q1, q3, Or.inl ⟨q2, fun i hi => absurd hi (by omega), q4⟩, fun i hi => absurd hi (by omega), by omega⟩
theorem ef_comp5 (m : MethodId) (ar : Addr) (kA : ClassId) (bt : Addr) (kb : ClassId) (nn : Nat) (ff : Nat → Int32) : entryFrame m #[(.ref ar), (.int 0), (.ref bt), (.int 0), (.int (Int32.ofNat nn))] 7 = mkF m 0 #[.val (.ref ar), .val (.int 0), .val (.ref bt), .val (.int 0), .val (.int (Int32.ofNat nn)), .unset, .unset] [] := by first | (simp [entryFrame, mkF, argsToLocals, Value.category]; done) | rfl
def Q_comp5 (Z : State) (ar : Addr) (kA : ClassId) (bt : Addr) (kb : ClassId) (nn : Nat) (ff : Nat → Int32) (h0 : Heap) (v : Option Value) (h : Heap) : Prop := ∃ (r : Nat) (g : Nat → Int32), v = some (.int (Int32.ofNat r)) ∧ Keep h0 h [bt] ∧ Arv Z h bt kb .byte (Int32.ofNat nn) (arl nn g) (.int 0) ∧ r ≤ nn ∧ (∀ j, j < r → g j = (ff j).toInt8.toInt32 ∧ ¬ 255 < ff j) ∧ (r < nn → 255 < ff r)
set_option maxRecDepth 65536 in
set_option maxHeartbeats 40000000 in
theorem c_comp5 (l : Launch) (Z : State) (a0 : Array Value) (hw : ∀ d ∈ tables_1, d.before a0 Z = true) (ar : Addr) (kA : ClassId) (bt : Addr) (kb : ClassId) (nn : Nat) (ff : Nat → Int32) (h0 : Heap) (A1 : Arv Z h0 ar kA .char (Int32.ofNat nn) (arl nn ff) (.int 0)) (A2 : Arv Z h0 bt kb .byte (Int32.ofNat nn) (arl nn fun _ => 0) (.int 0)) (g1 : Z.heap.size ≤ bt) (nb : ¬ @Eq Nat ar bt) (hn : nn ≤ 4000) :
    Con l Z (⟨"java/lang/StringUTF16", "compress", "([CI[BII)I"⟩ : MethodName) jdk_52_method_21_code 7 (Option.some FieldType.int) [] ({ frames := 0, cells := 0, slots := 0, locals := 0 } : Room) #[(.ref ar), (.int 0), (.ref bt), (.int 0), (.int (Int32.ofNat nn))] h0 (Q_comp5 Z ar kA bt kb nn ff h0) [bt] := by
  refine Con.of (plainFor_of_name pn_java_lang_StringUTF16) ?_
  intro p e s m below meth c T0 B W0
  refine Go.cast (ef_comp5 m ar kA bt kb nn ff ) ?_
  refine g_iconst B W0 (d_jdk_52_method_21_0) (v := 0) (by decide) ?_
  refine g_istore B W0 (d_jdk_52_method_21_1)  (l' := #[.val (.ref ar), .val (.int 0), .val (.ref bt), .val (.int 0), .val (.int (Int32.ofNat nn)), .val (.int 0), .unset]) rfl ?_
  have loop : ∀ (r : Nat) (i : Nat) (g : Nat → Int32) (h1 : Heap) (s6 : Slot) (T : State), (s6 = .unset ∨ ∃ w, s6 = .val w ∧ w.category = 1) → (i + r = nn) → (Keep h0 h1 [bt]) → (Arv Z h1 bt kb .byte (Int32.ofNat nn) (arl nn g) (.int 0)) → (∀ j, j < i → g j = (ff j).toInt8.toInt32 ∧ ¬ 255 < ff j) → Wk p l e ({ frames := 0, cells := 0, slots := 0, locals := 0 } : Room) s m #[(.ref ar), (.int 0), (.ref bt), (.int 0), (.int (Int32.ofNat nn))] below meth c Z T h1 0 0 [bt] → Go p.tables e below (Jvm.OwnK.Out Z s (Q_comp5 Z ar kA bt kb nn ff h0) ({ frames := 0, cells := 0, slots := 0, locals := 0 } : Room).cells ({ frames := 0, cells := 0, slots := 0, locals := 0 } : Room).slots) T (mkF m 3 #[.val (.ref ar), .val (.int (Int32.ofNat i)), .val (.ref bt), .val (.int (Int32.ofNat i)), .val (.int (Int32.ofNat nn)), .val (.int (Int32.ofNat i)), s6] []) := by
    intro r; induction r with
    | zero =>
      intro i g h1 s6 T hx6 hr K1 A3 hg W
      refine g_iload B W (d_jdk_52_method_21_3) rfl ?_
      refine g_iload B W (d_jdk_52_method_21_5) rfl ?_
      refine g_icmp_y B W (d_jdk_52_method_21_7) (XT.ii_ge_t (by rw [own_lt (by omega) (by omega)]; omega)) (pc' := 44) (by decide) ?_
      show Go p.tables e below _ T (mkF m 44 #[.val (.ref ar), .val (.int (Int32.ofNat i)), .val (.ref bt), .val (.int (Int32.ofNat i)), .val (.int (Int32.ofNat nn)), .val (.int (Int32.ofNat i)), s6] [])
      refine g_iload B W (d_jdk_52_method_21_44) rfl ?_
      exact r_i B W (d_jdk_52_method_21_46) (by decide) (by decide) ⟨nn, g, rfl, K1, A3, by omega, fun j hj => hg j (by omega), by omega⟩
    | succ r ih =>
      intro i g h1 s6 T hx6 hr K1 A3 hg W
      have hil : i < nn := by omega
      refine g_iload B W (d_jdk_52_method_21_3) rfl ?_
      refine g_iload B W (d_jdk_52_method_21_5) rfl ?_
      refine g_icmp_n B W (d_jdk_52_method_21_7) (XT.ii_ge_f ((own_lt (by omega) (by omega)).mpr hil)) ?_
      show Go p.tables e below _ T (mkF m 10 #[.val (.ref ar), .val (.int (Int32.ofNat i)), .val (.ref bt), .val (.int (Int32.ofNat i)), .val (.int (Int32.ofNat nn)), .val (.int (Int32.ofNat i)), s6] [])
      refine g_aload_n B W (d_jdk_52_method_21_10) rfl rfl ?_
      refine g_iload_n B W (d_jdk_52_method_21_11) rfl ?_
      have f101 := (A1.keep K1 (ninS (nne (by have q := nlt A1.lt; omega)) nin0))
      refine g_caload B W (d_jdk_52_method_21_12) f101 (own_ixok (i := i) (n := nn) (by omega) (by omega)) (arl_rd (i := i) (n := nn) (by omega) (by omega)) ?_
      show Go p.tables e below _ T (mkF m 13 #[.val (.ref ar), .val (.int (Int32.ofNat i)), .val (.ref bt), .val (.int (Int32.ofNat i)), .val (.int (Int32.ofNat nn)), .val (.int (Int32.ofNat i)), s6] [(.int (ff i))])
      refine g_istore B W (d_jdk_52_method_21_13)  (l' := #[.val (.ref ar), .val (.int (Int32.ofNat i)), .val (.ref bt), .val (.int (Int32.ofNat i)), .val (.int (Int32.ofNat nn)), .val (.int (Int32.ofNat i)), .val (.int (ff i))]) (XS.store1 rfl hx6 rfl) ?_
      refine g_iload B W (d_jdk_52_method_21_15) rfl ?_
      refine g_sipush B W (d_jdk_52_method_21_17) (v := 255) (by decide) ?_
      by_cases hc102 : 255 < (ff i)
      · skip
        refine g_icmp_n B W (d_jdk_52_method_21_20) (XT.ii_le_f hc102) ?_
        show Go p.tables e below _ T (mkF m 23 #[.val (.ref ar), .val (.int (Int32.ofNat i)), .val (.ref bt), .val (.int (Int32.ofNat i)), .val (.int (Int32.ofNat nn)), .val (.int (Int32.ofNat i)), .val (.int (ff i))] [])
        refine g_iload B W (d_jdk_52_method_21_23) rfl ?_
        exact r_i B W (d_jdk_52_method_21_25) (by decide) (by decide) ⟨i, g, rfl, K1, A3, by omega, hg, fun _ => hc102⟩
      · skip
        refine g_icmp_y B W (d_jdk_52_method_21_20) (XT.ii_le_t hc102) (pc' := 26) (by decide) ?_
        show Go p.tables e below _ T (mkF m 26 #[.val (.ref ar), .val (.int (Int32.ofNat i)), .val (.ref bt), .val (.int (Int32.ofNat i)), .val (.int (Int32.ofNat nn)), .val (.int (Int32.ofNat i)), .val (.int (ff i))] [])
        refine g_aload_n B W (d_jdk_52_method_21_26) rfl rfl ?_
        refine g_iload_n B W (d_jdk_52_method_21_27) rfl ?_
        refine g_iload B W (d_jdk_52_method_21_28) rfl ?_
        refine g_i2b B W (d_jdk_52_method_21_30)  ?_
        obtain ⟨T103, h103, W103, K103, A103, st103⟩ := x_bastore B W (j := Int32.ofNat i) (x := ((ff i) : Int32).toInt8.toInt32) (d_jdk_52_method_21_31) A3 (own_ixok (i := i) (n := nn) (by omega) (by omega)) (by rw [own_clamp (by omega), arl_len]; exact (by omega)) (by omega) (by simp) #[.val (.ref ar), .val (.int (Int32.ofNat i)), .val (.ref bt), .val (.int (Int32.ofNat i)), .val (.int (Int32.ofNat nn)), .val (.int (Int32.ofNat i)), .val (.int (ff i))] []
        refine st103 _ ?_
        rw [own_clamp (by omega), own_nb8, arl_set] at A103
        have s104 := K103.1
        show Go p.tables e below _ T103 (mkF m 32 #[.val (.ref ar), .val (.int (Int32.ofNat i)), .val (.ref bt), .val (.int (Int32.ofNat i)), .val (.int (Int32.ofNat nn)), .val (.int (Int32.ofNat i)), .val (.int (ff i))] [])
        refine g_iinc B W103 (d_jdk_52_method_21_32) (v := 1) (l' := #[.val (.ref ar), .val (.int (Int32.ofNat i + 1)), .val (.ref bt), .val (.int (Int32.ofNat i)), .val (.int (Int32.ofNat nn)), .val (.int (Int32.ofNat i)), .val (.int (ff i))]) (by decide) rfl rfl ?_
        rw [own_inc]
        show Go p.tables e below _ T103 (mkF m 35 #[.val (.ref ar), .val (.int (Int32.ofNat (i + 1))), .val (.ref bt), .val (.int (Int32.ofNat i)), .val (.int (Int32.ofNat nn)), .val (.int (Int32.ofNat i)), .val (.int (ff i))] [])
        refine g_iinc B W103 (d_jdk_52_method_21_35) (v := 1) (l' := #[.val (.ref ar), .val (.int (Int32.ofNat (i + 1))), .val (.ref bt), .val (.int (Int32.ofNat i + 1)), .val (.int (Int32.ofNat nn)), .val (.int (Int32.ofNat i)), .val (.int (ff i))]) (by decide) rfl rfl ?_
        rw [own_inc]
        show Go p.tables e below _ T103 (mkF m 38 #[.val (.ref ar), .val (.int (Int32.ofNat (i + 1))), .val (.ref bt), .val (.int (Int32.ofNat (i + 1))), .val (.int (Int32.ofNat nn)), .val (.int (Int32.ofNat i)), .val (.int (ff i))] [])
        refine g_iinc B W103 (d_jdk_52_method_21_38) (v := 1) (l' := #[.val (.ref ar), .val (.int (Int32.ofNat (i + 1))), .val (.ref bt), .val (.int (Int32.ofNat (i + 1))), .val (.int (Int32.ofNat nn)), .val (.int (Int32.ofNat i + 1)), .val (.int (ff i))]) (by decide) rfl rfl ?_
        rw [own_inc]
        show Go p.tables e below _ T103 (mkF m 41 #[.val (.ref ar), .val (.int (Int32.ofNat (i + 1))), .val (.ref bt), .val (.int (Int32.ofNat (i + 1))), .val (.int (Int32.ofNat nn)), .val (.int (Int32.ofNat (i + 1))), .val (.int (ff i))] [])
        refine g_goto B W103 (d_jdk_52_method_21_41) (pc' := 3) (by decide) ?_
        show Go p.tables e below _ T103 (mkF m 3 #[.val (.ref ar), .val (.int (Int32.ofNat (i + 1))), .val (.ref bt), .val (.int (Int32.ofNat (i + 1))), .val (.int (Int32.ofNat nn)), .val (.int (Int32.ofNat (i + 1))), .val (.int (ff i))] [])
        exact ih _ _ _ _ _ (Or.inr ⟨_, rfl, rfl⟩) (by omega) (((Keep.refl h0 [bt]).trans K1 (allS (Or.inl (by simp)) all0)).trans K103 (allS (Or.inl (by simp)) all0)) A103 (own_fill (P := fun j x => x = (ff j).toInt8.toInt32 ∧ ¬ 255 < ff j) hg ⟨rfl, hc102⟩) W103
  exact loop nn 0 _ h0 .unset _ (Or.inl rfl) (by omega) (Keep.refl h0 [bt]) A2 (fun j hj => absurd hj (by omega)) W0
theorem ef_nbl (m : MethodId) (nn : Nat) : entryFrame m #[(.int (Int32.ofNat nn))] 1 = mkF m 0 #[.val (.int (Int32.ofNat nn))] [] := by first | (simp [entryFrame, mkF, argsToLocals, Value.category]; done) | rfl
def Q_nbl (Z : State) (nn : Nat) (h0 : Heap) (v : Option Value) (h : Heap) : Prop := v = some (.int (Int32.ofNat (2 * nn))) ∧ h0 = h
set_option maxRecDepth 65536 in
set_option maxHeartbeats 40000000 in
theorem c_nbl (l : Launch) (Z : State) (a0 : Array Value) (hw : ∀ d ∈ tables_1, d.before a0 Z = true) (nn : Nat) (h0 : Heap) (hn : nn ≤ 8) :
    Con l Z (⟨"java/lang/StringUTF16", "newBytesLength", "(I)I"⟩ : MethodName) jdk_52_method_3_code 1 (Option.some FieldType.int) [] ({ frames := 0, cells := 0, slots := 0, locals := 0 } : Room) #[(.int (Int32.ofNat nn))] h0 (Q_nbl Z nn h0) [] := by
  refine Con.of (plainFor_of_name pn_java_lang_StringUTF16) ?_
  intro p e s m below meth c T0 B W0
  refine Go.cast (ef_nbl m nn ) ?_
  refine g_iload_n B W0 (d_jdk_52_method_3_0) rfl ?_
  refine g_if_y B W0 (d_jdk_52_method_3_1) (XT.i0_ge_t (own_nneg (by omega))) (pc' := 12) (by decide) ?_
  show Go p.tables e below _ T0 (mkF m 12 #[.val (.int (Int32.ofNat nn))] [])
  refine g_iload_n B W0 (d_jdk_52_method_3_12) rfl ?_
  refine g_ldcI B W0 (d_jdk_52_method_3_13) (tw hw 74 rfl) ?_
  refine g_icmp_y B W0 (d_jdk_52_method_3_15) (XT.ii_lt_t (by rw [show (1073741823 : Int32) = Int32.ofNat 1073741823 from rfl, own_lt (by omega) (by omega)]; omega)) (pc' := 55) (by decide) ?_
  show Go p.tables e below _ T0 (mkF m 55 #[.val (.int (Int32.ofNat nn))] [])
  refine g_iload_n B W0 (d_jdk_52_method_3_55) rfl ?_
  refine g_iconst B W0 (d_jdk_52_method_3_56) (v := 1) (by decide) ?_
  refine g_ishl B W0 (d_jdk_52_method_3_57)  ?_
  rw [own_dbl (by omega)]
  show Go p.tables e below _ T0 (mkF m 58 #[.val (.int (Int32.ofNat nn))] [(.int (Int32.ofNat (2 * nn)))])
  exact r_i B W0 (d_jdk_52_method_3_58) (by decide) (by decide) ⟨rfl, rfl⟩
theorem ef_nbf (m : MethodId) (nn : Nat) : entryFrame m #[(.int (Int32.ofNat nn))] 1 = mkF m 0 #[.val (.int (Int32.ofNat nn))] [] := by first | (simp [entryFrame, mkF, argsToLocals, Value.category]; done) | rfl
def Q_nbf (Z : State) (nn : Nat) (h0 : Heap) (v : Option Value) (h : Heap) : Prop := ∃ (b : Addr) (kb : ClassId), v = some (.ref b) ∧ h0.size ≤ b ∧ Keep h0 h [] ∧ Arv Z h b kb .byte (Int32.ofNat (2 * nn)) (arl (2 * nn) fun _ => 0) (.int 0)
set_option maxRecDepth 65536 in
set_option maxHeartbeats 40000000 in
theorem c_nbf (l : Launch) (Z : State) (a0 : Array Value) (hw : ∀ d ∈ tables_1, d.before a0 Z = true) (nn : Nat) (h0 : Heap) (hn : nn ≤ 8) :
    ConR l Z (⟨"java/lang/StringUTF16", "newBytesFor", "(I)[B"⟩ : MethodName) jdk_52_method_2_code 1 (Option.some (FieldType.array FieldType.byte)) [] ({ frames := 1, cells := 1, slots := 16, locals := 12 } : Room) #[(.int (Int32.ofNat nn))] h0 (Q_nbf Z nn h0) [] := by
  refine ConR.of (plainFor_of_name pn_java_lang_StringUTF16) ?_
  intro p e s m below meth c T0 B W0
  refine Go.cast (ef_nbf m nn ) ?_
  refine g_iload_n B W0 (d_jdk_52_method_2_0) rfl ?_
  obtain ⟨T101, h101, v101, W101, Q101, st101⟩ := x_static B W0 [(.int (Int32.ofNat nn))] (c_nbl l Z a0 hw nn h0 hn) (by simp) (d_jdk_52_method_2_1) (tw hw 71 rfl) (tw hw 72 rfl) (tw hw 26 rfl) (tw hw 73 rfl) (by decide) (lenOf pd__I_I rfl) #[.val (.int (Int32.ofNat nn))] [] rfl 0 rfl (by decide) (by decide) (by decide) (by decide)
  obtain ⟨rfl, rfl⟩ := Q101
  refine st101 _ ?_
  obtain ⟨T102, h102, b102, cA102, gb102, W102, K102, A102, st102⟩ := x_newA B W101 (z := Int32.ofNat ((2 * nn))) 16 (d_jdk_52_method_2_4) (tw hw 28 rfl) (own_nneg (by omega)) (by rw [own_clamp (by omega)]; omega) (by decide) (by decide) (by decide) #[.val (.int (Int32.ofNat nn))] []
  have l102 := nlt A102.lt
  have z102 := W101.size
  refine st102 _ ?_
  have A102 := arl_of_rep (by omega) (by decide) A102
  have s103 := K102.1
  show Go p.tables e below _ T102 (mkF m 6 #[.val (.int (Int32.ofNat nn))] [(.ref b102)])
  exact r_aR B W102 rfl rfl (d_jdk_52_method_2_6) (by decide) (by decide) ⟨_, _, rfl, by omega, ((Keep.refl h0 []).trans K102 all0), A102⟩ (by simp)
theorem ef_putc (m : MethodId) (bt : Addr) (kb : ClassId) (nn : Nat) (gg : Nat → Int32) (i : Nat) (ch : Int32) : entryFrame m #[(.ref bt), (.int (Int32.ofNat i)), (.int ch)] 3 = mkF m 0 #[.val (.ref bt), .val (.int (Int32.ofNat i)), .val (.int ch)] [] := by first | (simp [entryFrame, mkF, argsToLocals, Value.category]; done) | rfl
def Q_putc (Z : State) (bt : Addr) (kb : ClassId) (nn : Nat) (gg : Nat → Int32) (i : Nat) (ch : Int32) (h0 : Heap) (v : Option Value) (h : Heap) : Prop := v = none ∧ Keep h0 h [bt] ∧ Arv Z h bt kb .byte (Int32.ofNat (2 * nn)) (arl (2 * nn) fun j => if j = 2 * i + 1 then (ch >>> ((8 : Int32) &&& 31)).toInt8.toInt32 else if j = 2 * i then ch.toInt8.toInt32 else gg j) (.int 0)
set_option maxRecDepth 65536 in
set_option maxHeartbeats 40000000 in
theorem c_putc (l : Launch) (Z : State) (a0 : Array Value) (hw : ∀ d ∈ tables_1, d.before a0 Z = true) (bt : Addr) (kb : ClassId) (nn : Nat) (gg : Nat → Int32) (i : Nat) (ch : Int32) (h0 : Heap) (Sad : Sta Z Z.heap "java/lang/StringUTF16" "$assertionsDisabled" "Z" (.int 1)) (Shi : Sta Z Z.heap "java/lang/StringUTF16" "HI_BYTE_SHIFT" "I" (.int 0)) (Slo : Sta Z Z.heap "java/lang/StringUTF16" "LO_BYTE_SHIFT" "I" (.int 8)) (A1 : Arv Z h0 bt kb .byte (Int32.ofNat (2 * nn)) (arl (2 * nn) gg) (.int 0)) (g1 : Z.heap.size ≤ bt) (hi : i < nn) (hn : nn ≤ 8) :
    Con l Z (⟨"java/lang/StringUTF16", "putChar", "([BII)V"⟩ : MethodName) jdk_52_method_4_code 3 (Option.none : Option FieldType) [] ({ frames := 0, cells := 0, slots := 0, locals := 0 } : Room) #[(.ref bt), (.int (Int32.ofNat i)), (.int ch)] h0 (Q_putc Z bt kb nn gg i ch h0) [bt] := by
  refine Con.of (plainFor_of_name pn_java_lang_StringUTF16) ?_
  intro p e s m below meth c T0 B W0
  refine Go.cast (ef_putc m bt kb nn gg i ch ) ?_
  obtain ⟨T101, W101, st101⟩ := x_gets B W0 (host := "") (d_jdk_52_method_4_0) (Or.inl (tw hw 78 rfl)) Via.refl Sad #[.val (.ref bt), .val (.int (Int32.ofNat i)), .val (.int ch)] []
  refine st101 _ ?_
  refine g_if_y B W101 (d_jdk_52_method_4_3) (XT.i0_ne_t (by decide)) (pc' := 28) (by decide) ?_
  show Go p.tables e below _ T101 (mkF m 28 #[.val (.ref bt), .val (.int (Int32.ofNat i)), .val (.int ch)] [])
  refine g_iload_n B W101 (d_jdk_52_method_4_28) rfl ?_
  refine g_iconst B W101 (d_jdk_52_method_4_29) (v := 1) (by decide) ?_
  refine g_ishl B W101 (d_jdk_52_method_4_30)  ?_
  rw [own_dbl (by omega)]
  show Go p.tables e below _ T101 (mkF m 31 #[.val (.ref bt), .val (.int (Int32.ofNat i)), .val (.int ch)] [(.int (Int32.ofNat (2 * i)))])
  refine g_istore_n B W101 (d_jdk_52_method_4_31)  (l' := #[.val (.ref bt), .val (.int (Int32.ofNat (2 * i))), .val (.int ch)]) rfl ?_
  refine g_aload_n B W101 (d_jdk_52_method_4_32) rfl rfl ?_
  refine g_iload_n B W101 (d_jdk_52_method_4_33) rfl ?_
  refine g_iinc B W101 (d_jdk_52_method_4_34) (v := 1) (l' := #[.val (.ref bt), .val (.int (Int32.ofNat ((2 * i)) + 1)), .val (.int ch)]) (by decide) rfl rfl ?_
  rw [own_inc]
  show Go p.tables e below _ T101 (mkF m 37 #[.val (.ref bt), .val (.int (Int32.ofNat ((2 * i) + 1))), .val (.int ch)] [(.int (Int32.ofNat (2 * i))), (.ref bt)])
  refine g_iload_n B W101 (d_jdk_52_method_4_37) rfl ?_
  obtain ⟨T102, W102, st102⟩ := x_gets B W101 (host := "") (d_jdk_52_method_4_38) (Or.inl (tw hw 79 rfl)) Via.refl Shi #[.val (.ref bt), .val (.int (Int32.ofNat ((2 * i) + 1))), .val (.int ch)] [(.int ch), (.int (Int32.ofNat (2 * i))), (.ref bt)]
  refine st102 _ ?_
  refine g_ishr B W102 (d_jdk_52_method_4_41)  ?_
  rw [own_shr0]
  show Go p.tables e below _ T102 (mkF m 42 #[.val (.ref bt), .val (.int (Int32.ofNat ((2 * i) + 1))), .val (.int ch)] [(.int ch), (.int (Int32.ofNat (2 * i))), (.ref bt)])
  refine g_i2b B W102 (d_jdk_52_method_4_42)  ?_
  obtain ⟨T103, h103, W103, K103, A103, st103⟩ := x_bastore B W102 (j := Int32.ofNat ((2 * i))) (x := (ch : Int32).toInt8.toInt32) (d_jdk_52_method_4_43) A1 (own_ixok (i := (2 * i)) (n := 2 * nn) (by omega) (by omega)) (by rw [own_clamp (by omega), arl_len]; exact (by omega)) (by omega) (by simp) #[.val (.ref bt), .val (.int (Int32.ofNat ((2 * i) + 1))), .val (.int ch)] []
  refine st103 _ ?_
  rw [own_clamp (by omega), own_nb8, arl_set] at A103
  have s104 := K103.1
  show Go p.tables e below _ T103 (mkF m 44 #[.val (.ref bt), .val (.int (Int32.ofNat ((2 * i) + 1))), .val (.int ch)] [])
  refine g_aload_n B W103 (d_jdk_52_method_4_44) rfl rfl ?_
  refine g_iload_n B W103 (d_jdk_52_method_4_45) rfl ?_
  refine g_iload_n B W103 (d_jdk_52_method_4_46) rfl ?_
  obtain ⟨T105, W105, st105⟩ := x_gets B W103 (host := "") (d_jdk_52_method_4_47) (Or.inl (tw hw 80 rfl)) Via.refl Slo #[.val (.ref bt), .val (.int (Int32.ofNat ((2 * i) + 1))), .val (.int ch)] [(.int ch), (.int (Int32.ofNat ((2 * i) + 1))), (.ref bt)]
  refine st105 _ ?_
  refine g_ishr B W105 (d_jdk_52_method_4_50)  ?_
  refine g_i2b B W105 (d_jdk_52_method_4_51)  ?_
  obtain ⟨T106, h106, W106, K106, A106, st106⟩ := x_bastore B W105 (j := Int32.ofNat (((2 * i) + 1))) (x := (((ch : Int32) >>> ((8 : Int32) &&& 31)) : Int32).toInt8.toInt32) (d_jdk_52_method_4_52) A103 (own_ixok (i := ((2 * i) + 1)) (n := 2 * nn) (by omega) (by omega)) (by rw [own_clamp (by omega), arl_len]; exact (by omega)) (by omega) (by simp) #[.val (.ref bt), .val (.int (Int32.ofNat ((2 * i) + 1))), .val (.int ch)] []
  refine st106 _ ?_
  rw [own_clamp (by omega), own_nb8, arl_set] at A106
  have s107 := K106.1
  show Go p.tables e below _ T106 (mkF m 53 #[.val (.ref bt), .val (.int (Int32.ofNat ((2 * i) + 1))), .val (.int ch)] [])
  exact r_v B W106 (d_jdk_52_method_4_53) (by decide) (by decide) ⟨rfl, (((Keep.refl h0 [bt]).trans K103 (allS (Or.inl (by simp)) all0)).trans K106 (allS (Or.inl (by simp)) all0)), A106⟩
theorem ef_getc (m : MethodId) (bt : Addr) (kb : ClassId) (nn : Nat) (ff : Nat → Int32) (i : Nat) : entryFrame m #[(.ref bt), (.int (Int32.ofNat i))] 2 = mkF m 0 #[.val (.ref bt), .val (.int (Int32.ofNat i))] [] := by first | (simp [entryFrame, mkF, argsToLocals, Value.category]; done) | rfl
def Q_getc (Z : State) (bt : Addr) (kb : ClassId) (nn : Nat) (ff : Nat → Int32) (i : Nat) (h0 : Heap) (v : Option Value) (h : Heap) : Prop := v = some (.int (ff i)) ∧ h0 = h
set_option maxRecDepth 65536 in
set_option maxHeartbeats 40000000 in
theorem c_getc (l : Launch) (Z : State) (a0 : Array Value) (hw : ∀ d ∈ tables_1, d.before a0 Z = true) (bt : Addr) (kb : ClassId) (nn : Nat) (ff : Nat → Int32) (i : Nat) (h0 : Heap) (Sad : Sta Z Z.heap "java/lang/StringUTF16" "$assertionsDisabled" "Z" (.int 1)) (Shi : Sta Z Z.heap "java/lang/StringUTF16" "HI_BYTE_SHIFT" "I" (.int 0)) (Slo : Sta Z Z.heap "java/lang/StringUTF16" "LO_BYTE_SHIFT" "I" (.int 8)) (A1 : Arv Z h0 bt kb .byte (Int32.ofNat (2 * nn)) (arl (2 * nn) (wbf ff)) (.int 0)) (hi : i < nn) (hn : nn ≤ 4000) (rg : ¬ ff i < 0 ∧ ¬ 65535 < ff i) :
    Con l Z (⟨"java/lang/StringUTF16", "getChar", "([BI)C"⟩ : MethodName) jdk_52_method_5_code 2 (Option.some FieldType.char) [] ({ frames := 0, cells := 0, slots := 0, locals := 0 } : Room) #[(.ref bt), (.int (Int32.ofNat i))] h0 (Q_getc Z bt kb nn ff i h0) [] := by
  refine Con.of (plainFor_of_name pn_java_lang_StringUTF16) ?_
  intro p e s m below meth c T0 B W0
  refine Go.cast (ef_getc m bt kb nn ff i ) ?_
  obtain ⟨T101, W101, st101⟩ := x_gets B W0 (host := "") (d_jdk_52_method_5_0) (Or.inl (tw hw 78 rfl)) Via.refl Sad #[.val (.ref bt), .val (.int (Int32.ofNat i))] []
  refine st101 _ ?_
  refine g_if_y B W101 (d_jdk_52_method_5_3) (XT.i0_ne_t (by decide)) (pc' := 28) (by decide) ?_
  show Go p.tables e below _ T101 (mkF m 28 #[.val (.ref bt), .val (.int (Int32.ofNat i))] [])
  refine g_iload_n B W101 (d_jdk_52_method_5_28) rfl ?_
  refine g_iconst B W101 (d_jdk_52_method_5_29) (v := 1) (by decide) ?_
  refine g_ishl B W101 (d_jdk_52_method_5_30)  ?_
  rw [own_dbl (by omega)]
  show Go p.tables e below _ T101 (mkF m 31 #[.val (.ref bt), .val (.int (Int32.ofNat i))] [(.int (Int32.ofNat (2 * i)))])
  refine g_istore_n B W101 (d_jdk_52_method_5_31)  (l' := #[.val (.ref bt), .val (.int (Int32.ofNat (2 * i)))]) rfl ?_
  refine g_aload_n B W101 (d_jdk_52_method_5_32) rfl rfl ?_
  refine g_iload_n B W101 (d_jdk_52_method_5_33) rfl ?_
  refine g_iinc B W101 (d_jdk_52_method_5_34) (v := 1) (l' := #[.val (.ref bt), .val (.int (Int32.ofNat ((2 * i)) + 1))]) (by decide) rfl rfl ?_
  rw [own_inc]
  show Go p.tables e below _ T101 (mkF m 37 #[.val (.ref bt), .val (.int (Int32.ofNat ((2 * i) + 1)))] [(.int (Int32.ofNat (2 * i))), (.ref bt)])
  refine g_baload B W101 (d_jdk_52_method_5_37) A1 (own_ixok (i := (2 * i)) (n := 2 * nn) (by omega) (by omega)) (arl_rd (i := (2 * i)) (n := 2 * nn) (by omega) (by omega)) ?_
  show Go p.tables e below _ T101 (mkF m 38 #[.val (.ref bt), .val (.int (Int32.ofNat ((2 * i) + 1)))] [(.int (wbf ff ((2 * i))))])
  rw [wbf_e]
  show Go p.tables e below _ T101 (mkF m 38 #[.val (.ref bt), .val (.int (Int32.ofNat ((2 * i) + 1)))] [(.int (ff i).toInt8.toInt32)])
  refine g_sipush B W101 (d_jdk_52_method_5_38) (v := 255) (by decide) ?_
  refine g_iand B W101 (d_jdk_52_method_5_41)  ?_
  obtain ⟨T102, W102, st102⟩ := x_gets B W101 (host := "") (d_jdk_52_method_5_42) (Or.inl (tw hw 79 rfl)) Via.refl Shi #[.val (.ref bt), .val (.int (Int32.ofNat ((2 * i) + 1)))] [(.int ((ff i).toInt8.toInt32 &&& 255))]
  refine st102 _ ?_
  refine g_ishl B W102 (d_jdk_52_method_5_45)  ?_
  refine g_aload_n B W102 (d_jdk_52_method_5_46) rfl rfl ?_
  refine g_iload_n B W102 (d_jdk_52_method_5_47) rfl ?_
  refine g_baload B W102 (d_jdk_52_method_5_48) A1 (own_ixok (i := ((2 * i) + 1)) (n := 2 * nn) (by omega) (by omega)) (arl_rd (i := ((2 * i) + 1)) (n := 2 * nn) (by omega) (by omega)) ?_
  show Go p.tables e below _ T102 (mkF m 49 #[.val (.ref bt), .val (.int (Int32.ofNat ((2 * i) + 1)))] [(.int (wbf ff (((2 * i) + 1)))), (.int ((((ff i).toInt8.toInt32 &&& 255) : Int32) <<< ((0 : Int32) &&& 31)))])
  rw [wbf_o]
  show Go p.tables e below _ T102 (mkF m 49 #[.val (.ref bt), .val (.int (Int32.ofNat ((2 * i) + 1)))] [(.int (ff i >>> ((8 : Int32) &&& 31)).toInt8.toInt32), (.int ((((ff i).toInt8.toInt32 &&& 255) : Int32) <<< ((0 : Int32) &&& 31)))])
  refine g_sipush B W102 (d_jdk_52_method_5_49) (v := 255) (by decide) ?_
  refine g_iand B W102 (d_jdk_52_method_5_52)  ?_
  obtain ⟨T103, W103, st103⟩ := x_gets B W102 (host := "") (d_jdk_52_method_5_53) (Or.inl (tw hw 80 rfl)) Via.refl Slo #[.val (.ref bt), .val (.int (Int32.ofNat ((2 * i) + 1)))] [(.int ((ff i >>> ((8 : Int32) &&& 31)).toInt8.toInt32 &&& 255)), (.int ((((ff i).toInt8.toInt32 &&& 255) : Int32) <<< ((0 : Int32) &&& 31)))]
  refine st103 _ ?_
  refine g_ishl B W103 (d_jdk_52_method_5_56)  ?_
  refine g_ior B W103 (d_jdk_52_method_5_57)  ?_
  refine g_i2c B W103 (d_jdk_52_method_5_58)  ?_
  rw [own_glue rg.1 rg.2]
  show Go p.tables e below _ T103 (mkF m 59 #[.val (.ref bt), .val (.int (Int32.ofNat ((2 * i) + 1)))] [(.int (ff i))])
  exact r_n B W103 (t := .char) rfl (by simp) (d_jdk_52_method_5_59) (by decide) (by decide) ⟨by rw [own_narc rg.1 rg.2], rfl⟩
theorem ef_toby (m : MethodId) (ar : Addr) (kA : ClassId) (nn : Nat) (ff : Nat → Int32) : entryFrame m #[(.ref ar), (.int 0), (.int (Int32.ofNat nn))] 5 = mkF m 0 #[.val (.ref ar), .val (.int 0), .val (.int (Int32.ofNat nn)), .unset, .unset] [] := by first | (simp [entryFrame, mkF, argsToLocals, Value.category]; done) | rfl
def Q_toby (Z : State) (ar : Addr) (kA : ClassId) (nn : Nat) (ff : Nat → Int32) (h0 : Heap) (v : Option Value) (h : Heap) : Prop := ∃ (b : Addr) (kb : ClassId), v = some (.ref b) ∧ h0.size ≤ b ∧ Keep h0 h [] ∧ Arv Z h b kb .byte (Int32.ofNat (2 * nn)) (arl (2 * nn) (wbf ff)) (.int 0)
set_option maxRecDepth 65536 in
set_option maxHeartbeats 40000000 in
theorem c_toby (l : Launch) (Z : State) (a0 : Array Value) (hw : ∀ d ∈ tables_1, d.before a0 Z = true) (ar : Addr) (kA : ClassId) (nn : Nat) (ff : Nat → Int32) (h0 : Heap) (Sad : Sta Z Z.heap "java/lang/StringUTF16" "$assertionsDisabled" "Z" (.int 1)) (Shi : Sta Z Z.heap "java/lang/StringUTF16" "HI_BYTE_SHIFT" "I" (.int 0)) (Slo : Sta Z Z.heap "java/lang/StringUTF16" "LO_BYTE_SHIFT" "I" (.int 8)) (A1 : Arv Z h0 ar kA .char (Int32.ofNat nn) (arl nn ff) (.int 0)) (hn : nn ≤ 8) :
    Con l Z (⟨"java/lang/StringUTF16", "toBytes", "([CII)[B"⟩ : MethodName) jdk_52_method_14_code 5 (Option.some (FieldType.array FieldType.byte)) [] ({ frames := 2, cells := 1, slots := 16, locals := 24 } : Room) #[(.ref ar), (.int 0), (.int (Int32.ofNat nn))] h0 (Q_toby Z ar kA nn ff h0) [] := by
  refine Con.of (plainFor_of_name pn_java_lang_StringUTF16) ?_
  intro p e s m below meth c T0 B W0
  refine Go.cast (ef_toby m ar kA nn ff ) ?_
  have l_ar := nlt A1.lt
  refine g_iload_n B W0 (d_jdk_52_method_14_0) rfl ?_
  have zs101 := W0.size
  obtain ⟨T102, h102, b102, W102, Q102, st102⟩ := x_staticR B W0 [(.int (Int32.ofNat nn))] (c_nbf l Z a0 hw nn h0 hn) (by simp) (fun v h' q => by obtain ⟨b, _, e, _⟩ := q; exact ⟨b, e⟩) (d_jdk_52_method_14_1) (tw hw 68 rfl) (tw hw 69 rfl) (tw hw 26 rfl) (tw hw 70 rfl) (by decide) (lenOf pd__I__B rfl) #[.val (.ref ar), .val (.int 0), .val (.int (Int32.ofNat nn)), .unset, .unset] [] rfl 0 rfl (by decide) (by decide) (by decide) (by decide)
  obtain ⟨bx102, kb102, eb102, g102, K102, A102⟩ := Q102
  have s103 := K102.1
  refine st102 _ ?_
  obtain rfl : b102 = bx102 := by injection eb102 with q; injection q
  have l102 := nlt A102.lt
  have z102 := W102.size
  refine g_astore_n B W102 (d_jdk_52_method_14_4) rfl (l' := #[.val (.ref ar), .val (.int 0), .val (.int (Int32.ofNat nn)), .val (.ref b102), .unset]) rfl ?_
  refine g_iconst B W102 (d_jdk_52_method_14_5) (v := 0) (by decide) ?_
  refine g_istore B W102 (d_jdk_52_method_14_6)  (l' := #[.val (.ref ar), .val (.int 0), .val (.int (Int32.ofNat nn)), .val (.ref b102), .val (.int 0)]) rfl ?_
  have loop : ∀ (r : Nat) (i : Nat) (g : Nat → Int32) (h1 : Heap) (T : State), (i + r = nn) → (Keep h102 h1 [b102]) → (Arv Z h1 b102 kb102 .byte (Int32.ofNat (2 * nn)) (arl (2 * nn) g) (.int 0)) → (∀ j, j < 2 * i → g j = wbf ff j) → Wk p l e ({ frames := 2, cells := 1, slots := 16, locals := 24 } : Room) s m #[(.ref ar), (.int 0), (.int (Int32.ofNat nn))] below meth c Z T h1 1 16 [b102] → Go p.tables e below (Jvm.OwnK.Out Z s (Q_toby Z ar kA nn ff h0) ({ frames := 2, cells := 1, slots := 16, locals := 24 } : Room).cells ({ frames := 2, cells := 1, slots := 16, locals := 24 } : Room).slots) T (mkF m 8 #[.val (.ref ar), .val (.int (Int32.ofNat i)), .val (.int (Int32.ofNat nn)), .val (.ref b102), .val (.int (Int32.ofNat i))] []) := by
    intro r; induction r with
    | zero =>
      intro i g h1 T hr K1 A3 hg W
      refine g_iload B W (d_jdk_52_method_14_8) rfl ?_
      refine g_iload_n B W (d_jdk_52_method_14_10) rfl ?_
      refine g_icmp_y B W (d_jdk_52_method_14_11) (XT.ii_ge_t (by rw [own_lt (by omega) (by omega)]; omega)) (pc' := 32) (by decide) ?_
      show Go p.tables e below _ T (mkF m 32 #[.val (.ref ar), .val (.int (Int32.ofNat i)), .val (.int (Int32.ofNat nn)), .val (.ref b102), .val (.int (Int32.ofNat i))] [])
      refine g_aload_n B W (d_jdk_52_method_14_32) rfl rfl ?_
      exact r_a B W rfl rfl rfl (d_jdk_52_method_14_33) (by decide) (by decide) ⟨b102, kb102, rfl, by omega, (((Keep.refl h0 []).trans K102 all0).trans K1 (allS (Or.inr (by omega)) all0)), (arl_congr (n := 2 * nn) (f := g) (g := wbf ff) fun j hj => hg j (by omega)) ▸ A3⟩
    | succ r ih =>
      intro i g h1 T hr K1 A3 hg W
      have hil : i < nn := by omega
      refine g_iload B W (d_jdk_52_method_14_8) rfl ?_
      refine g_iload_n B W (d_jdk_52_method_14_10) rfl ?_
      refine g_icmp_n B W (d_jdk_52_method_14_11) (XT.ii_ge_f ((own_lt (by omega) (by omega)).mpr hil)) ?_
      show Go p.tables e below _ T (mkF m 14 #[.val (.ref ar), .val (.int (Int32.ofNat i)), .val (.int (Int32.ofNat nn)), .val (.ref b102), .val (.int (Int32.ofNat i))] [])
      refine g_aload_n B W (d_jdk_52_method_14_14) rfl rfl ?_
      refine g_iload B W (d_jdk_52_method_14_15) rfl ?_
      refine g_aload_n B W (d_jdk_52_method_14_17) rfl rfl ?_
      refine g_iload_n B W (d_jdk_52_method_14_18) rfl ?_
      have f104 := (A1.keep K102 nin0)
      have f105 := (f104.keep K1 (ninS (nne (by have q := nlt f104.lt; omega)) nin0))
      refine g_caload B W (d_jdk_52_method_14_19) f105 (own_ixok (i := i) (n := nn) (by omega) (by omega)) (arl_rd (i := i) (n := nn) (by omega) (by omega)) ?_
      show Go p.tables e below _ T (mkF m 20 #[.val (.ref ar), .val (.int (Int32.ofNat i)), .val (.int (Int32.ofNat nn)), .val (.ref b102), .val (.int (Int32.ofNat i))] [(.int (ff i)), (.int (Int32.ofNat i)), (.ref b102)])
      obtain ⟨T106, h106, v106, W106, Q106, st106⟩ := x_static B W [(.ref b102), (.int (Int32.ofNat i)), (.int (ff i))] (c_putc l Z a0 hw b102 kb102 nn g i (ff i) h1 Sad Shi Slo A3 (by omega) hil hn) (by simp) (d_jdk_52_method_14_20) (tw hw 75 rfl) (tw hw 76 rfl) (tw hw 26 rfl) (tw hw 77 rfl) (by decide) (lenOf pd___BII_V rfl) #[.val (.ref ar), .val (.int (Int32.ofNat i)), .val (.int (Int32.ofNat nn)), .val (.ref b102), .val (.int (Int32.ofNat i))] [] rfl 0 rfl (by decide) (by decide) (by decide) (by decide)
      obtain ⟨rfl, K106, A106⟩ := Q106
      have s107 := K106.1
      refine st106 _ ?_
      refine g_iinc B W106 (d_jdk_52_method_14_23) (v := 1) (l' := #[.val (.ref ar), .val (.int (Int32.ofNat i + 1)), .val (.int (Int32.ofNat nn)), .val (.ref b102), .val (.int (Int32.ofNat i))]) (by decide) rfl rfl ?_
      rw [own_inc]
      show Go p.tables e below _ T106 (mkF m 26 #[.val (.ref ar), .val (.int (Int32.ofNat (i + 1))), .val (.int (Int32.ofNat nn)), .val (.ref b102), .val (.int (Int32.ofNat i))] [])
      refine g_iinc B W106 (d_jdk_52_method_14_26) (v := 1) (l' := #[.val (.ref ar), .val (.int (Int32.ofNat (i + 1))), .val (.int (Int32.ofNat nn)), .val (.ref b102), .val (.int (Int32.ofNat i + 1))]) (by decide) rfl rfl ?_
      rw [own_inc]
      show Go p.tables e below _ T106 (mkF m 29 #[.val (.ref ar), .val (.int (Int32.ofNat (i + 1))), .val (.int (Int32.ofNat nn)), .val (.ref b102), .val (.int (Int32.ofNat (i + 1)))] [])
      refine g_goto B W106 (d_jdk_52_method_14_29) (pc' := 8) (by decide) ?_
      show Go p.tables e below _ T106 (mkF m 8 #[.val (.ref ar), .val (.int (Int32.ofNat (i + 1))), .val (.int (Int32.ofNat nn)), .val (.ref b102), .val (.int (Int32.ofNat (i + 1)))] [])
      exact ih _ _ _ _ (by omega) (((Keep.refl h102 [b102]).trans K1 (allS (Or.inl (by simp)) all0)).trans K106 (allS (Or.inl (by simp)) all0)) A106 (own_fill2 hg) (Wk.more W106 (by decide) (by decide))
  exact loop nn 0 _ h102 _ (by omega) (Keep.refl h102 [b102]) A102 (fun j hj => absurd hj (by omega)) W102
theorem ef_comp3 (m : MethodId) (ar : Addr) (kA : ClassId) (nn : Nat) (ff : Nat → Int32) : entryFrame m #[(.ref ar), (.int 0), (.int (Int32.ofNat nn))] 6 = mkF m 0 #[.val (.ref ar), .val (.int 0), .val (.int (Int32.ofNat nn)), .unset, .unset, .unset] [] := by first | (simp [entryFrame, mkF, argsToLocals, Value.category]; done) | rfl
def Q_comp3 (Z : State) (ar : Addr) (kA : ClassId) (nn : Nat) (ff : Nat → Int32) (h0 : Heap) (v : Option Value) (h : Heap) : Prop := ∃ (b : Addr) (kb : ClassId), v = some (.ref b) ∧ h0.size ≤ b ∧ Keep h0 h [] ∧ (((∀ i, i < nn → ¬ 255 < ff i) ∧ Arv Z h b kb .byte (Int32.ofNat nn) (arl nn fun i => (ff i).toInt8.toInt32) (.int 0)) ∨ Arv Z h b kb .byte (Int32.ofNat (2 * nn)) (arl (2 * nn) (wbf ff)) (.int 0))
set_option maxRecDepth 65536 in
set_option maxHeartbeats 40000000 in
theorem c_comp3 (l : Launch) (Z : State) (a0 : Array Value) (hw : ∀ d ∈ tables_1, d.before a0 Z = true) (ar : Addr) (kA : ClassId) (nn : Nat) (ff : Nat → Int32) (h0 : Heap) (Sad : Sta Z Z.heap "java/lang/StringUTF16" "$assertionsDisabled" "Z" (.int 1)) (Shi : Sta Z Z.heap "java/lang/StringUTF16" "HI_BYTE_SHIFT" "I" (.int 0)) (Slo : Sta Z Z.heap "java/lang/StringUTF16" "LO_BYTE_SHIFT" "I" (.int 8)) (A1 : Arv Z h0 ar kA .char (Int32.ofNat nn) (arl nn ff) (.int 0)) (rf : ∀ i, i < nn → ¬ ff i < 0 ∧ ¬ 65535 < ff i) (hn : nn ≤ 8) :
    Con l Z (⟨"java/lang/StringUTF16", "compress", "([CII)[B"⟩ : MethodName) jdk_52_method_16_code 6 (Option.some (FieldType.array FieldType.byte)) [] ({ frames := 3, cells := 2, slots := 24, locals := 40 } : Room) #[(.ref ar), (.int 0), (.int (Int32.ofNat nn))] h0 (Q_comp3 Z ar kA nn ff h0) [] := by
  refine Con.of (plainFor_of_name pn_java_lang_StringUTF16) ?_
  intro p e s m below meth c T0 B W0
  refine Go.cast (ef_comp3 m ar kA nn ff ) ?_
  have l_ar := nlt A1.lt
  refine g_iload_n B W0 (d_jdk_52_method_16_0) rfl ?_
  obtain ⟨T101, h101, b101, cA101, gb101, W101, K101, A101, st101⟩ := x_newA B W0 (z := Int32.ofNat nn) 8 (d_jdk_52_method_16_1) (tw hw 28 rfl) (own_nneg (by omega)) (by rw [own_clamp (by omega)]; omega) (by decide) (by decide) (by decide) #[.val (.ref ar), .val (.int 0), .val (.int (Int32.ofNat nn)), .unset, .unset, .unset] []
  have l101 := nlt A101.lt
  have z101 := W0.size
  refine st101 _ ?_
  have A101 := arl_of_rep (by omega) (by decide) A101
  have s102 := K101.1
  show Go p.tables e below _ T101 (mkF m 3 #[.val (.ref ar), .val (.int 0), .val (.int (Int32.ofNat nn)), .unset, .unset, .unset] [(.ref b101)])
  refine g_astore_n B W101 (d_jdk_52_method_16_3) rfl (l' := #[.val (.ref ar), .val (.int 0), .val (.int (Int32.ofNat nn)), .val (.ref b101), .unset, .unset]) rfl ?_
  refine g_aload_n B W101 (d_jdk_52_method_16_4) rfl rfl ?_
  refine g_iload_n B W101 (d_jdk_52_method_16_5) rfl ?_
  refine g_aload_n B W101 (d_jdk_52_method_16_6) rfl rfl ?_
  refine g_iconst B W101 (d_jdk_52_method_16_7) (v := 0) (by decide) ?_
  refine g_iload_n B W101 (d_jdk_52_method_16_8) rfl ?_
  have f103 := (A1.keep K101 nin0)
  obtain ⟨T104, h104, v104, W104, Q104, st104⟩ := x_static B W101 [(.ref ar), (.int 0), (.ref b101), (.int 0), (.int (Int32.ofNat nn))] (c_comp5 l Z a0 hw ar kA b101 cA101 nn ff h101 f103 A101 (by omega) (by omega) (by omega)) (by simp) (d_jdk_52_method_16_9) (tw hw 29 rfl) (tw hw 30 rfl) (tw hw 26 rfl) (tw hw 31 rfl) (by decide) (lenOf pd___CI_BII_I rfl) #[.val (.ref ar), .val (.int 0), .val (.int (Int32.ofNat nn)), .val (.ref b101), .unset, .unset] [] rfl 0 rfl (by decide) (by decide) (by decide) (by decide)
  obtain ⟨r104, g104, rfl, K104, A104, hl104, hg104, hw104⟩ := Q104
  have s105 := K104.1
  refine st104 _ ?_
  refine g_istore B W104 (d_jdk_52_method_16_12)  (l' := #[.val (.ref ar), .val (.int 0), .val (.int (Int32.ofNat nn)), .val (.ref b101), .val (.int (Int32.ofNat r104)), .unset]) rfl ?_
  refine g_iload B W104 (d_jdk_52_method_16_14) rfl ?_
  refine g_iload_n B W104 (d_jdk_52_method_16_16) rfl ?_
  by_cases hc106 : (Int32.ofNat r104) = (Int32.ofNat nn)
  · skip
    refine g_icmp_y B W104 (d_jdk_52_method_16_17) (XT.ii_eq_t hc106) (pc' := 57) (by decide) ?_
    show Go p.tables e below _ T104 (mkF m 57 #[.val (.ref ar), .val (.int 0), .val (.int (Int32.ofNat nn)), .val (.ref b101), .val (.int (Int32.ofNat r104)), .unset] [])
    have er104 : r104 = nn := (own_inj (by omega) (by omega)).mp hc106
    refine g_aload_n B W104 (d_jdk_52_method_16_57) rfl rfl ?_
    exact r_a B W104 rfl rfl rfl (d_jdk_52_method_16_58) (by decide) (by decide) ⟨_, _, rfl, by omega, (((Keep.refl h0 []).trans K101 all0).trans K104 (allS (Or.inr (by omega)) all0)), Or.inl ⟨fun i hi => (hg104 i (by omega)).2, (arl_congr (n := nn) (f := g104) (g := fun i => (ff i).toInt8.toInt32) fun i hi => (hg104 i (by omega)).1) ▸ A104⟩⟩
  · skip
    refine g_icmp_n B W104 (d_jdk_52_method_16_17) (XT.ii_eq_f hc106) ?_
    show Go p.tables e below _ T104 (mkF m 20 #[.val (.ref ar), .val (.int 0), .val (.int (Int32.ofNat nn)), .val (.ref b101), .val (.int (Int32.ofNat r104)), .unset] [])
    have hlr104 : r104 < nn := by have q := mt (own_inj (by omega) (by omega)).mpr hc106; omega
    refine g_aload_n B W104 (d_jdk_52_method_16_20) rfl rfl ?_
    refine g_iload_n B W104 (d_jdk_52_method_16_21) rfl ?_
    refine g_iload_n B W104 (d_jdk_52_method_16_22) rfl ?_
    have f107 := (f103.keep K104 (ninS (nne (by have q := nlt f103.lt; omega)) nin0))
    obtain ⟨T108, h108, v108, W108, Q108, st108⟩ := x_static B W104 [(.ref ar), (.int 0), (.int (Int32.ofNat nn))] (c_toby l Z a0 hw ar kA nn ff h104 Sad Shi Slo f107 hn) (by simp) (d_jdk_52_method_16_23) (tw hw 65 rfl) (tw hw 66 rfl) (tw hw 26 rfl) (tw hw 67 rfl) (by decide) (lenOf pd___CII__B rfl) #[.val (.ref ar), .val (.int 0), .val (.int (Int32.ofNat nn)), .val (.ref b101), .val (.int (Int32.ofNat r104)), .unset] [] rfl 0 rfl (by decide) (by decide) (by decide) (by decide)
    obtain ⟨b108, kb108, rfl, g108, K108, A108⟩ := Q108
    have s109 := K108.1
    refine st108 _ ?_
    have l108 := nlt A108.lt
    refine g_astore B W108 (d_jdk_52_method_16_26) rfl (l' := #[.val (.ref ar), .val (.int 0), .val (.int (Int32.ofNat nn)), .val (.ref b101), .val (.int (Int32.ofNat r104)), .val (.ref b108)]) rfl ?_
    refine g_aload B W108 (d_jdk_52_method_16_28) rfl rfl ?_
    refine g_iload B W108 (d_jdk_52_method_16_30) rfl ?_
    obtain ⟨T110, h110, v110, W110, Q110, st110⟩ := x_static B W108 [(.ref b108), (.int (Int32.ofNat r104))] (c_getc l Z a0 hw b108 kb108 nn ff r104 h108 Sad Shi Slo A108 (by omega) (by omega) (rf _ (by omega))) (by simp) (d_jdk_52_method_16_32) (tw hw 81 rfl) (tw hw 82 rfl) (tw hw 26 rfl) (tw hw 83 rfl) (by decide) (lenOf pd___BI_C rfl) #[.val (.ref ar), .val (.int 0), .val (.int (Int32.ofNat nn)), .val (.ref b101), .val (.int (Int32.ofNat r104)), .val (.ref b108)] [] rfl 0 rfl (by decide) (by decide) (by decide) (by decide)
    obtain ⟨rfl, rfl⟩ := Q110
    refine st110 _ ?_
    refine g_sipush B W110 (d_jdk_52_method_16_35) (v := 255) (by decide) ?_
    refine g_icmp_y B W110 (d_jdk_52_method_16_38) (XT.ii_gt_t (hw104 hlr104)) (pc' := 54) (by decide) ?_
    show Go p.tables e below _ T110 (mkF m 54 #[.val (.ref ar), .val (.int 0), .val (.int (Int32.ofNat nn)), .val (.ref b101), .val (.int (Int32.ofNat r104)), .val (.ref b108)] [])
    refine g_aload B W110 (d_jdk_52_method_16_54) rfl rfl ?_
    exact r_a B W110 rfl rfl rfl (d_jdk_52_method_16_56) (by decide) (by decide) ⟨_, _, rfl, by omega, ((((Keep.refl h0 []).trans K101 all0).trans K104 (allS (Or.inr (by omega)) all0)).trans K108 all0), Or.inr A108⟩
theorem ef_cfal (m : MethodId) (bt : Addr) (kb : ClassId) (nn : Nat) (ff : Nat → Int32) : entryFrame m #[(.ref bt), (.int (Int32.ofNat nn))] 2 = mkF m 0 #[.val (.ref bt), .val (.int (Int32.ofNat nn))] [] := by first | (simp [entryFrame, mkF, argsToLocals, Value.category]; done) | rfl
def Q_cfal (Z : State) (bt : Addr) (kb : ClassId) (nn : Nat) (ff : Nat → Int32) (h0 : Heap) (v : Option Value) (h : Heap) : Prop := v = some (.int 0) ∧ h0 = h
set_option maxRecDepth 65536 in
set_option maxHeartbeats 40000000 in
theorem c_cfal (l : Launch) (Z : State) (a0 : Array Value) (hw : ∀ d ∈ tables_1, d.before a0 Z = true) (bt : Addr) (kb : ClassId) (nn : Nat) (ff : Nat → Int32) (h0 : Heap) (A1 : Arv Z h0 bt kb .byte (Int32.ofNat nn) (arl nn ff) (.int 0)) :
    Con l Z (⟨"java/lang/StringUTF16", "coderFromArrayLen", "([BI)B"⟩ : MethodName) jdk_52_method_15_code 2 (Option.some FieldType.byte) [] ({ frames := 0, cells := 0, slots := 0, locals := 0 } : Room) #[(.ref bt), (.int (Int32.ofNat nn))] h0 (Q_cfal Z bt kb nn ff h0) [] := by
  refine Con.of (plainFor_of_name pn_java_lang_StringUTF16) ?_
  intro p e s m below meth c T0 B W0
  refine Go.cast (ef_cfal m bt kb nn ff ) ?_
  refine g_iload_n B W0 (d_jdk_52_method_15_0) rfl ?_
  refine g_aload_n B W0 (d_jdk_52_method_15_1) rfl rfl ?_
  refine g_aalen B W0 (d_jdk_52_method_15_2) A1 ?_
  refine g_isub B W0 (d_jdk_52_method_15_3)  ?_
  rw [Int32.sub_self]
  show Go p.tables e below _ T0 (mkF m 4 #[.val (.ref bt), .val (.int (Int32.ofNat nn))] [(.int 0)])
  refine g_bipush B W0 (d_jdk_52_method_15_4) (v := 31) (by decide) ?_
  refine g_iushr B W0 (d_jdk_52_method_15_6)  ?_
  refine g_i2b B W0 (d_jdk_52_method_15_7)  ?_
  exact r_n B W0 (t := .byte) rfl (by simp) (d_jdk_52_method_15_8) (by decide) (by decide) ⟨congrArg (fun q => some (Value.int q)) (by decide), rfl⟩
theorem ef_cfaw (m : MethodId) (bt : Addr) (kb : ClassId) (nn : Nat) (ff : Nat → Int32) : entryFrame m #[(.ref bt), (.int (Int32.ofNat nn))] 2 = mkF m 0 #[.val (.ref bt), .val (.int (Int32.ofNat nn))] [] := by first | (simp [entryFrame, mkF, argsToLocals, Value.category]; done) | rfl
def Q_cfaw (Z : State) (bt : Addr) (kb : ClassId) (nn : Nat) (ff : Nat → Int32) (h0 : Heap) (v : Option Value) (h : Heap) : Prop := v = some (.int 1) ∧ h0 = h
set_option maxRecDepth 65536 in
set_option maxHeartbeats 40000000 in
theorem c_cfaw (l : Launch) (Z : State) (a0 : Array Value) (hw : ∀ d ∈ tables_1, d.before a0 Z = true) (bt : Addr) (kb : ClassId) (nn : Nat) (ff : Nat → Int32) (h0 : Heap) (A1 : Arv Z h0 bt kb .byte (Int32.ofNat (2 * nn)) (arl (2 * nn) ff) (.int 0)) (h1 : 1 ≤ nn) (h2 : nn ≤ 8) :
    Con l Z (⟨"java/lang/StringUTF16", "coderFromArrayLen", "([BI)B"⟩ : MethodName) jdk_52_method_15_code 2 (Option.some FieldType.byte) [] ({ frames := 0, cells := 0, slots := 0, locals := 0 } : Room) #[(.ref bt), (.int (Int32.ofNat nn))] h0 (Q_cfaw Z bt kb nn ff h0) [] := by
  refine Con.of (plainFor_of_name pn_java_lang_StringUTF16) ?_
  intro p e s m below meth c T0 B W0
  refine Go.cast (ef_cfaw m bt kb nn ff ) ?_
  refine g_iload_n B W0 (d_jdk_52_method_15_0) rfl ?_
  refine g_aload_n B W0 (d_jdk_52_method_15_1) rfl rfl ?_
  refine g_aalen B W0 (d_jdk_52_method_15_2) A1 ?_
  refine g_isub B W0 (d_jdk_52_method_15_3)  ?_
  refine g_bipush B W0 (d_jdk_52_method_15_4) (v := 31) (by decide) ?_
  refine g_iushr B W0 (d_jdk_52_method_15_6)  ?_
  refine g_i2b B W0 (d_jdk_52_method_15_7)  ?_
  exact r_n B W0 (t := .byte) rfl (by simp) (d_jdk_52_method_15_8) (by decide) (by decide) ⟨congrArg (fun q => some (Value.int q)) (own_cod1 h1 h2), rfl⟩
theorem ef_sI4w (m : MethodId) (a1 : Addr) (ar : Addr) (kA : ClassId) (nn : Nat) (ff : Nat → Int32) (cz : Int32) : entryFrame m #[(.ref a1), (.ref ar), (.int 0), (.int (Int32.ofNat nn)), .null] 6 = mkF m 0 #[.val (.ref a1), .val (.ref ar), .val (.int 0), .val (.int (Int32.ofNat nn)), .val .null, .unset] [] := by first | (simp [entryFrame, mkF, argsToLocals, Value.category]; done) | rfl
def Q_sI4w (Z : State) (a1 : Addr) (ar : Addr) (kA : ClassId) (nn : Nat) (ff : Nat → Int32) (cz : Int32) (h0 : Heap) (v : Option Value) (h : Heap) : Prop := v = none ∧ Keep h0 h [a1] ∧ StrC Z h a1 nn ff
set_option maxRecDepth 65536 in
set_option maxHeartbeats 40000000 in
theorem c_sI4w (l : Launch) (Z : State) (a0 : Array Value) (hw : ∀ d ∈ tables_1, d.before a0 Z = true) (a1 : Addr) (ar : Addr) (kA : ClassId) (nn : Nat) (ff : Nat → Int32) (cz : Int32) (h0 : Heap) (Scs : Sta Z Z.heap "java/lang/String" "COMPACT_STRINGS" "Z" (.int cz)) (hcz : ¬ cz = 0) (Sad : Sta Z Z.heap "java/lang/StringUTF16" "$assertionsDisabled" "Z" (.int 1)) (Shi : Sta Z Z.heap "java/lang/StringUTF16" "HI_BYTE_SHIFT" "I" (.int 0)) (Slo : Sta Z Z.heap "java/lang/StringUTF16" "LO_BYTE_SHIFT" "I" (.int 8)) (E1 : Exa Z h0 a1 "java/lang/String") (F1 : Fld Z h0 a1 "java/lang/String" "value" "[B" .null) (F2 : Fld Z h0 a1 "java/lang/String" "coder" "B" (.int 0)) (g1 : Z.heap.size ≤ a1) (A1 : Arv Z h0 ar kA .char (Int32.ofNat nn) (arl nn ff) (.int 0)) (rf : ∀ i, i < nn → ¬ ff i < 0 ∧ ¬ 65535 < ff i) (h1 : 1 ≤ nn) (hn : nn ≤ 8) :
    Con l Z (⟨"java/lang/String", "<init>", "([CIILjava/lang/Void;)V"⟩ : MethodName) jdk_42_method_149_code 6 (Option.none : Option FieldType) [] ({ frames := 4, cells := 2, slots := 24, locals := 58 } : Room) #[(.ref a1), (.ref ar), (.int 0), (.int (Int32.ofNat nn)), .null] h0 (Q_sI4w Z a1 ar kA nn ff cz h0) [a1] := by
  refine Con.of (plainFor_of_name pn_java_lang_String) ?_
  intro p e s m below meth c T0 B W0
  refine Go.cast (ef_sI4w m a1 ar kA nn ff cz ) ?_
  have l_a1 := nlt E1.lt
  have l_ar := nlt A1.lt
  refine g_aload_n B W0 (d_jdk_42_method_149_0) rfl rfl ?_
  obtain ⟨T101, W101, st101⟩ := x_init B W0 (d_jdk_42_method_149_1) (tw hw 20 rfl) (tw hw 21 rfl) (tw hw 22 rfl) a1 #[.val (.ref a1), .val (.ref ar), .val (.int 0), .val (.int (Int32.ofNat nn)), .val .null, .unset] [] rfl 0 rfl (by decide) (by decide)
  refine st101 _ ?_
  refine g_iload_n B W101 (d_jdk_42_method_149_4) rfl ?_
  refine g_if_y B W101 (d_jdk_42_method_149_5) (XT.i0_ne_t (fun q => absurd ((own_inj (j := 0) (by omega) (by omega)).mp q) (by omega))) (pc' := 27) (by decide) ?_
  show Go p.tables e below _ T101 (mkF m 27 #[.val (.ref a1), .val (.ref ar), .val (.int 0), .val (.int (Int32.ofNat nn)), .val .null, .unset] [])
  obtain ⟨T102, W102, st102⟩ := x_gets B W101 (host := "") (d_jdk_42_method_149_27) (Or.inl (tw hw 23 rfl)) Via.refl Scs #[.val (.ref a1), .val (.ref ar), .val (.int 0), .val (.int (Int32.ofNat nn)), .val .null, .unset] []
  refine st102 _ ?_
  refine g_if_n B W102 (d_jdk_42_method_149_30) (XT.i0_eq_f hcz) ?_
  show Go p.tables e below _ T102 (mkF m 33 #[.val (.ref a1), .val (.ref ar), .val (.int 0), .val (.int (Int32.ofNat nn)), .val .null, .unset] [])
  refine g_aload_n B W102 (d_jdk_42_method_149_33) rfl rfl ?_
  refine g_iload_n B W102 (d_jdk_42_method_149_34) rfl ?_
  refine g_iload_n B W102 (d_jdk_42_method_149_35) rfl ?_
  obtain ⟨T103, h103, v103, W103, Q103, st103⟩ := x_static B W102 [(.ref ar), (.int 0), (.int (Int32.ofNat nn))] (c_comp3 l Z a0 hw ar kA nn ff h0 Sad Shi Slo A1 rf hn) (by simp) (d_jdk_42_method_149_36) (tw hw 24 rfl) (tw hw 25 rfl) (tw hw 26 rfl) (tw hw 27 rfl) (by decide) (lenOf pd___CII__B rfl) #[.val (.ref a1), .val (.ref ar), .val (.int 0), .val (.int (Int32.ofNat nn)), .val .null, .unset] [] rfl 0 rfl (by decide) (by decide) (by decide) (by decide)
  obtain ⟨b103, kb103, rfl, g103, K103, D103⟩ := Q103
  have s104 := K103.1
  refine st103 _ ?_
  rcases D103 with D103 | D103
  · skip
    have A103 := D103.2
    have l103 := nlt A103.lt
    refine g_astore B W103 (d_jdk_42_method_149_39) rfl (l' := #[.val (.ref a1), .val (.ref ar), .val (.int 0), .val (.int (Int32.ofNat nn)), .val .null, .val (.ref b103)]) rfl ?_
    refine g_aload_n B W103 (d_jdk_42_method_149_41) rfl rfl ?_
    refine g_aload B W103 (d_jdk_42_method_149_42) rfl rfl ?_
    refine g_iload_n B W103 (d_jdk_42_method_149_44) rfl ?_
    obtain ⟨T105, h105, v105, W105, Q105, st105⟩ := x_static B W103 [(.ref b103), (.int (Int32.ofNat nn))] (c_cfal l Z a0 hw b103 kb103 nn _ h103 A103) (by simp) (d_jdk_42_method_149_45) (tw hw 32 rfl) (tw hw 33 rfl) (tw hw 26 rfl) (tw hw 34 rfl) (by decide) (lenOf pd___BI_B rfl) #[.val (.ref a1), .val (.ref ar), .val (.int 0), .val (.int (Int32.ofNat nn)), .val .null, .val (.ref b103)] [(.ref a1)] rfl 1 rfl (by decide) (by decide) (by decide) (by decide)
    obtain ⟨rfl, rfl⟩ := Q105
    refine st105 _ ?_
    show Go p.tables e below _ T105 (mkF m 48 #[.val (.ref a1), .val (.ref ar), .val (.int 0), .val (.int (Int32.ofNat nn)), .val .null, .val (.ref b103)] [(.int 0), (.ref a1)])
    have f106 := (F2.keep K103 nin0)
    have f107 := (E1.keep K103)
    obtain ⟨T108, h108, W108, K108, R108, F108, E108, st108⟩ := x_put B W105 (d_jdk_42_method_149_48) ((tw hw 35 rfl)) Via.refl f106 f107 (Or.inr ⟨ (tw hw 36 rfl), rfl, rfl⟩) (tw hw 11 rfl) (ty := .byte) (v := (.int 0)) (v' := (.int 0)) (by decide) rfl rfl (by omega) (Or.inr (by simp)) #[.val (.ref a1), .val (.ref ar), .val (.int 0), .val (.int (Int32.ofNat nn)), .val .null, .val (.ref b103)] []
    refine st108 _ ?_
    have f109 := (F1.keep K103 nin0)
    have f110 := f109.other R108 (Or.inr (slot_ne (Or.inr (tw hw 38 rfl)) (Or.inr (tw hw 36 rfl)) (by decide) (t := (.array .byte)) (t' := .byte) (by decide) (by decide)))
    have s111 := K108.1
    refine g_aload_n B W108 (d_jdk_42_method_149_51) rfl rfl ?_
    refine g_aload B W108 (d_jdk_42_method_149_52) rfl rfl ?_
    obtain ⟨T112, h112, W112, K112, R112, F112, E112, st112⟩ := x_put B W108 (d_jdk_42_method_149_54) ((tw hw 37 rfl)) Via.refl f110 E108 (Or.inr ⟨ (tw hw 38 rfl), rfl, rfl⟩) (tw hw 11 rfl) (ty := (.array .byte)) (v := (.ref b103)) (v' := (.ref b103)) (by decide) rfl rfl (by omega) (Or.inr (by simp)) #[.val (.ref a1), .val (.ref ar), .val (.int 0), .val (.int (Int32.ofNat nn)), .val .null, .val (.ref b103)] []
    refine st112 _ ?_
    have f113 := F108.other R112 (Or.inr (slot_ne (Or.inr (tw hw 36 rfl)) (Or.inr (tw hw 38 rfl)) (by decide) (t := .byte) (t' := (.array .byte)) (by decide) (by decide)))
    have s114 := K112.1
    have f115 := (A103.keep K108 (ninS (nne (by have q := nlt A103.lt; omega)) nin0))
    have f116 := (f115.keep K112 (ninS (nne (by have q := nlt f115.lt; omega)) nin0))
    exact r_v B W112 (d_jdk_42_method_149_57) (by decide) (by decide) ⟨rfl, ((((Keep.refl h0 [a1]).trans K103 all0).trans K108 (allS (Or.inl (by simp)) all0)).trans K112 (allS (Or.inl (by simp)) all0)), ⟨_, _, E112, F112, Or.inl ⟨f113, D103.1, f116⟩, rf, by omega⟩⟩
  · skip
    have A103 := D103
    have l103 := nlt A103.lt
    refine g_astore B W103 (d_jdk_42_method_149_39) rfl (l' := #[.val (.ref a1), .val (.ref ar), .val (.int 0), .val (.int (Int32.ofNat nn)), .val .null, .val (.ref b103)]) rfl ?_
    refine g_aload_n B W103 (d_jdk_42_method_149_41) rfl rfl ?_
    refine g_aload B W103 (d_jdk_42_method_149_42) rfl rfl ?_
    refine g_iload_n B W103 (d_jdk_42_method_149_44) rfl ?_
    obtain ⟨T117, h117, v117, W117, Q117, st117⟩ := x_static B W103 [(.ref b103), (.int (Int32.ofNat nn))] (c_cfaw l Z a0 hw b103 kb103 nn _ h103 A103 h1 hn) (by simp) (d_jdk_42_method_149_45) (tw hw 32 rfl) (tw hw 33 rfl) (tw hw 26 rfl) (tw hw 34 rfl) (by decide) (lenOf pd___BI_B rfl) #[.val (.ref a1), .val (.ref ar), .val (.int 0), .val (.int (Int32.ofNat nn)), .val .null, .val (.ref b103)] [(.ref a1)] rfl 1 rfl (by decide) (by decide) (by decide) (by decide)
    obtain ⟨rfl, rfl⟩ := Q117
    refine st117 _ ?_
    show Go p.tables e below _ T117 (mkF m 48 #[.val (.ref a1), .val (.ref ar), .val (.int 0), .val (.int (Int32.ofNat nn)), .val .null, .val (.ref b103)] [(.int 1), (.ref a1)])
    have f118 := (F2.keep K103 nin0)
    have f119 := (E1.keep K103)
    obtain ⟨T120, h120, W120, K120, R120, F120, E120, st120⟩ := x_put B W117 (d_jdk_42_method_149_48) ((tw hw 35 rfl)) Via.refl f118 f119 (Or.inr ⟨ (tw hw 36 rfl), rfl, rfl⟩) (tw hw 11 rfl) (ty := .byte) (v := (.int 1)) (v' := (.int 1)) (by decide) rfl rfl (by omega) (Or.inr (by simp)) #[.val (.ref a1), .val (.ref ar), .val (.int 0), .val (.int (Int32.ofNat nn)), .val .null, .val (.ref b103)] []
    refine st120 _ ?_
    have f121 := (F1.keep K103 nin0)
    have f122 := f121.other R120 (Or.inr (slot_ne (Or.inr (tw hw 38 rfl)) (Or.inr (tw hw 36 rfl)) (by decide) (t := (.array .byte)) (t' := .byte) (by decide) (by decide)))
    have s123 := K120.1
    refine g_aload_n B W120 (d_jdk_42_method_149_51) rfl rfl ?_
    refine g_aload B W120 (d_jdk_42_method_149_52) rfl rfl ?_
    obtain ⟨T124, h124, W124, K124, R124, F124, E124, st124⟩ := x_put B W120 (d_jdk_42_method_149_54) ((tw hw 37 rfl)) Via.refl f122 E120 (Or.inr ⟨ (tw hw 38 rfl), rfl, rfl⟩) (tw hw 11 rfl) (ty := (.array .byte)) (v := (.ref b103)) (v' := (.ref b103)) (by decide) rfl rfl (by omega) (Or.inr (by simp)) #[.val (.ref a1), .val (.ref ar), .val (.int 0), .val (.int (Int32.ofNat nn)), .val .null, .val (.ref b103)] []
    refine st124 _ ?_
    have f125 := F120.other R124 (Or.inr (slot_ne (Or.inr (tw hw 36 rfl)) (Or.inr (tw hw 38 rfl)) (by decide) (t := .byte) (t' := (.array .byte)) (by decide) (by decide)))
    have s126 := K124.1
    have f127 := (A103.keep K120 (ninS (nne (by have q := nlt A103.lt; omega)) nin0))
    have f128 := (f127.keep K124 (ninS (nne (by have q := nlt f127.lt; omega)) nin0))
    exact r_v B W124 (d_jdk_42_method_149_57) (by decide) (by decide) ⟨rfl, ((((Keep.refl h0 [a1]).trans K103 all0).trans K120 (allS (Or.inl (by simp)) all0)).trans K124 (allS (Or.inl (by simp)) all0)), ⟨_, _, E124, F124, Or.inr ⟨f125, h1, f128⟩, rf, by omega⟩⟩
theorem ef_sI1w (m : MethodId) (a1 : Addr) (ar : Addr) (kA : ClassId) (nn : Nat) (ff : Nat → Int32) (cz : Int32) : entryFrame m #[(.ref a1), (.ref ar)] 2 = mkF m 0 #[.val (.ref a1), .val (.ref ar)] [] := by first | (simp [entryFrame, mkF, argsToLocals, Value.category]; done) | rfl
def Q_sI1w (Z : State) (a1 : Addr) (ar : Addr) (kA : ClassId) (nn : Nat) (ff : Nat → Int32) (cz : Int32) (h0 : Heap) (v : Option Value) (h : Heap) : Prop := v = none ∧ Keep h0 h [a1] ∧ StrC Z h a1 nn ff
set_option maxRecDepth 65536 in
set_option maxHeartbeats 40000000 in
theorem c_sI1w (l : Launch) (Z : State) (a0 : Array Value) (hw : ∀ d ∈ tables_1, d.before a0 Z = true) (a1 : Addr) (ar : Addr) (kA : ClassId) (nn : Nat) (ff : Nat → Int32) (cz : Int32) (h0 : Heap) (Scs : Sta Z Z.heap "java/lang/String" "COMPACT_STRINGS" "Z" (.int cz)) (hcz : ¬ cz = 0) (Sad : Sta Z Z.heap "java/lang/StringUTF16" "$assertionsDisabled" "Z" (.int 1)) (Shi : Sta Z Z.heap "java/lang/StringUTF16" "HI_BYTE_SHIFT" "I" (.int 0)) (Slo : Sta Z Z.heap "java/lang/StringUTF16" "LO_BYTE_SHIFT" "I" (.int 8)) (E1 : Exa Z h0 a1 "java/lang/String") (F1 : Fld Z h0 a1 "java/lang/String" "value" "[B" .null) (F2 : Fld Z h0 a1 "java/lang/String" "coder" "B" (.int 0)) (g1 : Z.heap.size ≤ a1) (A1 : Arv Z h0 ar kA .char (Int32.ofNat nn) (arl nn ff) (.int 0)) (rf : ∀ i, i < nn → ¬ ff i < 0 ∧ ¬ 65535 < ff i) (h1 : 1 ≤ nn) (hn : nn ≤ 8) :
    Con l Z (⟨"java/lang/String", "<init>", "([C)V"⟩ : MethodName) jdk_42_method_3_code 2 (Option.none : Option FieldType) [] ({ frames := 5, cells := 2, slots := 24, locals := 75 } : Room) #[(.ref a1), (.ref ar)] h0 (Q_sI1w Z a1 ar kA nn ff cz h0) [a1] := by
  refine Con.of (plainFor_of_name pn_java_lang_String) ?_
  intro p e s m below meth c T0 B W0
  refine Go.cast (ef_sI1w m a1 ar kA nn ff cz ) ?_
  have l_a1 := nlt E1.lt
  refine g_aload_n B W0 (d_jdk_42_method_3_0) rfl rfl ?_
  refine g_aload_n B W0 (d_jdk_42_method_3_1) rfl rfl ?_
  refine g_iconst B W0 (d_jdk_42_method_3_2) (v := 0) (by decide) ?_
  refine g_aload_n B W0 (d_jdk_42_method_3_3) rfl rfl ?_
  refine g_aalen B W0 (d_jdk_42_method_3_4) A1 ?_
  refine g_aconst_null B W0 (d_jdk_42_method_3_5)  ?_
  obtain ⟨T101, h101, v101, W101, Q101, st101⟩ := x_special B W0 (b := a1) [(.ref ar), (.int 0), (.int (Int32.ofNat nn)), .null] (c_sI4w l Z a0 hw a1 ar kA nn ff cz h0 Scs hcz Sad Shi Slo E1 F1 F2 g1 A1 rf h1 hn) (by simp) (d_jdk_42_method_3_6) rfl (tw hw 16 rfl) (tw hw 17 rfl) (tw hw 12 rfl) (tw hw 19 rfl) (by decide) (lenOf pd___CIILjava_lang_Void__V rfl) #[.val (.ref a1), .val (.ref ar)] [] rfl 0 rfl (by decide) (by decide) (by decide) (by decide)
  obtain ⟨rfl, K101, S101⟩ := Q101
  have s102 := K101.1
  refine st101 _ ?_
  exact r_v B W101 (d_jdk_42_method_3_9) (by decide) (by decide) ⟨rfl, K101, S101⟩
theorem ef_isLat0 (m : MethodId) (a1 : Addr) (cz : Int32) : entryFrame m #[(.ref a1)] 1 = mkF m 0 #[.val (.ref a1)] [] := by first | (simp [entryFrame, mkF, argsToLocals, Value.category]; done) | rfl
def Q_isLat0 (Z : State) (a1 : Addr) (cz : Int32) (h0 : Heap) (v : Option Value) (h : Heap) : Prop := v = some (.int 1) ∧ h0 = h
set_option maxRecDepth 65536 in
set_option maxHeartbeats 40000000 in
theorem c_isLat0 (l : Launch) (Z : State) (a0 : Array Value) (hw : ∀ d ∈ tables_1, d.before a0 Z = true) (a1 : Addr) (cz : Int32) (h0 : Heap) (Scs : Sta Z Z.heap "java/lang/String" "COMPACT_STRINGS" "Z" (.int cz)) (hcz : ¬ cz = 0) (F1 : Fld Z h0 a1 "java/lang/String" "coder" "B" (.int 0)) :
    Con l Z (⟨"java/lang/String", "isLatin1", "()Z"⟩ : MethodName) jdk_42_method_154_code 1 (Option.some FieldType.boolean) [] ({ frames := 0, cells := 0, slots := 0, locals := 0 } : Room) #[(.ref a1)] h0 (Q_isLat0 Z a1 cz h0) [] := by
  refine Con.of (plainFor_of_name pn_java_lang_String) ?_
  intro p e s m below meth c T0 B W0
  refine Go.cast (ef_isLat0 m a1 cz ) ?_
  obtain ⟨T101, W101, st101⟩ := x_gets B W0 (host := "") (d_jdk_42_method_154_0) (Or.inl (tw hw 23 rfl)) Via.refl Scs #[.val (.ref a1)] []
  refine st101 _ ?_
  refine g_if_n B W101 (d_jdk_42_method_154_3) (XT.i0_eq_f hcz) ?_
  show Go p.tables e below _ T101 (mkF m 6 #[.val (.ref a1)] [])
  refine g_aload_n B W101 (d_jdk_42_method_154_6) rfl rfl ?_
  obtain ⟨T102, W102, st102⟩ := x_get B W101 (host := "") (d_jdk_42_method_154_7) (Or.inl (tw hw 35 rfl)) Via.refl F1 #[.val (.ref a1)] []
  refine st102 _ ?_
  refine g_if_n B W102 (d_jdk_42_method_154_10) (XT.i0_ne_f (by decide)) ?_
  show Go p.tables e below _ T102 (mkF m 13 #[.val (.ref a1)] [])
  refine g_iconst B W102 (d_jdk_42_method_154_13) (v := 1) (by decide) ?_
  refine g_goto B W102 (d_jdk_42_method_154_14) (pc' := 18) (by decide) ?_
  show Go p.tables e below _ T102 (mkF m 18 #[.val (.ref a1)] [(.int 1)])
  exact r_n B W102 (t := .boolean) rfl (by simp) (d_jdk_42_method_154_18) (by decide) (by decide) ⟨by rw [nar_b1], rfl⟩
theorem ef_isLat1 (m : MethodId) (a1 : Addr) (cz : Int32) : entryFrame m #[(.ref a1)] 1 = mkF m 0 #[.val (.ref a1)] [] := by first | (simp [entryFrame, mkF, argsToLocals, Value.category]; done) | rfl
def Q_isLat1 (Z : State) (a1 : Addr) (cz : Int32) (h0 : Heap) (v : Option Value) (h : Heap) : Prop := v = some (.int 0) ∧ h0 = h
set_option maxRecDepth 65536 in
set_option maxHeartbeats 40000000 in
theorem c_isLat1 (l : Launch) (Z : State) (a0 : Array Value) (hw : ∀ d ∈ tables_1, d.before a0 Z = true) (a1 : Addr) (cz : Int32) (h0 : Heap) (Scs : Sta Z Z.heap "java/lang/String" "COMPACT_STRINGS" "Z" (.int cz)) (hcz : ¬ cz = 0) (F1 : Fld Z h0 a1 "java/lang/String" "coder" "B" (.int 1)) :
    Con l Z (⟨"java/lang/String", "isLatin1", "()Z"⟩ : MethodName) jdk_42_method_154_code 1 (Option.some FieldType.boolean) [] ({ frames := 0, cells := 0, slots := 0, locals := 0 } : Room) #[(.ref a1)] h0 (Q_isLat1 Z a1 cz h0) [] := by
  refine Con.of (plainFor_of_name pn_java_lang_String) ?_
  intro p e s m below meth c T0 B W0
  refine Go.cast (ef_isLat1 m a1 cz ) ?_
  obtain ⟨T101, W101, st101⟩ := x_gets B W0 (host := "") (d_jdk_42_method_154_0) (Or.inl (tw hw 23 rfl)) Via.refl Scs #[.val (.ref a1)] []
  refine st101 _ ?_
  refine g_if_n B W101 (d_jdk_42_method_154_3) (XT.i0_eq_f hcz) ?_
  show Go p.tables e below _ T101 (mkF m 6 #[.val (.ref a1)] [])
  refine g_aload_n B W101 (d_jdk_42_method_154_6) rfl rfl ?_
  obtain ⟨T102, W102, st102⟩ := x_get B W101 (host := "") (d_jdk_42_method_154_7) (Or.inl (tw hw 35 rfl)) Via.refl F1 #[.val (.ref a1)] []
  refine st102 _ ?_
  refine g_if_y B W102 (d_jdk_42_method_154_10) (XT.i0_ne_t (by decide)) (pc' := 17) (by decide) ?_
  show Go p.tables e below _ T102 (mkF m 17 #[.val (.ref a1)] [])
  refine g_iconst B W102 (d_jdk_42_method_154_17) (v := 0) (by decide) ?_
  exact r_n B W102 (t := .boolean) rfl (by simp) (d_jdk_42_method_154_18) (by decide) (by decide) ⟨by rw [nar_b0], rfl⟩
def kept (c : Int32) : Int32 := if (¬ c < 48 ∧ c < 58) ∨ (¬ c < 65 ∧ c < 91) then c else if ¬ c < 97 ∧ c < 123 then c - 32 else 0
def lk (c : Int32) : Int32 := if ¬ c < 48 ∧ ¬ 57 < c then c else if ¬ c < 65 ∧ ¬ 90 < c then c else if ¬ c < 97 ∧ ¬ 122 < c then c - 97 + 65 else 0
def hst (h c : Int32) : Int32 := if lk c = 0 then h else 31 * h + lk c
def hfold (f : Nat → Int32) : Nat → Int32
  | 0 => 0
  | i + 1 => hst (hfold f i) (f i)
theorem own_rn {x : Int32} (h : 0 ≤ x.toInt ∧ x.toInt < 65536) : ¬ x < 0 ∧ ¬ 65535 < x := by
  simp only [Int32.lt_iff_toInt_lt, Int32.reduceToInt]; omega
theorem own_lk {c : Int32} (h : ¬ c < 0) : lk c = if c < 128 then kept c else 0 := by
  have e : c - 97 + 65 = c - 32 := by
    have a := c_isub c 97; have b := c_iadd (c - 97) 65; have d := c_isub c 32; have r1 := rng32 (c - 97 + 65); have r2 := rng32 (c - 32); have r3 := rng32 (c - 97)
    rw [← Int32.toInt_inj]; simp only [Int32.reduceToInt] at a b d; omega
  unfold lk kept; rw [e]
  simp only [Int32.lt_iff_toInt_lt, Int32.reduceToInt] at *
  by_cases h1 : 48 ≤ c.toInt ∧ c.toInt ≤ 57
  · rw [if_pos (by omega), if_pos (by omega), if_pos (by omega)]
  · rw [if_neg (by omega)]
    by_cases h2 : 65 ≤ c.toInt ∧ c.toInt ≤ 90
    · rw [if_pos (by omega), if_pos (by omega), if_pos (by omega)]
    · rw [if_neg (by omega)]
      by_cases h3 : 97 ≤ c.toInt ∧ c.toInt ≤ 122
      · rw [if_pos (by omega), if_pos (by omega), if_neg (by omega), if_pos (by omega)]
      · rw [if_neg (by omega)]
        by_cases h4 : c.toInt < 128
        · rw [if_pos h4, if_neg (by omega), if_neg (by omega)]
        · rw [if_neg h4]
theorem own_h0 {a c : Int32} (h : ¬ c < 0) (h1 : ¬ c < 128) : hst a c = a := by
  unfold hst; rw [own_lk h, if_neg h1, if_pos rfl]
theorem own_h1 {a c : Int32} (h : ¬ c < 0) (h1 : c < 128) (h2 : kept c = 0) : hst a c = a := by
  unfold hst; rw [own_lk h, if_pos h1, if_pos h2]
theorem own_h2 {a c : Int32} (h : ¬ c < 0) (h1 : c < 128) (h2 : ¬ kept c = 0) : hst a c = 31 * a + kept c := by
  unfold hst; rw [own_lk h, if_pos h1, if_neg h2]
theorem own_c7 (a : Int32) : (a &&& 2147483647) % 7 = 0 ∨ (a &&& 2147483647) % 7 = 1 ∨ (a &&& 2147483647) % 7 = 2 ∨ (a &&& 2147483647) % 7 = 3 ∨ (a &&& 2147483647) % 7 = 4 ∨ (a &&& 2147483647) % 7 = 5 ∨ (a &&& 2147483647) % 7 = 6 := by
  have q := c_and a 2147483647 (by decide); have r := (c_irem (a &&& 2147483647) 7 7 rfl).1 q.1
  simp only [← Int32.toInt_inj, Int32.reduceToInt] at *; omega
theorem ef_kept (m : MethodId) (p1 : Int32) : entryFrame m #[(.int p1)] 1 = mkF m 0 #[.val (.int p1)] [] := by first | (simp [entryFrame, mkF, argsToLocals, Value.category]; done) | rfl
def Q_kept (Z : State) (p1 : Int32) (h0 : Heap) (v : Option Value) (h : Heap) : Prop := v = some (.int (lk p1)) ∧ h0 = h
set_option maxRecDepth 65536 in
set_option maxHeartbeats 40000000 in
theorem c_kept (l : Launch) (Z : State) (a0 : Array Value) (hw : ∀ d ∈ tables_1, d.before a0 Z = true) (p1 : Int32) (h0 : Heap) :
    Con l Z (⟨"com/example/stratify/stratify/EnvironmentNamesSkeletonHashPinLaw", "kept", "(C)I"⟩ : MethodName) method_3_code 1 (Option.some FieldType.int) [] ({ frames := 0, cells := 0, slots := 0, locals := 0 } : Room) #[(.int p1)] h0 (Q_kept Z p1 h0) [] := by
  refine Con.of (plainFor_of_name pn_com_example_stratify_stratify_EnvironmentNamesSkeletonHashPinLaw) ?_
  intro p e s m below meth c T0 B W0
  refine Go.cast (ef_kept m p1 ) ?_
  refine g_iload_n B W0 (d_method_3_0) rfl ?_
  refine g_bipush B W0 (d_method_3_1) (v := 48) (by decide) ?_
  by_cases hc101 : p1 < 48
  · skip
    refine g_icmp_y B W0 (d_method_3_3) (XT.ii_lt_t hc101) (pc' := 14) (by decide) ?_
    show Go p.tables e below _ T0 (mkF m 14 #[.val (.int p1)] [])
    refine g_iload_n B W0 (d_method_3_14) rfl ?_
    refine g_bipush B W0 (d_method_3_15) (v := 65) (by decide) ?_
    by_cases hc102 : p1 < 65
    · skip
      refine g_icmp_y B W0 (d_method_3_17) (XT.ii_lt_t hc102) (pc' := 28) (by decide) ?_
      show Go p.tables e below _ T0 (mkF m 28 #[.val (.int p1)] [])
      refine g_iload_n B W0 (d_method_3_28) rfl ?_
      refine g_bipush B W0 (d_method_3_29) (v := 97) (by decide) ?_
      by_cases hc103 : p1 < 97
      · skip
        refine g_icmp_y B W0 (d_method_3_31) (XT.ii_lt_t hc103) (pc' := 48) (by decide) ?_
        show Go p.tables e below _ T0 (mkF m 48 #[.val (.int p1)] [])
        refine g_iconst B W0 (d_method_3_48) (v := 0) (by decide) ?_
        exact r_i B W0 (d_method_3_49) (by decide) (by decide) ⟨by rw [show lk p1 = 0 by simp [lk, hc101, hc102, hc103]], rfl⟩
      · skip
        refine g_icmp_n B W0 (d_method_3_31) (XT.ii_lt_f hc103) ?_
        show Go p.tables e below _ T0 (mkF m 34 #[.val (.int p1)] [])
        refine g_iload_n B W0 (d_method_3_34) rfl ?_
        refine g_bipush B W0 (d_method_3_35) (v := 122) (by decide) ?_
        by_cases hc104 : 122 < p1
        · skip
          refine g_icmp_y B W0 (d_method_3_37) (XT.ii_gt_t hc104) (pc' := 48) (by decide) ?_
          show Go p.tables e below _ T0 (mkF m 48 #[.val (.int p1)] [])
          refine g_iconst B W0 (d_method_3_48) (v := 0) (by decide) ?_
          exact r_i B W0 (d_method_3_49) (by decide) (by decide) ⟨by rw [show lk p1 = 0 by simp [lk, hc101, hc102, hc103, hc104]], rfl⟩
        · skip
          refine g_icmp_n B W0 (d_method_3_37) (XT.ii_gt_f hc104) ?_
          show Go p.tables e below _ T0 (mkF m 40 #[.val (.int p1)] [])
          refine g_iload_n B W0 (d_method_3_40) rfl ?_
          refine g_bipush B W0 (d_method_3_41) (v := 97) (by decide) ?_
          refine g_isub B W0 (d_method_3_43)  ?_
          refine g_bipush B W0 (d_method_3_44) (v := 65) (by decide) ?_
          refine g_iadd B W0 (d_method_3_46)  ?_
          exact r_i B W0 (d_method_3_47) (by decide) (by decide) ⟨by rw [show lk p1 = ((p1 - 97) + 65) by simp [lk, hc101, hc102, hc103, hc104]], rfl⟩
    · skip
      refine g_icmp_n B W0 (d_method_3_17) (XT.ii_lt_f hc102) ?_
      show Go p.tables e below _ T0 (mkF m 20 #[.val (.int p1)] [])
      refine g_iload_n B W0 (d_method_3_20) rfl ?_
      refine g_bipush B W0 (d_method_3_21) (v := 90) (by decide) ?_
      by_cases hc105 : 90 < p1
      · skip
        refine g_icmp_y B W0 (d_method_3_23) (XT.ii_gt_t hc105) (pc' := 28) (by decide) ?_
        show Go p.tables e below _ T0 (mkF m 28 #[.val (.int p1)] [])
        refine g_iload_n B W0 (d_method_3_28) rfl ?_
        refine g_bipush B W0 (d_method_3_29) (v := 97) (by decide) ?_
        by_cases hc106 : p1 < 97
        · skip
          refine g_icmp_y B W0 (d_method_3_31) (XT.ii_lt_t hc106) (pc' := 48) (by decide) ?_
          show Go p.tables e below _ T0 (mkF m 48 #[.val (.int p1)] [])
          refine g_iconst B W0 (d_method_3_48) (v := 0) (by decide) ?_
          exact r_i B W0 (d_method_3_49) (by decide) (by decide) ⟨by rw [show lk p1 = 0 by simp [lk, hc101, hc102, hc105, hc106]], rfl⟩
        · skip
          refine g_icmp_n B W0 (d_method_3_31) (XT.ii_lt_f hc106) ?_
          show Go p.tables e below _ T0 (mkF m 34 #[.val (.int p1)] [])
          refine g_iload_n B W0 (d_method_3_34) rfl ?_
          refine g_bipush B W0 (d_method_3_35) (v := 122) (by decide) ?_
          by_cases hc107 : 122 < p1
          · skip
            refine g_icmp_y B W0 (d_method_3_37) (XT.ii_gt_t hc107) (pc' := 48) (by decide) ?_
            show Go p.tables e below _ T0 (mkF m 48 #[.val (.int p1)] [])
            refine g_iconst B W0 (d_method_3_48) (v := 0) (by decide) ?_
            exact r_i B W0 (d_method_3_49) (by decide) (by decide) ⟨by rw [show lk p1 = 0 by simp [lk, hc101, hc102, hc105, hc106, hc107]], rfl⟩
          · skip
            refine g_icmp_n B W0 (d_method_3_37) (XT.ii_gt_f hc107) ?_
            show Go p.tables e below _ T0 (mkF m 40 #[.val (.int p1)] [])
            refine g_iload_n B W0 (d_method_3_40) rfl ?_
            refine g_bipush B W0 (d_method_3_41) (v := 97) (by decide) ?_
            refine g_isub B W0 (d_method_3_43)  ?_
            refine g_bipush B W0 (d_method_3_44) (v := 65) (by decide) ?_
            refine g_iadd B W0 (d_method_3_46)  ?_
            exact r_i B W0 (d_method_3_47) (by decide) (by decide) ⟨by rw [show lk p1 = ((p1 - 97) + 65) by simp [lk, hc101, hc102, hc105, hc106, hc107]], rfl⟩
      · skip
        refine g_icmp_n B W0 (d_method_3_23) (XT.ii_gt_f hc105) ?_
        show Go p.tables e below _ T0 (mkF m 26 #[.val (.int p1)] [])
        refine g_iload_n B W0 (d_method_3_26) rfl ?_
        exact r_i B W0 (d_method_3_27) (by decide) (by decide) ⟨by rw [show lk p1 = p1 by simp [lk, hc101, hc102, hc105]], rfl⟩
  · skip
    refine g_icmp_n B W0 (d_method_3_3) (XT.ii_lt_f hc101) ?_
    show Go p.tables e below _ T0 (mkF m 6 #[.val (.int p1)] [])
    refine g_iload_n B W0 (d_method_3_6) rfl ?_
    refine g_bipush B W0 (d_method_3_7) (v := 57) (by decide) ?_
    by_cases hc108 : 57 < p1
    · skip
      refine g_icmp_y B W0 (d_method_3_9) (XT.ii_gt_t hc108) (pc' := 14) (by decide) ?_
      show Go p.tables e below _ T0 (mkF m 14 #[.val (.int p1)] [])
      refine g_iload_n B W0 (d_method_3_14) rfl ?_
      refine g_bipush B W0 (d_method_3_15) (v := 65) (by decide) ?_
      by_cases hc109 : p1 < 65
      · skip
        refine g_icmp_y B W0 (d_method_3_17) (XT.ii_lt_t hc109) (pc' := 28) (by decide) ?_
        show Go p.tables e below _ T0 (mkF m 28 #[.val (.int p1)] [])
        refine g_iload_n B W0 (d_method_3_28) rfl ?_
        refine g_bipush B W0 (d_method_3_29) (v := 97) (by decide) ?_
        by_cases hc110 : p1 < 97
        · skip
          refine g_icmp_y B W0 (d_method_3_31) (XT.ii_lt_t hc110) (pc' := 48) (by decide) ?_
          show Go p.tables e below _ T0 (mkF m 48 #[.val (.int p1)] [])
          refine g_iconst B W0 (d_method_3_48) (v := 0) (by decide) ?_
          exact r_i B W0 (d_method_3_49) (by decide) (by decide) ⟨by rw [show lk p1 = 0 by simp [lk, hc101, hc108, hc109, hc110]], rfl⟩
        · skip
          refine g_icmp_n B W0 (d_method_3_31) (XT.ii_lt_f hc110) ?_
          show Go p.tables e below _ T0 (mkF m 34 #[.val (.int p1)] [])
          refine g_iload_n B W0 (d_method_3_34) rfl ?_
          refine g_bipush B W0 (d_method_3_35) (v := 122) (by decide) ?_
          by_cases hc111 : 122 < p1
          · skip
            refine g_icmp_y B W0 (d_method_3_37) (XT.ii_gt_t hc111) (pc' := 48) (by decide) ?_
            show Go p.tables e below _ T0 (mkF m 48 #[.val (.int p1)] [])
            refine g_iconst B W0 (d_method_3_48) (v := 0) (by decide) ?_
            exact r_i B W0 (d_method_3_49) (by decide) (by decide) ⟨by rw [show lk p1 = 0 by simp [lk, hc101, hc108, hc109, hc110, hc111]], rfl⟩
          · skip
            refine g_icmp_n B W0 (d_method_3_37) (XT.ii_gt_f hc111) ?_
            show Go p.tables e below _ T0 (mkF m 40 #[.val (.int p1)] [])
            refine g_iload_n B W0 (d_method_3_40) rfl ?_
            refine g_bipush B W0 (d_method_3_41) (v := 97) (by decide) ?_
            refine g_isub B W0 (d_method_3_43)  ?_
            refine g_bipush B W0 (d_method_3_44) (v := 65) (by decide) ?_
            refine g_iadd B W0 (d_method_3_46)  ?_
            exact r_i B W0 (d_method_3_47) (by decide) (by decide) ⟨by rw [show lk p1 = ((p1 - 97) + 65) by simp [lk, hc101, hc108, hc109, hc110, hc111]], rfl⟩
      · skip
        refine g_icmp_n B W0 (d_method_3_17) (XT.ii_lt_f hc109) ?_
        show Go p.tables e below _ T0 (mkF m 20 #[.val (.int p1)] [])
        refine g_iload_n B W0 (d_method_3_20) rfl ?_
        refine g_bipush B W0 (d_method_3_21) (v := 90) (by decide) ?_
        by_cases hc112 : 90 < p1
        · skip
          refine g_icmp_y B W0 (d_method_3_23) (XT.ii_gt_t hc112) (pc' := 28) (by decide) ?_
          show Go p.tables e below _ T0 (mkF m 28 #[.val (.int p1)] [])
          refine g_iload_n B W0 (d_method_3_28) rfl ?_
          refine g_bipush B W0 (d_method_3_29) (v := 97) (by decide) ?_
          by_cases hc113 : p1 < 97
          · skip
            refine g_icmp_y B W0 (d_method_3_31) (XT.ii_lt_t hc113) (pc' := 48) (by decide) ?_
            show Go p.tables e below _ T0 (mkF m 48 #[.val (.int p1)] [])
            refine g_iconst B W0 (d_method_3_48) (v := 0) (by decide) ?_
            exact r_i B W0 (d_method_3_49) (by decide) (by decide) ⟨by rw [show lk p1 = 0 by simp [lk, hc101, hc108, hc109, hc112, hc113]], rfl⟩
          · skip
            refine g_icmp_n B W0 (d_method_3_31) (XT.ii_lt_f hc113) ?_
            show Go p.tables e below _ T0 (mkF m 34 #[.val (.int p1)] [])
            refine g_iload_n B W0 (d_method_3_34) rfl ?_
            refine g_bipush B W0 (d_method_3_35) (v := 122) (by decide) ?_
            by_cases hc114 : 122 < p1
            · skip
              refine g_icmp_y B W0 (d_method_3_37) (XT.ii_gt_t hc114) (pc' := 48) (by decide) ?_
              show Go p.tables e below _ T0 (mkF m 48 #[.val (.int p1)] [])
              refine g_iconst B W0 (d_method_3_48) (v := 0) (by decide) ?_
              exact r_i B W0 (d_method_3_49) (by decide) (by decide) ⟨by rw [show lk p1 = 0 by simp [lk, hc101, hc108, hc109, hc112, hc113, hc114]], rfl⟩
            · skip
              refine g_icmp_n B W0 (d_method_3_37) (XT.ii_gt_f hc114) ?_
              show Go p.tables e below _ T0 (mkF m 40 #[.val (.int p1)] [])
              refine g_iload_n B W0 (d_method_3_40) rfl ?_
              refine g_bipush B W0 (d_method_3_41) (v := 97) (by decide) ?_
              refine g_isub B W0 (d_method_3_43)  ?_
              refine g_bipush B W0 (d_method_3_44) (v := 65) (by decide) ?_
              refine g_iadd B W0 (d_method_3_46)  ?_
              exact r_i B W0 (d_method_3_47) (by decide) (by decide) ⟨by rw [show lk p1 = ((p1 - 97) + 65) by simp [lk, hc101, hc108, hc109, hc112, hc113, hc114]], rfl⟩
        · skip
          refine g_icmp_n B W0 (d_method_3_23) (XT.ii_gt_f hc112) ?_
          show Go p.tables e below _ T0 (mkF m 26 #[.val (.int p1)] [])
          refine g_iload_n B W0 (d_method_3_26) rfl ?_
          exact r_i B W0 (d_method_3_27) (by decide) (by decide) ⟨by rw [show lk p1 = p1 by simp [lk, hc101, hc108, hc109, hc112]], rfl⟩
    · skip
      refine g_icmp_n B W0 (d_method_3_9) (XT.ii_gt_f hc108) ?_
      show Go p.tables e below _ T0 (mkF m 12 #[.val (.int p1)] [])
      refine g_iload_n B W0 (d_method_3_12) rfl ?_
      exact r_i B W0 (d_method_3_13) (by decide) (by decide) ⟨by rw [show lk p1 = p1 by simp [lk, hc101, hc108]], rfl⟩
theorem ef_step (m : MethodId) (p1 : Int32) (p2 : Int32) : entryFrame m #[(.int p1), (.int p2)] 3 = mkF m 0 #[.val (.int p1), .val (.int p2), .unset] [] := by first | (simp [entryFrame, mkF, argsToLocals, Value.category]; done) | rfl
def Q_step (Z : State) (p1 : Int32) (p2 : Int32) (h0 : Heap) (v : Option Value) (h : Heap) : Prop := v = some (.int (hst p1 p2)) ∧ h0 = h
set_option maxRecDepth 65536 in
set_option maxHeartbeats 40000000 in
theorem c_step (l : Launch) (Z : State) (a0 : Array Value) (hw : ∀ d ∈ tables_1, d.before a0 Z = true) (p1 : Int32) (p2 : Int32) (h0 : Heap) :
    Con l Z (⟨"com/example/stratify/stratify/EnvironmentNamesSkeletonHashPinLaw", "step", "(IC)I"⟩ : MethodName) method_4_code 3 (Option.some FieldType.int) [] ({ frames := 1, cells := 0, slots := 0, locals := 12 } : Room) #[(.int p1), (.int p2)] h0 (Q_step Z p1 p2 h0) [] := by
  refine Con.of (plainFor_of_name pn_com_example_stratify_stratify_EnvironmentNamesSkeletonHashPinLaw) ?_
  intro p e s m below meth c T0 B W0
  refine Go.cast (ef_step m p1 p2 ) ?_
  refine g_iload_n B W0 (d_method_4_0) rfl ?_
  obtain ⟨T101, h101, v101, W101, Q101, st101⟩ := x_static B W0 [(.int p2)] (c_kept l Z a0 hw p2 h0) (by simp) (d_method_4_1) (tw hw 7 rfl) (tw hw 8 rfl) (tw hw 5 rfl) (tw hw 9 rfl) (by decide) (lenOf pd__C_I rfl) #[.val (.int p1), .val (.int p2), .unset] [] rfl 0 rfl (by decide) (by decide) (by decide) (by decide)
  obtain ⟨rfl, rfl⟩ := Q101
  refine st101 _ ?_
  refine g_istore_n B W101 (d_method_4_4)  (l' := #[.val (.int p1), .val (.int p2), .val (.int (lk p2))]) rfl ?_
  refine g_iload_n B W101 (d_method_4_5) rfl ?_
  by_cases hc102 : (lk p2) = 0
  · skip
    refine g_if_n B W101 (d_method_4_6) (XT.i0_ne_f hc102) ?_
    show Go p.tables e below _ T101 (mkF m 9 #[.val (.int p1), .val (.int p2), .val (.int (lk p2))] [])
    refine g_iload_n B W101 (d_method_4_9) rfl ?_
    refine g_goto B W101 (d_method_4_10) (pc' := 19) (by decide) ?_
    show Go p.tables e below _ T101 (mkF m 19 #[.val (.int p1), .val (.int p2), .val (.int (lk p2))] [(.int p1)])
    exact r_i B W101 (d_method_4_19) (by decide) (by decide) ⟨by rw [show hst p1 p2 = p1 from if_pos hc102], rfl⟩
  · skip
    refine g_if_y B W101 (d_method_4_6) (XT.i0_ne_t hc102) (pc' := 13) (by decide) ?_
    show Go p.tables e below _ T101 (mkF m 13 #[.val (.int p1), .val (.int p2), .val (.int (lk p2))] [])
    refine g_bipush B W101 (d_method_4_13) (v := 31) (by decide) ?_
    refine g_iload_n B W101 (d_method_4_15) rfl ?_
    refine g_imul B W101 (d_method_4_16)  ?_
    refine g_iload_n B W101 (d_method_4_17) rfl ?_
    refine g_iadd B W101 (d_method_4_18)  ?_
    exact r_i B W101 (d_method_4_19) (by decide) (by decide) ⟨by rw [show hst p1 p2 = ((31 * p1) + (lk p2)) from if_neg hc102], rfl⟩
theorem ef_skc (m : MethodId) (ar : Addr) (kA : ClassId) (nn : Nat) (ff : Nat → Int32) (ka : Addr) (kc : Cell) : entryFrame m #[(.ref ar)] 7 = mkF m 0 #[.val (.ref ar), .unset, .unset, .unset, .unset, .unset, .unset] [] := by first | (simp [entryFrame, mkF, argsToLocals, Value.category]; done) | rfl
def Q_skc (Z : State) (ar : Addr) (kA : ClassId) (nn : Nat) (ff : Nat → Int32) (ka : Addr) (kc : Cell) (h0 : Heap) (v : Option Value) (h : Heap) : Prop := v = some (.int (hfold ff nn)) ∧ h0 = h
set_option maxRecDepth 65536 in
set_option maxHeartbeats 40000000 in
theorem c_skc (l : Launch) (Z : State) (a0 : Array Value) (hw : ∀ d ∈ tables_1, d.before a0 Z = true) (ar : Addr) (kA : ClassId) (nn : Nat) (ff : Nat → Int32) (ka : Addr) (kc : Cell) (h0 : Heap) (A1 : Arv Z h0 ar kA .char (Int32.ofNat nn) (arl nn ff) (.int 0)) (rf : ∀ i, i < nn → ¬ ff i < 0 ∧ ¬ 65535 < ff i) (hn : nn ≤ 8) (Sk : Sta Z Z.heap "com/example/stratify/stratify/EnvironmentNames" "KEPT" "[C" (.ref ka)) (Ak : Arr Z Z.heap ka kc .char) (lk_ : kc.slots.size.toInt32 = 128) (sk : kc.slots.size = 128) (vk : ∀ j : Int32, ¬ j < 0 → j < 128 → kc.slots[j.toNatClampNeg]? = some (.int (kept j))) :
    Con l Z (⟨"com/example/stratify/stratify/EnvironmentNames", "skeletonHash", "([C)I"⟩ : MethodName) prog_7_method_11_code 7 (Option.some FieldType.int) [] ({ frames := 0, cells := 0, slots := 0, locals := 0 } : Room) #[(.ref ar)] h0 (Q_skc Z ar kA nn ff ka kc h0) [] := by
  refine Con.of (plainFor_of_name pn_com_example_stratify_stratify_EnvironmentNames) ?_
  intro p e s m below meth c T0 B W0
  refine Go.cast (ef_skc m ar kA nn ff ka kc ) ?_
  refine g_iconst B W0 (d_prog_7_method_11_0) (v := 0) (by decide) ?_
  refine g_istore_n B W0 (d_prog_7_method_11_1)  (l' := #[.val (.ref ar), .val (.int 0), .unset, .unset, .unset, .unset, .unset]) rfl ?_
  refine g_aload_n B W0 (d_prog_7_method_11_2) rfl rfl ?_
  refine g_astore_n B W0 (d_prog_7_method_11_3) rfl (l' := #[.val (.ref ar), .val (.int 0), .val (.ref ar), .unset, .unset, .unset, .unset]) rfl ?_
  refine g_aload_n B W0 (d_prog_7_method_11_4) rfl rfl ?_
  refine g_aalen B W0 (d_prog_7_method_11_5) A1 ?_
  refine g_istore_n B W0 (d_prog_7_method_11_6)  (l' := #[.val (.ref ar), .val (.int 0), .val (.ref ar), .val (.int (Int32.ofNat nn)), .unset, .unset, .unset]) rfl ?_
  refine g_iconst B W0 (d_prog_7_method_11_7) (v := 0) (by decide) ?_
  refine g_istore B W0 (d_prog_7_method_11_8)  (l' := #[.val (.ref ar), .val (.int 0), .val (.ref ar), .val (.int (Int32.ofNat nn)), .val (.int 0), .unset, .unset]) rfl ?_
  have loop : ∀ (r : Nat) (i : Nat) (acc : Int32) (s5 : Slot) (s6 : Slot) (T : State), (s5 = .unset ∨ ∃ w, s5 = .val w ∧ w.category = 1) → (s6 = .unset ∨ ∃ w, s6 = .val w ∧ w.category = 1) → (i + r = nn) → (acc = hfold ff i) → Wk p l e ({ frames := 0, cells := 0, slots := 0, locals := 0 } : Room) s m #[(.ref ar)] below meth c Z T h0 0 0 [] → Go p.tables e below (Jvm.OwnK.Out Z s (Q_skc Z ar kA nn ff ka kc h0) ({ frames := 0, cells := 0, slots := 0, locals := 0 } : Room).cells ({ frames := 0, cells := 0, slots := 0, locals := 0 } : Room).slots) T (mkF m 10 #[.val (.ref ar), .val (.int acc), .val (.ref ar), .val (.int (Int32.ofNat nn)), .val (.int (Int32.ofNat i)), s5, s6] []) := by
    intro r; induction r with
    | zero =>
      intro i acc s5 s6 T hx5 hx6 hr hacc W
      refine g_iload B W (d_prog_7_method_11_10) rfl ?_
      refine g_iload_n B W (d_prog_7_method_11_12) rfl ?_
      refine g_icmp_y B W (d_prog_7_method_11_13) (XT.ii_ge_t (by rw [own_lt (by omega) (by omega)]; omega)) (pc' := 62) (by decide) ?_
      show Go p.tables e below _ T (mkF m 62 #[.val (.ref ar), .val (.int acc), .val (.ref ar), .val (.int (Int32.ofNat nn)), .val (.int (Int32.ofNat i)), s5, s6] [])
      refine g_iload_n B W (d_prog_7_method_11_62) rfl ?_
      exact r_i B W (d_prog_7_method_11_63) (by decide) (by decide) ⟨by rw [hacc, show i = nn by omega], rfl⟩
    | succ r ih =>
      intro i acc s5 s6 T hx5 hx6 hr hacc W
      have hil : i < nn := by omega
      have h0c := (rf i hil).1
      refine g_iload B W (d_prog_7_method_11_10) rfl ?_
      refine g_iload_n B W (d_prog_7_method_11_12) rfl ?_
      refine g_icmp_n B W (d_prog_7_method_11_13) (XT.ii_ge_f ((own_lt (by omega) (by omega)).mpr hil)) ?_
      show Go p.tables e below _ T (mkF m 16 #[.val (.ref ar), .val (.int acc), .val (.ref ar), .val (.int (Int32.ofNat nn)), .val (.int (Int32.ofNat i)), s5, s6] [])
      refine g_aload_n B W (d_prog_7_method_11_16) rfl rfl ?_
      refine g_iload B W (d_prog_7_method_11_17) rfl ?_
      refine g_caload B W (d_prog_7_method_11_19) A1 (own_ixok (i := i) (n := nn) (by omega) (by omega)) (arl_rd (i := i) (n := nn) (by omega) (by omega)) ?_
      show Go p.tables e below _ T (mkF m 20 #[.val (.ref ar), .val (.int acc), .val (.ref ar), .val (.int (Int32.ofNat nn)), .val (.int (Int32.ofNat i)), s5, s6] [(.int (ff i))])
      refine g_istore B W (d_prog_7_method_11_20)  (l' := #[.val (.ref ar), .val (.int acc), .val (.ref ar), .val (.int (Int32.ofNat nn)), .val (.int (Int32.ofNat i)), .val (.int (ff i)), s6]) (XS.store1 rfl hx5 rfl) ?_
      refine g_iload B W (d_prog_7_method_11_22) rfl ?_
      obtain ⟨T101, W101, st101⟩ := x_gets B W (host := "") (d_prog_7_method_11_24) (Or.inl (tw hw 63 rfl)) Via.refl Sk #[.val (.ref ar), .val (.int acc), .val (.ref ar), .val (.int (Int32.ofNat nn)), .val (.int (Int32.ofNat i)), .val (.int (ff i)), s6] [(.int (ff i))]
      refine st101 _ ?_
      refine g_alenK B W101 (d_prog_7_method_11_27) (Ak.ext W101.old.2) lk_ ?_
      show Go p.tables e below _ T101 (mkF m 28 #[.val (.ref ar), .val (.int acc), .val (.ref ar), .val (.int (Int32.ofNat nn)), .val (.int (Int32.ofNat i)), .val (.int (ff i)), s6] [(.int 128), (.int (ff i))])
      by_cases hc102 : (ff i) < 128
      · skip
        refine g_icmp_n B W101 (d_prog_7_method_11_28) (XT.ii_ge_f hc102) ?_
        show Go p.tables e below _ T101 (mkF m 31 #[.val (.ref ar), .val (.int acc), .val (.ref ar), .val (.int (Int32.ofNat nn)), .val (.int (Int32.ofNat i)), .val (.int (ff i)), s6] [])
        obtain ⟨T103, W103, st103⟩ := x_gets B W101 (host := "") (d_prog_7_method_11_31) (Or.inl (tw hw 63 rfl)) Via.refl Sk #[.val (.ref ar), .val (.int acc), .val (.ref ar), .val (.int (Int32.ofNat nn)), .val (.int (Int32.ofNat i)), .val (.int (ff i)), s6] []
        refine st103 _ ?_
        refine g_iload B W103 (d_prog_7_method_11_34) rfl ?_
        refine g_caloadK B W103 (d_prog_7_method_11_36) (Ak.ext W103.old.2) (inb_of (z := 128) sk ⟨h0c, hc102⟩) (vk (ff i) h0c hc102) ?_
        show Go p.tables e below _ T103 (mkF m 37 #[.val (.ref ar), .val (.int acc), .val (.ref ar), .val (.int (Int32.ofNat nn)), .val (.int (Int32.ofNat i)), .val (.int (ff i)), s6] [(.int (kept (ff i)))])
        refine g_goto B W103 (d_prog_7_method_11_37) (pc' := 41) (by decide) ?_
        show Go p.tables e below _ T103 (mkF m 41 #[.val (.ref ar), .val (.int acc), .val (.ref ar), .val (.int (Int32.ofNat nn)), .val (.int (Int32.ofNat i)), .val (.int (ff i)), s6] [(.int (kept (ff i)))])
        refine g_istore B W103 (d_prog_7_method_11_41)  (l' := #[.val (.ref ar), .val (.int acc), .val (.ref ar), .val (.int (Int32.ofNat nn)), .val (.int (Int32.ofNat i)), .val (.int (ff i)), .val (.int (kept (ff i)))]) (XS.store1 rfl hx6 rfl) ?_
        refine g_iload B W103 (d_prog_7_method_11_43) rfl ?_
        by_cases hc104 : (kept (ff i)) = 0
        · skip
          refine g_if_y B W103 (d_prog_7_method_11_45) (XT.i0_eq_t hc104) (pc' := 56) (by decide) ?_
          show Go p.tables e below _ T103 (mkF m 56 #[.val (.ref ar), .val (.int acc), .val (.ref ar), .val (.int (Int32.ofNat nn)), .val (.int (Int32.ofNat i)), .val (.int (ff i)), .val (.int (kept (ff i)))] [])
          refine g_iinc B W103 (d_prog_7_method_11_56) (v := 1) (l' := #[.val (.ref ar), .val (.int acc), .val (.ref ar), .val (.int (Int32.ofNat nn)), .val (.int (Int32.ofNat i + 1)), .val (.int (ff i)), .val (.int (kept (ff i)))]) (by decide) rfl rfl ?_
          rw [own_inc]
          show Go p.tables e below _ T103 (mkF m 59 #[.val (.ref ar), .val (.int acc), .val (.ref ar), .val (.int (Int32.ofNat nn)), .val (.int (Int32.ofNat (i + 1))), .val (.int (ff i)), .val (.int (kept (ff i)))] [])
          refine g_goto B W103 (d_prog_7_method_11_59) (pc' := 10) (by decide) ?_
          show Go p.tables e below _ T103 (mkF m 10 #[.val (.ref ar), .val (.int acc), .val (.ref ar), .val (.int (Int32.ofNat nn)), .val (.int (Int32.ofNat (i + 1))), .val (.int (ff i)), .val (.int (kept (ff i)))] [])
          exact ih _ _ _ _ _ (Or.inr ⟨_, rfl, rfl⟩) (Or.inr ⟨_, rfl, rfl⟩) (by omega) (by show _ = hst (hfold ff i) (ff i); rw [← hacc]; exact (own_h1 h0c hc102 hc104).symm) W103
        · skip
          refine g_if_n B W103 (d_prog_7_method_11_45) (XT.i0_eq_f hc104) ?_
          show Go p.tables e below _ T103 (mkF m 48 #[.val (.ref ar), .val (.int acc), .val (.ref ar), .val (.int (Int32.ofNat nn)), .val (.int (Int32.ofNat i)), .val (.int (ff i)), .val (.int (kept (ff i)))] [])
          refine g_bipush B W103 (d_prog_7_method_11_48) (v := 31) (by decide) ?_
          refine g_iload_n B W103 (d_prog_7_method_11_50) rfl ?_
          refine g_imul B W103 (d_prog_7_method_11_51)  ?_
          refine g_iload B W103 (d_prog_7_method_11_52) rfl ?_
          refine g_iadd B W103 (d_prog_7_method_11_54)  ?_
          refine g_istore_n B W103 (d_prog_7_method_11_55)  (l' := #[.val (.ref ar), .val (.int ((31 * acc) + (kept (ff i)))), .val (.ref ar), .val (.int (Int32.ofNat nn)), .val (.int (Int32.ofNat i)), .val (.int (ff i)), .val (.int (kept (ff i)))]) rfl ?_
          refine g_iinc B W103 (d_prog_7_method_11_56) (v := 1) (l' := #[.val (.ref ar), .val (.int ((31 * acc) + (kept (ff i)))), .val (.ref ar), .val (.int (Int32.ofNat nn)), .val (.int (Int32.ofNat i + 1)), .val (.int (ff i)), .val (.int (kept (ff i)))]) (by decide) rfl rfl ?_
          rw [own_inc]
          show Go p.tables e below _ T103 (mkF m 59 #[.val (.ref ar), .val (.int ((31 * acc) + (kept (ff i)))), .val (.ref ar), .val (.int (Int32.ofNat nn)), .val (.int (Int32.ofNat (i + 1))), .val (.int (ff i)), .val (.int (kept (ff i)))] [])
          refine g_goto B W103 (d_prog_7_method_11_59) (pc' := 10) (by decide) ?_
          show Go p.tables e below _ T103 (mkF m 10 #[.val (.ref ar), .val (.int ((31 * acc) + (kept (ff i)))), .val (.ref ar), .val (.int (Int32.ofNat nn)), .val (.int (Int32.ofNat (i + 1))), .val (.int (ff i)), .val (.int (kept (ff i)))] [])
          exact ih _ _ _ _ _ (Or.inr ⟨_, rfl, rfl⟩) (Or.inr ⟨_, rfl, rfl⟩) (by omega) (by show _ = hst (hfold ff i) (ff i); rw [← hacc]; exact (own_h2 h0c hc102 hc104).symm) W103
      · skip
        refine g_icmp_y B W101 (d_prog_7_method_11_28) (XT.ii_ge_t hc102) (pc' := 40) (by decide) ?_
        show Go p.tables e below _ T101 (mkF m 40 #[.val (.ref ar), .val (.int acc), .val (.ref ar), .val (.int (Int32.ofNat nn)), .val (.int (Int32.ofNat i)), .val (.int (ff i)), s6] [])
        refine g_iconst B W101 (d_prog_7_method_11_40) (v := 0) (by decide) ?_
        refine g_istore B W101 (d_prog_7_method_11_41)  (l' := #[.val (.ref ar), .val (.int acc), .val (.ref ar), .val (.int (Int32.ofNat nn)), .val (.int (Int32.ofNat i)), .val (.int (ff i)), .val (.int 0)]) (XS.store1 rfl hx6 rfl) ?_
        refine g_iload B W101 (d_prog_7_method_11_43) rfl ?_
        refine g_if_y B W101 (d_prog_7_method_11_45) (XT.i0_eq_t (by decide)) (pc' := 56) (by decide) ?_
        show Go p.tables e below _ T101 (mkF m 56 #[.val (.ref ar), .val (.int acc), .val (.ref ar), .val (.int (Int32.ofNat nn)), .val (.int (Int32.ofNat i)), .val (.int (ff i)), .val (.int 0)] [])
        refine g_iinc B W101 (d_prog_7_method_11_56) (v := 1) (l' := #[.val (.ref ar), .val (.int acc), .val (.ref ar), .val (.int (Int32.ofNat nn)), .val (.int (Int32.ofNat i + 1)), .val (.int (ff i)), .val (.int 0)]) (by decide) rfl rfl ?_
        rw [own_inc]
        show Go p.tables e below _ T101 (mkF m 59 #[.val (.ref ar), .val (.int acc), .val (.ref ar), .val (.int (Int32.ofNat nn)), .val (.int (Int32.ofNat (i + 1))), .val (.int (ff i)), .val (.int 0)] [])
        refine g_goto B W101 (d_prog_7_method_11_59) (pc' := 10) (by decide) ?_
        show Go p.tables e below _ T101 (mkF m 10 #[.val (.ref ar), .val (.int acc), .val (.ref ar), .val (.int (Int32.ofNat nn)), .val (.int (Int32.ofNat (i + 1))), .val (.int (ff i)), .val (.int 0)] [])
        exact ih _ _ _ _ _ (Or.inr ⟨_, rfl, rfl⟩) (Or.inr ⟨_, rfl, rfl⟩) (by omega) (by show _ = hst (hfold ff i) (ff i); rw [← hacc]; exact (own_h0 h0c hc102).symm) W101
  exact loop nn 0 0 .unset .unset _ (Or.inl rfl) (Or.inl rfl) (by omega) rfl W0
theorem ef_infl (m : MethodId) (t1 : Addr) (kb : ClassId) (ar : Addr) (kA : ClassId) (nn : Nat) (ff : Nat → Int32) : entryFrame m #[(.ref t1), (.int 0), (.ref ar), (.int 0), (.int (Int32.ofNat nn))] 6 = mkF m 0 #[.val (.ref t1), .val (.int 0), .val (.ref ar), .val (.int 0), .val (.int (Int32.ofNat nn)), .unset] [] := by first | (simp [entryFrame, mkF, argsToLocals, Value.category]; done) | rfl
def Q_infl (Z : State) (t1 : Addr) (kb : ClassId) (ar : Addr) (kA : ClassId) (nn : Nat) (ff : Nat → Int32) (h0 : Heap) (v : Option Value) (h : Heap) : Prop := v = none ∧ Keep h0 h [ar] ∧ Arv Z h ar kA .char (Int32.ofNat nn) (arl nn ff) (.int 0)
set_option maxRecDepth 65536 in
set_option maxHeartbeats 40000000 in
theorem c_infl (l : Launch) (Z : State) (a0 : Array Value) (hw : ∀ d ∈ tables_1, d.before a0 Z = true) (t1 : Addr) (kb : ClassId) (ar : Addr) (kA : ClassId) (nn : Nat) (ff : Nat → Int32) (h0 : Heap) (A1 : Arv Z h0 t1 kb .byte (Int32.ofNat nn) (arl nn fun i => (ff i).toInt8.toInt32) (.int 0)) (A2 : Arv Z h0 ar kA .char (Int32.ofNat nn) (arl nn fun _ => 0) (.int 0)) (g1 : Z.heap.size ≤ ar) (nb : ¬ @Eq Nat t1 ar) (rl : ∀ i, i < nn → ¬ ff i < 0 ∧ ¬ 255 < ff i) (hn : nn ≤ 8) :
    Con l Z (⟨"java/lang/StringLatin1", "inflate", "([BI[CII)V"⟩ : MethodName) jdk_43_method_49_code 6 (Option.none : Option FieldType) [] ({ frames := 0, cells := 0, slots := 0, locals := 0 } : Room) #[(.ref t1), (.int 0), (.ref ar), (.int 0), (.int (Int32.ofNat nn))] h0 (Q_infl Z t1 kb ar kA nn ff h0) [] := by
  refine Con.of (plainFor_of_name pn_java_lang_StringLatin1) ?_
  intro p e s m below meth c T0 B W0
  refine Go.cast (ef_infl m t1 kb ar kA nn ff ) ?_
  refine g_iconst B W0 (d_jdk_43_method_49_0) (v := 0) (by decide) ?_
  refine g_istore B W0 (d_jdk_43_method_49_1)  (l' := #[.val (.ref t1), .val (.int 0), .val (.ref ar), .val (.int 0), .val (.int (Int32.ofNat nn)), .val (.int 0)]) rfl ?_
  have loop : ∀ (r : Nat) (i : Nat) (g : Nat → Int32) (h1 : Heap) (T : State), (i + r = nn) → (Keep h0 h1 [ar]) → (Arv Z h1 ar kA .char (Int32.ofNat nn) (arl nn g) (.int 0)) → (∀ j, j < i → g j = ff j) → Wk p l e ({ frames := 0, cells := 0, slots := 0, locals := 0 } : Room) s m #[(.ref t1), (.int 0), (.ref ar), (.int 0), (.int (Int32.ofNat nn))] below meth c Z T h1 0 0 [] → Go p.tables e below (Jvm.OwnK.Out Z s (Q_infl Z t1 kb ar kA nn ff h0) ({ frames := 0, cells := 0, slots := 0, locals := 0 } : Room).cells ({ frames := 0, cells := 0, slots := 0, locals := 0 } : Room).slots) T (mkF m 3 #[.val (.ref t1), .val (.int (Int32.ofNat i)), .val (.ref ar), .val (.int (Int32.ofNat i)), .val (.int (Int32.ofNat nn)), .val (.int (Int32.ofNat i))] []) := by
    intro r; induction r with
    | zero =>
      intro i g h1 T hr K1 A3 hg W
      refine g_iload B W (d_jdk_43_method_49_3) rfl ?_
      refine g_iload B W (d_jdk_43_method_49_5) rfl ?_
      refine g_icmp_y B W (d_jdk_43_method_49_7) (XT.ii_ge_t (by rw [own_lt (by omega) (by omega)]; omega)) (pc' := 33) (by decide) ?_
      show Go p.tables e below _ T (mkF m 33 #[.val (.ref t1), .val (.int (Int32.ofNat i)), .val (.ref ar), .val (.int (Int32.ofNat i)), .val (.int (Int32.ofNat nn)), .val (.int (Int32.ofNat i))] [])
      exact r_v B W (d_jdk_43_method_49_33) (by decide) (by decide) ⟨rfl, K1, (arl_congr (n := nn) (f := g) (g := ff) fun j hj => hg j (by omega)) ▸ A3⟩
    | succ r ih =>
      intro i g h1 T hr K1 A3 hg W
      have hil : i < nn := by omega
      refine g_iload B W (d_jdk_43_method_49_3) rfl ?_
      refine g_iload B W (d_jdk_43_method_49_5) rfl ?_
      refine g_icmp_n B W (d_jdk_43_method_49_7) (XT.ii_ge_f ((own_lt (by omega) (by omega)).mpr hil)) ?_
      show Go p.tables e below _ T (mkF m 10 #[.val (.ref t1), .val (.int (Int32.ofNat i)), .val (.ref ar), .val (.int (Int32.ofNat i)), .val (.int (Int32.ofNat nn)), .val (.int (Int32.ofNat i))] [])
      refine g_aload_n B W (d_jdk_43_method_49_10) rfl rfl ?_
      refine g_iload_n B W (d_jdk_43_method_49_11) rfl ?_
      refine g_iinc B W (d_jdk_43_method_49_12) (v := 1) (l' := #[.val (.ref t1), .val (.int (Int32.ofNat i)), .val (.ref ar), .val (.int (Int32.ofNat i + 1)), .val (.int (Int32.ofNat nn)), .val (.int (Int32.ofNat i))]) (by decide) rfl rfl ?_
      rw [own_inc]
      show Go p.tables e below _ T (mkF m 15 #[.val (.ref t1), .val (.int (Int32.ofNat i)), .val (.ref ar), .val (.int (Int32.ofNat (i + 1))), .val (.int (Int32.ofNat nn)), .val (.int (Int32.ofNat i))] [(.int (Int32.ofNat i)), (.ref ar)])
      refine g_aload_n B W (d_jdk_43_method_49_15) rfl rfl ?_
      refine g_iload_n B W (d_jdk_43_method_49_16) rfl ?_
      refine g_iinc B W (d_jdk_43_method_49_17) (v := 1) (l' := #[.val (.ref t1), .val (.int (Int32.ofNat i + 1)), .val (.ref ar), .val (.int (Int32.ofNat (i + 1))), .val (.int (Int32.ofNat nn)), .val (.int (Int32.ofNat i))]) (by decide) rfl rfl ?_
      rw [own_inc]
      show Go p.tables e below _ T (mkF m 20 #[.val (.ref t1), .val (.int (Int32.ofNat (i + 1))), .val (.ref ar), .val (.int (Int32.ofNat (i + 1))), .val (.int (Int32.ofNat nn)), .val (.int (Int32.ofNat i))] [(.int (Int32.ofNat i)), (.ref t1), (.int (Int32.ofNat i)), (.ref ar)])
      have f101 := (A1.keep K1 (ninS (nne (by have q := nlt A1.lt; omega)) nin0))
      refine g_baload B W (d_jdk_43_method_49_20) f101 (own_ixok (i := i) (n := nn) hil (by omega)) (arl_rd (i := i) (n := nn) hil (by omega)) ?_
      show Go p.tables e below _ T (mkF m 21 #[.val (.ref t1), .val (.int (Int32.ofNat (i + 1))), .val (.ref ar), .val (.int (Int32.ofNat (i + 1))), .val (.int (Int32.ofNat nn)), .val (.int (Int32.ofNat i))] [(.int (ff i).toInt8.toInt32), (.int (Int32.ofNat i)), (.ref ar)])
      refine g_sipush B W (d_jdk_43_method_49_21) (v := 255) (by decide) ?_
      refine g_iand B W (d_jdk_43_method_49_24)  ?_
      refine g_i2c B W (d_jdk_43_method_49_25)  ?_
      rw [own_b2c (rl i hil).1 (rl i hil).2]
      show Go p.tables e below _ T (mkF m 26 #[.val (.ref t1), .val (.int (Int32.ofNat (i + 1))), .val (.ref ar), .val (.int (Int32.ofNat (i + 1))), .val (.int (Int32.ofNat nn)), .val (.int (Int32.ofNat i))] [(.int (ff i)), (.int (Int32.ofNat i)), (.ref ar)])
      obtain ⟨T102, h102, W102, K102, A102, st102⟩ := x_castore B W (j := Int32.ofNat i) (x := (ff i)) (d_jdk_43_method_49_26) A3 (own_ixok (i := i) (n := nn) hil (by omega)) (by rw [own_clamp (by omega), arl_len]; exact hil) (by omega) #[.val (.ref t1), .val (.int (Int32.ofNat (i + 1))), .val (.ref ar), .val (.int (Int32.ofNat (i + 1))), .val (.int (Int32.ofNat nn)), .val (.int (Int32.ofNat i))] []
      refine st102 _ ?_
      rw [own_clamp (by omega), show nar .char (ff i) = (ff i) from own_narc (rl i hil).1 (own_255 (rl i hil).2), arl_set] at A102
      have s103 := K102.1
      show Go p.tables e below _ T102 (mkF m 27 #[.val (.ref t1), .val (.int (Int32.ofNat (i + 1))), .val (.ref ar), .val (.int (Int32.ofNat (i + 1))), .val (.int (Int32.ofNat nn)), .val (.int (Int32.ofNat i))] [])
      refine g_iinc B W102 (d_jdk_43_method_49_27) (v := 1) (l' := #[.val (.ref t1), .val (.int (Int32.ofNat (i + 1))), .val (.ref ar), .val (.int (Int32.ofNat (i + 1))), .val (.int (Int32.ofNat nn)), .val (.int (Int32.ofNat i + 1))]) (by decide) rfl rfl ?_
      rw [own_inc]
      show Go p.tables e below _ T102 (mkF m 30 #[.val (.ref t1), .val (.int (Int32.ofNat (i + 1))), .val (.ref ar), .val (.int (Int32.ofNat (i + 1))), .val (.int (Int32.ofNat nn)), .val (.int (Int32.ofNat (i + 1)))] [])
      refine g_goto B W102 (d_jdk_43_method_49_30) (pc' := 3) (by decide) ?_
      show Go p.tables e below _ T102 (mkF m 3 #[.val (.ref t1), .val (.int (Int32.ofNat (i + 1))), .val (.ref ar), .val (.int (Int32.ofNat (i + 1))), .val (.int (Int32.ofNat nn)), .val (.int (Int32.ofNat (i + 1)))] [])
      exact ih _ _ _ _ (by omega) (((Keep.refl h0 [ar]).trans K1 (allS (Or.inl (by simp)) all0)).trans K102 (allS (Or.inl (by simp)) all0)) A102 (own_fill (P := fun j x => x = ff j) hg rfl) W102
  exact loop nn 0 _ h0 _ (by omega) (Keep.refl h0 [ar]) A2 (fun j hj => absurd hj (by omega)) W0
theorem ef_tocl (m : MethodId) (t1 : Addr) (kb : ClassId) (nn : Nat) (ff : Nat → Int32) : entryFrame m #[(.ref t1)] 2 = mkF m 0 #[.val (.ref t1), .unset] [] := by first | (simp [entryFrame, mkF, argsToLocals, Value.category]; done) | rfl
def Q_tocl (Z : State) (t1 : Addr) (kb : ClassId) (nn : Nat) (ff : Nat → Int32) (h0 : Heap) (v : Option Value) (h : Heap) : Prop := ∃ (b : Addr) (kA : ClassId), v = some (.ref b) ∧ Keep h0 h [] ∧ Arv Z h b kA .char (Int32.ofNat nn) (arl nn ff) (.int 0)
set_option maxRecDepth 65536 in
set_option maxHeartbeats 40000000 in
theorem c_tocl (l : Launch) (Z : State) (a0 : Array Value) (hw : ∀ d ∈ tables_1, d.before a0 Z = true) (t1 : Addr) (kb : ClassId) (nn : Nat) (ff : Nat → Int32) (h0 : Heap) (A1 : Arv Z h0 t1 kb .byte (Int32.ofNat nn) (arl nn fun i => (ff i).toInt8.toInt32) (.int 0)) (rl : ∀ i, i < nn → ¬ ff i < 0 ∧ ¬ 255 < ff i) (hn : nn ≤ 8) :
    Con l Z (⟨"java/lang/StringLatin1", "toChars", "([B)[C"⟩ : MethodName) jdk_43_method_9_code 2 (Option.some (FieldType.array FieldType.char)) [] ({ frames := 1, cells := 1, slots := 8, locals := 17 } : Room) #[(.ref t1)] h0 (Q_tocl Z t1 kb nn ff h0) [] := by
  refine Con.of (plainFor_of_name pn_java_lang_StringLatin1) ?_
  intro p e s m below meth c T0 B W0
  refine Go.cast (ef_tocl m t1 kb nn ff ) ?_
  have l_t1 := nlt A1.lt
  refine g_aload_n B W0 (d_jdk_43_method_9_0) rfl rfl ?_
  refine g_aalen B W0 (d_jdk_43_method_9_1) A1 ?_
  obtain ⟨T101, h101, b101, cA101, gb101, W101, K101, A101, st101⟩ := x_newA B W0 (z := Int32.ofNat nn) 8 (d_jdk_43_method_9_2) (tw hw 2 rfl) (own_nneg (by omega)) (by rw [own_clamp (by omega)]; omega) (by decide) (by decide) (by decide) #[.val (.ref t1), .unset] []
  have l101 := nlt A101.lt
  have z101 := W0.size
  refine st101 _ ?_
  have A101 := arl_of_rep (by omega) (by decide) A101
  have s102 := K101.1
  show Go p.tables e below _ T101 (mkF m 4 #[.val (.ref t1), .unset] [(.ref b101)])
  refine g_astore_n B W101 (d_jdk_43_method_9_4) rfl (l' := #[.val (.ref t1), .val (.ref b101)]) rfl ?_
  refine g_aload_n B W101 (d_jdk_43_method_9_5) rfl rfl ?_
  refine g_iconst B W101 (d_jdk_43_method_9_6) (v := 0) (by decide) ?_
  refine g_aload_n B W101 (d_jdk_43_method_9_7) rfl rfl ?_
  refine g_iconst B W101 (d_jdk_43_method_9_8) (v := 0) (by decide) ?_
  refine g_aload_n B W101 (d_jdk_43_method_9_9) rfl rfl ?_
  have f103 := (A1.keep K101 nin0)
  refine g_aalen B W101 (d_jdk_43_method_9_10) f103 ?_
  obtain ⟨T104, h104, v104, W104, Q104, st104⟩ := x_static B W101 [(.ref t1), (.int 0), (.ref b101), (.int 0), (.int (Int32.ofNat nn))] (c_infl l Z a0 hw t1 kb b101 cA101 nn ff h101 f103 A101 (by omega) (by omega) rl hn) (by simp) (d_jdk_43_method_9_11) (tw hw 57 rfl) (tw hw 58 rfl) (tw hw 55 rfl) (tw hw 59 rfl) (by decide) (lenOf pd___BI_CII_V rfl) #[.val (.ref t1), .val (.ref b101)] [] rfl 0 rfl (by decide) (by decide) (by decide) (by decide)
  obtain ⟨rfl, K104, A104⟩ := Q104
  have s105 := K104.1
  refine st104 _ ?_
  refine g_aload_n B W104 (d_jdk_43_method_9_14) rfl rfl ?_
  exact r_a B W104 rfl rfl rfl (d_jdk_43_method_9_15) (by decide) (by decide) ⟨_, _, rfl, (((Keep.refl h0 []).trans K101 all0).trans K104 (allS (Or.inr (by omega)) all0)), A104⟩
theorem ef_ulen (m : MethodId) (t1 : Addr) (kb : ClassId) (nn : Nat) (ff : Nat → Int32) : entryFrame m #[(.ref t1)] 1 = mkF m 0 #[.val (.ref t1)] [] := by first | (simp [entryFrame, mkF, argsToLocals, Value.category]; done) | rfl
def Q_ulen (Z : State) (t1 : Addr) (kb : ClassId) (nn : Nat) (ff : Nat → Int32) (h0 : Heap) (v : Option Value) (h : Heap) : Prop := v = some (.int (Int32.ofNat nn)) ∧ h0 = h
set_option maxRecDepth 65536 in
set_option maxHeartbeats 40000000 in
theorem c_ulen (l : Launch) (Z : State) (a0 : Array Value) (hw : ∀ d ∈ tables_1, d.before a0 Z = true) (t1 : Addr) (kb : ClassId) (nn : Nat) (ff : Nat → Int32) (h0 : Heap) (A1 : Arv Z h0 t1 kb .byte (Int32.ofNat (2 * nn)) (arl (2 * nn) (wbf ff)) (.int 0)) (hn : nn ≤ 8) :
    Con l Z (⟨"java/lang/StringUTF16", "length", "([B)I"⟩ : MethodName) jdk_52_method_6_code 1 (Option.some FieldType.int) [] ({ frames := 0, cells := 0, slots := 0, locals := 0 } : Room) #[(.ref t1)] h0 (Q_ulen Z t1 kb nn ff h0) [] := by
  refine Con.of (plainFor_of_name pn_java_lang_StringUTF16) ?_
  intro p e s m below meth c T0 B W0
  refine Go.cast (ef_ulen m t1 kb nn ff ) ?_
  refine g_aload_n B W0 (d_jdk_52_method_6_0) rfl rfl ?_
  refine g_aalen B W0 (d_jdk_52_method_6_1) A1 ?_
  refine g_iconst B W0 (d_jdk_52_method_6_2) (v := 1) (by decide) ?_
  refine g_ishr B W0 (d_jdk_52_method_6_3)  ?_
  rw [own_half (by omega)]
  show Go p.tables e below _ T0 (mkF m 4 #[.val (.ref t1)] [(.int (Int32.ofNat nn))])
  exact r_i B W0 (d_jdk_52_method_6_4) (by decide) (by decide) ⟨rfl, rfl⟩
theorem own_orr {n : Nat} (h : n ≤ 8000) : ¬ ((Int32.ofNat n ||| 0) ||| Int32.ofNat n) < 0 := by
  have e := own_ofNat (i := n) (by omega)
  have a := c_or0 (Int32.ofNat n) 0 (by omega) (by decide)
  have b := c_or0 (Int32.ofNat n ||| 0) (Int32.ofNat n) (by omega) (by omega)
  rw [Int32.lt_iff_toInt_lt]; simp only [Int32.reduceToInt]; omega
theorem ef_pfis (m : MethodId) (nn : Nat) (sf : Value) (rsf : sf.isRef = true) : entryFrame m #[(.int 0), (.int (Int32.ofNat nn)), (.int (Int32.ofNat nn)), sf] 4 = mkF m 0 #[.val (.int 0), .val (.int (Int32.ofNat nn)), .val (.int (Int32.ofNat nn)), .val sf] [] := by
  (cases sf <;> try cases rsf)
  all_goals first | (simp [entryFrame, mkF, argsToLocals, Value.category]; done) | rfl
def Q_pfis (Z : State) (nn : Nat) (sf : Value) (h0 : Heap) (v : Option Value) (h : Heap) : Prop := v = some (.int 0) ∧ h0 = h
set_option maxRecDepth 65536 in
set_option maxHeartbeats 40000000 in
theorem c_pfis (l : Launch) (Z : State) (a0 : Array Value) (hw : ∀ d ∈ tables_1, d.before a0 Z = true) (nn : Nat) (sf : Value) (h0 : Heap) (rsf : sf.isRef = true) (hn : nn ≤ 8) :
    Con l Z (⟨"jdk/internal/util/Preconditions", "checkFromIndexSize", "(IIILjava/util/function/BiFunction;)I"⟩ : MethodName) jdk_41_method_13_code 4 (Option.some FieldType.int) [] ({ frames := 0, cells := 0, slots := 0, locals := 0 } : Room) #[(.int 0), (.int (Int32.ofNat nn)), (.int (Int32.ofNat nn)), sf] h0 (Q_pfis Z nn sf h0) [] := by
  refine Con.of (plainFor_of_name pn_jdk_internal_util_Preconditions) ?_
  intro p e s m below meth c T0 B W0
  refine Go.cast (ef_pfis m nn sf rsf) ?_
  refine g_iload_n B W0 (d_jdk_41_method_13_0) rfl ?_
  refine g_iload_n B W0 (d_jdk_41_method_13_1) rfl ?_
  refine g_ior B W0 (d_jdk_41_method_13_2)  ?_
  refine g_iload_n B W0 (d_jdk_41_method_13_3) rfl ?_
  refine g_ior B W0 (d_jdk_41_method_13_4)  ?_
  refine g_if_n B W0 (d_jdk_41_method_13_5) (XT.i0_lt_f (own_orr (by omega))) ?_
  show Go p.tables e below _ T0 (mkF m 8 #[.val (.int 0), .val (.int (Int32.ofNat nn)), .val (.int (Int32.ofNat nn)), .val sf] [])
  refine g_iload_n B W0 (d_jdk_41_method_13_8) rfl ?_
  refine g_iload_n B W0 (d_jdk_41_method_13_9) rfl ?_
  refine g_iload_n B W0 (d_jdk_41_method_13_10) rfl ?_
  refine g_isub B W0 (d_jdk_41_method_13_11)  ?_
  show Go p.tables e below _ T0 (mkF m 12 #[.val (.int 0), .val (.int (Int32.ofNat nn)), .val (.int (Int32.ofNat nn)), .val sf] [(.int (Int32.ofNat nn - Int32.ofNat 0)), (.int (Int32.ofNat nn))])
  rw [own_sub (i := nn) (j := 0) (by omega)]
  show Go p.tables e below _ T0 (mkF m 12 #[.val (.int 0), .val (.int (Int32.ofNat nn)), .val (.int (Int32.ofNat nn)), .val sf] [(.int (Int32.ofNat (nn - 0))), (.int (Int32.ofNat nn))])
  refine g_icmp_y B W0 (d_jdk_41_method_13_12) (XT.ii_le_t (by rw [own_lt (by omega) (by omega)]; omega)) (pc' := 23) (by decide) ?_
  show Go p.tables e below _ T0 (mkF m 23 #[.val (.int 0), .val (.int (Int32.ofNat nn)), .val (.int (Int32.ofNat nn)), .val sf] [])
  refine g_iload_n B W0 (d_jdk_41_method_13_23) rfl ?_
  exact r_i B W0 (d_jdk_41_method_13_24) (by decide) (by decide) ⟨rfl, rfl⟩
theorem ef_scoc (m : MethodId) (nn : Nat) (sf : Value) : entryFrame m #[(.int 0), (.int (Int32.ofNat nn)), (.int (Int32.ofNat nn))] 3 = mkF m 0 #[.val (.int 0), .val (.int (Int32.ofNat nn)), .val (.int (Int32.ofNat nn))] [] := by first | (simp [entryFrame, mkF, argsToLocals, Value.category]; done) | rfl
def Q_scoc (Z : State) (nn : Nat) (sf : Value) (h0 : Heap) (v : Option Value) (h : Heap) : Prop := v = some (.int 0) ∧ h0 = h
set_option maxRecDepth 65536 in
set_option maxHeartbeats 40000000 in
theorem c_scoc (l : Launch) (Z : State) (a0 : Array Value) (hw : ∀ d ∈ tables_1, d.before a0 Z = true) (nn : Nat) (sf : Value) (h0 : Heap) (Ssf : Sta Z Z.heap "jdk/internal/util/Preconditions" "SIOOBE_FORMATTER" "Ljava/util/function/BiFunction;" sf) (rsf : sf.isRef = true) (hn : nn ≤ 8) :
    Con l Z (⟨"java/lang/String", "checkBoundsOffCount", "(III)I"⟩ : MethodName) jdk_42_method_157_code 3 (Option.some FieldType.int) [] ({ frames := 1, cells := 0, slots := 0, locals := 15 } : Room) #[(.int 0), (.int (Int32.ofNat nn)), (.int (Int32.ofNat nn))] h0 (Q_scoc Z nn sf h0) [] := by
  refine Con.of (plainFor_of_name pn_java_lang_String) ?_
  intro p e s m below meth c T0 B W0
  refine Go.cast (ef_scoc m nn sf ) ?_
  refine g_iload_n B W0 (d_jdk_42_method_157_0) rfl ?_
  refine g_iload_n B W0 (d_jdk_42_method_157_1) rfl ?_
  refine g_iload_n B W0 (d_jdk_42_method_157_2) rfl ?_
  obtain ⟨T101, W101, st101⟩ := x_gets B W0 (host := "") (d_jdk_42_method_157_3) (Or.inl (tw hw 99 rfl)) Via.refl Ssf #[.val (.int 0), .val (.int (Int32.ofNat nn)), .val (.int (Int32.ofNat nn))] [(.int (Int32.ofNat nn)), (.int (Int32.ofNat nn)), (.int 0)]
  refine st101 _ ?_
  obtain ⟨T102, h102, v102, W102, Q102, st102⟩ := x_static B W101 [(.int 0), (.int (Int32.ofNat nn)), (.int (Int32.ofNat nn)), sf] (c_pfis l Z a0 hw nn sf h0 rsf hn) (by simp) (d_jdk_42_method_157_6) (tw hw 101 rfl) (tw hw 102 rfl) (tw hw 100 rfl) (tw hw 103 rfl) (by decide) (lenOf pd__IIILjava_util_function_BiFunction__I rfl) #[.val (.int 0), .val (.int (Int32.ofNat nn)), .val (.int (Int32.ofNat nn))] [] rfl 0 rfl (by decide) (by decide) (by decide) (by decide)
  obtain ⟨rfl, rfl⟩ := Q102
  refine st102 _ ?_
  show Go p.tables e below _ T102 (mkF m 9 #[.val (.int 0), .val (.int (Int32.ofNat nn)), .val (.int (Int32.ofNat nn))] [(.int 0)])
  exact r_i B W102 (d_jdk_42_method_157_9) (by decide) (by decide) ⟨rfl, rfl⟩
theorem ef_ucoc (m : MethodId) (t1 : Addr) (kb : ClassId) (nn : Nat) (ff : Nat → Int32) (sf : Value) : entryFrame m #[(.int 0), (.int (Int32.ofNat nn)), (.ref t1)] 3 = mkF m 0 #[.val (.int 0), .val (.int (Int32.ofNat nn)), .val (.ref t1)] [] := by first | (simp [entryFrame, mkF, argsToLocals, Value.category]; done) | rfl
def Q_ucoc (Z : State) (t1 : Addr) (kb : ClassId) (nn : Nat) (ff : Nat → Int32) (sf : Value) (h0 : Heap) (v : Option Value) (h : Heap) : Prop := v = none ∧ h0 = h
set_option maxRecDepth 65536 in
set_option maxHeartbeats 40000000 in
theorem c_ucoc (l : Launch) (Z : State) (a0 : Array Value) (hw : ∀ d ∈ tables_1, d.before a0 Z = true) (t1 : Addr) (kb : ClassId) (nn : Nat) (ff : Nat → Int32) (sf : Value) (h0 : Heap) (Ssf : Sta Z Z.heap "jdk/internal/util/Preconditions" "SIOOBE_FORMATTER" "Ljava/util/function/BiFunction;" sf) (rsf : sf.isRef = true) (A1 : Arv Z h0 t1 kb .byte (Int32.ofNat (2 * nn)) (arl (2 * nn) (wbf ff)) (.int 0)) (hn : nn ≤ 8) :
    Con l Z (⟨"java/lang/StringUTF16", "checkBoundsOffCount", "(II[B)V"⟩ : MethodName) jdk_52_method_94_code 3 (Option.none : Option FieldType) [] ({ frames := 2, cells := 0, slots := 0, locals := 30 } : Room) #[(.int 0), (.int (Int32.ofNat nn)), (.ref t1)] h0 (Q_ucoc Z t1 kb nn ff sf h0) [] := by
  refine Con.of (plainFor_of_name pn_java_lang_StringUTF16) ?_
  intro p e s m below meth c T0 B W0
  refine Go.cast (ef_ucoc m t1 kb nn ff sf ) ?_
  refine g_iload_n B W0 (d_jdk_52_method_94_0) rfl ?_
  refine g_iload_n B W0 (d_jdk_52_method_94_1) rfl ?_
  refine g_aload_n B W0 (d_jdk_52_method_94_2) rfl rfl ?_
  obtain ⟨T101, h101, v101, W101, Q101, st101⟩ := x_static B W0 [(.ref t1)] (c_ulen l Z a0 hw t1 kb nn ff h0 A1 hn) (by simp) (d_jdk_52_method_94_3) (tw hw 93 rfl) (tw hw 94 rfl) (tw hw 26 rfl) (tw hw 95 rfl) (by decide) (lenOf pd___B_I rfl) #[.val (.int 0), .val (.int (Int32.ofNat nn)), .val (.ref t1)] [(.int (Int32.ofNat nn)), (.int 0)] rfl 2 rfl (by decide) (by decide) (by decide) (by decide)
  obtain ⟨rfl, rfl⟩ := Q101
  refine st101 _ ?_
  obtain ⟨T102, h102, v102, W102, Q102, st102⟩ := x_static B W101 [(.int 0), (.int (Int32.ofNat nn)), (.int (Int32.ofNat nn))] (c_scoc l Z a0 hw nn sf h0 Ssf rsf hn) (by simp) (d_jdk_52_method_94_6) (tw hw 96 rfl) (tw hw 97 rfl) (tw hw 12 rfl) (tw hw 98 rfl) (by decide) (lenOf pd__III_I rfl) #[.val (.int 0), .val (.int (Int32.ofNat nn)), .val (.ref t1)] [] rfl 0 rfl (by decide) (by decide) (by decide) (by decide)
  obtain ⟨rfl, rfl⟩ := Q102
  refine st102 _ ?_
  show Go p.tables e below _ T102 (mkF m 9 #[.val (.int 0), .val (.int (Int32.ofNat nn)), .val (.ref t1)] [(.int 0)])
  refine g_pop B W102 (d_jdk_52_method_94_9) rfl ?_
  exact r_v B W102 (d_jdk_52_method_94_10) (by decide) (by decide) ⟨rfl, rfl⟩
theorem ef_getcs (m : MethodId) (t1 : Addr) (kb : ClassId) (ar : Addr) (kA : ClassId) (nn : Nat) (ff : Nat → Int32) (sf : Value) : entryFrame m #[(.ref t1), (.int 0), (.int (Int32.ofNat nn)), (.ref ar), (.int 0)] 6 = mkF m 0 #[.val (.ref t1), .val (.int 0), .val (.int (Int32.ofNat nn)), .val (.ref ar), .val (.int 0), .unset] [] := by first | (simp [entryFrame, mkF, argsToLocals, Value.category]; done) | rfl
def Q_getcs (Z : State) (t1 : Addr) (kb : ClassId) (ar : Addr) (kA : ClassId) (nn : Nat) (ff : Nat → Int32) (sf : Value) (h0 : Heap) (v : Option Value) (h : Heap) : Prop := v = none ∧ Keep h0 h [ar] ∧ Arv Z h ar kA .char (Int32.ofNat nn) (arl nn ff) (.int 0)
set_option maxRecDepth 65536 in
set_option maxHeartbeats 40000000 in
theorem c_getcs (l : Launch) (Z : State) (a0 : Array Value) (hw : ∀ d ∈ tables_1, d.before a0 Z = true) (t1 : Addr) (kb : ClassId) (ar : Addr) (kA : ClassId) (nn : Nat) (ff : Nat → Int32) (sf : Value) (h0 : Heap) (Ssf : Sta Z Z.heap "jdk/internal/util/Preconditions" "SIOOBE_FORMATTER" "Ljava/util/function/BiFunction;" sf) (rsf : sf.isRef = true) (Sad : Sta Z Z.heap "java/lang/StringUTF16" "$assertionsDisabled" "Z" (.int 1)) (Shi : Sta Z Z.heap "java/lang/StringUTF16" "HI_BYTE_SHIFT" "I" (.int 0)) (Slo : Sta Z Z.heap "java/lang/StringUTF16" "LO_BYTE_SHIFT" "I" (.int 8)) (A1 : Arv Z h0 t1 kb .byte (Int32.ofNat (2 * nn)) (arl (2 * nn) (wbf ff)) (.int 0)) (A2 : Arv Z h0 ar kA .char (Int32.ofNat nn) (arl nn fun _ => 0) (.int 0)) (g1 : Z.heap.size ≤ ar) (nb : ¬ @Eq Nat t1 ar) (rf : ∀ i, i < nn → ¬ ff i < 0 ∧ ¬ 65535 < ff i) (h1n : 1 ≤ nn) (hn : nn ≤ 8) :
    Con l Z (⟨"java/lang/StringUTF16", "getChars", "([BII[CI)V"⟩ : MethodName) jdk_52_method_26_code 6 (Option.none : Option FieldType) [] ({ frames := 3, cells := 0, slots := 0, locals := 44 } : Room) #[(.ref t1), (.int 0), (.int (Int32.ofNat nn)), (.ref ar), (.int 0)] h0 (Q_getcs Z t1 kb ar kA nn ff sf h0) [] := by
  refine Con.of (plainFor_of_name pn_java_lang_StringUTF16) ?_
  intro p e s m below meth c T0 B W0
  refine Go.cast (ef_getcs m t1 kb ar kA nn ff sf ) ?_
  refine g_iload_n B W0 (d_jdk_52_method_26_0) rfl ?_
  refine g_iload_n B W0 (d_jdk_52_method_26_1) rfl ?_
  refine g_icmp_n B W0 (d_jdk_52_method_26_2) (XT.ii_ge_f ((own_lt (i := 0) (by omega) (by omega)).mpr (by omega))) ?_
  show Go p.tables e below _ T0 (mkF m 5 #[.val (.ref t1), .val (.int 0), .val (.int (Int32.ofNat nn)), .val (.ref ar), .val (.int 0), .unset] [])
  refine g_iload_n B W0 (d_jdk_52_method_26_5) rfl ?_
  refine g_iload_n B W0 (d_jdk_52_method_26_6) rfl ?_
  refine g_iload_n B W0 (d_jdk_52_method_26_7) rfl ?_
  refine g_isub B W0 (d_jdk_52_method_26_8)  ?_
  rw [Int32.sub_zero]
  show Go p.tables e below _ T0 (mkF m 9 #[.val (.ref t1), .val (.int 0), .val (.int (Int32.ofNat nn)), .val (.ref ar), .val (.int 0), .unset] [(.int (Int32.ofNat nn)), (.int 0)])
  refine g_aload_n B W0 (d_jdk_52_method_26_9) rfl rfl ?_
  obtain ⟨T101, h101, v101, W101, Q101, st101⟩ := x_static B W0 [(.int 0), (.int (Int32.ofNat nn)), (.ref t1)] (c_ucoc l Z a0 hw t1 kb nn ff sf h0 Ssf rsf A1 hn) (by simp) (d_jdk_52_method_26_10) (tw hw 90 rfl) (tw hw 91 rfl) (tw hw 26 rfl) (tw hw 92 rfl) (by decide) (lenOf pd__II_B_V rfl) #[.val (.ref t1), .val (.int 0), .val (.int (Int32.ofNat nn)), .val (.ref ar), .val (.int 0), .unset] [] rfl 0 rfl (by decide) (by decide) (by decide) (by decide)
  obtain ⟨rfl, rfl⟩ := Q101
  refine st101 _ ?_
  refine g_iload_n B W101 (d_jdk_52_method_26_13) rfl ?_
  refine g_istore B W101 (d_jdk_52_method_26_14)  (l' := #[.val (.ref t1), .val (.int 0), .val (.int (Int32.ofNat nn)), .val (.ref ar), .val (.int 0), .val (.int 0)]) rfl ?_
  have loop : ∀ (r : Nat) (i : Nat) (g : Nat → Int32) (h1 : Heap) (T : State), (i + r = nn) → (Keep h0 h1 [ar]) → (Arv Z h1 ar kA .char (Int32.ofNat nn) (arl nn g) (.int 0)) → (∀ j, j < i → g j = ff j) → Wk p l e ({ frames := 3, cells := 0, slots := 0, locals := 44 } : Room) s m #[(.ref t1), (.int 0), (.int (Int32.ofNat nn)), (.ref ar), (.int 0)] below meth c Z T h1 0 0 [] → Go p.tables e below (Jvm.OwnK.Out Z s (Q_getcs Z t1 kb ar kA nn ff sf h0) ({ frames := 3, cells := 0, slots := 0, locals := 44 } : Room).cells ({ frames := 3, cells := 0, slots := 0, locals := 44 } : Room).slots) T (mkF m 16 #[.val (.ref t1), .val (.int 0), .val (.int (Int32.ofNat nn)), .val (.ref ar), .val (.int (Int32.ofNat i)), .val (.int (Int32.ofNat i))] []) := by
    intro r; induction r with
    | zero =>
      intro i g h1 T hr K1 A3 hg W
      refine g_iload B W (d_jdk_52_method_26_16) rfl ?_
      refine g_iload_n B W (d_jdk_52_method_26_18) rfl ?_
      refine g_icmp_y B W (d_jdk_52_method_26_19) (XT.ii_ge_t (by rw [own_lt (by omega) (by omega)]; omega)) (pc' := 41) (by decide) ?_
      show Go p.tables e below _ T (mkF m 41 #[.val (.ref t1), .val (.int 0), .val (.int (Int32.ofNat nn)), .val (.ref ar), .val (.int (Int32.ofNat i)), .val (.int (Int32.ofNat i))] [])
      exact r_v B W (d_jdk_52_method_26_41) (by decide) (by decide) ⟨rfl, K1, (arl_congr (n := nn) (f := g) (g := ff) fun j hj => hg j (by omega)) ▸ A3⟩
    | succ r ih =>
      intro i g h1 T hr K1 A3 hg W
      have hil : i < nn := by omega
      refine g_iload B W (d_jdk_52_method_26_16) rfl ?_
      refine g_iload_n B W (d_jdk_52_method_26_18) rfl ?_
      refine g_icmp_n B W (d_jdk_52_method_26_19) (XT.ii_ge_f ((own_lt (by omega) (by omega)).mpr hil)) ?_
      show Go p.tables e below _ T (mkF m 22 #[.val (.ref t1), .val (.int 0), .val (.int (Int32.ofNat nn)), .val (.ref ar), .val (.int (Int32.ofNat i)), .val (.int (Int32.ofNat i))] [])
      refine g_aload_n B W (d_jdk_52_method_26_22) rfl rfl ?_
      refine g_iload B W (d_jdk_52_method_26_23) rfl ?_
      refine g_iinc B W (d_jdk_52_method_26_25) (v := 1) (l' := #[.val (.ref t1), .val (.int 0), .val (.int (Int32.ofNat nn)), .val (.ref ar), .val (.int (Int32.ofNat i + 1)), .val (.int (Int32.ofNat i))]) (by decide) rfl rfl ?_
      rw [own_inc]
      show Go p.tables e below _ T (mkF m 28 #[.val (.ref t1), .val (.int 0), .val (.int (Int32.ofNat nn)), .val (.ref ar), .val (.int (Int32.ofNat (i + 1))), .val (.int (Int32.ofNat i))] [(.int (Int32.ofNat i)), (.ref ar)])
      refine g_aload_n B W (d_jdk_52_method_26_28) rfl rfl ?_
      refine g_iload B W (d_jdk_52_method_26_29) rfl ?_
      have f102 := (A1.keep K1 (ninS (nne (by have q := nlt A1.lt; omega)) nin0))
      obtain ⟨T103, h103, v103, W103, Q103, st103⟩ := x_static B W [(.ref t1), (.int (Int32.ofNat i))] (c_getc l Z a0 hw t1 kb nn ff i h1 Sad Shi Slo f102 hil (by omega) (rf _ hil)) (by simp) (d_jdk_52_method_26_31) (tw hw 81 rfl) (tw hw 82 rfl) (tw hw 26 rfl) (tw hw 83 rfl) (by decide) (lenOf pd___BI_C rfl) #[.val (.ref t1), .val (.int 0), .val (.int (Int32.ofNat nn)), .val (.ref ar), .val (.int (Int32.ofNat (i + 1))), .val (.int (Int32.ofNat i))] [(.int (Int32.ofNat i)), (.ref ar)] rfl 2 rfl (by decide) (by decide) (by decide) (by decide)
      obtain ⟨rfl, rfl⟩ := Q103
      refine st103 _ ?_
      obtain ⟨T104, h104, W104, K104, A104, st104⟩ := x_castore B W103 (j := Int32.ofNat i) (x := (ff i)) (d_jdk_52_method_26_34) A3 (own_ixok (i := i) (n := nn) hil (by omega)) (by rw [own_clamp (by omega), arl_len]; exact hil) (by omega) #[.val (.ref t1), .val (.int 0), .val (.int (Int32.ofNat nn)), .val (.ref ar), .val (.int (Int32.ofNat (i + 1))), .val (.int (Int32.ofNat i))] []
      refine st104 _ ?_
      rw [own_clamp (by omega), show nar .char (ff i) = (ff i) from own_narc (rf i hil).1 (rf i hil).2, arl_set] at A104
      have s105 := K104.1
      show Go p.tables e below _ T104 (mkF m 35 #[.val (.ref t1), .val (.int 0), .val (.int (Int32.ofNat nn)), .val (.ref ar), .val (.int (Int32.ofNat (i + 1))), .val (.int (Int32.ofNat i))] [])
      refine g_iinc B W104 (d_jdk_52_method_26_35) (v := 1) (l' := #[.val (.ref t1), .val (.int 0), .val (.int (Int32.ofNat nn)), .val (.ref ar), .val (.int (Int32.ofNat (i + 1))), .val (.int (Int32.ofNat i + 1))]) (by decide) rfl rfl ?_
      rw [own_inc]
      show Go p.tables e below _ T104 (mkF m 38 #[.val (.ref t1), .val (.int 0), .val (.int (Int32.ofNat nn)), .val (.ref ar), .val (.int (Int32.ofNat (i + 1))), .val (.int (Int32.ofNat (i + 1)))] [])
      refine g_goto B W104 (d_jdk_52_method_26_38) (pc' := 16) (by decide) ?_
      show Go p.tables e below _ T104 (mkF m 16 #[.val (.ref t1), .val (.int 0), .val (.int (Int32.ofNat nn)), .val (.ref ar), .val (.int (Int32.ofNat (i + 1))), .val (.int (Int32.ofNat (i + 1)))] [])
      exact ih _ _ _ _ (by omega) (((Keep.refl h0 [ar]).trans K1 (allS (Or.inl (by simp)) all0)).trans K104 (allS (Or.inl (by simp)) all0)) A104 (own_fill (P := fun j x => x = ff j) hg rfl) W104
  exact loop nn 0 _ h0 _ (by omega) (Keep.refl h0 [ar]) A2 (fun j hj => absurd hj (by omega)) W101
theorem ef_tocu (m : MethodId) (t1 : Addr) (kb : ClassId) (nn : Nat) (ff : Nat → Int32) (sf : Value) : entryFrame m #[(.ref t1)] 2 = mkF m 0 #[.val (.ref t1), .unset] [] := by first | (simp [entryFrame, mkF, argsToLocals, Value.category]; done) | rfl
def Q_tocu (Z : State) (t1 : Addr) (kb : ClassId) (nn : Nat) (ff : Nat → Int32) (sf : Value) (h0 : Heap) (v : Option Value) (h : Heap) : Prop := ∃ (b : Addr) (kA : ClassId), v = some (.ref b) ∧ Keep h0 h [] ∧ Arv Z h b kA .char (Int32.ofNat nn) (arl nn ff) (.int 0)
set_option maxRecDepth 65536 in
set_option maxHeartbeats 40000000 in
theorem c_tocu (l : Launch) (Z : State) (a0 : Array Value) (hw : ∀ d ∈ tables_1, d.before a0 Z = true) (t1 : Addr) (kb : ClassId) (nn : Nat) (ff : Nat → Int32) (sf : Value) (h0 : Heap) (Ssf : Sta Z Z.heap "jdk/internal/util/Preconditions" "SIOOBE_FORMATTER" "Ljava/util/function/BiFunction;" sf) (rsf : sf.isRef = true) (Sad : Sta Z Z.heap "java/lang/StringUTF16" "$assertionsDisabled" "Z" (.int 1)) (Shi : Sta Z Z.heap "java/lang/StringUTF16" "HI_BYTE_SHIFT" "I" (.int 0)) (Slo : Sta Z Z.heap "java/lang/StringUTF16" "LO_BYTE_SHIFT" "I" (.int 8)) (A1 : Arv Z h0 t1 kb .byte (Int32.ofNat (2 * nn)) (arl (2 * nn) (wbf ff)) (.int 0)) (rf : ∀ i, i < nn → ¬ ff i < 0 ∧ ¬ 65535 < ff i) (h1n : 1 ≤ nn) (hn : nn ≤ 8) :
    Con l Z (⟨"java/lang/StringUTF16", "toChars", "([B)[C"⟩ : MethodName) jdk_52_method_13_code 2 (Option.some (FieldType.array FieldType.char)) [] ({ frames := 4, cells := 1, slots := 8, locals := 61 } : Room) #[(.ref t1)] h0 (Q_tocu Z t1 kb nn ff sf h0) [] := by
  refine Con.of (plainFor_of_name pn_java_lang_StringUTF16) ?_
  intro p e s m below meth c T0 B W0
  refine Go.cast (ef_tocu m t1 kb nn ff sf ) ?_
  have l_t1 := nlt A1.lt
  refine g_aload_n B W0 (d_jdk_52_method_13_0) rfl rfl ?_
  refine g_aalen B W0 (d_jdk_52_method_13_1) A1 ?_
  refine g_iconst B W0 (d_jdk_52_method_13_2) (v := 1) (by decide) ?_
  refine g_ishr B W0 (d_jdk_52_method_13_3)  ?_
  rw [own_half (by omega)]
  show Go p.tables e below _ T0 (mkF m 4 #[.val (.ref t1), .unset] [(.int (Int32.ofNat nn))])
  obtain ⟨T101, h101, b101, cA101, gb101, W101, K101, A101, st101⟩ := x_newA B W0 (z := Int32.ofNat nn) 8 (d_jdk_52_method_13_4) (tw hw 2 rfl) (own_nneg (by omega)) (by rw [own_clamp (by omega)]; omega) (by decide) (by decide) (by decide) #[.val (.ref t1), .unset] []
  have l101 := nlt A101.lt
  have z101 := W0.size
  refine st101 _ ?_
  have A101 := arl_of_rep (by omega) (by decide) A101
  have s102 := K101.1
  show Go p.tables e below _ T101 (mkF m 6 #[.val (.ref t1), .unset] [(.ref b101)])
  refine g_astore_n B W101 (d_jdk_52_method_13_6) rfl (l' := #[.val (.ref t1), .val (.ref b101)]) rfl ?_
  refine g_aload_n B W101 (d_jdk_52_method_13_7) rfl rfl ?_
  refine g_iconst B W101 (d_jdk_52_method_13_8) (v := 0) (by decide) ?_
  refine g_aload_n B W101 (d_jdk_52_method_13_9) rfl rfl ?_
  refine g_aalen B W101 (d_jdk_52_method_13_10) A101 ?_
  refine g_aload_n B W101 (d_jdk_52_method_13_11) rfl rfl ?_
  refine g_iconst B W101 (d_jdk_52_method_13_12) (v := 0) (by decide) ?_
  have f103 := (A1.keep K101 nin0)
  obtain ⟨T104, h104, v104, W104, Q104, st104⟩ := x_static B W101 [(.ref t1), (.int 0), (.int (Int32.ofNat nn)), (.ref b101), (.int 0)] (c_getcs l Z a0 hw t1 kb b101 cA101 nn ff sf h101 Ssf rsf Sad Shi Slo f103 A101 (by omega) (by omega) rf h1n hn) (by simp) (d_jdk_52_method_13_13) (tw hw 87 rfl) (tw hw 88 rfl) (tw hw 26 rfl) (tw hw 89 rfl) (by decide) (lenOf pd___BII_CI_V rfl) #[.val (.ref t1), .val (.ref b101)] [] rfl 0 rfl (by decide) (by decide) (by decide) (by decide)
  obtain ⟨rfl, K104, A104⟩ := Q104
  have s105 := K104.1
  refine st104 _ ?_
  refine g_aload_n B W104 (d_jdk_52_method_13_16) rfl rfl ?_
  exact r_a B W104 rfl rfl rfl (d_jdk_52_method_13_17) (by decide) (by decide) ⟨_, _, rfl, (((Keep.refl h0 []).trans K101 all0).trans K104 (allS (Or.inr (by omega)) all0)), A104⟩
theorem ef_tca (m : MethodId) (a1 : Addr) (nn : Nat) (ff : Nat → Int32) (cz : Int32) (sf : Value) : entryFrame m #[(.ref a1)] 1 = mkF m 0 #[.val (.ref a1)] [] := by first | (simp [entryFrame, mkF, argsToLocals, Value.category]; done) | rfl
def Q_tca (Z : State) (a1 : Addr) (nn : Nat) (ff : Nat → Int32) (cz : Int32) (sf : Value) (h0 : Heap) (v : Option Value) (h : Heap) : Prop := ∃ (b : Addr) (kA : ClassId), v = some (.ref b) ∧ Keep h0 h [] ∧ Arv Z h b kA .char (Int32.ofNat nn) (arl nn ff) (.int 0)
set_option maxRecDepth 65536 in
set_option maxHeartbeats 40000000 in
theorem c_tca (l : Launch) (Z : State) (a0 : Array Value) (hw : ∀ d ∈ tables_1, d.before a0 Z = true) (a1 : Addr) (nn : Nat) (ff : Nat → Int32) (cz : Int32) (sf : Value) (h0 : Heap) (Scs : Sta Z Z.heap "java/lang/String" "COMPACT_STRINGS" "Z" (.int cz)) (hcz : ¬ cz = 0) (Ssf : Sta Z Z.heap "jdk/internal/util/Preconditions" "SIOOBE_FORMATTER" "Ljava/util/function/BiFunction;" sf) (rsf : sf.isRef = true) (Sad : Sta Z Z.heap "java/lang/StringUTF16" "$assertionsDisabled" "Z" (.int 1)) (Shi : Sta Z Z.heap "java/lang/StringUTF16" "HI_BYTE_SHIFT" "I" (.int 0)) (Slo : Sta Z Z.heap "java/lang/StringUTF16" "LO_BYTE_SHIFT" "I" (.int 8)) (S1 : StrC Z h0 a1 nn ff) (hn : nn ≤ 8) :
    Con l Z (⟨"java/lang/String", "toCharArray", "()[C"⟩ : MethodName) jdk_42_method_129_code 1 (Option.some (FieldType.array FieldType.char)) [] ({ frames := 5, cells := 1, slots := 8, locals := 74 } : Room) #[(.ref a1)] h0 (Q_tca Z a1 nn ff cz sf h0) [] := by
  refine Con.of (plainFor_of_name pn_java_lang_String) ?_
  intro p e s m below meth c T0 B W0
  refine Go.cast (ef_tca m a1 nn ff cz sf ) ?_
  obtain ⟨t1, kb1, E_a1, Fv_a1, D_a1, rf, L_a1⟩ := S1
  rcases D_a1 with ⟨Fc_a1, hlat, A_t1⟩ | ⟨Fc_a1, h1n, A_t1⟩
  · skip
    have l_t1 := nlt A_t1.lt
    refine g_aload_n B W0 (d_jdk_42_method_129_0) rfl rfl ?_
    obtain ⟨T101, h101, v101, W101, Q101, st101⟩ := x_virtual B W0 (b := a1) [] (c_isLat0 l Z a0 hw a1 cz h0 Scs hcz Fc_a1) (by simp) E_a1 (d_jdk_42_method_129_1) (tw hw 48 rfl) (tw hw 49 rfl) (tw hw 51 rfl) (tw hw 50 rfl) (tw hw 12 rfl) (tw hw 52 rfl) (by decide) (lenOf pd___Z rfl) #[.val (.ref a1)] [] rfl 0 rfl (by decide) (by decide) (by decide) (by decide)
    obtain ⟨rfl, rfl⟩ := Q101
    refine st101 _ ?_
    show Go p.tables e below _ T101 (mkF m 4 #[.val (.ref a1)] [(.int 1)])
    refine g_if_n B W101 (d_jdk_42_method_129_4) (XT.i0_eq_f (by decide)) ?_
    show Go p.tables e below _ T101 (mkF m 7 #[.val (.ref a1)] [])
    refine g_aload_n B W101 (d_jdk_42_method_129_7) rfl rfl ?_
    obtain ⟨T102, W102, st102⟩ := x_get B W101 (host := "") (d_jdk_42_method_129_8) (Or.inl (tw hw 37 rfl)) Via.refl Fv_a1 #[.val (.ref a1)] []
    refine st102 _ ?_
    obtain ⟨T103, h103, v103, W103, Q103, st103⟩ := x_static B W102 [(.ref t1)] (c_tocl l Z a0 hw t1 kb1 nn ff h0 A_t1 (fun i hi => ⟨(rf i hi).1, hlat i hi⟩) hn) (by simp) (d_jdk_42_method_129_11) (tw hw 53 rfl) (tw hw 54 rfl) (tw hw 55 rfl) (tw hw 56 rfl) (by decide) (lenOf pd___B__C rfl) #[.val (.ref a1)] [] rfl 0 rfl (by decide) (by decide) (by decide) (by decide)
    obtain ⟨b103, kA103, rfl, K103, A103⟩ := Q103
    have s104 := K103.1
    refine st103 _ ?_
    refine g_goto B W103 (d_jdk_42_method_129_14) (pc' := 24) (by decide) ?_
    show Go p.tables e below _ T103 (mkF m 24 #[.val (.ref a1)] [(.ref b103)])
    exact r_a B W103 rfl rfl rfl (d_jdk_42_method_129_24) (by decide) (by decide) ⟨_, _, rfl, ((Keep.refl h0 []).trans K103 all0), A103⟩
  · skip
    have l_t1 := nlt A_t1.lt
    refine g_aload_n B W0 (d_jdk_42_method_129_0) rfl rfl ?_
    obtain ⟨T105, h105, v105, W105, Q105, st105⟩ := x_virtual B W0 (b := a1) [] (c_isLat1 l Z a0 hw a1 cz h0 Scs hcz Fc_a1) (by simp) E_a1 (d_jdk_42_method_129_1) (tw hw 48 rfl) (tw hw 49 rfl) (tw hw 51 rfl) (tw hw 50 rfl) (tw hw 12 rfl) (tw hw 52 rfl) (by decide) (lenOf pd___Z rfl) #[.val (.ref a1)] [] rfl 0 rfl (by decide) (by decide) (by decide) (by decide)
    obtain ⟨rfl, rfl⟩ := Q105
    refine st105 _ ?_
    show Go p.tables e below _ T105 (mkF m 4 #[.val (.ref a1)] [(.int 0)])
    refine g_if_y B W105 (d_jdk_42_method_129_4) (XT.i0_eq_t (by decide)) (pc' := 17) (by decide) ?_
    show Go p.tables e below _ T105 (mkF m 17 #[.val (.ref a1)] [])
    refine g_aload_n B W105 (d_jdk_42_method_129_17) rfl rfl ?_
    obtain ⟨T106, W106, st106⟩ := x_get B W105 (host := "") (d_jdk_42_method_129_18) (Or.inl (tw hw 37 rfl)) Via.refl Fv_a1 #[.val (.ref a1)] []
    refine st106 _ ?_
    obtain ⟨T107, h107, v107, W107, Q107, st107⟩ := x_static B W106 [(.ref t1)] (c_tocu l Z a0 hw t1 kb1 nn ff sf h0 Ssf rsf Sad Shi Slo A_t1 rf h1n hn) (by simp) (d_jdk_42_method_129_21) (tw hw 84 rfl) (tw hw 85 rfl) (tw hw 26 rfl) (tw hw 86 rfl) (by decide) (lenOf pd___B__C rfl) #[.val (.ref a1)] [] rfl 0 rfl (by decide) (by decide) (by decide) (by decide)
    obtain ⟨b107, kA107, rfl, K107, A107⟩ := Q107
    have s108 := K107.1
    refine st107 _ ?_
    exact r_a B W107 rfl rfl rfl (d_jdk_42_method_129_24) (by decide) (by decide) ⟨_, _, rfl, ((Keep.refl h0 []).trans K107 all0), A107⟩
theorem ef_sks (m : MethodId) (a1 : Addr) (nn : Nat) (ff : Nat → Int32) (ka : Addr) (kc : Cell) (cz : Int32) (sf : Value) : entryFrame m #[(.ref a1)] 1 = mkF m 0 #[.val (.ref a1)] [] := by first | (simp [entryFrame, mkF, argsToLocals, Value.category]; done) | rfl
def Q_sks (Z : State) (a1 : Addr) (nn : Nat) (ff : Nat → Int32) (ka : Addr) (kc : Cell) (cz : Int32) (sf : Value) (h0 : Heap) (v : Option Value) (h : Heap) : Prop := v = some (.int (hfold ff nn)) ∧ Keep h0 h []
set_option maxRecDepth 65536 in
set_option maxHeartbeats 40000000 in
theorem c_sks (l : Launch) (Z : State) (a0 : Array Value) (hw : ∀ d ∈ tables_1, d.before a0 Z = true) (a1 : Addr) (nn : Nat) (ff : Nat → Int32) (ka : Addr) (kc : Cell) (cz : Int32) (sf : Value) (h0 : Heap) (Scs : Sta Z Z.heap "java/lang/String" "COMPACT_STRINGS" "Z" (.int cz)) (hcz : ¬ cz = 0) (Ssf : Sta Z Z.heap "jdk/internal/util/Preconditions" "SIOOBE_FORMATTER" "Ljava/util/function/BiFunction;" sf) (rsf : sf.isRef = true) (Sad : Sta Z Z.heap "java/lang/StringUTF16" "$assertionsDisabled" "Z" (.int 1)) (Shi : Sta Z Z.heap "java/lang/StringUTF16" "HI_BYTE_SHIFT" "I" (.int 0)) (Slo : Sta Z Z.heap "java/lang/StringUTF16" "LO_BYTE_SHIFT" "I" (.int 8)) (Sk : Sta Z Z.heap "com/example/stratify/stratify/EnvironmentNames" "KEPT" "[C" (.ref ka)) (Ak : Arr Z Z.heap ka kc .char) (lk_ : kc.slots.size.toInt32 = 128) (sk : kc.slots.size = 128) (vk : ∀ j : Int32, ¬ j < 0 → j < 128 → kc.slots[j.toNatClampNeg]? = some (.int (kept j))) (S1 : StrC Z h0 a1 nn ff) (hn : nn ≤ 8) (rf : ∀ i, i < nn → ¬ ff i < 0 ∧ ¬ 65535 < ff i) :
    Con l Z (⟨"com/example/stratify/stratify/EnvironmentNames", "skeletonHash", "(Ljava/lang/String;)I"⟩ : MethodName) prog_7_method_10_code 1 (Option.some FieldType.int) [] ({ frames := 6, cells := 1, slots := 8, locals := 86 } : Room) #[(.ref a1)] h0 (Q_sks Z a1 nn ff ka kc cz sf h0) [] := by
  refine Con.of (plainFor_of_name pn_com_example_stratify_stratify_EnvironmentNames) ?_
  intro p e s m below meth c T0 B W0
  refine Go.cast (ef_sks m a1 nn ff ka kc cz sf ) ?_
  have E_a1 := S1.exa
  refine g_aload_n B W0 (d_prog_7_method_10_0) rfl rfl ?_
  obtain ⟨T101, h101, v101, W101, Q101, st101⟩ := x_virtual B W0 (b := a1) [] (c_tca l Z a0 hw a1 nn ff cz sf h0 Scs hcz Ssf rsf Sad Shi Slo S1 hn) (by simp) E_a1 (d_prog_7_method_10_1) (tw hw 43 rfl) (tw hw 44 rfl) (tw hw 46 rfl) (tw hw 45 rfl) (tw hw 12 rfl) (tw hw 47 rfl) (by decide) (lenOf pd____C rfl) #[.val (.ref a1)] [] rfl 0 rfl (by decide) (by decide) (by decide) (by decide)
  obtain ⟨b101, kA101, rfl, K101, A101⟩ := Q101
  have s102 := K101.1
  refine st101 _ ?_
  obtain ⟨T103, h103, v103, W103, Q103, st103⟩ := x_static B W101 [(.ref b101)] (c_skc l Z a0 hw b101 kA101 nn ff ka kc h101 A101 rf hn Sk Ak lk_ sk vk) (by simp) (d_prog_7_method_10_4) (tw hw 60 rfl) (tw hw 61 rfl) (tw hw 41 rfl) (tw hw 62 rfl) (by decide) (lenOf pd___C_I rfl) #[.val (.ref a1)] [] rfl 0 rfl (by decide) (by decide) (by decide) (by decide)
  obtain ⟨rfl, rfl⟩ := Q103
  refine st103 _ ?_
  exact r_i B W103 (d_prog_7_method_10_7) (by decide) (by decide) ⟨rfl, ((Keep.refl h0 []).trans K101 all0)⟩
theorem ef_law (m : MethodId) (p1 : Int32) (p2 : Int32) (p3 : Int32) (p4 : Int32) (ka : Addr) (kc : Cell) (cz : Int32) (sf : Value) : entryFrame m #[(.int p1), (.int p2), (.int p3), (.int p4)] maxLocals = mkF m 0 #[.val (.int p1), .val (.int p2), .val (.int p3), .val (.int p4), .unset, .unset, .unset, .unset, .unset, .unset, .unset, .unset, .unset] [] := by first | (simp [entryFrame, mkF, argsToLocals, Value.category, maxLocals]; done) | rfl
def Q_law (Z : State) (p1 : Int32) (p2 : Int32) (p3 : Int32) (p4 : Int32) (ka : Addr) (kc : Cell) (cz : Int32) (sf : Value) (h0 : Heap) (v : Option Value) (h : Heap) : Prop := v = some (.int 1)
set_option maxRecDepth 65536 in
set_option maxHeartbeats 40000000 in
theorem c_law (l : Launch) (Z : State) (a0 : Array Value) (hw : ∀ d ∈ tables_1, d.before a0 Z = true) (ws : List Jvm.Cond) (p1 : Int32) (p2 : Int32) (p3 : Int32) (p4 : Int32) (ka : Addr) (kc : Cell) (cz : Int32) (sf : Value) (h0 : Heap) (Scs : Sta Z Z.heap "java/lang/String" "COMPACT_STRINGS" "Z" (.int cz)) (hcz : ¬ cz = 0) (Ssf : Sta Z Z.heap "jdk/internal/util/Preconditions" "SIOOBE_FORMATTER" "Ljava/util/function/BiFunction;" sf) (rsf : sf.isRef = true) (Sad : Sta Z Z.heap "java/lang/StringUTF16" "$assertionsDisabled" "Z" (.int 1)) (Shi : Sta Z Z.heap "java/lang/StringUTF16" "HI_BYTE_SHIFT" "I" (.int 0)) (Slo : Sta Z Z.heap "java/lang/StringUTF16" "LO_BYTE_SHIFT" "I" (.int 8)) (Sk : Sta Z Z.heap "com/example/stratify/stratify/EnvironmentNames" "KEPT" "[C" (.ref ka)) (Ak : Arr Z Z.heap ka kc .char) (lk_ : kc.slots.size.toInt32 = 128) (sk : kc.slots.size = 128) (vk : ∀ j : Int32, ¬ j < 0 → j < 128 → kc.slots[j.toNatClampNeg]? = some (.int (kept j))) :
    Con l Z x code maxLocals ret ws room_1 #[(.int p1), (.int p2), (.int p3), (.int p4)] h0 (Q_law Z p1 p2 p3 p4 ka kc cz sf h0) [] := by
  refine Con.of (plainFor_of_name pn_com_example_stratify_stratify_EnvironmentNamesSkeletonHashPinLaw) ?_
  intro p e s m below meth c T0 B W0
  refine Go.cast (ef_law m p1 p2 p3 p4 ka kc cz sf ) ?_
  refine g_iload_n B W0 at_0 rfl ?_
  refine g_ldcI B W0 at_1 (tw hw 0 rfl) ?_
  refine g_iand B W0 at_3  ?_
  refine g_i2c B W0 at_4  ?_
  obtain ⟨x101, ex101, nx101, rx101⟩ := own_i2c (p1 &&& 65535)
  rw [ex101]
  refine g_istore B W0 at_5  (l' := #[.val (.int p1), .val (.int p2), .val (.int p3), .val (.int p4), .val (.int x101), .unset, .unset, .unset, .unset, .unset, .unset, .unset, .unset]) rfl ?_
  refine g_iload_n B W0 at_7 rfl ?_
  refine g_bipush B W0 at_8 (v := 16) (by decide) ?_
  refine g_iushr B W0 at_10  ?_
  refine g_ldcI B W0 at_11 (tw hw 0 rfl) ?_
  refine g_iand B W0 at_13  ?_
  refine g_i2c B W0 at_14  ?_
  obtain ⟨x102, ex102, nx102, rx102⟩ := own_i2c ((XT.ushr p1 16) &&& 65535)
  rw [ex102]
  refine g_istore B W0 at_15  (l' := #[.val (.int p1), .val (.int p2), .val (.int p3), .val (.int p4), .val (.int x101), .val (.int x102), .unset, .unset, .unset, .unset, .unset, .unset, .unset]) rfl ?_
  refine g_iload_n B W0 at_17 rfl ?_
  refine g_ldcI B W0 at_18 (tw hw 0 rfl) ?_
  refine g_iand B W0 at_20  ?_
  refine g_i2c B W0 at_21  ?_
  obtain ⟨x103, ex103, nx103, rx103⟩ := own_i2c (p2 &&& 65535)
  rw [ex103]
  refine g_istore B W0 at_22  (l' := #[.val (.int p1), .val (.int p2), .val (.int p3), .val (.int p4), .val (.int x101), .val (.int x102), .val (.int x103), .unset, .unset, .unset, .unset, .unset, .unset]) rfl ?_
  refine g_iload_n B W0 at_24 rfl ?_
  refine g_bipush B W0 at_25 (v := 16) (by decide) ?_
  refine g_iushr B W0 at_27  ?_
  refine g_ldcI B W0 at_28 (tw hw 0 rfl) ?_
  refine g_iand B W0 at_30  ?_
  refine g_i2c B W0 at_31  ?_
  obtain ⟨x104, ex104, nx104, rx104⟩ := own_i2c ((XT.ushr p2 16) &&& 65535)
  rw [ex104]
  refine g_istore B W0 at_32  (l' := #[.val (.int p1), .val (.int p2), .val (.int p3), .val (.int p4), .val (.int x101), .val (.int x102), .val (.int x103), .val (.int x104), .unset, .unset, .unset, .unset, .unset]) rfl ?_
  refine g_iload_n B W0 at_34 rfl ?_
  refine g_ldcI B W0 at_35 (tw hw 0 rfl) ?_
  refine g_iand B W0 at_37  ?_
  refine g_i2c B W0 at_38  ?_
  obtain ⟨x105, ex105, nx105, rx105⟩ := own_i2c (p3 &&& 65535)
  rw [ex105]
  refine g_istore B W0 at_39  (l' := #[.val (.int p1), .val (.int p2), .val (.int p3), .val (.int p4), .val (.int x101), .val (.int x102), .val (.int x103), .val (.int x104), .val (.int x105), .unset, .unset, .unset, .unset]) rfl ?_
  refine g_iload_n B W0 at_41 rfl ?_
  refine g_bipush B W0 at_42 (v := 16) (by decide) ?_
  refine g_iushr B W0 at_44  ?_
  refine g_ldcI B W0 at_45 (tw hw 0 rfl) ?_
  refine g_iand B W0 at_47  ?_
  refine g_i2c B W0 at_48  ?_
  obtain ⟨x106, ex106, nx106, rx106⟩ := own_i2c ((XT.ushr p3 16) &&& 65535)
  rw [ex106]
  refine g_istore B W0 at_49  (l' := #[.val (.int p1), .val (.int p2), .val (.int p3), .val (.int p4), .val (.int x101), .val (.int x102), .val (.int x103), .val (.int x104), .val (.int x105), .val (.int x106), .unset, .unset, .unset]) rfl ?_
  refine g_iload_n B W0 at_51 rfl ?_
  refine g_ldcI B W0 at_52 (tw hw 1 rfl) ?_
  refine g_iand B W0 at_54  ?_
  refine g_bipush B W0 at_55 (v := 7) (by decide) ?_
  refine g_irem B W0 at_57 (by decide) ?_
  obtain hq := own_c7 p4
  generalize (p4 &&& 2147483647) % 7 = n10 at hq ⊢
  rcases hq with rfl | rfl | rfl | rfl | rfl | rfl | rfl
  · skip
    show Go p.tables e below _ T0 (mkF m 58 #[.val (.int p1), .val (.int p2), .val (.int p3), .val (.int p4), .val (.int x101), .val (.int x102), .val (.int x103), .val (.int x104), .val (.int x105), .val (.int x106), .unset, .unset, .unset] [(.int 0)])
    refine g_istore B W0 at_58  (l' := #[.val (.int p1), .val (.int p2), .val (.int p3), .val (.int p4), .val (.int x101), .val (.int x102), .val (.int x103), .val (.int x104), .val (.int x105), .val (.int x106), .val (.int 0), .unset, .unset]) rfl ?_
    refine g_iload B W0 at_60 rfl ?_
    refine g_if_n B W0 at_62 (XT.i0_ne_f (by decide)) ?_
    show Go p.tables e below _ T0 (mkF m 65 #[.val (.int p1), .val (.int p2), .val (.int p3), .val (.int p4), .val (.int x101), .val (.int x102), .val (.int x103), .val (.int x104), .val (.int x105), .val (.int x106), .val (.int 0), .unset, .unset] [])
    refine g_iconst B W0 at_65 (v := 0) (by decide) ?_
    obtain ⟨T107, h107, b107, cA107, gb107, W107, K107, A107, st107⟩ := x_newA B W0 (z := 0) 0 at_66 (tw hw 2 rfl) (by decide) (by decide) (by decide) (by decide) (by decide) #[.val (.int p1), .val (.int p2), .val (.int p3), .val (.int p4), .val (.int x101), .val (.int x102), .val (.int x103), .val (.int x104), .val (.int x105), .val (.int x106), .val (.int 0), .unset, .unset] []
    have l107 := nlt A107.lt
    have z107 := W0.size
    refine st107 _ ?_
    have s108 := K107.1
    refine g_astore B W107 at_68 rfl (l' := #[.val (.int p1), .val (.int p2), .val (.int p3), .val (.int p4), .val (.int x101), .val (.int x102), .val (.int x103), .val (.int x104), .val (.int x105), .val (.int x106), .val (.int 0), .val (.ref b107), .unset]) rfl ?_
    refine g_goto B W107 at_70 (pc' := 254) (by decide) ?_
    show Go p.tables e below _ T107 (mkF m 254 #[.val (.int p1), .val (.int p2), .val (.int p3), .val (.int p4), .val (.int x101), .val (.int x102), .val (.int x103), .val (.int x104), .val (.int x105), .val (.int x106), .val (.int 0), .val (.ref b107), .unset] [])
    refine g_iconst B W107 at_254 (v := 0) (by decide) ?_
    refine g_istore B W107 at_255  (l' := #[.val (.int p1), .val (.int p2), .val (.int p3), .val (.int p4), .val (.int x101), .val (.int x102), .val (.int x103), .val (.int x104), .val (.int x105), .val (.int x106), .val (.int 0), .val (.ref b107), .val (.int 0)]) rfl ?_
    refine g_iload B W107 at_257 rfl ?_
    refine g_if_y B W107 at_259 (XT.i0_le_t (by decide)) (pc' := 271) (by decide) ?_
    show Go p.tables e below _ T107 (mkF m 271 #[.val (.int p1), .val (.int p2), .val (.int p3), .val (.int p4), .val (.int x101), .val (.int x102), .val (.int x103), .val (.int x104), .val (.int x105), .val (.int x106), .val (.int 0), .val (.ref b107), .val (.int 0)] [])
    refine g_iload B W107 at_271 rfl ?_
    refine g_iconst B W107 at_273 (v := 1) (by decide) ?_
    refine g_icmp_y B W107 at_274 (XT.ii_le_t (by decide)) (pc' := 286) (by decide) ?_
    show Go p.tables e below _ T107 (mkF m 286 #[.val (.int p1), .val (.int p2), .val (.int p3), .val (.int p4), .val (.int x101), .val (.int x102), .val (.int x103), .val (.int x104), .val (.int x105), .val (.int x106), .val (.int 0), .val (.ref b107), .val (.int 0)] [])
    refine g_iload B W107 at_286 rfl ?_
    refine g_iconst B W107 at_288 (v := 2) (by decide) ?_
    refine g_icmp_y B W107 at_289 (XT.ii_le_t (by decide)) (pc' := 301) (by decide) ?_
    show Go p.tables e below _ T107 (mkF m 301 #[.val (.int p1), .val (.int p2), .val (.int p3), .val (.int p4), .val (.int x101), .val (.int x102), .val (.int x103), .val (.int x104), .val (.int x105), .val (.int x106), .val (.int 0), .val (.ref b107), .val (.int 0)] [])
    refine g_iload B W107 at_301 rfl ?_
    refine g_iconst B W107 at_303 (v := 3) (by decide) ?_
    refine g_icmp_y B W107 at_304 (XT.ii_le_t (by decide)) (pc' := 316) (by decide) ?_
    show Go p.tables e below _ T107 (mkF m 316 #[.val (.int p1), .val (.int p2), .val (.int p3), .val (.int p4), .val (.int x101), .val (.int x102), .val (.int x103), .val (.int x104), .val (.int x105), .val (.int x106), .val (.int 0), .val (.ref b107), .val (.int 0)] [])
    refine g_iload B W107 at_316 rfl ?_
    refine g_iconst B W107 at_318 (v := 4) (by decide) ?_
    refine g_icmp_y B W107 at_319 (XT.ii_le_t (by decide)) (pc' := 331) (by decide) ?_
    show Go p.tables e below _ T107 (mkF m 331 #[.val (.int p1), .val (.int p2), .val (.int p3), .val (.int p4), .val (.int x101), .val (.int x102), .val (.int x103), .val (.int x104), .val (.int x105), .val (.int x106), .val (.int 0), .val (.ref b107), .val (.int 0)] [])
    refine g_iload B W107 at_331 rfl ?_
    refine g_iconst B W107 at_333 (v := 5) (by decide) ?_
    refine g_icmp_y B W107 at_334 (XT.ii_le_t (by decide)) (pc' := 346) (by decide) ?_
    show Go p.tables e below _ T107 (mkF m 346 #[.val (.int p1), .val (.int p2), .val (.int p3), .val (.int p4), .val (.int x101), .val (.int x102), .val (.int x103), .val (.int x104), .val (.int x105), .val (.int x106), .val (.int 0), .val (.ref b107), .val (.int 0)] [])
    obtain ⟨T109, h109, b109, gb109, W109, K109, E109, D109, st109⟩ := x_new B W107 at_346 (tw hw 10 rfl) (tw hw 11 rfl) (tw hw 12 rfl) (by decide) (by decide) #[.val (.int p1), .val (.int p2), .val (.int p3), .val (.int p4), .val (.int x101), .val (.int x102), .val (.int x103), .val (.int x104), .val (.int x105), .val (.int x106), .val (.int 0), .val (.ref b107), .val (.int 0)] []
    have l109 := nlt E109.lt
    have z109 := W107.size
    refine st109 _ ?_
    have s110 := K109.1
    have f111 : Fld Z h109 b109 "java/lang/String" "coder" "B" (.int 0) := D109 (Or.inr (tw hw 36 rfl)) (ty := .byte) (by decide)
    have f112 : Fld Z h109 b109 "java/lang/String" "value" "[B" .null := D109 (Or.inr (tw hw 38 rfl)) (ty := (.array .byte)) (by decide)
    refine g_dup B W109 at_349 rfl ?_
    refine g_aload B W109 at_350 rfl rfl ?_
    obtain ⟨fs113, efs113⟩ : ∃ f : Nat → Int32, f = fun i => ([] : List Int32).getD i 0 := ⟨_, rfl⟩
    have f114 := (A107.keep K109 nin0)
    obtain ⟨T115, h115, v115, W115, Q115, st115⟩ := x_special B W109 (b := b109) [(.ref b107)] (c_sI1 l Z a0 hw b109 b107 cA107 h109 E109 f112 f111 (by omega) f114) (by simp) at_352 rfl (tw hw 13 rfl) (tw hw 14 rfl) (tw hw 12 rfl) (tw hw 15 rfl) (by decide) (lenOf pd___C_V rfl) #[.val (.int p1), .val (.int p2), .val (.int p3), .val (.int p4), .val (.int x101), .val (.int x102), .val (.int x103), .val (.int x104), .val (.int x105), .val (.int x106), .val (.int 0), .val (.ref b107), .val (.int 0)] [(.ref b109)] rfl 1 rfl (by decide) (by decide) (by decide) (by decide)
    obtain ⟨rfl, K115, S115⟩ := Q115
    have s116 := K115.1
    refine st115 _ ?_
    have e115 := S115.exa
    have C113 : StrC Z h115 b109 0 fs113 := StrC.of_nil S115
    obtain ⟨T117, h117, v117, W117, Q117, st117⟩ := x_static B W115 [(.ref b109)] (c_sks l Z a0 hw b109 0 fs113 ka kc cz sf h115 Scs hcz Ssf rsf Sad Shi Slo Sk Ak lk_ sk vk C113 (by omega) (by intro j hj; omega)) (by simp) at_355 (tw hw 39 rfl) (tw hw 40 rfl) (tw hw 41 rfl) (tw hw 42 rfl) (by decide) (lenOf pd__Ljava_lang_String__I rfl) #[.val (.int p1), .val (.int p2), .val (.int p3), .val (.int p4), .val (.int x101), .val (.int x102), .val (.int x103), .val (.int x104), .val (.int x105), .val (.int x106), .val (.int 0), .val (.ref b107), .val (.int 0)] [] rfl 0 rfl (by decide) (by decide) (by decide) (by decide)
    obtain ⟨rfl, K117⟩ := Q117
    have s118 := K117.1
    refine st117 _ ?_
    refine g_iload B W117 at_358 rfl ?_
    refine g_diab (decide ((hfold fs113 0) = 0)) (m := m) (ls := #[.val (.int p1), .val (.int p2), .val (.int p3), .val (.int p4), .val (.int x101), .val (.int x102), .val (.int x103), .val (.int x104), .val (.int x105), .val (.int x106), .val (.int 0), .val (.ref b107), .val (.int 0)]) (st := []) (pc' := 368) (fun hd1 q => ?_) (fun hd1 q => ?_) ?_
    · refine g_icmp_n B W117 at_360 (XT.ii_ne_f (of_decide_eq_true hd1)) ?_
      refine g_iconst B W117 at_363 (v := 1) (by decide) ?_
      exact g_goto B W117 at_364 (pc' := 368) (by decide) q
    · refine g_icmp_y B W117 at_360 (XT.ii_ne_t (of_decide_eq_false hd1)) (pc' := 367) (by decide) ?_
      exact g_iconst B W117 at_367 (v := 0) (by decide) q
    show Go p.tables e below _ T117 (mkF m 368 #[.val (.int p1), .val (.int p2), .val (.int p3), .val (.int p4), .val (.int x101), .val (.int x102), .val (.int x103), .val (.int x104), .val (.int x105), .val (.int x106), .val (.int 0), .val (.ref b107), .val (.int 0)] [(.int (bi (decide ((hfold fs113 0) = 0))))])
    exact r_b B W117 at_368 (by decide) (by decide) (by show some (Value.int (bi (decide ((hfold fs113 0) = 0)))) = some (.int 1); rw [show (decide ((hfold fs113 0) = 0)) = true from decide_eq_true (by simp only [hfold])]; rfl)
  · skip
    show Go p.tables e below _ T0 (mkF m 58 #[.val (.int p1), .val (.int p2), .val (.int p3), .val (.int p4), .val (.int x101), .val (.int x102), .val (.int x103), .val (.int x104), .val (.int x105), .val (.int x106), .unset, .unset, .unset] [(.int 1)])
    refine g_istore B W0 at_58  (l' := #[.val (.int p1), .val (.int p2), .val (.int p3), .val (.int p4), .val (.int x101), .val (.int x102), .val (.int x103), .val (.int x104), .val (.int x105), .val (.int x106), .val (.int 1), .unset, .unset]) rfl ?_
    refine g_iload B W0 at_60 rfl ?_
    refine g_if_y B W0 at_62 (XT.i0_ne_t (by decide)) (pc' := 73) (by decide) ?_
    show Go p.tables e below _ T0 (mkF m 73 #[.val (.int p1), .val (.int p2), .val (.int p3), .val (.int p4), .val (.int x101), .val (.int x102), .val (.int x103), .val (.int x104), .val (.int x105), .val (.int x106), .val (.int 1), .unset, .unset] [])
    refine g_iload B W0 at_73 rfl ?_
    refine g_iconst B W0 at_75 (v := 1) (by decide) ?_
    refine g_icmp_n B W0 at_76 (XT.ii_ne_f (by decide)) ?_
    show Go p.tables e below _ T0 (mkF m 79 #[.val (.int p1), .val (.int p2), .val (.int p3), .val (.int p4), .val (.int x101), .val (.int x102), .val (.int x103), .val (.int x104), .val (.int x105), .val (.int x106), .val (.int 1), .unset, .unset] [])
    refine g_iconst B W0 at_79 (v := 1) (by decide) ?_
    obtain ⟨T119, h119, b119, cA119, gb119, W119, K119, A119, st119⟩ := x_newA B W0 (z := 1) 1 at_80 (tw hw 2 rfl) (by decide) (by decide) (by decide) (by decide) (by decide) #[.val (.int p1), .val (.int p2), .val (.int p3), .val (.int p4), .val (.int x101), .val (.int x102), .val (.int x103), .val (.int x104), .val (.int x105), .val (.int x106), .val (.int 1), .unset, .unset] []
    have l119 := nlt A119.lt
    have z119 := W0.size
    refine st119 _ ?_
    have s120 := K119.1
    refine g_dup B W119 at_82 rfl ?_
    refine g_iconst B W119 at_83 (v := 0) (by decide) ?_
    refine g_iload B W119 at_84 rfl ?_
    obtain ⟨T121, h121, W121, K121, A121, st121⟩ := x_castore B W119 (j := 0) (x := x101) at_86 A119 (by decide) (Nat.lt_of_lt_of_eq (show Int32.toNatClampNeg 0 < 1 by decide) rfl) (by omega) #[.val (.int p1), .val (.int p2), .val (.int p3), .val (.int p4), .val (.int x101), .val (.int x102), .val (.int x103), .val (.int x104), .val (.int x105), .val (.int x106), .val (.int 1), .unset, .unset] [(.ref b119)]
    refine st121 _ ?_
    rw [nx101] at A121
    have A121 : Arv Z h121 b119 cA119 .char 1 [(.int x101)] (.int 0) := A121
    have s122 := K121.1
    refine g_astore B W121 at_87 rfl (l' := #[.val (.int p1), .val (.int p2), .val (.int p3), .val (.int p4), .val (.int x101), .val (.int x102), .val (.int x103), .val (.int x104), .val (.int x105), .val (.int x106), .val (.int 1), .val (.ref b119), .unset]) rfl ?_
    refine g_goto B W121 at_89 (pc' := 254) (by decide) ?_
    show Go p.tables e below _ T121 (mkF m 254 #[.val (.int p1), .val (.int p2), .val (.int p3), .val (.int p4), .val (.int x101), .val (.int x102), .val (.int x103), .val (.int x104), .val (.int x105), .val (.int x106), .val (.int 1), .val (.ref b119), .unset] [])
    refine g_iconst B W121 at_254 (v := 0) (by decide) ?_
    refine g_istore B W121 at_255  (l' := #[.val (.int p1), .val (.int p2), .val (.int p3), .val (.int p4), .val (.int x101), .val (.int x102), .val (.int x103), .val (.int x104), .val (.int x105), .val (.int x106), .val (.int 1), .val (.ref b119), .val (.int 0)]) rfl ?_
    refine g_iload B W121 at_257 rfl ?_
    refine g_if_n B W121 at_259 (XT.i0_le_f (by decide)) ?_
    show Go p.tables e below _ T121 (mkF m 262 #[.val (.int p1), .val (.int p2), .val (.int p3), .val (.int p4), .val (.int x101), .val (.int x102), .val (.int x103), .val (.int x104), .val (.int x105), .val (.int x106), .val (.int 1), .val (.ref b119), .val (.int 0)] [])
    refine g_iload B W121 at_262 rfl ?_
    refine g_iload B W121 at_264 rfl ?_
    obtain ⟨T123, h123, v123, W123, Q123, st123⟩ := x_static B W121 [(.int 0), (.int x101)] (c_step l Z a0 hw 0 x101 h121) (by simp) at_266 (tw hw 3 rfl) (tw hw 4 rfl) (tw hw 5 rfl) (tw hw 6 rfl) (by decide) (lenOf pd__IC_I rfl) #[.val (.int p1), .val (.int p2), .val (.int p3), .val (.int p4), .val (.int x101), .val (.int x102), .val (.int x103), .val (.int x104), .val (.int x105), .val (.int x106), .val (.int 1), .val (.ref b119), .val (.int 0)] [] rfl 0 rfl (by decide) (by decide) (by decide) (by decide)
    obtain ⟨rfl, rfl⟩ := Q123
    refine st123 _ ?_
    refine g_istore B W123 at_269  (l' := #[.val (.int p1), .val (.int p2), .val (.int p3), .val (.int p4), .val (.int x101), .val (.int x102), .val (.int x103), .val (.int x104), .val (.int x105), .val (.int x106), .val (.int 1), .val (.ref b119), .val (.int (hst 0 x101))]) rfl ?_
    refine g_iload B W123 at_271 rfl ?_
    refine g_iconst B W123 at_273 (v := 1) (by decide) ?_
    refine g_icmp_y B W123 at_274 (XT.ii_le_t (by decide)) (pc' := 286) (by decide) ?_
    show Go p.tables e below _ T123 (mkF m 286 #[.val (.int p1), .val (.int p2), .val (.int p3), .val (.int p4), .val (.int x101), .val (.int x102), .val (.int x103), .val (.int x104), .val (.int x105), .val (.int x106), .val (.int 1), .val (.ref b119), .val (.int (hst 0 x101))] [])
    refine g_iload B W123 at_286 rfl ?_
    refine g_iconst B W123 at_288 (v := 2) (by decide) ?_
    refine g_icmp_y B W123 at_289 (XT.ii_le_t (by decide)) (pc' := 301) (by decide) ?_
    show Go p.tables e below _ T123 (mkF m 301 #[.val (.int p1), .val (.int p2), .val (.int p3), .val (.int p4), .val (.int x101), .val (.int x102), .val (.int x103), .val (.int x104), .val (.int x105), .val (.int x106), .val (.int 1), .val (.ref b119), .val (.int (hst 0 x101))] [])
    refine g_iload B W123 at_301 rfl ?_
    refine g_iconst B W123 at_303 (v := 3) (by decide) ?_
    refine g_icmp_y B W123 at_304 (XT.ii_le_t (by decide)) (pc' := 316) (by decide) ?_
    show Go p.tables e below _ T123 (mkF m 316 #[.val (.int p1), .val (.int p2), .val (.int p3), .val (.int p4), .val (.int x101), .val (.int x102), .val (.int x103), .val (.int x104), .val (.int x105), .val (.int x106), .val (.int 1), .val (.ref b119), .val (.int (hst 0 x101))] [])
    refine g_iload B W123 at_316 rfl ?_
    refine g_iconst B W123 at_318 (v := 4) (by decide) ?_
    refine g_icmp_y B W123 at_319 (XT.ii_le_t (by decide)) (pc' := 331) (by decide) ?_
    show Go p.tables e below _ T123 (mkF m 331 #[.val (.int p1), .val (.int p2), .val (.int p3), .val (.int p4), .val (.int x101), .val (.int x102), .val (.int x103), .val (.int x104), .val (.int x105), .val (.int x106), .val (.int 1), .val (.ref b119), .val (.int (hst 0 x101))] [])
    refine g_iload B W123 at_331 rfl ?_
    refine g_iconst B W123 at_333 (v := 5) (by decide) ?_
    refine g_icmp_y B W123 at_334 (XT.ii_le_t (by decide)) (pc' := 346) (by decide) ?_
    show Go p.tables e below _ T123 (mkF m 346 #[.val (.int p1), .val (.int p2), .val (.int p3), .val (.int p4), .val (.int x101), .val (.int x102), .val (.int x103), .val (.int x104), .val (.int x105), .val (.int x106), .val (.int 1), .val (.ref b119), .val (.int (hst 0 x101))] [])
    obtain ⟨T124, h124, b124, gb124, W124, K124, E124, D124, st124⟩ := x_new B W123 at_346 (tw hw 10 rfl) (tw hw 11 rfl) (tw hw 12 rfl) (by decide) (by decide) #[.val (.int p1), .val (.int p2), .val (.int p3), .val (.int p4), .val (.int x101), .val (.int x102), .val (.int x103), .val (.int x104), .val (.int x105), .val (.int x106), .val (.int 1), .val (.ref b119), .val (.int (hst 0 x101))] []
    have l124 := nlt E124.lt
    have z124 := W123.size
    refine st124 _ ?_
    have s125 := K124.1
    have f126 : Fld Z h124 b124 "java/lang/String" "coder" "B" (.int 0) := D124 (Or.inr (tw hw 36 rfl)) (ty := .byte) (by decide)
    have f127 : Fld Z h124 b124 "java/lang/String" "value" "[B" .null := D124 (Or.inr (tw hw 38 rfl)) (ty := (.array .byte)) (by decide)
    refine g_dup B W124 at_349 rfl ?_
    refine g_aload B W124 at_350 rfl rfl ?_
    obtain ⟨fs128, efs128⟩ : ∃ f : Nat → Int32, f = fun i => ([x101] : List Int32).getD i 0 := ⟨_, rfl⟩
    have efs128_0 : fs128 0 = x101 := by rw [efs128]; rfl
    have f129 := (A121.keep K124 nin0)
    have A128 : Arv Z h124 b119 cA119 .char (Int32.ofNat 1) (arl 1 fs128) (.int 0) := by rw [show arl 1 fs128 = [.int x101] by rw [efs128]; rfl]; exact f129
    obtain ⟨T130, h130, v130, W130, Q130, st130⟩ := x_special B W124 (b := b124) [(.ref b119)] (c_sI1w l Z a0 hw b124 b119 cA119 1 fs128 cz h124 Scs hcz Sad Shi Slo E124 f127 f126 (by omega) A128 (by intro j hj; obtain rfl : j = 0 := (by omega); rw [efs128_0]; exact (own_rn rx101)) (by omega) (by omega)) (by simp) at_352 rfl (tw hw 13 rfl) (tw hw 14 rfl) (tw hw 12 rfl) (tw hw 15 rfl) (by decide) (lenOf pd___C_V rfl) #[.val (.int p1), .val (.int p2), .val (.int p3), .val (.int p4), .val (.int x101), .val (.int x102), .val (.int x103), .val (.int x104), .val (.int x105), .val (.int x106), .val (.int 1), .val (.ref b119), .val (.int (hst 0 x101))] [(.ref b124)] rfl 1 rfl (by decide) (by decide) (by decide) (by decide)
    obtain ⟨rfl, K130, S130⟩ := Q130
    have s131 := K130.1
    refine st130 _ ?_
    have E130 := S130.exa
    obtain ⟨T132, h132, v132, W132, Q132, st132⟩ := x_static B W130 [(.ref b124)] (c_sks l Z a0 hw b124 1 fs128 ka kc cz sf h130 Scs hcz Ssf rsf Sad Shi Slo Sk Ak lk_ sk vk S130 (by omega) (by intro j hj; obtain rfl : j = 0 := (by omega); (· exact (by rw [efs128_0]; exact (own_rn rx101))))) (by simp) at_355 (tw hw 39 rfl) (tw hw 40 rfl) (tw hw 41 rfl) (tw hw 42 rfl) (by decide) (lenOf pd__Ljava_lang_String__I rfl) #[.val (.int p1), .val (.int p2), .val (.int p3), .val (.int p4), .val (.int x101), .val (.int x102), .val (.int x103), .val (.int x104), .val (.int x105), .val (.int x106), .val (.int 1), .val (.ref b119), .val (.int (hst 0 x101))] [] rfl 0 rfl (by decide) (by decide) (by decide) (by decide)
    obtain ⟨rfl, K132⟩ := Q132
    have s133 := K132.1
    refine st132 _ ?_
    refine g_iload B W132 at_358 rfl ?_
    refine g_diab (decide ((hfold fs128 1) = (hst 0 x101))) (m := m) (ls := #[.val (.int p1), .val (.int p2), .val (.int p3), .val (.int p4), .val (.int x101), .val (.int x102), .val (.int x103), .val (.int x104), .val (.int x105), .val (.int x106), .val (.int 1), .val (.ref b119), .val (.int (hst 0 x101))]) (st := []) (pc' := 368) (fun hd1 q => ?_) (fun hd1 q => ?_) ?_
    · refine g_icmp_n B W132 at_360 (XT.ii_ne_f (of_decide_eq_true hd1)) ?_
      refine g_iconst B W132 at_363 (v := 1) (by decide) ?_
      exact g_goto B W132 at_364 (pc' := 368) (by decide) q
    · refine g_icmp_y B W132 at_360 (XT.ii_ne_t (of_decide_eq_false hd1)) (pc' := 367) (by decide) ?_
      exact g_iconst B W132 at_367 (v := 0) (by decide) q
    show Go p.tables e below _ T132 (mkF m 368 #[.val (.int p1), .val (.int p2), .val (.int p3), .val (.int p4), .val (.int x101), .val (.int x102), .val (.int x103), .val (.int x104), .val (.int x105), .val (.int x106), .val (.int 1), .val (.ref b119), .val (.int (hst 0 x101))] [(.int (bi (decide ((hfold fs128 1) = (hst 0 x101)))))])
    exact r_b B W132 at_368 (by decide) (by decide) (by show some (Value.int (bi (decide ((hfold fs128 1) = (hst 0 x101))))) = some (.int 1); rw [show (decide ((hfold fs128 1) = (hst 0 x101))) = true from decide_eq_true (by simp only [hfold, efs128_0])]; rfl)
  · skip
    show Go p.tables e below _ T0 (mkF m 58 #[.val (.int p1), .val (.int p2), .val (.int p3), .val (.int p4), .val (.int x101), .val (.int x102), .val (.int x103), .val (.int x104), .val (.int x105), .val (.int x106), .unset, .unset, .unset] [(.int 2)])
    refine g_istore B W0 at_58  (l' := #[.val (.int p1), .val (.int p2), .val (.int p3), .val (.int p4), .val (.int x101), .val (.int x102), .val (.int x103), .val (.int x104), .val (.int x105), .val (.int x106), .val (.int 2), .unset, .unset]) rfl ?_
    refine g_iload B W0 at_60 rfl ?_
    refine g_if_y B W0 at_62 (XT.i0_ne_t (by decide)) (pc' := 73) (by decide) ?_
    show Go p.tables e below _ T0 (mkF m 73 #[.val (.int p1), .val (.int p2), .val (.int p3), .val (.int p4), .val (.int x101), .val (.int x102), .val (.int x103), .val (.int x104), .val (.int x105), .val (.int x106), .val (.int 2), .unset, .unset] [])
    refine g_iload B W0 at_73 rfl ?_
    refine g_iconst B W0 at_75 (v := 1) (by decide) ?_
    refine g_icmp_y B W0 at_76 (XT.ii_ne_t (by decide)) (pc' := 92) (by decide) ?_
    show Go p.tables e below _ T0 (mkF m 92 #[.val (.int p1), .val (.int p2), .val (.int p3), .val (.int p4), .val (.int x101), .val (.int x102), .val (.int x103), .val (.int x104), .val (.int x105), .val (.int x106), .val (.int 2), .unset, .unset] [])
    refine g_iload B W0 at_92 rfl ?_
    refine g_iconst B W0 at_94 (v := 2) (by decide) ?_
    refine g_icmp_n B W0 at_95 (XT.ii_ne_f (by decide)) ?_
    show Go p.tables e below _ T0 (mkF m 98 #[.val (.int p1), .val (.int p2), .val (.int p3), .val (.int p4), .val (.int x101), .val (.int x102), .val (.int x103), .val (.int x104), .val (.int x105), .val (.int x106), .val (.int 2), .unset, .unset] [])
    refine g_iconst B W0 at_98 (v := 2) (by decide) ?_
    obtain ⟨T134, h134, b134, cA134, gb134, W134, K134, A134, st134⟩ := x_newA B W0 (z := 2) 2 at_99 (tw hw 2 rfl) (by decide) (by decide) (by decide) (by decide) (by decide) #[.val (.int p1), .val (.int p2), .val (.int p3), .val (.int p4), .val (.int x101), .val (.int x102), .val (.int x103), .val (.int x104), .val (.int x105), .val (.int x106), .val (.int 2), .unset, .unset] []
    have l134 := nlt A134.lt
    have z134 := W0.size
    refine st134 _ ?_
    have s135 := K134.1
    refine g_dup B W134 at_101 rfl ?_
    refine g_iconst B W134 at_102 (v := 0) (by decide) ?_
    refine g_iload B W134 at_103 rfl ?_
    obtain ⟨T136, h136, W136, K136, A136, st136⟩ := x_castore B W134 (j := 0) (x := x101) at_105 A134 (by decide) (Nat.lt_of_lt_of_eq (show Int32.toNatClampNeg 0 < 2 by decide) rfl) (by omega) #[.val (.int p1), .val (.int p2), .val (.int p3), .val (.int p4), .val (.int x101), .val (.int x102), .val (.int x103), .val (.int x104), .val (.int x105), .val (.int x106), .val (.int 2), .unset, .unset] [(.ref b134)]
    refine st136 _ ?_
    rw [nx101] at A136
    have A136 : Arv Z h136 b134 cA134 .char 2 [(.int x101), (.int 0)] (.int 0) := A136
    have s137 := K136.1
    refine g_dup B W136 at_106 rfl ?_
    refine g_iconst B W136 at_107 (v := 1) (by decide) ?_
    refine g_iload B W136 at_108 rfl ?_
    obtain ⟨T138, h138, W138, K138, A138, st138⟩ := x_castore B W136 (j := 1) (x := x102) at_110 A136 (by decide) (Nat.lt_of_lt_of_eq (show Int32.toNatClampNeg 1 < 2 by decide) rfl) (by omega) #[.val (.int p1), .val (.int p2), .val (.int p3), .val (.int p4), .val (.int x101), .val (.int x102), .val (.int x103), .val (.int x104), .val (.int x105), .val (.int x106), .val (.int 2), .unset, .unset] [(.ref b134)]
    refine st138 _ ?_
    rw [nx102] at A138
    have A138 : Arv Z h138 b134 cA134 .char 2 [(.int x101), (.int x102)] (.int 0) := A138
    have s139 := K138.1
    refine g_astore B W138 at_111 rfl (l' := #[.val (.int p1), .val (.int p2), .val (.int p3), .val (.int p4), .val (.int x101), .val (.int x102), .val (.int x103), .val (.int x104), .val (.int x105), .val (.int x106), .val (.int 2), .val (.ref b134), .unset]) rfl ?_
    refine g_goto B W138 at_113 (pc' := 254) (by decide) ?_
    show Go p.tables e below _ T138 (mkF m 254 #[.val (.int p1), .val (.int p2), .val (.int p3), .val (.int p4), .val (.int x101), .val (.int x102), .val (.int x103), .val (.int x104), .val (.int x105), .val (.int x106), .val (.int 2), .val (.ref b134), .unset] [])
    refine g_iconst B W138 at_254 (v := 0) (by decide) ?_
    refine g_istore B W138 at_255  (l' := #[.val (.int p1), .val (.int p2), .val (.int p3), .val (.int p4), .val (.int x101), .val (.int x102), .val (.int x103), .val (.int x104), .val (.int x105), .val (.int x106), .val (.int 2), .val (.ref b134), .val (.int 0)]) rfl ?_
    refine g_iload B W138 at_257 rfl ?_
    refine g_if_n B W138 at_259 (XT.i0_le_f (by decide)) ?_
    show Go p.tables e below _ T138 (mkF m 262 #[.val (.int p1), .val (.int p2), .val (.int p3), .val (.int p4), .val (.int x101), .val (.int x102), .val (.int x103), .val (.int x104), .val (.int x105), .val (.int x106), .val (.int 2), .val (.ref b134), .val (.int 0)] [])
    refine g_iload B W138 at_262 rfl ?_
    refine g_iload B W138 at_264 rfl ?_
    obtain ⟨T140, h140, v140, W140, Q140, st140⟩ := x_static B W138 [(.int 0), (.int x101)] (c_step l Z a0 hw 0 x101 h138) (by simp) at_266 (tw hw 3 rfl) (tw hw 4 rfl) (tw hw 5 rfl) (tw hw 6 rfl) (by decide) (lenOf pd__IC_I rfl) #[.val (.int p1), .val (.int p2), .val (.int p3), .val (.int p4), .val (.int x101), .val (.int x102), .val (.int x103), .val (.int x104), .val (.int x105), .val (.int x106), .val (.int 2), .val (.ref b134), .val (.int 0)] [] rfl 0 rfl (by decide) (by decide) (by decide) (by decide)
    obtain ⟨rfl, rfl⟩ := Q140
    refine st140 _ ?_
    refine g_istore B W140 at_269  (l' := #[.val (.int p1), .val (.int p2), .val (.int p3), .val (.int p4), .val (.int x101), .val (.int x102), .val (.int x103), .val (.int x104), .val (.int x105), .val (.int x106), .val (.int 2), .val (.ref b134), .val (.int (hst 0 x101))]) rfl ?_
    refine g_iload B W140 at_271 rfl ?_
    refine g_iconst B W140 at_273 (v := 1) (by decide) ?_
    refine g_icmp_n B W140 at_274 (XT.ii_le_f (by decide)) ?_
    show Go p.tables e below _ T140 (mkF m 277 #[.val (.int p1), .val (.int p2), .val (.int p3), .val (.int p4), .val (.int x101), .val (.int x102), .val (.int x103), .val (.int x104), .val (.int x105), .val (.int x106), .val (.int 2), .val (.ref b134), .val (.int (hst 0 x101))] [])
    refine g_iload B W140 at_277 rfl ?_
    refine g_iload B W140 at_279 rfl ?_
    obtain ⟨T141, h141, v141, W141, Q141, st141⟩ := x_static B W140 [(.int (hst 0 x101)), (.int x102)] (c_step l Z a0 hw (hst 0 x101) x102 h138) (by simp) at_281 (tw hw 3 rfl) (tw hw 4 rfl) (tw hw 5 rfl) (tw hw 6 rfl) (by decide) (lenOf pd__IC_I rfl) #[.val (.int p1), .val (.int p2), .val (.int p3), .val (.int p4), .val (.int x101), .val (.int x102), .val (.int x103), .val (.int x104), .val (.int x105), .val (.int x106), .val (.int 2), .val (.ref b134), .val (.int (hst 0 x101))] [] rfl 0 rfl (by decide) (by decide) (by decide) (by decide)
    obtain ⟨rfl, rfl⟩ := Q141
    refine st141 _ ?_
    refine g_istore B W141 at_284  (l' := #[.val (.int p1), .val (.int p2), .val (.int p3), .val (.int p4), .val (.int x101), .val (.int x102), .val (.int x103), .val (.int x104), .val (.int x105), .val (.int x106), .val (.int 2), .val (.ref b134), .val (.int (hst (hst 0 x101) x102))]) rfl ?_
    refine g_iload B W141 at_286 rfl ?_
    refine g_iconst B W141 at_288 (v := 2) (by decide) ?_
    refine g_icmp_y B W141 at_289 (XT.ii_le_t (by decide)) (pc' := 301) (by decide) ?_
    show Go p.tables e below _ T141 (mkF m 301 #[.val (.int p1), .val (.int p2), .val (.int p3), .val (.int p4), .val (.int x101), .val (.int x102), .val (.int x103), .val (.int x104), .val (.int x105), .val (.int x106), .val (.int 2), .val (.ref b134), .val (.int (hst (hst 0 x101) x102))] [])
    refine g_iload B W141 at_301 rfl ?_
    refine g_iconst B W141 at_303 (v := 3) (by decide) ?_
    refine g_icmp_y B W141 at_304 (XT.ii_le_t (by decide)) (pc' := 316) (by decide) ?_
    show Go p.tables e below _ T141 (mkF m 316 #[.val (.int p1), .val (.int p2), .val (.int p3), .val (.int p4), .val (.int x101), .val (.int x102), .val (.int x103), .val (.int x104), .val (.int x105), .val (.int x106), .val (.int 2), .val (.ref b134), .val (.int (hst (hst 0 x101) x102))] [])
    refine g_iload B W141 at_316 rfl ?_
    refine g_iconst B W141 at_318 (v := 4) (by decide) ?_
    refine g_icmp_y B W141 at_319 (XT.ii_le_t (by decide)) (pc' := 331) (by decide) ?_
    show Go p.tables e below _ T141 (mkF m 331 #[.val (.int p1), .val (.int p2), .val (.int p3), .val (.int p4), .val (.int x101), .val (.int x102), .val (.int x103), .val (.int x104), .val (.int x105), .val (.int x106), .val (.int 2), .val (.ref b134), .val (.int (hst (hst 0 x101) x102))] [])
    refine g_iload B W141 at_331 rfl ?_
    refine g_iconst B W141 at_333 (v := 5) (by decide) ?_
    refine g_icmp_y B W141 at_334 (XT.ii_le_t (by decide)) (pc' := 346) (by decide) ?_
    show Go p.tables e below _ T141 (mkF m 346 #[.val (.int p1), .val (.int p2), .val (.int p3), .val (.int p4), .val (.int x101), .val (.int x102), .val (.int x103), .val (.int x104), .val (.int x105), .val (.int x106), .val (.int 2), .val (.ref b134), .val (.int (hst (hst 0 x101) x102))] [])
    obtain ⟨T142, h142, b142, gb142, W142, K142, E142, D142, st142⟩ := x_new B W141 at_346 (tw hw 10 rfl) (tw hw 11 rfl) (tw hw 12 rfl) (by decide) (by decide) #[.val (.int p1), .val (.int p2), .val (.int p3), .val (.int p4), .val (.int x101), .val (.int x102), .val (.int x103), .val (.int x104), .val (.int x105), .val (.int x106), .val (.int 2), .val (.ref b134), .val (.int (hst (hst 0 x101) x102))] []
    have l142 := nlt E142.lt
    have z142 := W141.size
    refine st142 _ ?_
    have s143 := K142.1
    have f144 : Fld Z h142 b142 "java/lang/String" "coder" "B" (.int 0) := D142 (Or.inr (tw hw 36 rfl)) (ty := .byte) (by decide)
    have f145 : Fld Z h142 b142 "java/lang/String" "value" "[B" .null := D142 (Or.inr (tw hw 38 rfl)) (ty := (.array .byte)) (by decide)
    refine g_dup B W142 at_349 rfl ?_
    refine g_aload B W142 at_350 rfl rfl ?_
    obtain ⟨fs146, efs146⟩ : ∃ f : Nat → Int32, f = fun i => ([x101, x102] : List Int32).getD i 0 := ⟨_, rfl⟩
    have efs146_0 : fs146 0 = x101 := by rw [efs146]; rfl
    have efs146_1 : fs146 1 = x102 := by rw [efs146]; rfl
    have f147 := (A138.keep K142 nin0)
    have A146 : Arv Z h142 b134 cA134 .char (Int32.ofNat 2) (arl 2 fs146) (.int 0) := by rw [show arl 2 fs146 = [.int x101, .int x102] by rw [efs146]; rfl]; exact f147
    obtain ⟨T148, h148, v148, W148, Q148, st148⟩ := x_special B W142 (b := b142) [(.ref b134)] (c_sI1w l Z a0 hw b142 b134 cA134 2 fs146 cz h142 Scs hcz Sad Shi Slo E142 f145 f144 (by omega) A146 (by intro j hj; obtain rfl | rfl : j = 0 ∨ j = 1 := (by omega); (· exact (by rw [efs146_0]; exact (own_rn rx101))); (· exact (by rw [efs146_1]; exact (own_rn rx102)))) (by omega) (by omega)) (by simp) at_352 rfl (tw hw 13 rfl) (tw hw 14 rfl) (tw hw 12 rfl) (tw hw 15 rfl) (by decide) (lenOf pd___C_V rfl) #[.val (.int p1), .val (.int p2), .val (.int p3), .val (.int p4), .val (.int x101), .val (.int x102), .val (.int x103), .val (.int x104), .val (.int x105), .val (.int x106), .val (.int 2), .val (.ref b134), .val (.int (hst (hst 0 x101) x102))] [(.ref b142)] rfl 1 rfl (by decide) (by decide) (by decide) (by decide)
    obtain ⟨rfl, K148, S148⟩ := Q148
    have s149 := K148.1
    refine st148 _ ?_
    have E148 := S148.exa
    obtain ⟨T150, h150, v150, W150, Q150, st150⟩ := x_static B W148 [(.ref b142)] (c_sks l Z a0 hw b142 2 fs146 ka kc cz sf h148 Scs hcz Ssf rsf Sad Shi Slo Sk Ak lk_ sk vk S148 (by omega) (by intro j hj; obtain rfl | rfl : j = 0 ∨ j = 1 := (by omega); (· exact (by rw [efs146_0]; exact (own_rn rx101))); (· exact (by rw [efs146_1]; exact (own_rn rx102))))) (by simp) at_355 (tw hw 39 rfl) (tw hw 40 rfl) (tw hw 41 rfl) (tw hw 42 rfl) (by decide) (lenOf pd__Ljava_lang_String__I rfl) #[.val (.int p1), .val (.int p2), .val (.int p3), .val (.int p4), .val (.int x101), .val (.int x102), .val (.int x103), .val (.int x104), .val (.int x105), .val (.int x106), .val (.int 2), .val (.ref b134), .val (.int (hst (hst 0 x101) x102))] [] rfl 0 rfl (by decide) (by decide) (by decide) (by decide)
    obtain ⟨rfl, K150⟩ := Q150
    have s151 := K150.1
    refine st150 _ ?_
    refine g_iload B W150 at_358 rfl ?_
    refine g_diab (decide ((hfold fs146 2) = (hst (hst 0 x101) x102))) (m := m) (ls := #[.val (.int p1), .val (.int p2), .val (.int p3), .val (.int p4), .val (.int x101), .val (.int x102), .val (.int x103), .val (.int x104), .val (.int x105), .val (.int x106), .val (.int 2), .val (.ref b134), .val (.int (hst (hst 0 x101) x102))]) (st := []) (pc' := 368) (fun hd1 q => ?_) (fun hd1 q => ?_) ?_
    · refine g_icmp_n B W150 at_360 (XT.ii_ne_f (of_decide_eq_true hd1)) ?_
      refine g_iconst B W150 at_363 (v := 1) (by decide) ?_
      exact g_goto B W150 at_364 (pc' := 368) (by decide) q
    · refine g_icmp_y B W150 at_360 (XT.ii_ne_t (of_decide_eq_false hd1)) (pc' := 367) (by decide) ?_
      exact g_iconst B W150 at_367 (v := 0) (by decide) q
    show Go p.tables e below _ T150 (mkF m 368 #[.val (.int p1), .val (.int p2), .val (.int p3), .val (.int p4), .val (.int x101), .val (.int x102), .val (.int x103), .val (.int x104), .val (.int x105), .val (.int x106), .val (.int 2), .val (.ref b134), .val (.int (hst (hst 0 x101) x102))] [(.int (bi (decide ((hfold fs146 2) = (hst (hst 0 x101) x102)))))])
    exact r_b B W150 at_368 (by decide) (by decide) (by show some (Value.int (bi (decide ((hfold fs146 2) = (hst (hst 0 x101) x102))))) = some (.int 1); rw [show (decide ((hfold fs146 2) = (hst (hst 0 x101) x102))) = true from decide_eq_true (by simp only [hfold, efs146_0, efs146_1])]; rfl)
  · skip
    show Go p.tables e below _ T0 (mkF m 58 #[.val (.int p1), .val (.int p2), .val (.int p3), .val (.int p4), .val (.int x101), .val (.int x102), .val (.int x103), .val (.int x104), .val (.int x105), .val (.int x106), .unset, .unset, .unset] [(.int 3)])
    refine g_istore B W0 at_58  (l' := #[.val (.int p1), .val (.int p2), .val (.int p3), .val (.int p4), .val (.int x101), .val (.int x102), .val (.int x103), .val (.int x104), .val (.int x105), .val (.int x106), .val (.int 3), .unset, .unset]) rfl ?_
    refine g_iload B W0 at_60 rfl ?_
    refine g_if_y B W0 at_62 (XT.i0_ne_t (by decide)) (pc' := 73) (by decide) ?_
    show Go p.tables e below _ T0 (mkF m 73 #[.val (.int p1), .val (.int p2), .val (.int p3), .val (.int p4), .val (.int x101), .val (.int x102), .val (.int x103), .val (.int x104), .val (.int x105), .val (.int x106), .val (.int 3), .unset, .unset] [])
    refine g_iload B W0 at_73 rfl ?_
    refine g_iconst B W0 at_75 (v := 1) (by decide) ?_
    refine g_icmp_y B W0 at_76 (XT.ii_ne_t (by decide)) (pc' := 92) (by decide) ?_
    show Go p.tables e below _ T0 (mkF m 92 #[.val (.int p1), .val (.int p2), .val (.int p3), .val (.int p4), .val (.int x101), .val (.int x102), .val (.int x103), .val (.int x104), .val (.int x105), .val (.int x106), .val (.int 3), .unset, .unset] [])
    refine g_iload B W0 at_92 rfl ?_
    refine g_iconst B W0 at_94 (v := 2) (by decide) ?_
    refine g_icmp_y B W0 at_95 (XT.ii_ne_t (by decide)) (pc' := 116) (by decide) ?_
    show Go p.tables e below _ T0 (mkF m 116 #[.val (.int p1), .val (.int p2), .val (.int p3), .val (.int p4), .val (.int x101), .val (.int x102), .val (.int x103), .val (.int x104), .val (.int x105), .val (.int x106), .val (.int 3), .unset, .unset] [])
    refine g_iload B W0 at_116 rfl ?_
    refine g_iconst B W0 at_118 (v := 3) (by decide) ?_
    refine g_icmp_n B W0 at_119 (XT.ii_ne_f (by decide)) ?_
    show Go p.tables e below _ T0 (mkF m 122 #[.val (.int p1), .val (.int p2), .val (.int p3), .val (.int p4), .val (.int x101), .val (.int x102), .val (.int x103), .val (.int x104), .val (.int x105), .val (.int x106), .val (.int 3), .unset, .unset] [])
    refine g_iconst B W0 at_122 (v := 3) (by decide) ?_
    obtain ⟨T152, h152, b152, cA152, gb152, W152, K152, A152, st152⟩ := x_newA B W0 (z := 3) 3 at_123 (tw hw 2 rfl) (by decide) (by decide) (by decide) (by decide) (by decide) #[.val (.int p1), .val (.int p2), .val (.int p3), .val (.int p4), .val (.int x101), .val (.int x102), .val (.int x103), .val (.int x104), .val (.int x105), .val (.int x106), .val (.int 3), .unset, .unset] []
    have l152 := nlt A152.lt
    have z152 := W0.size
    refine st152 _ ?_
    have s153 := K152.1
    refine g_dup B W152 at_125 rfl ?_
    refine g_iconst B W152 at_126 (v := 0) (by decide) ?_
    refine g_iload B W152 at_127 rfl ?_
    obtain ⟨T154, h154, W154, K154, A154, st154⟩ := x_castore B W152 (j := 0) (x := x101) at_129 A152 (by decide) (Nat.lt_of_lt_of_eq (show Int32.toNatClampNeg 0 < 3 by decide) rfl) (by omega) #[.val (.int p1), .val (.int p2), .val (.int p3), .val (.int p4), .val (.int x101), .val (.int x102), .val (.int x103), .val (.int x104), .val (.int x105), .val (.int x106), .val (.int 3), .unset, .unset] [(.ref b152)]
    refine st154 _ ?_
    rw [nx101] at A154
    have A154 : Arv Z h154 b152 cA152 .char 3 [(.int x101), (.int 0), (.int 0)] (.int 0) := A154
    have s155 := K154.1
    refine g_dup B W154 at_130 rfl ?_
    refine g_iconst B W154 at_131 (v := 1) (by decide) ?_
    refine g_iload B W154 at_132 rfl ?_
    obtain ⟨T156, h156, W156, K156, A156, st156⟩ := x_castore B W154 (j := 1) (x := x102) at_134 A154 (by decide) (Nat.lt_of_lt_of_eq (show Int32.toNatClampNeg 1 < 3 by decide) rfl) (by omega) #[.val (.int p1), .val (.int p2), .val (.int p3), .val (.int p4), .val (.int x101), .val (.int x102), .val (.int x103), .val (.int x104), .val (.int x105), .val (.int x106), .val (.int 3), .unset, .unset] [(.ref b152)]
    refine st156 _ ?_
    rw [nx102] at A156
    have A156 : Arv Z h156 b152 cA152 .char 3 [(.int x101), (.int x102), (.int 0)] (.int 0) := A156
    have s157 := K156.1
    refine g_dup B W156 at_135 rfl ?_
    refine g_iconst B W156 at_136 (v := 2) (by decide) ?_
    refine g_iload B W156 at_137 rfl ?_
    obtain ⟨T158, h158, W158, K158, A158, st158⟩ := x_castore B W156 (j := 2) (x := x103) at_139 A156 (by decide) (Nat.lt_of_lt_of_eq (show Int32.toNatClampNeg 2 < 3 by decide) rfl) (by omega) #[.val (.int p1), .val (.int p2), .val (.int p3), .val (.int p4), .val (.int x101), .val (.int x102), .val (.int x103), .val (.int x104), .val (.int x105), .val (.int x106), .val (.int 3), .unset, .unset] [(.ref b152)]
    refine st158 _ ?_
    rw [nx103] at A158
    have A158 : Arv Z h158 b152 cA152 .char 3 [(.int x101), (.int x102), (.int x103)] (.int 0) := A158
    have s159 := K158.1
    refine g_astore B W158 at_140 rfl (l' := #[.val (.int p1), .val (.int p2), .val (.int p3), .val (.int p4), .val (.int x101), .val (.int x102), .val (.int x103), .val (.int x104), .val (.int x105), .val (.int x106), .val (.int 3), .val (.ref b152), .unset]) rfl ?_
    refine g_goto B W158 at_142 (pc' := 254) (by decide) ?_
    show Go p.tables e below _ T158 (mkF m 254 #[.val (.int p1), .val (.int p2), .val (.int p3), .val (.int p4), .val (.int x101), .val (.int x102), .val (.int x103), .val (.int x104), .val (.int x105), .val (.int x106), .val (.int 3), .val (.ref b152), .unset] [])
    refine g_iconst B W158 at_254 (v := 0) (by decide) ?_
    refine g_istore B W158 at_255  (l' := #[.val (.int p1), .val (.int p2), .val (.int p3), .val (.int p4), .val (.int x101), .val (.int x102), .val (.int x103), .val (.int x104), .val (.int x105), .val (.int x106), .val (.int 3), .val (.ref b152), .val (.int 0)]) rfl ?_
    refine g_iload B W158 at_257 rfl ?_
    refine g_if_n B W158 at_259 (XT.i0_le_f (by decide)) ?_
    show Go p.tables e below _ T158 (mkF m 262 #[.val (.int p1), .val (.int p2), .val (.int p3), .val (.int p4), .val (.int x101), .val (.int x102), .val (.int x103), .val (.int x104), .val (.int x105), .val (.int x106), .val (.int 3), .val (.ref b152), .val (.int 0)] [])
    refine g_iload B W158 at_262 rfl ?_
    refine g_iload B W158 at_264 rfl ?_
    obtain ⟨T160, h160, v160, W160, Q160, st160⟩ := x_static B W158 [(.int 0), (.int x101)] (c_step l Z a0 hw 0 x101 h158) (by simp) at_266 (tw hw 3 rfl) (tw hw 4 rfl) (tw hw 5 rfl) (tw hw 6 rfl) (by decide) (lenOf pd__IC_I rfl) #[.val (.int p1), .val (.int p2), .val (.int p3), .val (.int p4), .val (.int x101), .val (.int x102), .val (.int x103), .val (.int x104), .val (.int x105), .val (.int x106), .val (.int 3), .val (.ref b152), .val (.int 0)] [] rfl 0 rfl (by decide) (by decide) (by decide) (by decide)
    obtain ⟨rfl, rfl⟩ := Q160
    refine st160 _ ?_
    refine g_istore B W160 at_269  (l' := #[.val (.int p1), .val (.int p2), .val (.int p3), .val (.int p4), .val (.int x101), .val (.int x102), .val (.int x103), .val (.int x104), .val (.int x105), .val (.int x106), .val (.int 3), .val (.ref b152), .val (.int (hst 0 x101))]) rfl ?_
    refine g_iload B W160 at_271 rfl ?_
    refine g_iconst B W160 at_273 (v := 1) (by decide) ?_
    refine g_icmp_n B W160 at_274 (XT.ii_le_f (by decide)) ?_
    show Go p.tables e below _ T160 (mkF m 277 #[.val (.int p1), .val (.int p2), .val (.int p3), .val (.int p4), .val (.int x101), .val (.int x102), .val (.int x103), .val (.int x104), .val (.int x105), .val (.int x106), .val (.int 3), .val (.ref b152), .val (.int (hst 0 x101))] [])
    refine g_iload B W160 at_277 rfl ?_
    refine g_iload B W160 at_279 rfl ?_
    obtain ⟨T161, h161, v161, W161, Q161, st161⟩ := x_static B W160 [(.int (hst 0 x101)), (.int x102)] (c_step l Z a0 hw (hst 0 x101) x102 h158) (by simp) at_281 (tw hw 3 rfl) (tw hw 4 rfl) (tw hw 5 rfl) (tw hw 6 rfl) (by decide) (lenOf pd__IC_I rfl) #[.val (.int p1), .val (.int p2), .val (.int p3), .val (.int p4), .val (.int x101), .val (.int x102), .val (.int x103), .val (.int x104), .val (.int x105), .val (.int x106), .val (.int 3), .val (.ref b152), .val (.int (hst 0 x101))] [] rfl 0 rfl (by decide) (by decide) (by decide) (by decide)
    obtain ⟨rfl, rfl⟩ := Q161
    refine st161 _ ?_
    refine g_istore B W161 at_284  (l' := #[.val (.int p1), .val (.int p2), .val (.int p3), .val (.int p4), .val (.int x101), .val (.int x102), .val (.int x103), .val (.int x104), .val (.int x105), .val (.int x106), .val (.int 3), .val (.ref b152), .val (.int (hst (hst 0 x101) x102))]) rfl ?_
    refine g_iload B W161 at_286 rfl ?_
    refine g_iconst B W161 at_288 (v := 2) (by decide) ?_
    refine g_icmp_n B W161 at_289 (XT.ii_le_f (by decide)) ?_
    show Go p.tables e below _ T161 (mkF m 292 #[.val (.int p1), .val (.int p2), .val (.int p3), .val (.int p4), .val (.int x101), .val (.int x102), .val (.int x103), .val (.int x104), .val (.int x105), .val (.int x106), .val (.int 3), .val (.ref b152), .val (.int (hst (hst 0 x101) x102))] [])
    refine g_iload B W161 at_292 rfl ?_
    refine g_iload B W161 at_294 rfl ?_
    obtain ⟨T162, h162, v162, W162, Q162, st162⟩ := x_static B W161 [(.int (hst (hst 0 x101) x102)), (.int x103)] (c_step l Z a0 hw (hst (hst 0 x101) x102) x103 h158) (by simp) at_296 (tw hw 3 rfl) (tw hw 4 rfl) (tw hw 5 rfl) (tw hw 6 rfl) (by decide) (lenOf pd__IC_I rfl) #[.val (.int p1), .val (.int p2), .val (.int p3), .val (.int p4), .val (.int x101), .val (.int x102), .val (.int x103), .val (.int x104), .val (.int x105), .val (.int x106), .val (.int 3), .val (.ref b152), .val (.int (hst (hst 0 x101) x102))] [] rfl 0 rfl (by decide) (by decide) (by decide) (by decide)
    obtain ⟨rfl, rfl⟩ := Q162
    refine st162 _ ?_
    refine g_istore B W162 at_299  (l' := #[.val (.int p1), .val (.int p2), .val (.int p3), .val (.int p4), .val (.int x101), .val (.int x102), .val (.int x103), .val (.int x104), .val (.int x105), .val (.int x106), .val (.int 3), .val (.ref b152), .val (.int (hst (hst (hst 0 x101) x102) x103))]) rfl ?_
    refine g_iload B W162 at_301 rfl ?_
    refine g_iconst B W162 at_303 (v := 3) (by decide) ?_
    refine g_icmp_y B W162 at_304 (XT.ii_le_t (by decide)) (pc' := 316) (by decide) ?_
    show Go p.tables e below _ T162 (mkF m 316 #[.val (.int p1), .val (.int p2), .val (.int p3), .val (.int p4), .val (.int x101), .val (.int x102), .val (.int x103), .val (.int x104), .val (.int x105), .val (.int x106), .val (.int 3), .val (.ref b152), .val (.int (hst (hst (hst 0 x101) x102) x103))] [])
    refine g_iload B W162 at_316 rfl ?_
    refine g_iconst B W162 at_318 (v := 4) (by decide) ?_
    refine g_icmp_y B W162 at_319 (XT.ii_le_t (by decide)) (pc' := 331) (by decide) ?_
    show Go p.tables e below _ T162 (mkF m 331 #[.val (.int p1), .val (.int p2), .val (.int p3), .val (.int p4), .val (.int x101), .val (.int x102), .val (.int x103), .val (.int x104), .val (.int x105), .val (.int x106), .val (.int 3), .val (.ref b152), .val (.int (hst (hst (hst 0 x101) x102) x103))] [])
    refine g_iload B W162 at_331 rfl ?_
    refine g_iconst B W162 at_333 (v := 5) (by decide) ?_
    refine g_icmp_y B W162 at_334 (XT.ii_le_t (by decide)) (pc' := 346) (by decide) ?_
    show Go p.tables e below _ T162 (mkF m 346 #[.val (.int p1), .val (.int p2), .val (.int p3), .val (.int p4), .val (.int x101), .val (.int x102), .val (.int x103), .val (.int x104), .val (.int x105), .val (.int x106), .val (.int 3), .val (.ref b152), .val (.int (hst (hst (hst 0 x101) x102) x103))] [])
    obtain ⟨T163, h163, b163, gb163, W163, K163, E163, D163, st163⟩ := x_new B W162 at_346 (tw hw 10 rfl) (tw hw 11 rfl) (tw hw 12 rfl) (by decide) (by decide) #[.val (.int p1), .val (.int p2), .val (.int p3), .val (.int p4), .val (.int x101), .val (.int x102), .val (.int x103), .val (.int x104), .val (.int x105), .val (.int x106), .val (.int 3), .val (.ref b152), .val (.int (hst (hst (hst 0 x101) x102) x103))] []
    have l163 := nlt E163.lt
    have z163 := W162.size
    refine st163 _ ?_
    have s164 := K163.1
    have f165 : Fld Z h163 b163 "java/lang/String" "coder" "B" (.int 0) := D163 (Or.inr (tw hw 36 rfl)) (ty := .byte) (by decide)
    have f166 : Fld Z h163 b163 "java/lang/String" "value" "[B" .null := D163 (Or.inr (tw hw 38 rfl)) (ty := (.array .byte)) (by decide)
    refine g_dup B W163 at_349 rfl ?_
    refine g_aload B W163 at_350 rfl rfl ?_
    obtain ⟨fs167, efs167⟩ : ∃ f : Nat → Int32, f = fun i => ([x101, x102, x103] : List Int32).getD i 0 := ⟨_, rfl⟩
    have efs167_0 : fs167 0 = x101 := by rw [efs167]; rfl
    have efs167_1 : fs167 1 = x102 := by rw [efs167]; rfl
    have efs167_2 : fs167 2 = x103 := by rw [efs167]; rfl
    have f168 := (A158.keep K163 nin0)
    have A167 : Arv Z h163 b152 cA152 .char (Int32.ofNat 3) (arl 3 fs167) (.int 0) := by rw [show arl 3 fs167 = [.int x101, .int x102, .int x103] by rw [efs167]; rfl]; exact f168
    obtain ⟨T169, h169, v169, W169, Q169, st169⟩ := x_special B W163 (b := b163) [(.ref b152)] (c_sI1w l Z a0 hw b163 b152 cA152 3 fs167 cz h163 Scs hcz Sad Shi Slo E163 f166 f165 (by omega) A167 (by intro j hj; obtain rfl | rfl | rfl : j = 0 ∨ j = 1 ∨ j = 2 := (by omega); (· exact (by rw [efs167_0]; exact (own_rn rx101))); (· exact (by rw [efs167_1]; exact (own_rn rx102))); (· exact (by rw [efs167_2]; exact (own_rn rx103)))) (by omega) (by omega)) (by simp) at_352 rfl (tw hw 13 rfl) (tw hw 14 rfl) (tw hw 12 rfl) (tw hw 15 rfl) (by decide) (lenOf pd___C_V rfl) #[.val (.int p1), .val (.int p2), .val (.int p3), .val (.int p4), .val (.int x101), .val (.int x102), .val (.int x103), .val (.int x104), .val (.int x105), .val (.int x106), .val (.int 3), .val (.ref b152), .val (.int (hst (hst (hst 0 x101) x102) x103))] [(.ref b163)] rfl 1 rfl (by decide) (by decide) (by decide) (by decide)
    obtain ⟨rfl, K169, S169⟩ := Q169
    have s170 := K169.1
    refine st169 _ ?_
    have E169 := S169.exa
    obtain ⟨T171, h171, v171, W171, Q171, st171⟩ := x_static B W169 [(.ref b163)] (c_sks l Z a0 hw b163 3 fs167 ka kc cz sf h169 Scs hcz Ssf rsf Sad Shi Slo Sk Ak lk_ sk vk S169 (by omega) (by intro j hj; obtain rfl | rfl | rfl : j = 0 ∨ j = 1 ∨ j = 2 := (by omega); (· exact (by rw [efs167_0]; exact (own_rn rx101))); (· exact (by rw [efs167_1]; exact (own_rn rx102))); (· exact (by rw [efs167_2]; exact (own_rn rx103))))) (by simp) at_355 (tw hw 39 rfl) (tw hw 40 rfl) (tw hw 41 rfl) (tw hw 42 rfl) (by decide) (lenOf pd__Ljava_lang_String__I rfl) #[.val (.int p1), .val (.int p2), .val (.int p3), .val (.int p4), .val (.int x101), .val (.int x102), .val (.int x103), .val (.int x104), .val (.int x105), .val (.int x106), .val (.int 3), .val (.ref b152), .val (.int (hst (hst (hst 0 x101) x102) x103))] [] rfl 0 rfl (by decide) (by decide) (by decide) (by decide)
    obtain ⟨rfl, K171⟩ := Q171
    have s172 := K171.1
    refine st171 _ ?_
    refine g_iload B W171 at_358 rfl ?_
    refine g_diab (decide ((hfold fs167 3) = (hst (hst (hst 0 x101) x102) x103))) (m := m) (ls := #[.val (.int p1), .val (.int p2), .val (.int p3), .val (.int p4), .val (.int x101), .val (.int x102), .val (.int x103), .val (.int x104), .val (.int x105), .val (.int x106), .val (.int 3), .val (.ref b152), .val (.int (hst (hst (hst 0 x101) x102) x103))]) (st := []) (pc' := 368) (fun hd1 q => ?_) (fun hd1 q => ?_) ?_
    · refine g_icmp_n B W171 at_360 (XT.ii_ne_f (of_decide_eq_true hd1)) ?_
      refine g_iconst B W171 at_363 (v := 1) (by decide) ?_
      exact g_goto B W171 at_364 (pc' := 368) (by decide) q
    · refine g_icmp_y B W171 at_360 (XT.ii_ne_t (of_decide_eq_false hd1)) (pc' := 367) (by decide) ?_
      exact g_iconst B W171 at_367 (v := 0) (by decide) q
    show Go p.tables e below _ T171 (mkF m 368 #[.val (.int p1), .val (.int p2), .val (.int p3), .val (.int p4), .val (.int x101), .val (.int x102), .val (.int x103), .val (.int x104), .val (.int x105), .val (.int x106), .val (.int 3), .val (.ref b152), .val (.int (hst (hst (hst 0 x101) x102) x103))] [(.int (bi (decide ((hfold fs167 3) = (hst (hst (hst 0 x101) x102) x103)))))])
    exact r_b B W171 at_368 (by decide) (by decide) (by show some (Value.int (bi (decide ((hfold fs167 3) = (hst (hst (hst 0 x101) x102) x103))))) = some (.int 1); rw [show (decide ((hfold fs167 3) = (hst (hst (hst 0 x101) x102) x103))) = true from decide_eq_true (by simp only [hfold, efs167_0, efs167_1, efs167_2])]; rfl)
  · skip
    show Go p.tables e below _ T0 (mkF m 58 #[.val (.int p1), .val (.int p2), .val (.int p3), .val (.int p4), .val (.int x101), .val (.int x102), .val (.int x103), .val (.int x104), .val (.int x105), .val (.int x106), .unset, .unset, .unset] [(.int 4)])
    refine g_istore B W0 at_58  (l' := #[.val (.int p1), .val (.int p2), .val (.int p3), .val (.int p4), .val (.int x101), .val (.int x102), .val (.int x103), .val (.int x104), .val (.int x105), .val (.int x106), .val (.int 4), .unset, .unset]) rfl ?_
    refine g_iload B W0 at_60 rfl ?_
    refine g_if_y B W0 at_62 (XT.i0_ne_t (by decide)) (pc' := 73) (by decide) ?_
    show Go p.tables e below _ T0 (mkF m 73 #[.val (.int p1), .val (.int p2), .val (.int p3), .val (.int p4), .val (.int x101), .val (.int x102), .val (.int x103), .val (.int x104), .val (.int x105), .val (.int x106), .val (.int 4), .unset, .unset] [])
    refine g_iload B W0 at_73 rfl ?_
    refine g_iconst B W0 at_75 (v := 1) (by decide) ?_
    refine g_icmp_y B W0 at_76 (XT.ii_ne_t (by decide)) (pc' := 92) (by decide) ?_
    show Go p.tables e below _ T0 (mkF m 92 #[.val (.int p1), .val (.int p2), .val (.int p3), .val (.int p4), .val (.int x101), .val (.int x102), .val (.int x103), .val (.int x104), .val (.int x105), .val (.int x106), .val (.int 4), .unset, .unset] [])
    refine g_iload B W0 at_92 rfl ?_
    refine g_iconst B W0 at_94 (v := 2) (by decide) ?_
    refine g_icmp_y B W0 at_95 (XT.ii_ne_t (by decide)) (pc' := 116) (by decide) ?_
    show Go p.tables e below _ T0 (mkF m 116 #[.val (.int p1), .val (.int p2), .val (.int p3), .val (.int p4), .val (.int x101), .val (.int x102), .val (.int x103), .val (.int x104), .val (.int x105), .val (.int x106), .val (.int 4), .unset, .unset] [])
    refine g_iload B W0 at_116 rfl ?_
    refine g_iconst B W0 at_118 (v := 3) (by decide) ?_
    refine g_icmp_y B W0 at_119 (XT.ii_ne_t (by decide)) (pc' := 145) (by decide) ?_
    show Go p.tables e below _ T0 (mkF m 145 #[.val (.int p1), .val (.int p2), .val (.int p3), .val (.int p4), .val (.int x101), .val (.int x102), .val (.int x103), .val (.int x104), .val (.int x105), .val (.int x106), .val (.int 4), .unset, .unset] [])
    refine g_iload B W0 at_145 rfl ?_
    refine g_iconst B W0 at_147 (v := 4) (by decide) ?_
    refine g_icmp_n B W0 at_148 (XT.ii_ne_f (by decide)) ?_
    show Go p.tables e below _ T0 (mkF m 151 #[.val (.int p1), .val (.int p2), .val (.int p3), .val (.int p4), .val (.int x101), .val (.int x102), .val (.int x103), .val (.int x104), .val (.int x105), .val (.int x106), .val (.int 4), .unset, .unset] [])
    refine g_iconst B W0 at_151 (v := 4) (by decide) ?_
    obtain ⟨T173, h173, b173, cA173, gb173, W173, K173, A173, st173⟩ := x_newA B W0 (z := 4) 4 at_152 (tw hw 2 rfl) (by decide) (by decide) (by decide) (by decide) (by decide) #[.val (.int p1), .val (.int p2), .val (.int p3), .val (.int p4), .val (.int x101), .val (.int x102), .val (.int x103), .val (.int x104), .val (.int x105), .val (.int x106), .val (.int 4), .unset, .unset] []
    have l173 := nlt A173.lt
    have z173 := W0.size
    refine st173 _ ?_
    have s174 := K173.1
    refine g_dup B W173 at_154 rfl ?_
    refine g_iconst B W173 at_155 (v := 0) (by decide) ?_
    refine g_iload B W173 at_156 rfl ?_
    obtain ⟨T175, h175, W175, K175, A175, st175⟩ := x_castore B W173 (j := 0) (x := x101) at_158 A173 (by decide) (Nat.lt_of_lt_of_eq (show Int32.toNatClampNeg 0 < 4 by decide) rfl) (by omega) #[.val (.int p1), .val (.int p2), .val (.int p3), .val (.int p4), .val (.int x101), .val (.int x102), .val (.int x103), .val (.int x104), .val (.int x105), .val (.int x106), .val (.int 4), .unset, .unset] [(.ref b173)]
    refine st175 _ ?_
    rw [nx101] at A175
    have A175 : Arv Z h175 b173 cA173 .char 4 [(.int x101), (.int 0), (.int 0), (.int 0)] (.int 0) := A175
    have s176 := K175.1
    refine g_dup B W175 at_159 rfl ?_
    refine g_iconst B W175 at_160 (v := 1) (by decide) ?_
    refine g_iload B W175 at_161 rfl ?_
    obtain ⟨T177, h177, W177, K177, A177, st177⟩ := x_castore B W175 (j := 1) (x := x102) at_163 A175 (by decide) (Nat.lt_of_lt_of_eq (show Int32.toNatClampNeg 1 < 4 by decide) rfl) (by omega) #[.val (.int p1), .val (.int p2), .val (.int p3), .val (.int p4), .val (.int x101), .val (.int x102), .val (.int x103), .val (.int x104), .val (.int x105), .val (.int x106), .val (.int 4), .unset, .unset] [(.ref b173)]
    refine st177 _ ?_
    rw [nx102] at A177
    have A177 : Arv Z h177 b173 cA173 .char 4 [(.int x101), (.int x102), (.int 0), (.int 0)] (.int 0) := A177
    have s178 := K177.1
    refine g_dup B W177 at_164 rfl ?_
    refine g_iconst B W177 at_165 (v := 2) (by decide) ?_
    refine g_iload B W177 at_166 rfl ?_
    obtain ⟨T179, h179, W179, K179, A179, st179⟩ := x_castore B W177 (j := 2) (x := x103) at_168 A177 (by decide) (Nat.lt_of_lt_of_eq (show Int32.toNatClampNeg 2 < 4 by decide) rfl) (by omega) #[.val (.int p1), .val (.int p2), .val (.int p3), .val (.int p4), .val (.int x101), .val (.int x102), .val (.int x103), .val (.int x104), .val (.int x105), .val (.int x106), .val (.int 4), .unset, .unset] [(.ref b173)]
    refine st179 _ ?_
    rw [nx103] at A179
    have A179 : Arv Z h179 b173 cA173 .char 4 [(.int x101), (.int x102), (.int x103), (.int 0)] (.int 0) := A179
    have s180 := K179.1
    refine g_dup B W179 at_169 rfl ?_
    refine g_iconst B W179 at_170 (v := 3) (by decide) ?_
    refine g_iload B W179 at_171 rfl ?_
    obtain ⟨T181, h181, W181, K181, A181, st181⟩ := x_castore B W179 (j := 3) (x := x104) at_173 A179 (by decide) (Nat.lt_of_lt_of_eq (show Int32.toNatClampNeg 3 < 4 by decide) rfl) (by omega) #[.val (.int p1), .val (.int p2), .val (.int p3), .val (.int p4), .val (.int x101), .val (.int x102), .val (.int x103), .val (.int x104), .val (.int x105), .val (.int x106), .val (.int 4), .unset, .unset] [(.ref b173)]
    refine st181 _ ?_
    rw [nx104] at A181
    have A181 : Arv Z h181 b173 cA173 .char 4 [(.int x101), (.int x102), (.int x103), (.int x104)] (.int 0) := A181
    have s182 := K181.1
    refine g_astore B W181 at_174 rfl (l' := #[.val (.int p1), .val (.int p2), .val (.int p3), .val (.int p4), .val (.int x101), .val (.int x102), .val (.int x103), .val (.int x104), .val (.int x105), .val (.int x106), .val (.int 4), .val (.ref b173), .unset]) rfl ?_
    refine g_goto B W181 at_176 (pc' := 254) (by decide) ?_
    show Go p.tables e below _ T181 (mkF m 254 #[.val (.int p1), .val (.int p2), .val (.int p3), .val (.int p4), .val (.int x101), .val (.int x102), .val (.int x103), .val (.int x104), .val (.int x105), .val (.int x106), .val (.int 4), .val (.ref b173), .unset] [])
    refine g_iconst B W181 at_254 (v := 0) (by decide) ?_
    refine g_istore B W181 at_255  (l' := #[.val (.int p1), .val (.int p2), .val (.int p3), .val (.int p4), .val (.int x101), .val (.int x102), .val (.int x103), .val (.int x104), .val (.int x105), .val (.int x106), .val (.int 4), .val (.ref b173), .val (.int 0)]) rfl ?_
    refine g_iload B W181 at_257 rfl ?_
    refine g_if_n B W181 at_259 (XT.i0_le_f (by decide)) ?_
    show Go p.tables e below _ T181 (mkF m 262 #[.val (.int p1), .val (.int p2), .val (.int p3), .val (.int p4), .val (.int x101), .val (.int x102), .val (.int x103), .val (.int x104), .val (.int x105), .val (.int x106), .val (.int 4), .val (.ref b173), .val (.int 0)] [])
    refine g_iload B W181 at_262 rfl ?_
    refine g_iload B W181 at_264 rfl ?_
    obtain ⟨T183, h183, v183, W183, Q183, st183⟩ := x_static B W181 [(.int 0), (.int x101)] (c_step l Z a0 hw 0 x101 h181) (by simp) at_266 (tw hw 3 rfl) (tw hw 4 rfl) (tw hw 5 rfl) (tw hw 6 rfl) (by decide) (lenOf pd__IC_I rfl) #[.val (.int p1), .val (.int p2), .val (.int p3), .val (.int p4), .val (.int x101), .val (.int x102), .val (.int x103), .val (.int x104), .val (.int x105), .val (.int x106), .val (.int 4), .val (.ref b173), .val (.int 0)] [] rfl 0 rfl (by decide) (by decide) (by decide) (by decide)
    obtain ⟨rfl, rfl⟩ := Q183
    refine st183 _ ?_
    refine g_istore B W183 at_269  (l' := #[.val (.int p1), .val (.int p2), .val (.int p3), .val (.int p4), .val (.int x101), .val (.int x102), .val (.int x103), .val (.int x104), .val (.int x105), .val (.int x106), .val (.int 4), .val (.ref b173), .val (.int (hst 0 x101))]) rfl ?_
    refine g_iload B W183 at_271 rfl ?_
    refine g_iconst B W183 at_273 (v := 1) (by decide) ?_
    refine g_icmp_n B W183 at_274 (XT.ii_le_f (by decide)) ?_
    show Go p.tables e below _ T183 (mkF m 277 #[.val (.int p1), .val (.int p2), .val (.int p3), .val (.int p4), .val (.int x101), .val (.int x102), .val (.int x103), .val (.int x104), .val (.int x105), .val (.int x106), .val (.int 4), .val (.ref b173), .val (.int (hst 0 x101))] [])
    refine g_iload B W183 at_277 rfl ?_
    refine g_iload B W183 at_279 rfl ?_
    obtain ⟨T184, h184, v184, W184, Q184, st184⟩ := x_static B W183 [(.int (hst 0 x101)), (.int x102)] (c_step l Z a0 hw (hst 0 x101) x102 h181) (by simp) at_281 (tw hw 3 rfl) (tw hw 4 rfl) (tw hw 5 rfl) (tw hw 6 rfl) (by decide) (lenOf pd__IC_I rfl) #[.val (.int p1), .val (.int p2), .val (.int p3), .val (.int p4), .val (.int x101), .val (.int x102), .val (.int x103), .val (.int x104), .val (.int x105), .val (.int x106), .val (.int 4), .val (.ref b173), .val (.int (hst 0 x101))] [] rfl 0 rfl (by decide) (by decide) (by decide) (by decide)
    obtain ⟨rfl, rfl⟩ := Q184
    refine st184 _ ?_
    refine g_istore B W184 at_284  (l' := #[.val (.int p1), .val (.int p2), .val (.int p3), .val (.int p4), .val (.int x101), .val (.int x102), .val (.int x103), .val (.int x104), .val (.int x105), .val (.int x106), .val (.int 4), .val (.ref b173), .val (.int (hst (hst 0 x101) x102))]) rfl ?_
    refine g_iload B W184 at_286 rfl ?_
    refine g_iconst B W184 at_288 (v := 2) (by decide) ?_
    refine g_icmp_n B W184 at_289 (XT.ii_le_f (by decide)) ?_
    show Go p.tables e below _ T184 (mkF m 292 #[.val (.int p1), .val (.int p2), .val (.int p3), .val (.int p4), .val (.int x101), .val (.int x102), .val (.int x103), .val (.int x104), .val (.int x105), .val (.int x106), .val (.int 4), .val (.ref b173), .val (.int (hst (hst 0 x101) x102))] [])
    refine g_iload B W184 at_292 rfl ?_
    refine g_iload B W184 at_294 rfl ?_
    obtain ⟨T185, h185, v185, W185, Q185, st185⟩ := x_static B W184 [(.int (hst (hst 0 x101) x102)), (.int x103)] (c_step l Z a0 hw (hst (hst 0 x101) x102) x103 h181) (by simp) at_296 (tw hw 3 rfl) (tw hw 4 rfl) (tw hw 5 rfl) (tw hw 6 rfl) (by decide) (lenOf pd__IC_I rfl) #[.val (.int p1), .val (.int p2), .val (.int p3), .val (.int p4), .val (.int x101), .val (.int x102), .val (.int x103), .val (.int x104), .val (.int x105), .val (.int x106), .val (.int 4), .val (.ref b173), .val (.int (hst (hst 0 x101) x102))] [] rfl 0 rfl (by decide) (by decide) (by decide) (by decide)
    obtain ⟨rfl, rfl⟩ := Q185
    refine st185 _ ?_
    refine g_istore B W185 at_299  (l' := #[.val (.int p1), .val (.int p2), .val (.int p3), .val (.int p4), .val (.int x101), .val (.int x102), .val (.int x103), .val (.int x104), .val (.int x105), .val (.int x106), .val (.int 4), .val (.ref b173), .val (.int (hst (hst (hst 0 x101) x102) x103))]) rfl ?_
    refine g_iload B W185 at_301 rfl ?_
    refine g_iconst B W185 at_303 (v := 3) (by decide) ?_
    refine g_icmp_n B W185 at_304 (XT.ii_le_f (by decide)) ?_
    show Go p.tables e below _ T185 (mkF m 307 #[.val (.int p1), .val (.int p2), .val (.int p3), .val (.int p4), .val (.int x101), .val (.int x102), .val (.int x103), .val (.int x104), .val (.int x105), .val (.int x106), .val (.int 4), .val (.ref b173), .val (.int (hst (hst (hst 0 x101) x102) x103))] [])
    refine g_iload B W185 at_307 rfl ?_
    refine g_iload B W185 at_309 rfl ?_
    obtain ⟨T186, h186, v186, W186, Q186, st186⟩ := x_static B W185 [(.int (hst (hst (hst 0 x101) x102) x103)), (.int x104)] (c_step l Z a0 hw (hst (hst (hst 0 x101) x102) x103) x104 h181) (by simp) at_311 (tw hw 3 rfl) (tw hw 4 rfl) (tw hw 5 rfl) (tw hw 6 rfl) (by decide) (lenOf pd__IC_I rfl) #[.val (.int p1), .val (.int p2), .val (.int p3), .val (.int p4), .val (.int x101), .val (.int x102), .val (.int x103), .val (.int x104), .val (.int x105), .val (.int x106), .val (.int 4), .val (.ref b173), .val (.int (hst (hst (hst 0 x101) x102) x103))] [] rfl 0 rfl (by decide) (by decide) (by decide) (by decide)
    obtain ⟨rfl, rfl⟩ := Q186
    refine st186 _ ?_
    refine g_istore B W186 at_314  (l' := #[.val (.int p1), .val (.int p2), .val (.int p3), .val (.int p4), .val (.int x101), .val (.int x102), .val (.int x103), .val (.int x104), .val (.int x105), .val (.int x106), .val (.int 4), .val (.ref b173), .val (.int (hst (hst (hst (hst 0 x101) x102) x103) x104))]) rfl ?_
    refine g_iload B W186 at_316 rfl ?_
    refine g_iconst B W186 at_318 (v := 4) (by decide) ?_
    refine g_icmp_y B W186 at_319 (XT.ii_le_t (by decide)) (pc' := 331) (by decide) ?_
    show Go p.tables e below _ T186 (mkF m 331 #[.val (.int p1), .val (.int p2), .val (.int p3), .val (.int p4), .val (.int x101), .val (.int x102), .val (.int x103), .val (.int x104), .val (.int x105), .val (.int x106), .val (.int 4), .val (.ref b173), .val (.int (hst (hst (hst (hst 0 x101) x102) x103) x104))] [])
    refine g_iload B W186 at_331 rfl ?_
    refine g_iconst B W186 at_333 (v := 5) (by decide) ?_
    refine g_icmp_y B W186 at_334 (XT.ii_le_t (by decide)) (pc' := 346) (by decide) ?_
    show Go p.tables e below _ T186 (mkF m 346 #[.val (.int p1), .val (.int p2), .val (.int p3), .val (.int p4), .val (.int x101), .val (.int x102), .val (.int x103), .val (.int x104), .val (.int x105), .val (.int x106), .val (.int 4), .val (.ref b173), .val (.int (hst (hst (hst (hst 0 x101) x102) x103) x104))] [])
    obtain ⟨T187, h187, b187, gb187, W187, K187, E187, D187, st187⟩ := x_new B W186 at_346 (tw hw 10 rfl) (tw hw 11 rfl) (tw hw 12 rfl) (by decide) (by decide) #[.val (.int p1), .val (.int p2), .val (.int p3), .val (.int p4), .val (.int x101), .val (.int x102), .val (.int x103), .val (.int x104), .val (.int x105), .val (.int x106), .val (.int 4), .val (.ref b173), .val (.int (hst (hst (hst (hst 0 x101) x102) x103) x104))] []
    have l187 := nlt E187.lt
    have z187 := W186.size
    refine st187 _ ?_
    have s188 := K187.1
    have f189 : Fld Z h187 b187 "java/lang/String" "coder" "B" (.int 0) := D187 (Or.inr (tw hw 36 rfl)) (ty := .byte) (by decide)
    have f190 : Fld Z h187 b187 "java/lang/String" "value" "[B" .null := D187 (Or.inr (tw hw 38 rfl)) (ty := (.array .byte)) (by decide)
    refine g_dup B W187 at_349 rfl ?_
    refine g_aload B W187 at_350 rfl rfl ?_
    obtain ⟨fs191, efs191⟩ : ∃ f : Nat → Int32, f = fun i => ([x101, x102, x103, x104] : List Int32).getD i 0 := ⟨_, rfl⟩
    have efs191_0 : fs191 0 = x101 := by rw [efs191]; rfl
    have efs191_1 : fs191 1 = x102 := by rw [efs191]; rfl
    have efs191_2 : fs191 2 = x103 := by rw [efs191]; rfl
    have efs191_3 : fs191 3 = x104 := by rw [efs191]; rfl
    have f192 := (A181.keep K187 nin0)
    have A191 : Arv Z h187 b173 cA173 .char (Int32.ofNat 4) (arl 4 fs191) (.int 0) := by rw [show arl 4 fs191 = [.int x101, .int x102, .int x103, .int x104] by rw [efs191]; rfl]; exact f192
    obtain ⟨T193, h193, v193, W193, Q193, st193⟩ := x_special B W187 (b := b187) [(.ref b173)] (c_sI1w l Z a0 hw b187 b173 cA173 4 fs191 cz h187 Scs hcz Sad Shi Slo E187 f190 f189 (by omega) A191 (by intro j hj; obtain rfl | rfl | rfl | rfl : j = 0 ∨ j = 1 ∨ j = 2 ∨ j = 3 := (by omega); (· exact (by rw [efs191_0]; exact (own_rn rx101))); (· exact (by rw [efs191_1]; exact (own_rn rx102))); (· exact (by rw [efs191_2]; exact (own_rn rx103))); (· exact (by rw [efs191_3]; exact (own_rn rx104)))) (by omega) (by omega)) (by simp) at_352 rfl (tw hw 13 rfl) (tw hw 14 rfl) (tw hw 12 rfl) (tw hw 15 rfl) (by decide) (lenOf pd___C_V rfl) #[.val (.int p1), .val (.int p2), .val (.int p3), .val (.int p4), .val (.int x101), .val (.int x102), .val (.int x103), .val (.int x104), .val (.int x105), .val (.int x106), .val (.int 4), .val (.ref b173), .val (.int (hst (hst (hst (hst 0 x101) x102) x103) x104))] [(.ref b187)] rfl 1 rfl (by decide) (by decide) (by decide) (by decide)
    obtain ⟨rfl, K193, S193⟩ := Q193
    have s194 := K193.1
    refine st193 _ ?_
    have E193 := S193.exa
    obtain ⟨T195, h195, v195, W195, Q195, st195⟩ := x_static B W193 [(.ref b187)] (c_sks l Z a0 hw b187 4 fs191 ka kc cz sf h193 Scs hcz Ssf rsf Sad Shi Slo Sk Ak lk_ sk vk S193 (by omega) (by intro j hj; obtain rfl | rfl | rfl | rfl : j = 0 ∨ j = 1 ∨ j = 2 ∨ j = 3 := (by omega); (· exact (by rw [efs191_0]; exact (own_rn rx101))); (· exact (by rw [efs191_1]; exact (own_rn rx102))); (· exact (by rw [efs191_2]; exact (own_rn rx103))); (· exact (by rw [efs191_3]; exact (own_rn rx104))))) (by simp) at_355 (tw hw 39 rfl) (tw hw 40 rfl) (tw hw 41 rfl) (tw hw 42 rfl) (by decide) (lenOf pd__Ljava_lang_String__I rfl) #[.val (.int p1), .val (.int p2), .val (.int p3), .val (.int p4), .val (.int x101), .val (.int x102), .val (.int x103), .val (.int x104), .val (.int x105), .val (.int x106), .val (.int 4), .val (.ref b173), .val (.int (hst (hst (hst (hst 0 x101) x102) x103) x104))] [] rfl 0 rfl (by decide) (by decide) (by decide) (by decide)
    obtain ⟨rfl, K195⟩ := Q195
    have s196 := K195.1
    refine st195 _ ?_
    refine g_iload B W195 at_358 rfl ?_
    refine g_diab (decide ((hfold fs191 4) = (hst (hst (hst (hst 0 x101) x102) x103) x104))) (m := m) (ls := #[.val (.int p1), .val (.int p2), .val (.int p3), .val (.int p4), .val (.int x101), .val (.int x102), .val (.int x103), .val (.int x104), .val (.int x105), .val (.int x106), .val (.int 4), .val (.ref b173), .val (.int (hst (hst (hst (hst 0 x101) x102) x103) x104))]) (st := []) (pc' := 368) (fun hd1 q => ?_) (fun hd1 q => ?_) ?_
    · refine g_icmp_n B W195 at_360 (XT.ii_ne_f (of_decide_eq_true hd1)) ?_
      refine g_iconst B W195 at_363 (v := 1) (by decide) ?_
      exact g_goto B W195 at_364 (pc' := 368) (by decide) q
    · refine g_icmp_y B W195 at_360 (XT.ii_ne_t (of_decide_eq_false hd1)) (pc' := 367) (by decide) ?_
      exact g_iconst B W195 at_367 (v := 0) (by decide) q
    show Go p.tables e below _ T195 (mkF m 368 #[.val (.int p1), .val (.int p2), .val (.int p3), .val (.int p4), .val (.int x101), .val (.int x102), .val (.int x103), .val (.int x104), .val (.int x105), .val (.int x106), .val (.int 4), .val (.ref b173), .val (.int (hst (hst (hst (hst 0 x101) x102) x103) x104))] [(.int (bi (decide ((hfold fs191 4) = (hst (hst (hst (hst 0 x101) x102) x103) x104)))))])
    exact r_b B W195 at_368 (by decide) (by decide) (by show some (Value.int (bi (decide ((hfold fs191 4) = (hst (hst (hst (hst 0 x101) x102) x103) x104))))) = some (.int 1); rw [show (decide ((hfold fs191 4) = (hst (hst (hst (hst 0 x101) x102) x103) x104))) = true from decide_eq_true (by simp only [hfold, efs191_0, efs191_1, efs191_2, efs191_3])]; rfl)
  · skip
    show Go p.tables e below _ T0 (mkF m 58 #[.val (.int p1), .val (.int p2), .val (.int p3), .val (.int p4), .val (.int x101), .val (.int x102), .val (.int x103), .val (.int x104), .val (.int x105), .val (.int x106), .unset, .unset, .unset] [(.int 5)])
    refine g_istore B W0 at_58  (l' := #[.val (.int p1), .val (.int p2), .val (.int p3), .val (.int p4), .val (.int x101), .val (.int x102), .val (.int x103), .val (.int x104), .val (.int x105), .val (.int x106), .val (.int 5), .unset, .unset]) rfl ?_
    refine g_iload B W0 at_60 rfl ?_
    refine g_if_y B W0 at_62 (XT.i0_ne_t (by decide)) (pc' := 73) (by decide) ?_
    show Go p.tables e below _ T0 (mkF m 73 #[.val (.int p1), .val (.int p2), .val (.int p3), .val (.int p4), .val (.int x101), .val (.int x102), .val (.int x103), .val (.int x104), .val (.int x105), .val (.int x106), .val (.int 5), .unset, .unset] [])
    refine g_iload B W0 at_73 rfl ?_
    refine g_iconst B W0 at_75 (v := 1) (by decide) ?_
    refine g_icmp_y B W0 at_76 (XT.ii_ne_t (by decide)) (pc' := 92) (by decide) ?_
    show Go p.tables e below _ T0 (mkF m 92 #[.val (.int p1), .val (.int p2), .val (.int p3), .val (.int p4), .val (.int x101), .val (.int x102), .val (.int x103), .val (.int x104), .val (.int x105), .val (.int x106), .val (.int 5), .unset, .unset] [])
    refine g_iload B W0 at_92 rfl ?_
    refine g_iconst B W0 at_94 (v := 2) (by decide) ?_
    refine g_icmp_y B W0 at_95 (XT.ii_ne_t (by decide)) (pc' := 116) (by decide) ?_
    show Go p.tables e below _ T0 (mkF m 116 #[.val (.int p1), .val (.int p2), .val (.int p3), .val (.int p4), .val (.int x101), .val (.int x102), .val (.int x103), .val (.int x104), .val (.int x105), .val (.int x106), .val (.int 5), .unset, .unset] [])
    refine g_iload B W0 at_116 rfl ?_
    refine g_iconst B W0 at_118 (v := 3) (by decide) ?_
    refine g_icmp_y B W0 at_119 (XT.ii_ne_t (by decide)) (pc' := 145) (by decide) ?_
    show Go p.tables e below _ T0 (mkF m 145 #[.val (.int p1), .val (.int p2), .val (.int p3), .val (.int p4), .val (.int x101), .val (.int x102), .val (.int x103), .val (.int x104), .val (.int x105), .val (.int x106), .val (.int 5), .unset, .unset] [])
    refine g_iload B W0 at_145 rfl ?_
    refine g_iconst B W0 at_147 (v := 4) (by decide) ?_
    refine g_icmp_y B W0 at_148 (XT.ii_ne_t (by decide)) (pc' := 179) (by decide) ?_
    show Go p.tables e below _ T0 (mkF m 179 #[.val (.int p1), .val (.int p2), .val (.int p3), .val (.int p4), .val (.int x101), .val (.int x102), .val (.int x103), .val (.int x104), .val (.int x105), .val (.int x106), .val (.int 5), .unset, .unset] [])
    refine g_iload B W0 at_179 rfl ?_
    refine g_iconst B W0 at_181 (v := 5) (by decide) ?_
    refine g_icmp_n B W0 at_182 (XT.ii_ne_f (by decide)) ?_
    show Go p.tables e below _ T0 (mkF m 185 #[.val (.int p1), .val (.int p2), .val (.int p3), .val (.int p4), .val (.int x101), .val (.int x102), .val (.int x103), .val (.int x104), .val (.int x105), .val (.int x106), .val (.int 5), .unset, .unset] [])
    refine g_iconst B W0 at_185 (v := 5) (by decide) ?_
    obtain ⟨T197, h197, b197, cA197, gb197, W197, K197, A197, st197⟩ := x_newA B W0 (z := 5) 5 at_186 (tw hw 2 rfl) (by decide) (by decide) (by decide) (by decide) (by decide) #[.val (.int p1), .val (.int p2), .val (.int p3), .val (.int p4), .val (.int x101), .val (.int x102), .val (.int x103), .val (.int x104), .val (.int x105), .val (.int x106), .val (.int 5), .unset, .unset] []
    have l197 := nlt A197.lt
    have z197 := W0.size
    refine st197 _ ?_
    have s198 := K197.1
    refine g_dup B W197 at_188 rfl ?_
    refine g_iconst B W197 at_189 (v := 0) (by decide) ?_
    refine g_iload B W197 at_190 rfl ?_
    obtain ⟨T199, h199, W199, K199, A199, st199⟩ := x_castore B W197 (j := 0) (x := x101) at_192 A197 (by decide) (Nat.lt_of_lt_of_eq (show Int32.toNatClampNeg 0 < 5 by decide) rfl) (by omega) #[.val (.int p1), .val (.int p2), .val (.int p3), .val (.int p4), .val (.int x101), .val (.int x102), .val (.int x103), .val (.int x104), .val (.int x105), .val (.int x106), .val (.int 5), .unset, .unset] [(.ref b197)]
    refine st199 _ ?_
    rw [nx101] at A199
    have A199 : Arv Z h199 b197 cA197 .char 5 [(.int x101), (.int 0), (.int 0), (.int 0), (.int 0)] (.int 0) := A199
    have s200 := K199.1
    refine g_dup B W199 at_193 rfl ?_
    refine g_iconst B W199 at_194 (v := 1) (by decide) ?_
    refine g_iload B W199 at_195 rfl ?_
    obtain ⟨T201, h201, W201, K201, A201, st201⟩ := x_castore B W199 (j := 1) (x := x102) at_197 A199 (by decide) (Nat.lt_of_lt_of_eq (show Int32.toNatClampNeg 1 < 5 by decide) rfl) (by omega) #[.val (.int p1), .val (.int p2), .val (.int p3), .val (.int p4), .val (.int x101), .val (.int x102), .val (.int x103), .val (.int x104), .val (.int x105), .val (.int x106), .val (.int 5), .unset, .unset] [(.ref b197)]
    refine st201 _ ?_
    rw [nx102] at A201
    have A201 : Arv Z h201 b197 cA197 .char 5 [(.int x101), (.int x102), (.int 0), (.int 0), (.int 0)] (.int 0) := A201
    have s202 := K201.1
    refine g_dup B W201 at_198 rfl ?_
    refine g_iconst B W201 at_199 (v := 2) (by decide) ?_
    refine g_iload B W201 at_200 rfl ?_
    obtain ⟨T203, h203, W203, K203, A203, st203⟩ := x_castore B W201 (j := 2) (x := x103) at_202 A201 (by decide) (Nat.lt_of_lt_of_eq (show Int32.toNatClampNeg 2 < 5 by decide) rfl) (by omega) #[.val (.int p1), .val (.int p2), .val (.int p3), .val (.int p4), .val (.int x101), .val (.int x102), .val (.int x103), .val (.int x104), .val (.int x105), .val (.int x106), .val (.int 5), .unset, .unset] [(.ref b197)]
    refine st203 _ ?_
    rw [nx103] at A203
    have A203 : Arv Z h203 b197 cA197 .char 5 [(.int x101), (.int x102), (.int x103), (.int 0), (.int 0)] (.int 0) := A203
    have s204 := K203.1
    refine g_dup B W203 at_203 rfl ?_
    refine g_iconst B W203 at_204 (v := 3) (by decide) ?_
    refine g_iload B W203 at_205 rfl ?_
    obtain ⟨T205, h205, W205, K205, A205, st205⟩ := x_castore B W203 (j := 3) (x := x104) at_207 A203 (by decide) (Nat.lt_of_lt_of_eq (show Int32.toNatClampNeg 3 < 5 by decide) rfl) (by omega) #[.val (.int p1), .val (.int p2), .val (.int p3), .val (.int p4), .val (.int x101), .val (.int x102), .val (.int x103), .val (.int x104), .val (.int x105), .val (.int x106), .val (.int 5), .unset, .unset] [(.ref b197)]
    refine st205 _ ?_
    rw [nx104] at A205
    have A205 : Arv Z h205 b197 cA197 .char 5 [(.int x101), (.int x102), (.int x103), (.int x104), (.int 0)] (.int 0) := A205
    have s206 := K205.1
    refine g_dup B W205 at_208 rfl ?_
    refine g_iconst B W205 at_209 (v := 4) (by decide) ?_
    refine g_iload B W205 at_210 rfl ?_
    obtain ⟨T207, h207, W207, K207, A207, st207⟩ := x_castore B W205 (j := 4) (x := x105) at_212 A205 (by decide) (Nat.lt_of_lt_of_eq (show Int32.toNatClampNeg 4 < 5 by decide) rfl) (by omega) #[.val (.int p1), .val (.int p2), .val (.int p3), .val (.int p4), .val (.int x101), .val (.int x102), .val (.int x103), .val (.int x104), .val (.int x105), .val (.int x106), .val (.int 5), .unset, .unset] [(.ref b197)]
    refine st207 _ ?_
    rw [nx105] at A207
    have A207 : Arv Z h207 b197 cA197 .char 5 [(.int x101), (.int x102), (.int x103), (.int x104), (.int x105)] (.int 0) := A207
    have s208 := K207.1
    refine g_astore B W207 at_213 rfl (l' := #[.val (.int p1), .val (.int p2), .val (.int p3), .val (.int p4), .val (.int x101), .val (.int x102), .val (.int x103), .val (.int x104), .val (.int x105), .val (.int x106), .val (.int 5), .val (.ref b197), .unset]) rfl ?_
    refine g_goto B W207 at_215 (pc' := 254) (by decide) ?_
    show Go p.tables e below _ T207 (mkF m 254 #[.val (.int p1), .val (.int p2), .val (.int p3), .val (.int p4), .val (.int x101), .val (.int x102), .val (.int x103), .val (.int x104), .val (.int x105), .val (.int x106), .val (.int 5), .val (.ref b197), .unset] [])
    refine g_iconst B W207 at_254 (v := 0) (by decide) ?_
    refine g_istore B W207 at_255  (l' := #[.val (.int p1), .val (.int p2), .val (.int p3), .val (.int p4), .val (.int x101), .val (.int x102), .val (.int x103), .val (.int x104), .val (.int x105), .val (.int x106), .val (.int 5), .val (.ref b197), .val (.int 0)]) rfl ?_
    refine g_iload B W207 at_257 rfl ?_
    refine g_if_n B W207 at_259 (XT.i0_le_f (by decide)) ?_
    show Go p.tables e below _ T207 (mkF m 262 #[.val (.int p1), .val (.int p2), .val (.int p3), .val (.int p4), .val (.int x101), .val (.int x102), .val (.int x103), .val (.int x104), .val (.int x105), .val (.int x106), .val (.int 5), .val (.ref b197), .val (.int 0)] [])
    refine g_iload B W207 at_262 rfl ?_
    refine g_iload B W207 at_264 rfl ?_
    obtain ⟨T209, h209, v209, W209, Q209, st209⟩ := x_static B W207 [(.int 0), (.int x101)] (c_step l Z a0 hw 0 x101 h207) (by simp) at_266 (tw hw 3 rfl) (tw hw 4 rfl) (tw hw 5 rfl) (tw hw 6 rfl) (by decide) (lenOf pd__IC_I rfl) #[.val (.int p1), .val (.int p2), .val (.int p3), .val (.int p4), .val (.int x101), .val (.int x102), .val (.int x103), .val (.int x104), .val (.int x105), .val (.int x106), .val (.int 5), .val (.ref b197), .val (.int 0)] [] rfl 0 rfl (by decide) (by decide) (by decide) (by decide)
    obtain ⟨rfl, rfl⟩ := Q209
    refine st209 _ ?_
    refine g_istore B W209 at_269  (l' := #[.val (.int p1), .val (.int p2), .val (.int p3), .val (.int p4), .val (.int x101), .val (.int x102), .val (.int x103), .val (.int x104), .val (.int x105), .val (.int x106), .val (.int 5), .val (.ref b197), .val (.int (hst 0 x101))]) rfl ?_
    refine g_iload B W209 at_271 rfl ?_
    refine g_iconst B W209 at_273 (v := 1) (by decide) ?_
    refine g_icmp_n B W209 at_274 (XT.ii_le_f (by decide)) ?_
    show Go p.tables e below _ T209 (mkF m 277 #[.val (.int p1), .val (.int p2), .val (.int p3), .val (.int p4), .val (.int x101), .val (.int x102), .val (.int x103), .val (.int x104), .val (.int x105), .val (.int x106), .val (.int 5), .val (.ref b197), .val (.int (hst 0 x101))] [])
    refine g_iload B W209 at_277 rfl ?_
    refine g_iload B W209 at_279 rfl ?_
    obtain ⟨T210, h210, v210, W210, Q210, st210⟩ := x_static B W209 [(.int (hst 0 x101)), (.int x102)] (c_step l Z a0 hw (hst 0 x101) x102 h207) (by simp) at_281 (tw hw 3 rfl) (tw hw 4 rfl) (tw hw 5 rfl) (tw hw 6 rfl) (by decide) (lenOf pd__IC_I rfl) #[.val (.int p1), .val (.int p2), .val (.int p3), .val (.int p4), .val (.int x101), .val (.int x102), .val (.int x103), .val (.int x104), .val (.int x105), .val (.int x106), .val (.int 5), .val (.ref b197), .val (.int (hst 0 x101))] [] rfl 0 rfl (by decide) (by decide) (by decide) (by decide)
    obtain ⟨rfl, rfl⟩ := Q210
    refine st210 _ ?_
    refine g_istore B W210 at_284  (l' := #[.val (.int p1), .val (.int p2), .val (.int p3), .val (.int p4), .val (.int x101), .val (.int x102), .val (.int x103), .val (.int x104), .val (.int x105), .val (.int x106), .val (.int 5), .val (.ref b197), .val (.int (hst (hst 0 x101) x102))]) rfl ?_
    refine g_iload B W210 at_286 rfl ?_
    refine g_iconst B W210 at_288 (v := 2) (by decide) ?_
    refine g_icmp_n B W210 at_289 (XT.ii_le_f (by decide)) ?_
    show Go p.tables e below _ T210 (mkF m 292 #[.val (.int p1), .val (.int p2), .val (.int p3), .val (.int p4), .val (.int x101), .val (.int x102), .val (.int x103), .val (.int x104), .val (.int x105), .val (.int x106), .val (.int 5), .val (.ref b197), .val (.int (hst (hst 0 x101) x102))] [])
    refine g_iload B W210 at_292 rfl ?_
    refine g_iload B W210 at_294 rfl ?_
    obtain ⟨T211, h211, v211, W211, Q211, st211⟩ := x_static B W210 [(.int (hst (hst 0 x101) x102)), (.int x103)] (c_step l Z a0 hw (hst (hst 0 x101) x102) x103 h207) (by simp) at_296 (tw hw 3 rfl) (tw hw 4 rfl) (tw hw 5 rfl) (tw hw 6 rfl) (by decide) (lenOf pd__IC_I rfl) #[.val (.int p1), .val (.int p2), .val (.int p3), .val (.int p4), .val (.int x101), .val (.int x102), .val (.int x103), .val (.int x104), .val (.int x105), .val (.int x106), .val (.int 5), .val (.ref b197), .val (.int (hst (hst 0 x101) x102))] [] rfl 0 rfl (by decide) (by decide) (by decide) (by decide)
    obtain ⟨rfl, rfl⟩ := Q211
    refine st211 _ ?_
    refine g_istore B W211 at_299  (l' := #[.val (.int p1), .val (.int p2), .val (.int p3), .val (.int p4), .val (.int x101), .val (.int x102), .val (.int x103), .val (.int x104), .val (.int x105), .val (.int x106), .val (.int 5), .val (.ref b197), .val (.int (hst (hst (hst 0 x101) x102) x103))]) rfl ?_
    refine g_iload B W211 at_301 rfl ?_
    refine g_iconst B W211 at_303 (v := 3) (by decide) ?_
    refine g_icmp_n B W211 at_304 (XT.ii_le_f (by decide)) ?_
    show Go p.tables e below _ T211 (mkF m 307 #[.val (.int p1), .val (.int p2), .val (.int p3), .val (.int p4), .val (.int x101), .val (.int x102), .val (.int x103), .val (.int x104), .val (.int x105), .val (.int x106), .val (.int 5), .val (.ref b197), .val (.int (hst (hst (hst 0 x101) x102) x103))] [])
    refine g_iload B W211 at_307 rfl ?_
    refine g_iload B W211 at_309 rfl ?_
    obtain ⟨T212, h212, v212, W212, Q212, st212⟩ := x_static B W211 [(.int (hst (hst (hst 0 x101) x102) x103)), (.int x104)] (c_step l Z a0 hw (hst (hst (hst 0 x101) x102) x103) x104 h207) (by simp) at_311 (tw hw 3 rfl) (tw hw 4 rfl) (tw hw 5 rfl) (tw hw 6 rfl) (by decide) (lenOf pd__IC_I rfl) #[.val (.int p1), .val (.int p2), .val (.int p3), .val (.int p4), .val (.int x101), .val (.int x102), .val (.int x103), .val (.int x104), .val (.int x105), .val (.int x106), .val (.int 5), .val (.ref b197), .val (.int (hst (hst (hst 0 x101) x102) x103))] [] rfl 0 rfl (by decide) (by decide) (by decide) (by decide)
    obtain ⟨rfl, rfl⟩ := Q212
    refine st212 _ ?_
    refine g_istore B W212 at_314  (l' := #[.val (.int p1), .val (.int p2), .val (.int p3), .val (.int p4), .val (.int x101), .val (.int x102), .val (.int x103), .val (.int x104), .val (.int x105), .val (.int x106), .val (.int 5), .val (.ref b197), .val (.int (hst (hst (hst (hst 0 x101) x102) x103) x104))]) rfl ?_
    refine g_iload B W212 at_316 rfl ?_
    refine g_iconst B W212 at_318 (v := 4) (by decide) ?_
    refine g_icmp_n B W212 at_319 (XT.ii_le_f (by decide)) ?_
    show Go p.tables e below _ T212 (mkF m 322 #[.val (.int p1), .val (.int p2), .val (.int p3), .val (.int p4), .val (.int x101), .val (.int x102), .val (.int x103), .val (.int x104), .val (.int x105), .val (.int x106), .val (.int 5), .val (.ref b197), .val (.int (hst (hst (hst (hst 0 x101) x102) x103) x104))] [])
    refine g_iload B W212 at_322 rfl ?_
    refine g_iload B W212 at_324 rfl ?_
    obtain ⟨T213, h213, v213, W213, Q213, st213⟩ := x_static B W212 [(.int (hst (hst (hst (hst 0 x101) x102) x103) x104)), (.int x105)] (c_step l Z a0 hw (hst (hst (hst (hst 0 x101) x102) x103) x104) x105 h207) (by simp) at_326 (tw hw 3 rfl) (tw hw 4 rfl) (tw hw 5 rfl) (tw hw 6 rfl) (by decide) (lenOf pd__IC_I rfl) #[.val (.int p1), .val (.int p2), .val (.int p3), .val (.int p4), .val (.int x101), .val (.int x102), .val (.int x103), .val (.int x104), .val (.int x105), .val (.int x106), .val (.int 5), .val (.ref b197), .val (.int (hst (hst (hst (hst 0 x101) x102) x103) x104))] [] rfl 0 rfl (by decide) (by decide) (by decide) (by decide)
    obtain ⟨rfl, rfl⟩ := Q213
    refine st213 _ ?_
    refine g_istore B W213 at_329  (l' := #[.val (.int p1), .val (.int p2), .val (.int p3), .val (.int p4), .val (.int x101), .val (.int x102), .val (.int x103), .val (.int x104), .val (.int x105), .val (.int x106), .val (.int 5), .val (.ref b197), .val (.int (hst (hst (hst (hst (hst 0 x101) x102) x103) x104) x105))]) rfl ?_
    refine g_iload B W213 at_331 rfl ?_
    refine g_iconst B W213 at_333 (v := 5) (by decide) ?_
    refine g_icmp_y B W213 at_334 (XT.ii_le_t (by decide)) (pc' := 346) (by decide) ?_
    show Go p.tables e below _ T213 (mkF m 346 #[.val (.int p1), .val (.int p2), .val (.int p3), .val (.int p4), .val (.int x101), .val (.int x102), .val (.int x103), .val (.int x104), .val (.int x105), .val (.int x106), .val (.int 5), .val (.ref b197), .val (.int (hst (hst (hst (hst (hst 0 x101) x102) x103) x104) x105))] [])
    obtain ⟨T214, h214, b214, gb214, W214, K214, E214, D214, st214⟩ := x_new B W213 at_346 (tw hw 10 rfl) (tw hw 11 rfl) (tw hw 12 rfl) (by decide) (by decide) #[.val (.int p1), .val (.int p2), .val (.int p3), .val (.int p4), .val (.int x101), .val (.int x102), .val (.int x103), .val (.int x104), .val (.int x105), .val (.int x106), .val (.int 5), .val (.ref b197), .val (.int (hst (hst (hst (hst (hst 0 x101) x102) x103) x104) x105))] []
    have l214 := nlt E214.lt
    have z214 := W213.size
    refine st214 _ ?_
    have s215 := K214.1
    have f216 : Fld Z h214 b214 "java/lang/String" "coder" "B" (.int 0) := D214 (Or.inr (tw hw 36 rfl)) (ty := .byte) (by decide)
    have f217 : Fld Z h214 b214 "java/lang/String" "value" "[B" .null := D214 (Or.inr (tw hw 38 rfl)) (ty := (.array .byte)) (by decide)
    refine g_dup B W214 at_349 rfl ?_
    refine g_aload B W214 at_350 rfl rfl ?_
    obtain ⟨fs218, efs218⟩ : ∃ f : Nat → Int32, f = fun i => ([x101, x102, x103, x104, x105] : List Int32).getD i 0 := ⟨_, rfl⟩
    have efs218_0 : fs218 0 = x101 := by rw [efs218]; rfl
    have efs218_1 : fs218 1 = x102 := by rw [efs218]; rfl
    have efs218_2 : fs218 2 = x103 := by rw [efs218]; rfl
    have efs218_3 : fs218 3 = x104 := by rw [efs218]; rfl
    have efs218_4 : fs218 4 = x105 := by rw [efs218]; rfl
    have f219 := (A207.keep K214 nin0)
    have A218 : Arv Z h214 b197 cA197 .char (Int32.ofNat 5) (arl 5 fs218) (.int 0) := by rw [show arl 5 fs218 = [.int x101, .int x102, .int x103, .int x104, .int x105] by rw [efs218]; rfl]; exact f219
    obtain ⟨T220, h220, v220, W220, Q220, st220⟩ := x_special B W214 (b := b214) [(.ref b197)] (c_sI1w l Z a0 hw b214 b197 cA197 5 fs218 cz h214 Scs hcz Sad Shi Slo E214 f217 f216 (by omega) A218 (by intro j hj; obtain rfl | rfl | rfl | rfl | rfl : j = 0 ∨ j = 1 ∨ j = 2 ∨ j = 3 ∨ j = 4 := (by omega); (· exact (by rw [efs218_0]; exact (own_rn rx101))); (· exact (by rw [efs218_1]; exact (own_rn rx102))); (· exact (by rw [efs218_2]; exact (own_rn rx103))); (· exact (by rw [efs218_3]; exact (own_rn rx104))); (· exact (by rw [efs218_4]; exact (own_rn rx105)))) (by omega) (by omega)) (by simp) at_352 rfl (tw hw 13 rfl) (tw hw 14 rfl) (tw hw 12 rfl) (tw hw 15 rfl) (by decide) (lenOf pd___C_V rfl) #[.val (.int p1), .val (.int p2), .val (.int p3), .val (.int p4), .val (.int x101), .val (.int x102), .val (.int x103), .val (.int x104), .val (.int x105), .val (.int x106), .val (.int 5), .val (.ref b197), .val (.int (hst (hst (hst (hst (hst 0 x101) x102) x103) x104) x105))] [(.ref b214)] rfl 1 rfl (by decide) (by decide) (by decide) (by decide)
    obtain ⟨rfl, K220, S220⟩ := Q220
    have s221 := K220.1
    refine st220 _ ?_
    have E220 := S220.exa
    obtain ⟨T222, h222, v222, W222, Q222, st222⟩ := x_static B W220 [(.ref b214)] (c_sks l Z a0 hw b214 5 fs218 ka kc cz sf h220 Scs hcz Ssf rsf Sad Shi Slo Sk Ak lk_ sk vk S220 (by omega) (by intro j hj; obtain rfl | rfl | rfl | rfl | rfl : j = 0 ∨ j = 1 ∨ j = 2 ∨ j = 3 ∨ j = 4 := (by omega); (· exact (by rw [efs218_0]; exact (own_rn rx101))); (· exact (by rw [efs218_1]; exact (own_rn rx102))); (· exact (by rw [efs218_2]; exact (own_rn rx103))); (· exact (by rw [efs218_3]; exact (own_rn rx104))); (· exact (by rw [efs218_4]; exact (own_rn rx105))))) (by simp) at_355 (tw hw 39 rfl) (tw hw 40 rfl) (tw hw 41 rfl) (tw hw 42 rfl) (by decide) (lenOf pd__Ljava_lang_String__I rfl) #[.val (.int p1), .val (.int p2), .val (.int p3), .val (.int p4), .val (.int x101), .val (.int x102), .val (.int x103), .val (.int x104), .val (.int x105), .val (.int x106), .val (.int 5), .val (.ref b197), .val (.int (hst (hst (hst (hst (hst 0 x101) x102) x103) x104) x105))] [] rfl 0 rfl (by decide) (by decide) (by decide) (by decide)
    obtain ⟨rfl, K222⟩ := Q222
    have s223 := K222.1
    refine st222 _ ?_
    refine g_iload B W222 at_358 rfl ?_
    refine g_diab (decide ((hfold fs218 5) = (hst (hst (hst (hst (hst 0 x101) x102) x103) x104) x105))) (m := m) (ls := #[.val (.int p1), .val (.int p2), .val (.int p3), .val (.int p4), .val (.int x101), .val (.int x102), .val (.int x103), .val (.int x104), .val (.int x105), .val (.int x106), .val (.int 5), .val (.ref b197), .val (.int (hst (hst (hst (hst (hst 0 x101) x102) x103) x104) x105))]) (st := []) (pc' := 368) (fun hd1 q => ?_) (fun hd1 q => ?_) ?_
    · refine g_icmp_n B W222 at_360 (XT.ii_ne_f (of_decide_eq_true hd1)) ?_
      refine g_iconst B W222 at_363 (v := 1) (by decide) ?_
      exact g_goto B W222 at_364 (pc' := 368) (by decide) q
    · refine g_icmp_y B W222 at_360 (XT.ii_ne_t (of_decide_eq_false hd1)) (pc' := 367) (by decide) ?_
      exact g_iconst B W222 at_367 (v := 0) (by decide) q
    show Go p.tables e below _ T222 (mkF m 368 #[.val (.int p1), .val (.int p2), .val (.int p3), .val (.int p4), .val (.int x101), .val (.int x102), .val (.int x103), .val (.int x104), .val (.int x105), .val (.int x106), .val (.int 5), .val (.ref b197), .val (.int (hst (hst (hst (hst (hst 0 x101) x102) x103) x104) x105))] [(.int (bi (decide ((hfold fs218 5) = (hst (hst (hst (hst (hst 0 x101) x102) x103) x104) x105)))))])
    exact r_b B W222 at_368 (by decide) (by decide) (by show some (Value.int (bi (decide ((hfold fs218 5) = (hst (hst (hst (hst (hst 0 x101) x102) x103) x104) x105))))) = some (.int 1); rw [show (decide ((hfold fs218 5) = (hst (hst (hst (hst (hst 0 x101) x102) x103) x104) x105))) = true from decide_eq_true (by simp only [hfold, efs218_0, efs218_1, efs218_2, efs218_3, efs218_4])]; rfl)
  · skip
    show Go p.tables e below _ T0 (mkF m 58 #[.val (.int p1), .val (.int p2), .val (.int p3), .val (.int p4), .val (.int x101), .val (.int x102), .val (.int x103), .val (.int x104), .val (.int x105), .val (.int x106), .unset, .unset, .unset] [(.int 6)])
    refine g_istore B W0 at_58  (l' := #[.val (.int p1), .val (.int p2), .val (.int p3), .val (.int p4), .val (.int x101), .val (.int x102), .val (.int x103), .val (.int x104), .val (.int x105), .val (.int x106), .val (.int 6), .unset, .unset]) rfl ?_
    refine g_iload B W0 at_60 rfl ?_
    refine g_if_y B W0 at_62 (XT.i0_ne_t (by decide)) (pc' := 73) (by decide) ?_
    show Go p.tables e below _ T0 (mkF m 73 #[.val (.int p1), .val (.int p2), .val (.int p3), .val (.int p4), .val (.int x101), .val (.int x102), .val (.int x103), .val (.int x104), .val (.int x105), .val (.int x106), .val (.int 6), .unset, .unset] [])
    refine g_iload B W0 at_73 rfl ?_
    refine g_iconst B W0 at_75 (v := 1) (by decide) ?_
    refine g_icmp_y B W0 at_76 (XT.ii_ne_t (by decide)) (pc' := 92) (by decide) ?_
    show Go p.tables e below _ T0 (mkF m 92 #[.val (.int p1), .val (.int p2), .val (.int p3), .val (.int p4), .val (.int x101), .val (.int x102), .val (.int x103), .val (.int x104), .val (.int x105), .val (.int x106), .val (.int 6), .unset, .unset] [])
    refine g_iload B W0 at_92 rfl ?_
    refine g_iconst B W0 at_94 (v := 2) (by decide) ?_
    refine g_icmp_y B W0 at_95 (XT.ii_ne_t (by decide)) (pc' := 116) (by decide) ?_
    show Go p.tables e below _ T0 (mkF m 116 #[.val (.int p1), .val (.int p2), .val (.int p3), .val (.int p4), .val (.int x101), .val (.int x102), .val (.int x103), .val (.int x104), .val (.int x105), .val (.int x106), .val (.int 6), .unset, .unset] [])
    refine g_iload B W0 at_116 rfl ?_
    refine g_iconst B W0 at_118 (v := 3) (by decide) ?_
    refine g_icmp_y B W0 at_119 (XT.ii_ne_t (by decide)) (pc' := 145) (by decide) ?_
    show Go p.tables e below _ T0 (mkF m 145 #[.val (.int p1), .val (.int p2), .val (.int p3), .val (.int p4), .val (.int x101), .val (.int x102), .val (.int x103), .val (.int x104), .val (.int x105), .val (.int x106), .val (.int 6), .unset, .unset] [])
    refine g_iload B W0 at_145 rfl ?_
    refine g_iconst B W0 at_147 (v := 4) (by decide) ?_
    refine g_icmp_y B W0 at_148 (XT.ii_ne_t (by decide)) (pc' := 179) (by decide) ?_
    show Go p.tables e below _ T0 (mkF m 179 #[.val (.int p1), .val (.int p2), .val (.int p3), .val (.int p4), .val (.int x101), .val (.int x102), .val (.int x103), .val (.int x104), .val (.int x105), .val (.int x106), .val (.int 6), .unset, .unset] [])
    refine g_iload B W0 at_179 rfl ?_
    refine g_iconst B W0 at_181 (v := 5) (by decide) ?_
    refine g_icmp_y B W0 at_182 (XT.ii_ne_t (by decide)) (pc' := 218) (by decide) ?_
    show Go p.tables e below _ T0 (mkF m 218 #[.val (.int p1), .val (.int p2), .val (.int p3), .val (.int p4), .val (.int x101), .val (.int x102), .val (.int x103), .val (.int x104), .val (.int x105), .val (.int x106), .val (.int 6), .unset, .unset] [])
    refine g_bipush B W0 at_218 (v := 6) (by decide) ?_
    obtain ⟨T224, h224, b224, cA224, gb224, W224, K224, A224, st224⟩ := x_newA B W0 (z := 6) 6 at_220 (tw hw 2 rfl) (by decide) (by decide) (by decide) (by decide) (by decide) #[.val (.int p1), .val (.int p2), .val (.int p3), .val (.int p4), .val (.int x101), .val (.int x102), .val (.int x103), .val (.int x104), .val (.int x105), .val (.int x106), .val (.int 6), .unset, .unset] []
    have l224 := nlt A224.lt
    have z224 := W0.size
    refine st224 _ ?_
    have s225 := K224.1
    refine g_dup B W224 at_222 rfl ?_
    refine g_iconst B W224 at_223 (v := 0) (by decide) ?_
    refine g_iload B W224 at_224 rfl ?_
    obtain ⟨T226, h226, W226, K226, A226, st226⟩ := x_castore B W224 (j := 0) (x := x101) at_226 A224 (by decide) (Nat.lt_of_lt_of_eq (show Int32.toNatClampNeg 0 < 6 by decide) rfl) (by omega) #[.val (.int p1), .val (.int p2), .val (.int p3), .val (.int p4), .val (.int x101), .val (.int x102), .val (.int x103), .val (.int x104), .val (.int x105), .val (.int x106), .val (.int 6), .unset, .unset] [(.ref b224)]
    refine st226 _ ?_
    rw [nx101] at A226
    have A226 : Arv Z h226 b224 cA224 .char 6 [(.int x101), (.int 0), (.int 0), (.int 0), (.int 0), (.int 0)] (.int 0) := A226
    have s227 := K226.1
    refine g_dup B W226 at_227 rfl ?_
    refine g_iconst B W226 at_228 (v := 1) (by decide) ?_
    refine g_iload B W226 at_229 rfl ?_
    obtain ⟨T228, h228, W228, K228, A228, st228⟩ := x_castore B W226 (j := 1) (x := x102) at_231 A226 (by decide) (Nat.lt_of_lt_of_eq (show Int32.toNatClampNeg 1 < 6 by decide) rfl) (by omega) #[.val (.int p1), .val (.int p2), .val (.int p3), .val (.int p4), .val (.int x101), .val (.int x102), .val (.int x103), .val (.int x104), .val (.int x105), .val (.int x106), .val (.int 6), .unset, .unset] [(.ref b224)]
    refine st228 _ ?_
    rw [nx102] at A228
    have A228 : Arv Z h228 b224 cA224 .char 6 [(.int x101), (.int x102), (.int 0), (.int 0), (.int 0), (.int 0)] (.int 0) := A228
    have s229 := K228.1
    refine g_dup B W228 at_232 rfl ?_
    refine g_iconst B W228 at_233 (v := 2) (by decide) ?_
    refine g_iload B W228 at_234 rfl ?_
    obtain ⟨T230, h230, W230, K230, A230, st230⟩ := x_castore B W228 (j := 2) (x := x103) at_236 A228 (by decide) (Nat.lt_of_lt_of_eq (show Int32.toNatClampNeg 2 < 6 by decide) rfl) (by omega) #[.val (.int p1), .val (.int p2), .val (.int p3), .val (.int p4), .val (.int x101), .val (.int x102), .val (.int x103), .val (.int x104), .val (.int x105), .val (.int x106), .val (.int 6), .unset, .unset] [(.ref b224)]
    refine st230 _ ?_
    rw [nx103] at A230
    have A230 : Arv Z h230 b224 cA224 .char 6 [(.int x101), (.int x102), (.int x103), (.int 0), (.int 0), (.int 0)] (.int 0) := A230
    have s231 := K230.1
    refine g_dup B W230 at_237 rfl ?_
    refine g_iconst B W230 at_238 (v := 3) (by decide) ?_
    refine g_iload B W230 at_239 rfl ?_
    obtain ⟨T232, h232, W232, K232, A232, st232⟩ := x_castore B W230 (j := 3) (x := x104) at_241 A230 (by decide) (Nat.lt_of_lt_of_eq (show Int32.toNatClampNeg 3 < 6 by decide) rfl) (by omega) #[.val (.int p1), .val (.int p2), .val (.int p3), .val (.int p4), .val (.int x101), .val (.int x102), .val (.int x103), .val (.int x104), .val (.int x105), .val (.int x106), .val (.int 6), .unset, .unset] [(.ref b224)]
    refine st232 _ ?_
    rw [nx104] at A232
    have A232 : Arv Z h232 b224 cA224 .char 6 [(.int x101), (.int x102), (.int x103), (.int x104), (.int 0), (.int 0)] (.int 0) := A232
    have s233 := K232.1
    refine g_dup B W232 at_242 rfl ?_
    refine g_iconst B W232 at_243 (v := 4) (by decide) ?_
    refine g_iload B W232 at_244 rfl ?_
    obtain ⟨T234, h234, W234, K234, A234, st234⟩ := x_castore B W232 (j := 4) (x := x105) at_246 A232 (by decide) (Nat.lt_of_lt_of_eq (show Int32.toNatClampNeg 4 < 6 by decide) rfl) (by omega) #[.val (.int p1), .val (.int p2), .val (.int p3), .val (.int p4), .val (.int x101), .val (.int x102), .val (.int x103), .val (.int x104), .val (.int x105), .val (.int x106), .val (.int 6), .unset, .unset] [(.ref b224)]
    refine st234 _ ?_
    rw [nx105] at A234
    have A234 : Arv Z h234 b224 cA224 .char 6 [(.int x101), (.int x102), (.int x103), (.int x104), (.int x105), (.int 0)] (.int 0) := A234
    have s235 := K234.1
    refine g_dup B W234 at_247 rfl ?_
    refine g_iconst B W234 at_248 (v := 5) (by decide) ?_
    refine g_iload B W234 at_249 rfl ?_
    obtain ⟨T236, h236, W236, K236, A236, st236⟩ := x_castore B W234 (j := 5) (x := x106) at_251 A234 (by decide) (Nat.lt_of_lt_of_eq (show Int32.toNatClampNeg 5 < 6 by decide) rfl) (by omega) #[.val (.int p1), .val (.int p2), .val (.int p3), .val (.int p4), .val (.int x101), .val (.int x102), .val (.int x103), .val (.int x104), .val (.int x105), .val (.int x106), .val (.int 6), .unset, .unset] [(.ref b224)]
    refine st236 _ ?_
    rw [nx106] at A236
    have A236 : Arv Z h236 b224 cA224 .char 6 [(.int x101), (.int x102), (.int x103), (.int x104), (.int x105), (.int x106)] (.int 0) := A236
    have s237 := K236.1
    refine g_astore B W236 at_252 rfl (l' := #[.val (.int p1), .val (.int p2), .val (.int p3), .val (.int p4), .val (.int x101), .val (.int x102), .val (.int x103), .val (.int x104), .val (.int x105), .val (.int x106), .val (.int 6), .val (.ref b224), .unset]) rfl ?_
    refine g_iconst B W236 at_254 (v := 0) (by decide) ?_
    refine g_istore B W236 at_255  (l' := #[.val (.int p1), .val (.int p2), .val (.int p3), .val (.int p4), .val (.int x101), .val (.int x102), .val (.int x103), .val (.int x104), .val (.int x105), .val (.int x106), .val (.int 6), .val (.ref b224), .val (.int 0)]) rfl ?_
    refine g_iload B W236 at_257 rfl ?_
    refine g_if_n B W236 at_259 (XT.i0_le_f (by decide)) ?_
    show Go p.tables e below _ T236 (mkF m 262 #[.val (.int p1), .val (.int p2), .val (.int p3), .val (.int p4), .val (.int x101), .val (.int x102), .val (.int x103), .val (.int x104), .val (.int x105), .val (.int x106), .val (.int 6), .val (.ref b224), .val (.int 0)] [])
    refine g_iload B W236 at_262 rfl ?_
    refine g_iload B W236 at_264 rfl ?_
    obtain ⟨T238, h238, v238, W238, Q238, st238⟩ := x_static B W236 [(.int 0), (.int x101)] (c_step l Z a0 hw 0 x101 h236) (by simp) at_266 (tw hw 3 rfl) (tw hw 4 rfl) (tw hw 5 rfl) (tw hw 6 rfl) (by decide) (lenOf pd__IC_I rfl) #[.val (.int p1), .val (.int p2), .val (.int p3), .val (.int p4), .val (.int x101), .val (.int x102), .val (.int x103), .val (.int x104), .val (.int x105), .val (.int x106), .val (.int 6), .val (.ref b224), .val (.int 0)] [] rfl 0 rfl (by decide) (by decide) (by decide) (by decide)
    obtain ⟨rfl, rfl⟩ := Q238
    refine st238 _ ?_
    refine g_istore B W238 at_269  (l' := #[.val (.int p1), .val (.int p2), .val (.int p3), .val (.int p4), .val (.int x101), .val (.int x102), .val (.int x103), .val (.int x104), .val (.int x105), .val (.int x106), .val (.int 6), .val (.ref b224), .val (.int (hst 0 x101))]) rfl ?_
    refine g_iload B W238 at_271 rfl ?_
    refine g_iconst B W238 at_273 (v := 1) (by decide) ?_
    refine g_icmp_n B W238 at_274 (XT.ii_le_f (by decide)) ?_
    show Go p.tables e below _ T238 (mkF m 277 #[.val (.int p1), .val (.int p2), .val (.int p3), .val (.int p4), .val (.int x101), .val (.int x102), .val (.int x103), .val (.int x104), .val (.int x105), .val (.int x106), .val (.int 6), .val (.ref b224), .val (.int (hst 0 x101))] [])
    refine g_iload B W238 at_277 rfl ?_
    refine g_iload B W238 at_279 rfl ?_
    obtain ⟨T239, h239, v239, W239, Q239, st239⟩ := x_static B W238 [(.int (hst 0 x101)), (.int x102)] (c_step l Z a0 hw (hst 0 x101) x102 h236) (by simp) at_281 (tw hw 3 rfl) (tw hw 4 rfl) (tw hw 5 rfl) (tw hw 6 rfl) (by decide) (lenOf pd__IC_I rfl) #[.val (.int p1), .val (.int p2), .val (.int p3), .val (.int p4), .val (.int x101), .val (.int x102), .val (.int x103), .val (.int x104), .val (.int x105), .val (.int x106), .val (.int 6), .val (.ref b224), .val (.int (hst 0 x101))] [] rfl 0 rfl (by decide) (by decide) (by decide) (by decide)
    obtain ⟨rfl, rfl⟩ := Q239
    refine st239 _ ?_
    refine g_istore B W239 at_284  (l' := #[.val (.int p1), .val (.int p2), .val (.int p3), .val (.int p4), .val (.int x101), .val (.int x102), .val (.int x103), .val (.int x104), .val (.int x105), .val (.int x106), .val (.int 6), .val (.ref b224), .val (.int (hst (hst 0 x101) x102))]) rfl ?_
    refine g_iload B W239 at_286 rfl ?_
    refine g_iconst B W239 at_288 (v := 2) (by decide) ?_
    refine g_icmp_n B W239 at_289 (XT.ii_le_f (by decide)) ?_
    show Go p.tables e below _ T239 (mkF m 292 #[.val (.int p1), .val (.int p2), .val (.int p3), .val (.int p4), .val (.int x101), .val (.int x102), .val (.int x103), .val (.int x104), .val (.int x105), .val (.int x106), .val (.int 6), .val (.ref b224), .val (.int (hst (hst 0 x101) x102))] [])
    refine g_iload B W239 at_292 rfl ?_
    refine g_iload B W239 at_294 rfl ?_
    obtain ⟨T240, h240, v240, W240, Q240, st240⟩ := x_static B W239 [(.int (hst (hst 0 x101) x102)), (.int x103)] (c_step l Z a0 hw (hst (hst 0 x101) x102) x103 h236) (by simp) at_296 (tw hw 3 rfl) (tw hw 4 rfl) (tw hw 5 rfl) (tw hw 6 rfl) (by decide) (lenOf pd__IC_I rfl) #[.val (.int p1), .val (.int p2), .val (.int p3), .val (.int p4), .val (.int x101), .val (.int x102), .val (.int x103), .val (.int x104), .val (.int x105), .val (.int x106), .val (.int 6), .val (.ref b224), .val (.int (hst (hst 0 x101) x102))] [] rfl 0 rfl (by decide) (by decide) (by decide) (by decide)
    obtain ⟨rfl, rfl⟩ := Q240
    refine st240 _ ?_
    refine g_istore B W240 at_299  (l' := #[.val (.int p1), .val (.int p2), .val (.int p3), .val (.int p4), .val (.int x101), .val (.int x102), .val (.int x103), .val (.int x104), .val (.int x105), .val (.int x106), .val (.int 6), .val (.ref b224), .val (.int (hst (hst (hst 0 x101) x102) x103))]) rfl ?_
    refine g_iload B W240 at_301 rfl ?_
    refine g_iconst B W240 at_303 (v := 3) (by decide) ?_
    refine g_icmp_n B W240 at_304 (XT.ii_le_f (by decide)) ?_
    show Go p.tables e below _ T240 (mkF m 307 #[.val (.int p1), .val (.int p2), .val (.int p3), .val (.int p4), .val (.int x101), .val (.int x102), .val (.int x103), .val (.int x104), .val (.int x105), .val (.int x106), .val (.int 6), .val (.ref b224), .val (.int (hst (hst (hst 0 x101) x102) x103))] [])
    refine g_iload B W240 at_307 rfl ?_
    refine g_iload B W240 at_309 rfl ?_
    obtain ⟨T241, h241, v241, W241, Q241, st241⟩ := x_static B W240 [(.int (hst (hst (hst 0 x101) x102) x103)), (.int x104)] (c_step l Z a0 hw (hst (hst (hst 0 x101) x102) x103) x104 h236) (by simp) at_311 (tw hw 3 rfl) (tw hw 4 rfl) (tw hw 5 rfl) (tw hw 6 rfl) (by decide) (lenOf pd__IC_I rfl) #[.val (.int p1), .val (.int p2), .val (.int p3), .val (.int p4), .val (.int x101), .val (.int x102), .val (.int x103), .val (.int x104), .val (.int x105), .val (.int x106), .val (.int 6), .val (.ref b224), .val (.int (hst (hst (hst 0 x101) x102) x103))] [] rfl 0 rfl (by decide) (by decide) (by decide) (by decide)
    obtain ⟨rfl, rfl⟩ := Q241
    refine st241 _ ?_
    refine g_istore B W241 at_314  (l' := #[.val (.int p1), .val (.int p2), .val (.int p3), .val (.int p4), .val (.int x101), .val (.int x102), .val (.int x103), .val (.int x104), .val (.int x105), .val (.int x106), .val (.int 6), .val (.ref b224), .val (.int (hst (hst (hst (hst 0 x101) x102) x103) x104))]) rfl ?_
    refine g_iload B W241 at_316 rfl ?_
    refine g_iconst B W241 at_318 (v := 4) (by decide) ?_
    refine g_icmp_n B W241 at_319 (XT.ii_le_f (by decide)) ?_
    show Go p.tables e below _ T241 (mkF m 322 #[.val (.int p1), .val (.int p2), .val (.int p3), .val (.int p4), .val (.int x101), .val (.int x102), .val (.int x103), .val (.int x104), .val (.int x105), .val (.int x106), .val (.int 6), .val (.ref b224), .val (.int (hst (hst (hst (hst 0 x101) x102) x103) x104))] [])
    refine g_iload B W241 at_322 rfl ?_
    refine g_iload B W241 at_324 rfl ?_
    obtain ⟨T242, h242, v242, W242, Q242, st242⟩ := x_static B W241 [(.int (hst (hst (hst (hst 0 x101) x102) x103) x104)), (.int x105)] (c_step l Z a0 hw (hst (hst (hst (hst 0 x101) x102) x103) x104) x105 h236) (by simp) at_326 (tw hw 3 rfl) (tw hw 4 rfl) (tw hw 5 rfl) (tw hw 6 rfl) (by decide) (lenOf pd__IC_I rfl) #[.val (.int p1), .val (.int p2), .val (.int p3), .val (.int p4), .val (.int x101), .val (.int x102), .val (.int x103), .val (.int x104), .val (.int x105), .val (.int x106), .val (.int 6), .val (.ref b224), .val (.int (hst (hst (hst (hst 0 x101) x102) x103) x104))] [] rfl 0 rfl (by decide) (by decide) (by decide) (by decide)
    obtain ⟨rfl, rfl⟩ := Q242
    refine st242 _ ?_
    refine g_istore B W242 at_329  (l' := #[.val (.int p1), .val (.int p2), .val (.int p3), .val (.int p4), .val (.int x101), .val (.int x102), .val (.int x103), .val (.int x104), .val (.int x105), .val (.int x106), .val (.int 6), .val (.ref b224), .val (.int (hst (hst (hst (hst (hst 0 x101) x102) x103) x104) x105))]) rfl ?_
    refine g_iload B W242 at_331 rfl ?_
    refine g_iconst B W242 at_333 (v := 5) (by decide) ?_
    refine g_icmp_n B W242 at_334 (XT.ii_le_f (by decide)) ?_
    show Go p.tables e below _ T242 (mkF m 337 #[.val (.int p1), .val (.int p2), .val (.int p3), .val (.int p4), .val (.int x101), .val (.int x102), .val (.int x103), .val (.int x104), .val (.int x105), .val (.int x106), .val (.int 6), .val (.ref b224), .val (.int (hst (hst (hst (hst (hst 0 x101) x102) x103) x104) x105))] [])
    refine g_iload B W242 at_337 rfl ?_
    refine g_iload B W242 at_339 rfl ?_
    obtain ⟨T243, h243, v243, W243, Q243, st243⟩ := x_static B W242 [(.int (hst (hst (hst (hst (hst 0 x101) x102) x103) x104) x105)), (.int x106)] (c_step l Z a0 hw (hst (hst (hst (hst (hst 0 x101) x102) x103) x104) x105) x106 h236) (by simp) at_341 (tw hw 3 rfl) (tw hw 4 rfl) (tw hw 5 rfl) (tw hw 6 rfl) (by decide) (lenOf pd__IC_I rfl) #[.val (.int p1), .val (.int p2), .val (.int p3), .val (.int p4), .val (.int x101), .val (.int x102), .val (.int x103), .val (.int x104), .val (.int x105), .val (.int x106), .val (.int 6), .val (.ref b224), .val (.int (hst (hst (hst (hst (hst 0 x101) x102) x103) x104) x105))] [] rfl 0 rfl (by decide) (by decide) (by decide) (by decide)
    obtain ⟨rfl, rfl⟩ := Q243
    refine st243 _ ?_
    refine g_istore B W243 at_344  (l' := #[.val (.int p1), .val (.int p2), .val (.int p3), .val (.int p4), .val (.int x101), .val (.int x102), .val (.int x103), .val (.int x104), .val (.int x105), .val (.int x106), .val (.int 6), .val (.ref b224), .val (.int (hst (hst (hst (hst (hst (hst 0 x101) x102) x103) x104) x105) x106))]) rfl ?_
    obtain ⟨T244, h244, b244, gb244, W244, K244, E244, D244, st244⟩ := x_new B W243 at_346 (tw hw 10 rfl) (tw hw 11 rfl) (tw hw 12 rfl) (by decide) (by decide) #[.val (.int p1), .val (.int p2), .val (.int p3), .val (.int p4), .val (.int x101), .val (.int x102), .val (.int x103), .val (.int x104), .val (.int x105), .val (.int x106), .val (.int 6), .val (.ref b224), .val (.int (hst (hst (hst (hst (hst (hst 0 x101) x102) x103) x104) x105) x106))] []
    have l244 := nlt E244.lt
    have z244 := W243.size
    refine st244 _ ?_
    have s245 := K244.1
    have f246 : Fld Z h244 b244 "java/lang/String" "coder" "B" (.int 0) := D244 (Or.inr (tw hw 36 rfl)) (ty := .byte) (by decide)
    have f247 : Fld Z h244 b244 "java/lang/String" "value" "[B" .null := D244 (Or.inr (tw hw 38 rfl)) (ty := (.array .byte)) (by decide)
    refine g_dup B W244 at_349 rfl ?_
    refine g_aload B W244 at_350 rfl rfl ?_
    obtain ⟨fs248, efs248⟩ : ∃ f : Nat → Int32, f = fun i => ([x101, x102, x103, x104, x105, x106] : List Int32).getD i 0 := ⟨_, rfl⟩
    have efs248_0 : fs248 0 = x101 := by rw [efs248]; rfl
    have efs248_1 : fs248 1 = x102 := by rw [efs248]; rfl
    have efs248_2 : fs248 2 = x103 := by rw [efs248]; rfl
    have efs248_3 : fs248 3 = x104 := by rw [efs248]; rfl
    have efs248_4 : fs248 4 = x105 := by rw [efs248]; rfl
    have efs248_5 : fs248 5 = x106 := by rw [efs248]; rfl
    have f249 := (A236.keep K244 nin0)
    have A248 : Arv Z h244 b224 cA224 .char (Int32.ofNat 6) (arl 6 fs248) (.int 0) := by rw [show arl 6 fs248 = [.int x101, .int x102, .int x103, .int x104, .int x105, .int x106] by rw [efs248]; rfl]; exact f249
    obtain ⟨T250, h250, v250, W250, Q250, st250⟩ := x_special B W244 (b := b244) [(.ref b224)] (c_sI1w l Z a0 hw b244 b224 cA224 6 fs248 cz h244 Scs hcz Sad Shi Slo E244 f247 f246 (by omega) A248 (by intro j hj; obtain rfl | rfl | rfl | rfl | rfl | rfl : j = 0 ∨ j = 1 ∨ j = 2 ∨ j = 3 ∨ j = 4 ∨ j = 5 := (by omega); (· exact (by rw [efs248_0]; exact (own_rn rx101))); (· exact (by rw [efs248_1]; exact (own_rn rx102))); (· exact (by rw [efs248_2]; exact (own_rn rx103))); (· exact (by rw [efs248_3]; exact (own_rn rx104))); (· exact (by rw [efs248_4]; exact (own_rn rx105))); (· exact (by rw [efs248_5]; exact (own_rn rx106)))) (by omega) (by omega)) (by simp) at_352 rfl (tw hw 13 rfl) (tw hw 14 rfl) (tw hw 12 rfl) (tw hw 15 rfl) (by decide) (lenOf pd___C_V rfl) #[.val (.int p1), .val (.int p2), .val (.int p3), .val (.int p4), .val (.int x101), .val (.int x102), .val (.int x103), .val (.int x104), .val (.int x105), .val (.int x106), .val (.int 6), .val (.ref b224), .val (.int (hst (hst (hst (hst (hst (hst 0 x101) x102) x103) x104) x105) x106))] [(.ref b244)] rfl 1 rfl (by decide) (by decide) (by decide) (by decide)
    obtain ⟨rfl, K250, S250⟩ := Q250
    have s251 := K250.1
    refine st250 _ ?_
    have E250 := S250.exa
    obtain ⟨T252, h252, v252, W252, Q252, st252⟩ := x_static B W250 [(.ref b244)] (c_sks l Z a0 hw b244 6 fs248 ka kc cz sf h250 Scs hcz Ssf rsf Sad Shi Slo Sk Ak lk_ sk vk S250 (by omega) (by intro j hj; obtain rfl | rfl | rfl | rfl | rfl | rfl : j = 0 ∨ j = 1 ∨ j = 2 ∨ j = 3 ∨ j = 4 ∨ j = 5 := (by omega); (· exact (by rw [efs248_0]; exact (own_rn rx101))); (· exact (by rw [efs248_1]; exact (own_rn rx102))); (· exact (by rw [efs248_2]; exact (own_rn rx103))); (· exact (by rw [efs248_3]; exact (own_rn rx104))); (· exact (by rw [efs248_4]; exact (own_rn rx105))); (· exact (by rw [efs248_5]; exact (own_rn rx106))))) (by simp) at_355 (tw hw 39 rfl) (tw hw 40 rfl) (tw hw 41 rfl) (tw hw 42 rfl) (by decide) (lenOf pd__Ljava_lang_String__I rfl) #[.val (.int p1), .val (.int p2), .val (.int p3), .val (.int p4), .val (.int x101), .val (.int x102), .val (.int x103), .val (.int x104), .val (.int x105), .val (.int x106), .val (.int 6), .val (.ref b224), .val (.int (hst (hst (hst (hst (hst (hst 0 x101) x102) x103) x104) x105) x106))] [] rfl 0 rfl (by decide) (by decide) (by decide) (by decide)
    obtain ⟨rfl, K252⟩ := Q252
    have s253 := K252.1
    refine st252 _ ?_
    refine g_iload B W252 at_358 rfl ?_
    refine g_diab (decide ((hfold fs248 6) = (hst (hst (hst (hst (hst (hst 0 x101) x102) x103) x104) x105) x106))) (m := m) (ls := #[.val (.int p1), .val (.int p2), .val (.int p3), .val (.int p4), .val (.int x101), .val (.int x102), .val (.int x103), .val (.int x104), .val (.int x105), .val (.int x106), .val (.int 6), .val (.ref b224), .val (.int (hst (hst (hst (hst (hst (hst 0 x101) x102) x103) x104) x105) x106))]) (st := []) (pc' := 368) (fun hd1 q => ?_) (fun hd1 q => ?_) ?_
    · refine g_icmp_n B W252 at_360 (XT.ii_ne_f (of_decide_eq_true hd1)) ?_
      refine g_iconst B W252 at_363 (v := 1) (by decide) ?_
      exact g_goto B W252 at_364 (pc' := 368) (by decide) q
    · refine g_icmp_y B W252 at_360 (XT.ii_ne_t (of_decide_eq_false hd1)) (pc' := 367) (by decide) ?_
      exact g_iconst B W252 at_367 (v := 0) (by decide) q
    show Go p.tables e below _ T252 (mkF m 368 #[.val (.int p1), .val (.int p2), .val (.int p3), .val (.int p4), .val (.int x101), .val (.int x102), .val (.int x103), .val (.int x104), .val (.int x105), .val (.int x106), .val (.int 6), .val (.ref b224), .val (.int (hst (hst (hst (hst (hst (hst 0 x101) x102) x103) x104) x105) x106))] [(.int (bi (decide ((hfold fs248 6) = (hst (hst (hst (hst (hst (hst 0 x101) x102) x103) x104) x105) x106)))))])
    exact r_b B W252 at_368 (by decide) (by decide) (by show some (Value.int (bi (decide ((hfold fs248 6) = (hst (hst (hst (hst (hst (hst 0 x101) x102) x103) x104) x105) x106))))) = some (.int 1); rw [show (decide ((hfold fs248 6) = (hst (hst (hst (hst (hst (hst 0 x101) x102) x103) x104) x105) x106))) = true from decide_eq_true (by simp only [hfold, efs248_0, efs248_1, efs248_2, efs248_3, efs248_4, efs248_5])]; rfl)
theorem own_ELc : ∀ p ∈ Jvm.OwnK.EL, p ∈ consts_1 := by decide
theorem own_len {args : Array Value} {s : State} {t : Term} {a : Addr} {c : Cell} {ty : FieldType} {n : Int32} (A : Arr s s.heap a c ty) (et : t.eval args s none [] s = some (.ref a)) (h : (Jvm.Cond.eq (Term.length t) (Term.int n)).value args s none s [] = some true) : c.slots.size < 2 ^ 31 ∧ c.slots.size.toInt32 = n := by
  have e := eqv_i (Term.int_eval n) h
  by_cases q : c.slots.size < 2 ^ 31
  · rw [len_f et (A.fin (Vm.Alike.refl _)) q] at e
    exact ⟨q, by simpa using e⟩
  · simp [Term.eval, et, A.fin (Vm.Alike.refl _), q] at e
theorem own_or {args : Array Value} {s : State} {idx : List Nat} {G X : Jvm.Cond} {P : Prop} [Decidable P] (hG : G.value args s none s idx = some (decide P)) (h : (Jvm.Cond.or G X).value args s none s idx = some true) (hp : ¬ P) : X.value args s none s idx = some true := by
  simp only [Cond.value, hG, decide_eq_false hp] at h
  revert h
  cases X.value args s none s idx with
  | none => intro h; cases h
  | some b => intro h; cases b <;> simp_all
theorem own_kept (j : Int32) : kept j = if j < 48 then 0 else if j < 58 then j else if j < 65 then 0 else if j < 91 then j else if j < 97 then 0 else if j < 123 then j - 32 else 0 := by
  unfold kept
  simp only [Int32.lt_iff_toInt_lt, Int32.reduceToInt]
  have r := rng32 j
  by_cases h1 : j.toInt < 48
  · rw [if_neg (by omega), if_neg (by omega), if_pos h1]
  · by_cases h2 : j.toInt < 58
    · rw [if_pos (by omega), if_neg h1, if_pos h2]
    · by_cases h3 : j.toInt < 65
      · rw [if_neg (by omega), if_neg (by omega), if_neg h1, if_neg h2, if_pos h3]
      · by_cases h4 : j.toInt < 91
        · rw [if_pos (by omega), if_neg h1, if_neg h2, if_neg h3, if_pos h4]
        · by_cases h5 : j.toInt < 97
          · rw [if_neg (by omega), if_neg (by omega), if_neg h1, if_neg h2, if_neg h3, if_neg h4, if_pos h5]
          · by_cases h6 : j.toInt < 123
            · rw [if_neg (by omega), if_pos (by omega), if_neg h1, if_neg h2, if_neg h3, if_neg h4, if_neg h5, if_pos h6]
            · rw [if_neg (by omega), if_neg (by omega), if_neg h1, if_neg h2, if_neg h3, if_neg h4, if_neg h5, if_neg h6]
set_option maxRecDepth 65536 in
set_option maxHeartbeats 40000000 in
theorem comes_1 {Post : Tables → Env → Array Value → State → Outcome → State → Prop} (hpost : ∀ tb e args s v u, (limb_1_1.after args s (.returned v) u = true ∧ limb_1_2.after args s (.returned v) u = true ∧ True) → ReturnedEndW s (.returned v) u (Jvm.fieldLocs frame_1_writes args s ++ Jvm.arrayLocs frame_1_arrays args s ++ Jvm.staticLocs frame_1_statics s) 24 1216 → Post tb e args s (.returned v) u) :
    ArmFor flags0 classFile x code maxLocals ret World_1 tables_1 room_1 Calls_1 rest_1 Pre_1 Post := by
  intro l hfl _ _ p e ha hc hk s m args below hf hA hF happ hP
  obtain ⟨hcalls, hrest, hpre⟩ := hP
  obtain ⟨-, -, -, hnamed, -, -, -, hat⟩ := (Spec.applies_iff hf).mp happ
  obtain ⟨hg, hn⟩ := and_e (Cond.before_iff.mp (show (Jvm.Cond.and given_1 narrow_1).before args s = true from hpre))
  obtain ⟨hcnt, hgs⟩ := and_e hg
  obtain ⟨ha0, hr0⟩ := and_e hgs
  obtain ⟨ha1, hr1⟩ := and_e hr0
  obtain ⟨ha2, hr2⟩ := and_e hr1
  have ha3 := hr2
  obtain ⟨w0, w1, w2, w3, rfl⟩ : ∃ w0 w1 w2 w3 : Value, args = #[w0, w1, w2, w3] := by
    have hs : args.size = 4 := by simpa [Cond.value, given_1] using hcnt
    obtain ⟨L⟩ := args
    match L, hs with
    | [w0, w1, w2, w3], _ => exact ⟨w0, w1, w2, w3, rfl⟩
  have hw := fun d (hd : d ∈ tables_1) => atoms_spec (ws := Jvm.Cond.code x code maxLocals ret :: tables_1) hat d (List.mem_cons_of_mem _ hd)
  obtain ⟨hsets, hown0⟩ := atoms_of _ (rest_1_c_eq ▸ (show rest_1_c.before _ s = true from hrest))
  have hfit : Fit s := fun {y c} hc i hi => by
    obtain ⟨ha, rfl⟩ := Array.getElem?_eq_some_iff.mp hc
    have q := List.all_eq_true.mp ((Array.all_eq_true_iff_forall_mem.mp hF) _ (Array.getElem_mem ha)) i (List.mem_range.mpr hi)
    simpa [Array.getElem?_eq_getElem hi] using q
  obtain ⟨i0, ei0⟩ := is_v ha0
  obtain rfl : w0 = (.int i0) := Option.some.inj ei0
  obtain ⟨i1, ei1⟩ := is_v ha1
  obtain rfl : w1 = (.int i1) := Option.some.inj ei1
  obtain ⟨i2, ei2⟩ := is_v ha2
  obtain rfl : w2 = (.int i2) := Option.some.inj ei2
  obtain ⟨i3, ei3⟩ := is_v ha3
  obtain rfl : w3 = (.int i3) := Option.some.inj ei3
  obtain ⟨cz, ecz⟩ := is_v (Cond.before_iff.mp (hsets _ (List.mem_of_getElem? (i := 1) rfl)))
  have Scs : Sta s s.heap "java/lang/String" "COMPACT_STRINGS" "Z" (.int cz) := Sta.start ecz (Or.inl (hsets _ (List.mem_of_getElem? (i := 0) rfl)))
  have hcz : ¬ (cz = (0 : Int32)) := gotF (Cond.eq_ints ecz (Term.int_eval (0))) (not_v (Cond.before_iff.mp (hsets _ (List.mem_of_getElem? (i := 2) rfl))))
  have hEL : EW s _ Jvm.OwnK.EL := own_EL hw
  have hWd : Wd s := ⟨_, hEL, own_wS hw⟩
  have hCH : CHv s Jvm.OwnK.EL s.vm s.heap := CHv.start hEL (fun p hp => hcalls.1 p (own_ELc p hp)) (hsets _ (List.mem_of_getElem? (i := 2) rfl)) (own_wS hw _ (by simp [Bundle.stringAtoms])) (own_wS hw _ (by simp [Bundle.stringAtoms, Bundle.sN]))
  obtain ⟨sf, esf⟩ : ∃ v : Value, (Jvm.Term.static "jdk/internal/util/Preconditions" "SIOOBE_FORMATTER" "Ljava/util/function/BiFunction;").eval _ s none [] s = some v ∧ v.isRef = true := own_isref (Cond.before_iff.mp (hsets _ (List.mem_of_getElem? (i := 8) rfl)))
  have Ssf : Sta s s.heap "jdk/internal/util/Preconditions" "SIOOBE_FORMATTER" "Ljava/util/function/BiFunction;" sf := Sta.start esf.1 (Or.inl (hsets _ (List.mem_of_getElem? (i := 7) rfl)))
  have rsf := esf.2
  have Sad : Sta s s.heap "java/lang/StringUTF16" "$assertionsDisabled" "Z" (.int 1) := Sta.start (eqv_i (Term.int_eval 1) (Cond.before_iff.mp (hsets _ (List.mem_of_getElem? (i := 12) rfl)))) (Or.inl (hsets _ (List.mem_of_getElem? (i := 11) rfl)))
  have Shi : Sta s s.heap "java/lang/StringUTF16" "HI_BYTE_SHIFT" "I" (.int 0) := Sta.start (eqv_i (Term.int_eval 0) (Cond.before_iff.mp (hsets _ (List.mem_of_getElem? (i := 15) rfl)))) (Or.inl (hsets _ (List.mem_of_getElem? (i := 14) rfl)))
  have Slo : Sta s s.heap "java/lang/StringUTF16" "LO_BYTE_SHIFT" "I" (.int 8) := Sta.start (eqv_i (Term.int_eval 8) (Cond.before_iff.mp (hsets _ (List.mem_of_getElem? (i := 18) rfl)))) (Or.inl (hsets _ (List.mem_of_getElem? (i := 17) rfl)))
  obtain ⟨hk1, hn1⟩ := and_e hn
  obtain ⟨hk2, hn2⟩ := and_e hn1
  obtain ⟨hk3, hn3⟩ := and_e hn2
  obtain ⟨hk4, hn4⟩ := and_e hn3
  obtain ⟨hk5, hn5⟩ := and_e hn4
  obtain ⟨hk6, hn6⟩ := and_e hn5
  obtain ⟨hk7, hn7⟩ := and_e hn6
  obtain ⟨hk8, hk9⟩ := and_e hn7
  obtain ⟨ka, eka⟩ := arr_v hk1
  obtain ⟨kc, Ak⟩ := Arr.start eka hk1
  obtain ⟨lq, lk_⟩ := own_len Ak eka hk2
  have sk : kc.slots.size = 128 := by have q := len_toInt lq; rw [lk_] at q; have q2 : (128 : Int32).toInt = 128 := rfl; rw [q2] at q; omega
  have Sk : Sta s s.heap "com/example/stratify/stratify/EnvironmentNames" "KEPT" "[C" (.ref ka) := Sta.start eka (Or.inr ⟨hw _ (List.mem_of_getElem? (i := 41) rfl), hw _ (List.mem_of_getElem? (i := 64) rfl)⟩)
  have vk : ∀ j : Int32, ¬ j < 0 → j < 128 → kc.slots[j.toNatClampNeg]? = some (.int (kept j)) := by
    intro j j0 j1
    have hin := inb_of (z := 128) sk ⟨j0, j1⟩
    have hix : j.toNatClampNeg < kc.slots.size := Nat.lt_of_not_le fun q => hin (Or.inr q)
    have jx := idx_at (args := #[Value.int i0, .int i1, .int i2, .int i3]) (s := s) (first := s) (o := none) j0
    have al := fun {c : Jvm.Cond} (h : (Jvm.Cond.all (Jvm.Term.static "com/example/stratify/stratify/EnvironmentNames" "KEPT" "[C") c).value #[Value.int i0, .int i1, .int i2, .int i3] s none s [] = some true) => Cond.all_elim eka (Ak.fin (Vm.Alike.refl _)) h _ hix
    have el : (Jvm.Term.elem (Jvm.Term.static "com/example/stratify/stratify/EnvironmentNames" "KEPT" "[C") (Jvm.Term.index 0)).eval #[Value.int i0, .int i1, .int i2, .int i3] s none [j.toNatClampNeg] s = kc.slots[j.toNatClampNeg]? := elem_f eka jx (Ak.fin (Vm.Alike.refl _)) j0
    rw [← el]
    have ex : kept j = if j < 48 then 0 else if j < 58 then j else if j < 65 then 0 else if j < 91 then j else if j < 97 then 0 else if j < 123 then j - 32 else 0 := own_kept j
    rw [ex]
    have LT := fun (n : Int32) => Cond.lt_ints jx (Term.int_eval n (args := #[Value.int i0, .int i1, .int i2, .int i3]) (first := s) (o := none) (idx := [j.toNatClampNeg]) (s := s))
    have LE := fun (n : Int32) => Cond.le_ints (Term.int_eval n (args := #[Value.int i0, .int i1, .int i2, .int i3]) (first := s) (o := none) (idx := [j.toNatClampNeg]) (s := s)) jx
    split
    · rename_i q; exact eqv_i (Term.int_eval 0) (own_or (LE 48) (al hk3) (Int32.not_le.mpr q))
    rename_i q1; split
    · rename_i q; exact eqv_i jx (own_or (LE 58) (own_or (LT 48) (al hk4) q1) (Int32.not_le.mpr q))
    rename_i q2; split
    · rename_i q; exact eqv_i (Term.int_eval 0) (own_or (LE 65) (own_or (LT 58) (al hk5) q2) (Int32.not_le.mpr q))
    rename_i q3; split
    · rename_i q; exact eqv_i jx (own_or (LE 91) (own_or (LT 65) (al hk6) q3) (Int32.not_le.mpr q))
    rename_i q4; split
    · rename_i q; exact eqv_i (Term.int_eval 0) (own_or (LE 97) (own_or (LT 91) (al hk7) q4) (Int32.not_le.mpr q))
    rename_i q5; split
    · rename_i q; exact eqv_i (by simp [Term.eval, (back32 j0).1]) (own_or (LE 123) (own_or (LT 97) (al hk8) q5) (Int32.not_le.mpr q))
    · rename_i q; exact eqv_i (Term.int_eval 0) (own_or (LT 123) (al hk9) q)
  obtain ⟨n, o, h1, h2, h3, v, L, rfl, ⟨hQ, N, -⟩, hch, hq⟩ := c_law l s _ hw tables_1 i0 i1 i2 i3 ka kc cz sf s.heap Scs hcz Ssf rsf Sad Shi Slo Sk Ak lk_ sk vk hWd (Old.start s) p e ha hc hk s m _ below hf ((Spec.applies_iff_loose hf).mp happ).1 ⟨rfl, State.Warmed39.refl s, rfl, hCH, fun _ q => nomatch q⟩ trivial
  obtain rfl := hQ
  exact ⟨n, _, h1, h2, h3, hpost _ _ _ _ _ _ ⟨Cond.after_iff.mpr rfl, Cond.after_iff.mpr (eq_i res_at (Term.int_eval (1)) rfl), trivial⟩ ⟨hq.1, hq.2.1, hq.2.2.1, (hq.2.2.2.sift fun y hy => Or.inr (N y hy)).mono (by decide) (by decide)⟩⟩
theorem main_1_1 : Claimed_1_1 := comes_1 fun _ _ _ _ _ _ h hF => ⟨h.1, hF⟩
theorem main_1_2 : Claimed_1_2 := comes_1 fun _ _ _ _ _ _ h hF => ⟨h.2.1, hF⟩
end Jvm.Pilot.@@N@@
namespace Jvm.Pilot.@@N@@
open Jvm Jvm.ClassFile Sem Op Lib Jvm.Free Jvm.Stand Jvm.Pilot.@@N@@.Jvm.D
/-! MADE BY PROGRAM (witnessworld.py) out of the Statement's table words and the real class files: 20 classes; the members and pool entries that the words name. The judged class is class 1, her method 1. -/
namespace start1
open Jvm.ClassFile
def u (s : String) : CpInfo := .utf8 (stringToUtf16 s)
/-- a pool by its gaps: so many unusable entries, then the entry; so many at the end -/
def gap : Nat → List CpInfo → List CpInfo
  | 0, r => r
  | n + 1, r => .unusable :: gap n r
def poolList (es : List (Nat × CpInfo)) (last : Nat) : List CpInfo := es.foldr (fun e r => gap e.1 (e.2 :: r)) (gap last [])
def pool (es : List (Nat × CpInfo)) (last : Nat) : Array CpInfo := ⟨poolList es last⟩
def fileOf (pool : Array CpInfo) (this : Nat) (attrs : Array Attribute := #[]) (ms : Array MethodInfo := #[]) (fl : Nat := 33) (sup : Nat := 0) (ifs : Array Nat := #[]) (fds : Array FieldInfo := #[]) : ClassFile where
  minorVersion := 0
  majorVersion := 65
  constantPool := pool
  accessFlags := fl
  thisClass := this
  superClass := sup
  interfaces := ifs
  fields := fds
  methods := ms
  attributes := attrs
def plain (name : String) (sup : Option ClassId) : Class where
  name := name
  kind := .ordinary
  loader := none
  accessFlags := 33
  super := sup
  interfaces := #[]
  cf := none
  fields := #[]
  methods := #[]
  instanceTypes := #[]
  staticTypes := #[]
  resolved := #[]
  callSites := []
  init := .initialized
  statics := none
  mirror := none

def pool0 : Array CpInfo := pool [(5, u "<init>"), (0, u "()V"), (1, .class_ 10), (1, u "java/lang/Object")] 113

def k0c0 : Code := { maxStack := 0, maxLocals := 1, code := object_method_1_code, exceptionTable := #[], attributes := #[] }
def k0m0 : Method := { name := "<init>", desc := "()V", sig := { parameters := [], returnType := none }, accessFlags := 1, code := some k0c0 }
/-- java/lang/Object -/
def k0 : Class := { plain "java/lang/Object" none with
  accessFlags := 33
  interfaces := #[]
  cf := some (fileOf pool0 8 #[] #[{ accessFlags := 1, nameIndex := 5, descriptorIndex := 6, attributes := #[] }] 33 0 #[] #[])
  fields := #[]
  methods := #[k0m0]
  instanceTypes := #[]
  staticTypes := #[]
  resolved := Array.replicate 124 none
  statics := none }

def pool1 : Array CpInfo := pool [(2, .class_ 4), (1, u "java/lang/Object"), (0, u "<init>"), (0, u "()V"), (0, .integer 65535), (0, .integer 2147483647), (0, .methodref 10 11), (0, .class_ 12), (0, .nameAndType 13 14), (0, u "com/example/stratify/stratify/EnvironmentNamesSkeletonHashPinLaw"), (0, u "step"), (0, u "(IC)I"), (0, .class_ 16), (0, u "java/lang/String"), (0, .methodref 15 18), (0, .nameAndType 5 19), (0, u "([C)V"), (0, .methodref 21 22), (0, .class_ 23), (0, .nameAndType 24 25), (0, u "com/example/stratify/stratify/EnvironmentNames"), (0, u "skeletonHash"), (0, u "(Ljava/lang/String;)I"), (0, .methodref 10 27), (0, .nameAndType 28 29), (0, u "kept"), (0, u "(C)I"), (2, u "law"), (0, u "(IIII)Z")] 5

def k1m0 : Method := { name := "<init>", desc := "()V", sig := { parameters := [], returnType := none }, accessFlags := 2, code := none }
def k1c1 : Code := { maxStack := 4, maxLocals := 13, code := code, exceptionTable := #[], attributes := #[] }
def k1m1 : Method := { name := "law", desc := "(IIII)Z", sig := { parameters := [.int, .int, .int, .int], returnType := some .boolean }, accessFlags := 9, code := some k1c1 }
def k1c2 : Code := { maxStack := 2, maxLocals := 1, code := method_3_code, exceptionTable := #[], attributes := #[] }
def k1m2 : Method := { name := "kept", desc := "(C)I", sig := { parameters := [.char], returnType := some .int }, accessFlags := 10, code := some k1c2 }
def k1c3 : Code := { maxStack := 2, maxLocals := 3, code := method_4_code, exceptionTable := #[], attributes := #[] }
def k1m3 : Method := { name := "step", desc := "(IC)I", sig := { parameters := [.int, .char], returnType := some .int }, accessFlags := 10, code := some k1c3 }
/-- com/example/stratify/stratify/EnvironmentNamesSkeletonHashPinLaw -/
def k1 : Class := { plain "com/example/stratify/stratify/EnvironmentNamesSkeletonHashPinLaw" (some 0) with
  accessFlags := 49
  interfaces := #[]
  cf := some (fileOf pool1 10 #[] #[{ accessFlags := 2, nameIndex := 5, descriptorIndex := 6, attributes := #[] }, { accessFlags := 9, nameIndex := 32, descriptorIndex := 33, attributes := #[] }, { accessFlags := 10, nameIndex := 28, descriptorIndex := 29, attributes := #[] }, { accessFlags := 10, nameIndex := 13, descriptorIndex := 14, attributes := #[] }] 49 2 #[] #[])
  fields := #[]
  methods := #[k1m0, k1m1, k1m2, k1m3]
  instanceTypes := #[]
  staticTypes := #[]
  resolved := Array.replicate 39 none
  statics := none }

def pool2 : Array CpInfo := pool [(1, .class_ 2), (0, u "java/io/Serializable"), (0, .class_ 4), (0, u "java/lang/Object")] 2

/-- java/io/Serializable -/
def k2 : Class := { plain "java/io/Serializable" (some 0) with
  accessFlags := 1537
  interfaces := #[]
  cf := some (fileOf pool2 1 #[] #[] 1537 3 #[] #[])
  fields := #[]
  methods := #[]
  instanceTypes := #[]
  staticTypes := #[]
  resolved := Array.replicate 7 none
  statics := none }

def pool3 : Array CpInfo := pool [(1, .class_ 2), (0, u "java/lang/Comparable"), (0, .class_ 4), (0, u "java/lang/Object")] 7

/-- java/lang/Comparable -/
def k3 : Class := { plain "java/lang/Comparable" (some 0) with
  accessFlags := 1537
  interfaces := #[]
  cf := some (fileOf pool3 1 #[] #[] 1537 3 #[] #[])
  fields := #[]
  methods := #[]
  instanceTypes := #[]
  staticTypes := #[]
  resolved := Array.replicate 12 none
  statics := none }

def pool4 : Array CpInfo := pool [(2, .class_ 4), (1, u "java/lang/CharSequence"), (42, .class_ 48), (0, u "java/lang/CharSequence$1CodePointIterator"), (10, .class_ 60), (0, u "java/lang/CharSequence$1CharIterator"), (5, .class_ 67), (0, u "java/lang/Object")] 63

/-- java/lang/CharSequence -/
def k4 : Class := { plain "java/lang/CharSequence" (some 0) with
  accessFlags := 1537
  interfaces := #[]
  cf := some (fileOf pool4 2 #[.nestMembers #[47, 59]] #[] 1537 66 #[] #[])
  fields := #[]
  methods := #[]
  instanceTypes := #[]
  staticTypes := #[]
  resolved := Array.replicate 131 none
  statics := none }

def pool5 : Array CpInfo := pool [(1, .class_ 2), (0, u "java/lang/constant/Constable"), (0, .class_ 4), (0, u "java/lang/Object")] 6

/-- java/lang/constant/Constable -/
def k5 : Class := { plain "java/lang/constant/Constable" (some 0) with
  accessFlags := 1537
  interfaces := #[]
  cf := some (fileOf pool5 1 #[] #[] 1537 3 #[] #[])
  fields := #[]
  methods := #[]
  instanceTypes := #[]
  staticTypes := #[]
  resolved := Array.replicate 11 none
  statics := none }

def pool6 : Array CpInfo := pool [(1, .class_ 2), (0, u "java/lang/constant/ConstantDesc"), (0, .class_ 4), (0, u "java/lang/Object")] 32

/-- java/lang/constant/ConstantDesc -/
def k6 : Class := { plain "java/lang/constant/ConstantDesc" (some 0) with
  accessFlags := 1537
  interfaces := #[]
  cf := some (fileOf pool6 1 #[] #[] 1537 3 #[] #[])
  fields := #[]
  methods := #[]
  instanceTypes := #[]
  staticTypes := #[]
  resolved := Array.replicate 37 none
  statics := none }

def pool7 : Array CpInfo := pool [(1, .methodref 2 3), (0, .class_ 4), (0, .nameAndType 5 6), (0, u "java/lang/Object"), (0, u "<init>"), (0, u "()V"), (0, .string 8), (0, u ""), (0, .fieldref 10 11), (0, .class_ 12), (0, .nameAndType 13 14), (0, u "java/lang/String"), (0, u "value"), (0, u "[B"), (0, .fieldref 10 16), (0, .nameAndType 17 18), (0, u "coder"), (0, u "B"), (2, u "hash"), (0, u "I"), (2, u "hashIsZero"), (0, u "Z"), (0, .methodref 10 28), (0, .nameAndType 5 29), (0, u "([CIILjava/lang/Void;)V"), (6, u "checkBoundsOffCount"), (0, u "(III)I"), (0, .fieldref 10 39), (0, .nameAndType 40 26), (0, u "COMPACT_STRINGS"), (1, .class_ 44), (1, u "java/lang/StringUTF16"), (0, u "compress"), (1, .methodref 42 48), (0, .nameAndType 49 50), (0, u "coderFromArrayLen"), (0, u "([BI)B"), (56, .class_ 109), (1, u "java/lang/StringLatin1"), (32, u "()Z"), (34, .methodref 42 178), (0, .nameAndType 45 179), (0, u "([CII)[B"), (119, .methodref 107 300), (0, .nameAndType 301 302), (0, u "toChars"), (0, u "([B)[C"), (0, .methodref 42 300), (188, .methodref 10 493), (0, .nameAndType 494 142), (0, u "isLatin1"), (80, .class_ 576), (0, u "java/lang/CharSequence"), (22, u "CASE_INSENSITIVE_ORDER"), (0, u "Ljava/util/Comparator;"), (354, u "toCharArray"), (0, u "()[C"), (53, u "([C)V"), (42, .fieldref 1054 1055), (0, .class_ 1056), (0, .nameAndType 1057 1058), (0, u "jdk/internal/util/Preconditions"), (0, u "SIOOBE_FORMATTER"), (0, u "Ljava/util/function/BiFunction;"), (5, u "(IIILjava/util/function/BiFunction;)I"), (0, .methodref 1054 1066), (0, .nameAndType 1067 1064), (0, u "checkFromIndexSize"), (33, u "serialPersistentFields"), (0, u "[Ljava/io/ObjectStreamField;"), (0, .class_ 1104), (0, u "java/lang/String$CaseInsensitiveComparator"), (1, .class_ 1107), (0, u "java/io/Serializable"), (0, .class_ 1109), (0, u "java/lang/Comparable"), (0, .class_ 1111), (0, u "java/lang/constant/Constable"), (0, .class_ 1113), (0, u "java/lang/constant/ConstantDesc"), (2, u "serialVersionUID"), (0, u "J"), (3, u "REPL"), (0, u "C"), (2, u "LATIN1"), (1, u "UTF16")] 323

def k7m0 : Method := { name := "<init>", desc := "()V", sig := { parameters := [], returnType := none }, accessFlags := 1, code := none }
def k7c1 : Code := { maxStack := 5, maxLocals := 2, code := jdk_42_method_3_code, exceptionTable := #[], attributes := #[] }
def k7m1 : Method := { name := "<init>", desc := "([C)V", sig := { parameters := [(.array .char)], returnType := none }, accessFlags := 1, code := some k7c1 }
def k7c2 : Code := { maxStack := 1, maxLocals := 1, code := jdk_42_method_129_code, exceptionTable := #[], attributes := #[] }
def k7m2 : Method := { name := "toCharArray", desc := "()[C", sig := { parameters := [], returnType := some (.array .char) }, accessFlags := 1, code := some k7c2 }
def k7c3 : Code := { maxStack := 4, maxLocals := 6, code := jdk_42_method_149_code, exceptionTable := #[], attributes := #[] }
def k7m3 : Method := { name := "<init>", desc := "([CIILjava/lang/Void;)V", sig := { parameters := [(.array .char), .int, .int, (.object "java/lang/Void")], returnType := none }, accessFlags := 2, code := some k7c3 }
def k7c4 : Code := { maxStack := 1, maxLocals := 1, code := jdk_42_method_154_code, exceptionTable := #[], attributes := #[] }
def k7m4 : Method := { name := "isLatin1", desc := "()Z", sig := { parameters := [], returnType := some .boolean }, accessFlags := 0, code := some k7c4 }
def k7c5 : Code := { maxStack := 4, maxLocals := 3, code := jdk_42_method_157_code, exceptionTable := #[], attributes := #[] }
def k7m5 : Method := { name := "checkBoundsOffCount", desc := "(III)I", sig := { parameters := [.int, .int, .int], returnType := some .int }, accessFlags := 8, code := some k7c5 }
/-- java/lang/String -/
def k7 : Class := { plain "java/lang/String" (some 0) with
  accessFlags := 49
  interfaces := #[2, 3, 4, 5, 6]
  cf := some (fileOf pool7 10 #[.nestMembers #[1103]] #[{ accessFlags := 1, nameIndex := 5, descriptorIndex := 6, attributes := #[] }, { accessFlags := 1, nameIndex := 5, descriptorIndex := 1010, attributes := #[] }, { accessFlags := 1, nameIndex := 955, descriptorIndex := 956, attributes := #[] }, { accessFlags := 2, nameIndex := 5, descriptorIndex := 29, attributes := #[] }, { accessFlags := 0, nameIndex := 494, descriptorIndex := 142, attributes := #[] }, { accessFlags := 8, nameIndex := 36, descriptorIndex := 37, attributes := #[] }] 49 2 #[1106, 1108, 575, 1110, 1112] #[{ accessFlags := 18, nameIndex := 13, descriptorIndex := 14, attributes := #[] }, { accessFlags := 18, nameIndex := 17, descriptorIndex := 18, attributes := #[] }, { accessFlags := 2, nameIndex := 21, descriptorIndex := 22, attributes := #[] }, { accessFlags := 2, nameIndex := 25, descriptorIndex := 26, attributes := #[] }, { accessFlags := 26, nameIndex := 1116, descriptorIndex := 1117, attributes := #[] }, { accessFlags := 24, nameIndex := 40, descriptorIndex := 26, attributes := #[] }, { accessFlags := 26, nameIndex := 1101, descriptorIndex := 1102, attributes := #[] }, { accessFlags := 26, nameIndex := 1121, descriptorIndex := 1122, attributes := #[] }, { accessFlags := 25, nameIndex := 599, descriptorIndex := 600, attributes := #[] }, { accessFlags := 24, nameIndex := 1125, descriptorIndex := 18, attributes := #[] }, { accessFlags := 24, nameIndex := 1127, descriptorIndex := 18, attributes := #[] }])
  fields := #[{ name := "value", type := (.array .byte), accessFlags := 18, slot := 0, constantValue := 0 }, { name := "coder", type := .byte, accessFlags := 18, slot := 1, constantValue := 0 }, { name := "hash", type := .int, accessFlags := 2, slot := 2, constantValue := 0 }, { name := "hashIsZero", type := .boolean, accessFlags := 2, slot := 3, constantValue := 0 }, { name := "serialVersionUID", type := .long, accessFlags := 26, slot := 0, constantValue := 0 }, { name := "COMPACT_STRINGS", type := .boolean, accessFlags := 24, slot := 1, constantValue := 0 }, { name := "serialPersistentFields", type := (.array (.object "java/io/ObjectStreamField")), accessFlags := 26, slot := 2, constantValue := 0 }, { name := "REPL", type := .char, accessFlags := 26, slot := 3, constantValue := 0 }, { name := "CASE_INSENSITIVE_ORDER", type := (.object "java/util/Comparator"), accessFlags := 25, slot := 4, constantValue := 0 }, { name := "LATIN1", type := .byte, accessFlags := 24, slot := 5, constantValue := 0 }, { name := "UTF16", type := .byte, accessFlags := 24, slot := 6, constantValue := 0 }]
  methods := #[k7m0, k7m1, k7m2, k7m3, k7m4, k7m5]
  instanceTypes := #[(.array .byte), .byte, .int, .boolean]
  staticTypes := #[.long, .boolean, (.array (.object "java/io/ObjectStreamField")), .char, (.object "java/util/Comparator"), .byte, .byte]
  resolved := Array.replicate 1451 none
  statics := some 0 }

def pool8 : Array CpInfo := pool [(3, .class_ 4), (0, u "java/lang/String"), (1, .class_ 8), (1, u "java/lang/Object"), (0, u "<init>"), (0, u "()V"), (0, .methodref 12 13), (0, .class_ 14), (0, .nameAndType 15 16), (0, u "java/lang/StringUTF16"), (0, u "newBytesLength"), (0, u "(I)I"), (3, .integer 1073741823), (23, .fieldref 12 45), (0, .nameAndType 46 47), (0, u "$assertionsDisabled"), (0, u "Z"), (0, .methodref 12 49), (0, .nameAndType 50 51), (0, u "length"), (0, u "([B)I"), (7, .fieldref 12 60), (0, .nameAndType 61 62), (0, u "HI_BYTE_SHIFT"), (0, u "I"), (0, .fieldref 12 64), (0, .nameAndType 65 62), (0, u "LO_BYTE_SHIFT"), (5, .methodref 12 72), (0, .nameAndType 73 74), (0, u "getChar"), (0, u "([BI)C"), (24, u "(II[B)V"), (3, .methodref 12 104), (0, .nameAndType 105 106), (0, u "getChars"), (0, u "([BII[CI)V"), (0, .methodref 12 108), (0, .nameAndType 109 110), (0, u "newBytesFor"), (0, u "(I)[B"), (0, .methodref 12 112), (0, .nameAndType 113 114), (0, u "putChar"), (0, u "([BII)V"), (0, .methodref 12 116), (0, .nameAndType 117 118), (0, u "compress"), (0, u "([CI[BII)I"), (0, .methodref 12 120), (0, .nameAndType 121 122), (0, u "toBytes"), (0, u "([CII)[B"), (50, .methodref 12 174), (0, .nameAndType 175 99), (0, u "checkBoundsOffCount"), (85, u "coderFromArrayLen"), (0, u "([BI)B"), (18, u "(III)I"), (60, u "toChars"), (26, .class_ 371), (1, u "java/lang/StringUTF16$LinesSpliterator"), (47, .methodref 3 420), (0, .nameAndType 175 281), (9, u "MAX_LENGTH"), (23, u "([B)[C"), (172, .class_ 628), (0, u "java/lang/StringUTF16$CodePointsSpliterator"), (0, .class_ 630), (0, u "java/lang/StringUTF16$CharsSpliterator")] 4

def k8m0 : Method := { name := "<init>", desc := "()V", sig := { parameters := [], returnType := none }, accessFlags := 0, code := none }
def k8c1 : Code := { maxStack := 1, maxLocals := 1, code := jdk_52_method_2_code, exceptionTable := #[], attributes := #[] }
def k8m1 : Method := { name := "newBytesFor", desc := "(I)[B", sig := { parameters := [.int], returnType := some (.array .byte) }, accessFlags := 9, code := some k8c1 }
def k8c2 : Code := { maxStack := 4, maxLocals := 1, code := jdk_52_method_3_code, exceptionTable := #[], attributes := #[] }
def k8m2 : Method := { name := "newBytesLength", desc := "(I)I", sig := { parameters := [.int], returnType := some .int }, accessFlags := 9, code := some k8c2 }
def k8c3 : Code := { maxStack := 4, maxLocals := 3, code := jdk_52_method_4_code, exceptionTable := #[], attributes := #[] }
def k8m3 : Method := { name := "putChar", desc := "([BII)V", sig := { parameters := [(.array .byte), .int, .int], returnType := none }, accessFlags := 8, code := some k8c3 }
def k8c4 : Code := { maxStack := 3, maxLocals := 2, code := jdk_52_method_5_code, exceptionTable := #[], attributes := #[] }
def k8m4 : Method := { name := "getChar", desc := "([BI)C", sig := { parameters := [(.array .byte), .int], returnType := some .char }, accessFlags := 8, code := some k8c4 }
def k8c5 : Code := { maxStack := 2, maxLocals := 1, code := jdk_52_method_6_code, exceptionTable := #[], attributes := #[] }
def k8m5 : Method := { name := "length", desc := "([B)I", sig := { parameters := [(.array .byte)], returnType := some .int }, accessFlags := 9, code := some k8c5 }
def k8c6 : Code := { maxStack := 5, maxLocals := 2, code := jdk_52_method_13_code, exceptionTable := #[], attributes := #[] }
def k8m6 : Method := { name := "toChars", desc := "([B)[C", sig := { parameters := [(.array .byte)], returnType := some (.array .char) }, accessFlags := 9, code := some k8c6 }
def k8c7 : Code := { maxStack := 4, maxLocals := 5, code := jdk_52_method_14_code, exceptionTable := #[], attributes := #[] }
def k8m7 : Method := { name := "toBytes", desc := "([CII)[B", sig := { parameters := [(.array .char), .int, .int], returnType := some (.array .byte) }, accessFlags := 9, code := some k8c7 }
def k8c8 : Code := { maxStack := 2, maxLocals := 2, code := jdk_52_method_15_code, exceptionTable := #[], attributes := #[] }
def k8m8 : Method := { name := "coderFromArrayLen", desc := "([BI)B", sig := { parameters := [(.array .byte), .int], returnType := some .byte }, accessFlags := 8, code := some k8c8 }
def k8c9 : Code := { maxStack := 5, maxLocals := 6, code := jdk_52_method_16_code, exceptionTable := #[], attributes := #[] }
def k8m9 : Method := { name := "compress", desc := "([CII)[B", sig := { parameters := [(.array .char), .int, .int], returnType := some (.array .byte) }, accessFlags := 9, code := some k8c9 }
def k8c10 : Code := { maxStack := 3, maxLocals := 7, code := jdk_52_method_21_code, exceptionTable := #[], attributes := #[] }
def k8m10 : Method := { name := "compress", desc := "([CI[BII)I", sig := { parameters := [(.array .char), .int, (.array .byte), .int, .int], returnType := some .int }, accessFlags := 9, code := some k8c10 }
def k8c11 : Code := { maxStack := 4, maxLocals := 6, code := jdk_52_method_26_code, exceptionTable := #[], attributes := #[] }
def k8m11 : Method := { name := "getChars", desc := "([BII[CI)V", sig := { parameters := [(.array .byte), .int, .int, (.array .char), .int], returnType := none }, accessFlags := 9, code := some k8c11 }
def k8c12 : Code := { maxStack := 3, maxLocals := 3, code := jdk_52_method_94_code, exceptionTable := #[], attributes := #[] }
def k8m12 : Method := { name := "checkBoundsOffCount", desc := "(II[B)V", sig := { parameters := [.int, .int, (.array .byte)], returnType := none }, accessFlags := 9, code := some k8c12 }
/-- java/lang/StringUTF16 -/
def k8 : Class := { plain "java/lang/StringUTF16" (some 0) with
  accessFlags := 48
  interfaces := #[]
  cf := some (fileOf pool8 12 #[.nestMembers #[627, 629, 369]] #[{ accessFlags := 0, nameIndex := 9, descriptorIndex := 10, attributes := #[] }, { accessFlags := 9, nameIndex := 109, descriptorIndex := 110, attributes := #[] }, { accessFlags := 9, nameIndex := 15, descriptorIndex := 16, attributes := #[] }, { accessFlags := 8, nameIndex := 113, descriptorIndex := 114, attributes := #[] }, { accessFlags := 8, nameIndex := 73, descriptorIndex := 74, attributes := #[] }, { accessFlags := 9, nameIndex := 50, descriptorIndex := 51, attributes := #[] }, { accessFlags := 9, nameIndex := 342, descriptorIndex := 454, attributes := #[] }, { accessFlags := 9, nameIndex := 121, descriptorIndex := 122, attributes := #[] }, { accessFlags := 8, nameIndex := 261, descriptorIndex := 262, attributes := #[] }, { accessFlags := 9, nameIndex := 117, descriptorIndex := 122, attributes := #[] }, { accessFlags := 9, nameIndex := 117, descriptorIndex := 118, attributes := #[] }, { accessFlags := 9, nameIndex := 105, descriptorIndex := 106, attributes := #[] }, { accessFlags := 9, nameIndex := 175, descriptorIndex := 99, attributes := #[] }] 48 6 #[] #[{ accessFlags := 26, nameIndex := 61, descriptorIndex := 62, attributes := #[] }, { accessFlags := 26, nameIndex := 65, descriptorIndex := 62, attributes := #[] }, { accessFlags := 24, nameIndex := 430, descriptorIndex := 62, attributes := #[] }, { accessFlags := 4120, nameIndex := 46, descriptorIndex := 47, attributes := #[] }])
  fields := #[{ name := "HI_BYTE_SHIFT", type := .int, accessFlags := 26, slot := 0, constantValue := 0 }, { name := "LO_BYTE_SHIFT", type := .int, accessFlags := 26, slot := 1, constantValue := 0 }, { name := "MAX_LENGTH", type := .int, accessFlags := 24, slot := 2, constantValue := 0 }, { name := "$assertionsDisabled", type := .boolean, accessFlags := 4120, slot := 3, constantValue := 0 }]
  methods := #[k8m0, k8m1, k8m2, k8m3, k8m4, k8m5, k8m6, k8m7, k8m8, k8m9, k8m10, k8m11, k8m12]
  instanceTypes := #[]
  staticTypes := #[.int, .int, .int, .boolean]
  resolved := Array.replicate 635 none
  statics := some 1 }

def pool9 : Array CpInfo := pool [(2, .class_ 4), (1, u "java/lang/Object"), (0, u "<init>"), (0, u "()V"), (8, .class_ 16), (0, u "com/example/stratify/stratify/EnvironmentNames"), (0, .class_ 18), (0, u "java/lang/String"), (57, .fieldref 15 77), (0, .nameAndType 78 79), (0, u "KEPT"), (0, u "[C"), (0, .methodref 17 81), (0, .nameAndType 82 83), (0, u "toCharArray"), (0, u "()[C"), (14, .methodref 15 99), (0, .nameAndType 100 101), (0, u "skeletonHash"), (0, u "([C)I"), (38, u "RULES"), (0, u "I"), (2, u "UPPER_CASE_RULE"), (17, u "(Ljava/lang/String;)I")] 19

def k9m0 : Method := { name := "<init>", desc := "()V", sig := { parameters := [], returnType := none }, accessFlags := 2, code := none }
def k9c1 : Code := { maxStack := 1, maxLocals := 1, code := prog_7_method_10_code, exceptionTable := #[], attributes := #[] }
def k9m1 : Method := { name := "skeletonHash", desc := "(Ljava/lang/String;)I", sig := { parameters := [(.object "java/lang/String")], returnType := some .int }, accessFlags := 8, code := some k9c1 }
def k9c2 : Code := { maxStack := 2, maxLocals := 7, code := prog_7_method_11_code, exceptionTable := #[], attributes := #[] }
def k9m2 : Method := { name := "skeletonHash", desc := "([C)I", sig := { parameters := [(.array .char)], returnType := some .int }, accessFlags := 8, code := some k9c2 }
/-- com/example/stratify/stratify/EnvironmentNames -/
def k9 : Class := { plain "com/example/stratify/stratify/EnvironmentNames" (some 0) with
  accessFlags := 48
  interfaces := #[]
  cf := some (fileOf pool9 15 #[] #[{ accessFlags := 2, nameIndex := 5, descriptorIndex := 6, attributes := #[] }, { accessFlags := 8, nameIndex := 100, descriptorIndex := 162, attributes := #[] }, { accessFlags := 8, nameIndex := 100, descriptorIndex := 101, attributes := #[] }] 48 2 #[] #[{ accessFlags := 26, nameIndex := 140, descriptorIndex := 141, attributes := #[] }, { accessFlags := 26, nameIndex := 144, descriptorIndex := 141, attributes := #[] }, { accessFlags := 26, nameIndex := 78, descriptorIndex := 79, attributes := #[] }])
  fields := #[{ name := "RULES", type := .int, accessFlags := 26, slot := 0, constantValue := 0 }, { name := "UPPER_CASE_RULE", type := .int, accessFlags := 26, slot := 1, constantValue := 0 }, { name := "KEPT", type := (.array .char), accessFlags := 26, slot := 2, constantValue := 0 }]
  methods := #[k9m0, k9m1, k9m2]
  instanceTypes := #[]
  staticTypes := #[.int, .int, (.array .char)]
  resolved := Array.replicate 182 none
  statics := some 2 }

def pool10 : Array CpInfo := pool [(4, .class_ 6), (1, u "java/lang/Object"), (0, u "<init>"), (0, u "()V"), (4, .methodref 14 15), (0, .class_ 16), (0, .nameAndType 17 18), (0, u "java/lang/StringLatin1"), (0, u "inflate"), (0, u "([BI[CII)V"), (102, u "$assertionsDisabled"), (0, u "Z"), (69, u "toChars"), (28, .class_ 223), (1, u "java/lang/StringLatin1$LinesSpliterator"), (44, u "([B)[C"), (121, .class_ 391), (0, u "java/lang/StringLatin1$CharsSpliterator")] 3

def k10m0 : Method := { name := "<init>", desc := "()V", sig := { parameters := [], returnType := none }, accessFlags := 0, code := none }
def k10c1 : Code := { maxStack := 5, maxLocals := 2, code := jdk_43_method_9_code, exceptionTable := #[], attributes := #[] }
def k10m1 : Method := { name := "toChars", desc := "([B)[C", sig := { parameters := [(.array .byte)], returnType := some (.array .char) }, accessFlags := 9, code := some k10c1 }
def k10c2 : Code := { maxStack := 4, maxLocals := 6, code := jdk_43_method_49_code, exceptionTable := #[], attributes := #[] }
def k10m2 : Method := { name := "inflate", desc := "([BI[CII)V", sig := { parameters := [(.array .byte), .int, (.array .char), .int, .int], returnType := none }, accessFlags := 9, code := some k10c2 }
/-- java/lang/StringLatin1 -/
def k10 : Class := { plain "java/lang/StringLatin1" (some 0) with
  accessFlags := 48
  interfaces := #[]
  cf := some (fileOf pool10 14 #[.nestMembers #[390, 221]] #[{ accessFlags := 0, nameIndex := 7, descriptorIndex := 8, attributes := #[] }, { accessFlags := 9, nameIndex := 192, descriptorIndex := 268, attributes := #[] }, { accessFlags := 9, nameIndex := 17, descriptorIndex := 18, attributes := #[] }] 48 4 #[] #[{ accessFlags := 4120, nameIndex := 121, descriptorIndex := 122, attributes := #[] }])
  fields := #[{ name := "$assertionsDisabled", type := .boolean, accessFlags := 4120, slot := 0, constantValue := 0 }]
  methods := #[k10m0, k10m1, k10m2]
  instanceTypes := #[]
  staticTypes := #[.boolean]
  resolved := Array.replicate 395 none
  statics := none }

def pool11 : Array CpInfo := pool [(2, .class_ 4), (1, u "java/lang/Object"), (0, u "<init>"), (0, u "()V"), (17, .class_ 26), (1, u "jdk/internal/util/Preconditions"), (22, u "checkFromIndexSize"), (5, .class_ 56), (0, u "jdk/internal/util/Preconditions$4"), (57, .class_ 115), (0, u "jdk/internal/util/Preconditions$1"), (7, u "SIOOBE_FORMATTER"), (0, u "Ljava/util/function/BiFunction;"), (0, .class_ 126), (0, u "jdk/internal/util/Preconditions$2"), (3, u "AIOOBE_FORMATTER"), (0, .class_ 132), (0, u "jdk/internal/util/Preconditions$3"), (3, u "IOOBE_FORMATTER"), (46, u "(IIILjava/util/function/BiFunction;)I")] 10

def k11m0 : Method := { name := "<init>", desc := "()V", sig := { parameters := [], returnType := none }, accessFlags := 1, code := none }
def k11c1 : Code := { maxStack := 4, maxLocals := 4, code := jdk_41_method_13_code, exceptionTable := #[], attributes := #[] }
def k11m1 : Method := { name := "checkFromIndexSize", desc := "(IIILjava/util/function/BiFunction;)I", sig := { parameters := [.int, .int, .int, (.object "java/util/function/BiFunction")], returnType := some .int }, accessFlags := 9, code := some k11c1 }
/-- jdk/internal/util/Preconditions -/
def k11 : Class := { plain "jdk/internal/util/Preconditions" (some 0) with
  accessFlags := 33
  interfaces := #[]
  cf := some (fileOf pool11 24 #[.nestMembers #[55, 131, 125, 114]] #[{ accessFlags := 1, nameIndex := 5, descriptorIndex := 6, attributes := #[] }, { accessFlags := 9, nameIndex := 49, descriptorIndex := 183, attributes := #[] }] 33 2 #[] #[{ accessFlags := 25, nameIndex := 123, descriptorIndex := 124, attributes := #[] }, { accessFlags := 25, nameIndex := 130, descriptorIndex := 124, attributes := #[] }, { accessFlags := 25, nameIndex := 136, descriptorIndex := 124, attributes := #[] }])
  fields := #[{ name := "SIOOBE_FORMATTER", type := (.object "java/util/function/BiFunction"), accessFlags := 25, slot := 0, constantValue := 0 }, { name := "AIOOBE_FORMATTER", type := (.object "java/util/function/BiFunction"), accessFlags := 25, slot := 1, constantValue := 0 }, { name := "IOOBE_FORMATTER", type := (.object "java/util/function/BiFunction"), accessFlags := 25, slot := 2, constantValue := 0 }]
  methods := #[k11m0, k11m1]
  instanceTypes := #[]
  staticTypes := #[(.object "java/util/function/BiFunction"), (.object "java/util/function/BiFunction"), (.object "java/util/function/BiFunction")]
  resolved := Array.replicate 194 none
  statics := some 3 }

def pool12 : Array CpInfo := pool [(9, u "<init>"), (6, .class_ 18), (1, u "java/lang/Object"), (0, u "()V"), (1, .class_ 23), (1, u "jdk/internal/util/ArraysSupport"), (0, u "LOG2_ARRAY_LONG_INDEX_SCALE"), (0, u "I"), (2, u "U"), (0, u "Ljdk/internal/misc/Unsafe;"), (8, u "BIG_ENDIAN"), (0, u "Z"), (8, u "LOG2_BYTE_BIT_SIZE"), (4, u "LOG2_ARRAY_INT_INDEX_SCALE"), (54, u "JLA"), (0, u "Ljdk/internal/access/JavaLangAccess;"), (11, u "LOG2_ARRAY_BOOLEAN_INDEX_SCALE"), (9, u "LOG2_ARRAY_BYTE_INDEX_SCALE"), (5, u "LOG2_ARRAY_CHAR_INDEX_SCALE"), (5, u "LOG2_ARRAY_SHORT_INDEX_SCALE"), (18, u "LOG2_ARRAY_FLOAT_INDEX_SCALE"), (24, u "LOG2_ARRAY_DOUBLE_INDEX_SCALE"), (89, u "T_BOOLEAN"), (2, u "T_CHAR"), (1, u "T_FLOAT"), (1, u "T_DOUBLE"), (1, u "T_BYTE"), (1, u "T_SHORT"), (1, u "T_INT"), (1, u "T_LONG"), (1, u "SOFT_MAX_ARRAY_LENGTH")] 83

def k12m0 : Method := { name := "<init>", desc := "()V", sig := { parameters := [], returnType := none }, accessFlags := 2, code := none }
/-- jdk/internal/util/ArraysSupport -/
def k12 : Class := { plain "jdk/internal/util/ArraysSupport" (some 0) with
  accessFlags := 33
  interfaces := #[]
  cf := some (fileOf pool12 21 #[] #[{ accessFlags := 2, nameIndex := 9, descriptorIndex := 19, attributes := #[] }] 33 16 #[] #[{ accessFlags := 24, nameIndex := 28, descriptorIndex := 29, attributes := #[] }, { accessFlags := 26, nameIndex := 38, descriptorIndex := 39, attributes := #[] }, { accessFlags := 25, nameIndex := 121, descriptorIndex := 25, attributes := #[] }, { accessFlags := 25, nameIndex := 131, descriptorIndex := 25, attributes := #[] }, { accessFlags := 25, nameIndex := 137, descriptorIndex := 25, attributes := #[] }, { accessFlags := 25, nameIndex := 143, descriptorIndex := 25, attributes := #[] }, { accessFlags := 25, nameIndex := 53, descriptorIndex := 25, attributes := #[] }, { accessFlags := 25, nameIndex := 24, descriptorIndex := 25, attributes := #[] }, { accessFlags := 25, nameIndex := 162, descriptorIndex := 25, attributes := #[] }, { accessFlags := 25, nameIndex := 187, descriptorIndex := 25, attributes := #[] }, { accessFlags := 26, nameIndex := 48, descriptorIndex := 25, attributes := #[] }, { accessFlags := 25, nameIndex := 277, descriptorIndex := 25, attributes := #[] }, { accessFlags := 25, nameIndex := 280, descriptorIndex := 25, attributes := #[] }, { accessFlags := 25, nameIndex := 282, descriptorIndex := 25, attributes := #[] }, { accessFlags := 25, nameIndex := 284, descriptorIndex := 25, attributes := #[] }, { accessFlags := 25, nameIndex := 286, descriptorIndex := 25, attributes := #[] }, { accessFlags := 25, nameIndex := 288, descriptorIndex := 25, attributes := #[] }, { accessFlags := 25, nameIndex := 290, descriptorIndex := 25, attributes := #[] }, { accessFlags := 25, nameIndex := 292, descriptorIndex := 25, attributes := #[] }, { accessFlags := 26, nameIndex := 108, descriptorIndex := 109, attributes := #[] }, { accessFlags := 25, nameIndex := 294, descriptorIndex := 25, attributes := #[] }])
  fields := #[{ name := "U", type := (.object "jdk/internal/misc/Unsafe"), accessFlags := 24, slot := 0, constantValue := 0 }, { name := "BIG_ENDIAN", type := .boolean, accessFlags := 26, slot := 1, constantValue := 0 }, { name := "LOG2_ARRAY_BOOLEAN_INDEX_SCALE", type := .int, accessFlags := 25, slot := 2, constantValue := 0 }, { name := "LOG2_ARRAY_BYTE_INDEX_SCALE", type := .int, accessFlags := 25, slot := 3, constantValue := 0 }, { name := "LOG2_ARRAY_CHAR_INDEX_SCALE", type := .int, accessFlags := 25, slot := 4, constantValue := 0 }, { name := "LOG2_ARRAY_SHORT_INDEX_SCALE", type := .int, accessFlags := 25, slot := 5, constantValue := 0 }, { name := "LOG2_ARRAY_INT_INDEX_SCALE", type := .int, accessFlags := 25, slot := 6, constantValue := 0 }, { name := "LOG2_ARRAY_LONG_INDEX_SCALE", type := .int, accessFlags := 25, slot := 7, constantValue := 0 }, { name := "LOG2_ARRAY_FLOAT_INDEX_SCALE", type := .int, accessFlags := 25, slot := 8, constantValue := 0 }, { name := "LOG2_ARRAY_DOUBLE_INDEX_SCALE", type := .int, accessFlags := 25, slot := 9, constantValue := 0 }, { name := "LOG2_BYTE_BIT_SIZE", type := .int, accessFlags := 26, slot := 10, constantValue := 0 }, { name := "T_BOOLEAN", type := .int, accessFlags := 25, slot := 11, constantValue := 0 }, { name := "T_CHAR", type := .int, accessFlags := 25, slot := 12, constantValue := 0 }, { name := "T_FLOAT", type := .int, accessFlags := 25, slot := 13, constantValue := 0 }, { name := "T_DOUBLE", type := .int, accessFlags := 25, slot := 14, constantValue := 0 }, { name := "T_BYTE", type := .int, accessFlags := 25, slot := 15, constantValue := 0 }, { name := "T_SHORT", type := .int, accessFlags := 25, slot := 16, constantValue := 0 }, { name := "T_INT", type := .int, accessFlags := 25, slot := 17, constantValue := 0 }, { name := "T_LONG", type := .int, accessFlags := 25, slot := 18, constantValue := 0 }, { name := "JLA", type := (.object "jdk/internal/access/JavaLangAccess"), accessFlags := 26, slot := 19, constantValue := 0 }, { name := "SOFT_MAX_ARRAY_LENGTH", type := .int, accessFlags := 25, slot := 20, constantValue := 0 }]
  methods := #[k12m0]
  instanceTypes := #[]
  staticTypes := #[(.object "jdk/internal/misc/Unsafe"), .boolean, .int, .int, .int, .int, .int, .int, .int, .int, .int, .int, .int, .int, .int, .int, .int, .int, .int, (.object "jdk/internal/access/JavaLangAccess"), .int]
  resolved := Array.replicate 378 none
  statics := none }

def pool13 : Array CpInfo := pool [(1, u "java/lang/Cloneable"), (0, .class_ 1), (0, u "java/lang/Object"), (0, .class_ 3)] 3

/-- java/lang/Cloneable -/
def k13 : Class := { plain "java/lang/Cloneable" (some 0) with
  accessFlags := 1537
  interfaces := #[]
  cf := some (fileOf pool13 2 #[] #[] 1537 4 #[] #[])
  fields := #[]
  methods := #[]
  instanceTypes := #[]
  staticTypes := #[]
  resolved := Array.replicate 8 none
  statics := none }

/-- the primitive byte -/
def k14 : Class := { plain "byte" none with kind := .primitive 'B', accessFlags := 0x411 }
/-- [B -/
def k15 : Class := { plain "[B" (some 0) with kind := .array 14 .byte, interfaces := #[13, 2], accessFlags := 1041 }

/-- the primitive char -/
def k16 : Class := { plain "char" none with kind := .primitive 'C', accessFlags := 0x411 }
/-- [C -/
def k17 : Class := { plain "[C" (some 0) with kind := .array 16 .char, interfaces := #[13, 2], accessFlags := 1041 }

/-- the primitive int -/
def k18 : Class := { plain "int" none with kind := .primitive 'I', accessFlags := 0x411 }
/-- [I -/
def k19 : Class := { plain "[I" (some 0) with kind := .array 18 .int, interfaces := #[13, 2], accessFlags := 1041 }

def heap : Heap := #[{ cls := 7, slots := #[.long 0, .int 1, .null, .int 0, .null, .int 0, .int 0], vm := .statics 7 },
  { cls := 8, slots := #[.int 0, .int 8, .int 0, .int 1], vm := .statics 8 },
  { cls := 9, slots := #[.int 0, .int 0, .ref 4], vm := .statics 9 },
  { cls := 11, slots := #[.null, .null, .null], vm := .statics 11 },
  { cls := 17, slots := #[.int 0, .int 0, .int 0, .int 0, .int 0, .int 0, .int 0, .int 0, .int 0, .int 0, .int 0, .int 0, .int 0, .int 0, .int 0, .int 0, .int 0, .int 0, .int 0, .int 0, .int 0, .int 0, .int 0, .int 0, .int 0, .int 0, .int 0, .int 0, .int 0, .int 0, .int 0, .int 0, .int 0, .int 0, .int 0, .int 0, .int 0, .int 0, .int 0, .int 0, .int 0, .int 0, .int 0, .int 0, .int 0, .int 0, .int 0, .int 0, .int 48, .int 49, .int 50, .int 51, .int 52, .int 53, .int 54, .int 55, .int 56, .int 57, .int 0, .int 0, .int 0, .int 0, .int 0, .int 0, .int 0, .int 65, .int 66, .int 67, .int 68, .int 69, .int 70, .int 71, .int 72, .int 73, .int 74, .int 75, .int 76, .int 77, .int 78, .int 79, .int 80, .int 81, .int 82, .int 83, .int 84, .int 85, .int 86, .int 87, .int 88, .int 89, .int 90, .int 0, .int 0, .int 0, .int 0, .int 0, .int 0, .int 65, .int 66, .int 67, .int 68, .int 69, .int 70, .int 71, .int 72, .int 73, .int 74, .int 75, .int 76, .int 77, .int 78, .int 79, .int 80, .int 81, .int 82, .int 83, .int 84, .int 85, .int 86, .int 87, .int 88, .int 89, .int 90, .int 0, .int 0, .int 0, .int 0, .int 0], vm := .none }]
def classes : Array Class := #[k0, k1, k2, k3, k4, k5, k6, k7, k8, k9, k10, k11, k12, k13, k14, k15, k16, k17, k18, k19]
def interned : List (Array UInt16 × Addr) := []
def slotsUsed : Nat := 145
def theMethod : MethodId := ⟨1, 1⟩
def args0 : Array Value := #[.int 65, .int 66, .int 67, .int 3]
def aboutOver (below : List Frame) : State where
  vm := { classes := classes, interned := interned.toArray }
  heap := heap
  slotsUsed := slotsUsed
  threads := #[{ frames := .invoking theMethod args0 :: below }]
def below0 : List Frame := [.native { method := ⟨0, 0⟩, args := #[] }]
def about1 : State := aboutOver below0
def p0 : Program := .bare "" "" ""
def e0 : Env := launch0.env 0 0 0
theorem w_frames : about1.frames = Frame.invoking theMethod args0 :: below0 := rfl
set_option maxRecDepth 65536 in
theorem w_args : argsFit about1.vm theMethod args0 = true := by decide +kernel
set_option maxRecDepth 65536 in
theorem w_heap : heapFits about1 = true := by decide +kernel
set_option maxRecDepth 65536 in
theorem w_runnable : about1.curStatus? = some .runnable := by decide +kernel
set_option maxRecDepth 65536 in
theorem w_alone : about1.alone = true := by decide +kernel
set_option maxRecDepth 65536 in
theorem w_named : about1.methodNamed? x = some theMethod := by decide +kernel
set_option maxRecDepth 65536 in
theorem w_hears : about1.hears theMethod below0 = true := by decide +kernel
set_option maxRecDepth 65536 in
theorem w_ripe : about1.ripe theMethod args0 below0 = true := by decide +kernel
theorem w_running : about1.status = .running := rfl
set_option maxRecDepth 65536 in
theorem w_room : about1.hasRoom e0.platform room_1 = true :=
  launch0.hasRoom_least _ room_1 (by decide +kernel) (by decide +kernel) (by decide +kernel) (by decide +kernel) (by decide +kernel) (by decide +kernel)
theorem allAtoms_all (ts : List Jvm.Cond) (a : Array Jvm.Value) (st : Jvm.State) : (allAtoms ts).before a st = ts.all (fun c => c.before a st) := by
  induction ts with
  | nil => rfl
  | cons c t ih =>
    show (Jvm.Cond.and c (allAtoms t)).before a st = _
    rw [Jvm.Cond.before_and, ih, List.all_cons]
def words1 : List Jvm.Cond := Jvm.Cond.code x code maxLocals ret :: tables_1
/-- a 'code' word, met by the world's own term for the bytes: nothing is compared byte by byte -/
theorem code_word {y : MethodName} {bytes : ByteArray} {mx : Nat} {rt : Option FieldType} {a : Array Value} {s : State} {m : MethodId} {meth : Method} {c : Code} (h1 : s.methodNamed? y = some m) (h2 : s.vm.method? m = some meth) (h3 : meth.code = some c) (h4 : c.code = bytes)
    (h5 : (c.maxLocals == mx && c.exceptionTable.isEmpty && decide (c.maxStack ≤ mostOperands) && decide (meth.sig.returnType = rt) && !meth.locks && decide (parseMethodDescriptor y.desc = some meth.sig)) = true) : (Jvm.Cond.code y bytes mx rt).before a s = true := by
  simp only [Bool.and_eq_true, beq_iff_eq, Bool.not_eq_true', decide_eq_true_eq] at h5
  obtain ⟨⟨⟨⟨⟨g1, g2⟩, g3⟩, g4⟩, g5⟩, g6⟩ := h5
  simp [Cond.before, Cond.holds, Cond.value, h1, h2, h3, h4, g1, g2, g3, g4, g5, g6]
def isCode : Jvm.Cond → Bool
  | .code _ _ _ _ => true
  | _ => false
theorem all_split {L : List Jvm.Cond} {P : Jvm.Cond → Bool} (h1 : L.all (fun c => isCode c || P c) = true) (h2 : ∀ c ∈ L.filter isCode, P c = true) : L.all P = true := by
  refine List.all_eq_true.mpr fun c hc => ?_
  have h := List.all_eq_true.mp h1 c hc
  rcases Bool.eq_false_or_eq_true (isCode c) with hi | hi
  · exact h2 c (List.mem_filter.mpr ⟨hc, hi⟩)
  · simpa [hi] using h
set_option maxRecDepth 65536 in
theorem w_c0 : (Jvm.Cond.code x code maxLocals ret).before args0 about1 = true := code_word (m := ⟨1, 1⟩) (meth := k1m1) (c := k1c1) (by decide +kernel) rfl rfl rfl (by decide +kernel)
set_option maxRecDepth 65536 in
theorem w_c1 : (Jvm.Cond.code ({ cls := "com/example/stratify/stratify/EnvironmentNamesSkeletonHashPinLaw", name := "step", desc := "(IC)I" } : Jvm.MethodName) method_4_code (3 : Nat) (Option.some Jvm.ClassFile.FieldType.int)).before args0 about1 = true := code_word (m := ⟨1, 3⟩) (meth := k1m3) (c := k1c3) (by decide +kernel) rfl rfl rfl (by decide +kernel)
set_option maxRecDepth 65536 in
theorem w_c2 : (Jvm.Cond.code ({ cls := "com/example/stratify/stratify/EnvironmentNamesSkeletonHashPinLaw", name := "kept", desc := "(C)I" } : Jvm.MethodName) method_3_code (1 : Nat) (Option.some Jvm.ClassFile.FieldType.int)).before args0 about1 = true := code_word (m := ⟨1, 2⟩) (meth := k1m2) (c := k1c2) (by decide +kernel) rfl rfl rfl (by decide +kernel)
set_option maxRecDepth 65536 in
theorem w_c3 : (Jvm.Cond.code ({ cls := "java/lang/String", name := "<init>", desc := "([C)V" } : Jvm.MethodName) jdk_42_method_3_code (2 : Nat) (Option.none : Option Jvm.ClassFile.FieldType)).before args0 about1 = true := code_word (m := ⟨7, 1⟩) (meth := k7m1) (c := k7c1) (by decide +kernel) rfl rfl rfl (by decide +kernel)
set_option maxRecDepth 65536 in
theorem w_c4 : (Jvm.Cond.code ({ cls := "java/lang/String", name := "<init>", desc := "([CIILjava/lang/Void;)V" } : Jvm.MethodName) jdk_42_method_149_code (6 : Nat) (Option.none : Option Jvm.ClassFile.FieldType)).before args0 about1 = true := code_word (m := ⟨7, 3⟩) (meth := k7m3) (c := k7c3) (by decide +kernel) rfl rfl rfl (by decide +kernel)
set_option maxRecDepth 65536 in
theorem w_c5 : (Jvm.Cond.code ({ cls := "java/lang/Object", name := "<init>", desc := "()V" } : Jvm.MethodName) object_method_1_code (1 : Nat) (Option.none : Option Jvm.ClassFile.FieldType)).before args0 about1 = true := code_word (m := ⟨0, 0⟩) (meth := k0m0) (c := k0c0) (by decide +kernel) rfl rfl rfl (by decide +kernel)
set_option maxRecDepth 65536 in
theorem w_c6 : (Jvm.Cond.code ({ cls := "java/lang/StringUTF16", name := "compress", desc := "([CII)[B" } : Jvm.MethodName) jdk_52_method_16_code (6 : Nat) (Option.some (Jvm.ClassFile.FieldType.array Jvm.ClassFile.FieldType.byte))).before args0 about1 = true := code_word (m := ⟨8, 9⟩) (meth := k8m9) (c := k8c9) (by decide +kernel) rfl rfl rfl (by decide +kernel)
set_option maxRecDepth 65536 in
theorem w_c7 : (Jvm.Cond.code ({ cls := "java/lang/StringUTF16", name := "compress", desc := "([CI[BII)I" } : Jvm.MethodName) jdk_52_method_21_code (7 : Nat) (Option.some Jvm.ClassFile.FieldType.int)).before args0 about1 = true := code_word (m := ⟨8, 10⟩) (meth := k8m10) (c := k8c10) (by decide +kernel) rfl rfl rfl (by decide +kernel)
set_option maxRecDepth 65536 in
theorem w_c8 : (Jvm.Cond.code ({ cls := "java/lang/StringUTF16", name := "coderFromArrayLen", desc := "([BI)B" } : Jvm.MethodName) jdk_52_method_15_code (2 : Nat) (Option.some Jvm.ClassFile.FieldType.byte)).before args0 about1 = true := code_word (m := ⟨8, 8⟩) (meth := k8m8) (c := k8c8) (by decide +kernel) rfl rfl rfl (by decide +kernel)
set_option maxRecDepth 65536 in
theorem w_c9 : (Jvm.Cond.code ({ cls := "com/example/stratify/stratify/EnvironmentNames", name := "skeletonHash", desc := "(Ljava/lang/String;)I" } : Jvm.MethodName) prog_7_method_10_code (1 : Nat) (Option.some Jvm.ClassFile.FieldType.int)).before args0 about1 = true := code_word (m := ⟨9, 1⟩) (meth := k9m1) (c := k9c1) (by decide +kernel) rfl rfl rfl (by decide +kernel)
set_option maxRecDepth 65536 in
theorem w_c10 : (Jvm.Cond.code ({ cls := "java/lang/String", name := "toCharArray", desc := "()[C" } : Jvm.MethodName) jdk_42_method_129_code (1 : Nat) (Option.some (Jvm.ClassFile.FieldType.array Jvm.ClassFile.FieldType.char))).before args0 about1 = true := code_word (m := ⟨7, 2⟩) (meth := k7m2) (c := k7c2) (by decide +kernel) rfl rfl rfl (by decide +kernel)
set_option maxRecDepth 65536 in
theorem w_c11 : (Jvm.Cond.code ({ cls := "java/lang/String", name := "isLatin1", desc := "()Z" } : Jvm.MethodName) jdk_42_method_154_code (1 : Nat) (Option.some Jvm.ClassFile.FieldType.boolean)).before args0 about1 = true := code_word (m := ⟨7, 4⟩) (meth := k7m4) (c := k7c4) (by decide +kernel) rfl rfl rfl (by decide +kernel)
set_option maxRecDepth 65536 in
theorem w_c12 : (Jvm.Cond.code ({ cls := "java/lang/StringLatin1", name := "toChars", desc := "([B)[C" } : Jvm.MethodName) jdk_43_method_9_code (2 : Nat) (Option.some (Jvm.ClassFile.FieldType.array Jvm.ClassFile.FieldType.char))).before args0 about1 = true := code_word (m := ⟨10, 1⟩) (meth := k10m1) (c := k10c1) (by decide +kernel) rfl rfl rfl (by decide +kernel)
set_option maxRecDepth 65536 in
theorem w_c13 : (Jvm.Cond.code ({ cls := "java/lang/StringLatin1", name := "inflate", desc := "([BI[CII)V" } : Jvm.MethodName) jdk_43_method_49_code (6 : Nat) (Option.none : Option Jvm.ClassFile.FieldType)).before args0 about1 = true := code_word (m := ⟨10, 2⟩) (meth := k10m2) (c := k10c2) (by decide +kernel) rfl rfl rfl (by decide +kernel)
set_option maxRecDepth 65536 in
theorem w_c14 : (Jvm.Cond.code ({ cls := "com/example/stratify/stratify/EnvironmentNames", name := "skeletonHash", desc := "([C)I" } : Jvm.MethodName) prog_7_method_11_code (7 : Nat) (Option.some Jvm.ClassFile.FieldType.int)).before args0 about1 = true := code_word (m := ⟨9, 2⟩) (meth := k9m2) (c := k9c2) (by decide +kernel) rfl rfl rfl (by decide +kernel)
set_option maxRecDepth 65536 in
theorem w_c15 : (Jvm.Cond.code ({ cls := "java/lang/StringUTF16", name := "toBytes", desc := "([CII)[B" } : Jvm.MethodName) jdk_52_method_14_code (5 : Nat) (Option.some (Jvm.ClassFile.FieldType.array Jvm.ClassFile.FieldType.byte))).before args0 about1 = true := code_word (m := ⟨8, 7⟩) (meth := k8m7) (c := k8c7) (by decide +kernel) rfl rfl rfl (by decide +kernel)
set_option maxRecDepth 65536 in
theorem w_c16 : (Jvm.Cond.code ({ cls := "java/lang/StringUTF16", name := "newBytesFor", desc := "(I)[B" } : Jvm.MethodName) jdk_52_method_2_code (1 : Nat) (Option.some (Jvm.ClassFile.FieldType.array Jvm.ClassFile.FieldType.byte))).before args0 about1 = true := code_word (m := ⟨8, 1⟩) (meth := k8m1) (c := k8c1) (by decide +kernel) rfl rfl rfl (by decide +kernel)
set_option maxRecDepth 65536 in
theorem w_c17 : (Jvm.Cond.code ({ cls := "java/lang/StringUTF16", name := "newBytesLength", desc := "(I)I" } : Jvm.MethodName) jdk_52_method_3_code (1 : Nat) (Option.some Jvm.ClassFile.FieldType.int)).before args0 about1 = true := code_word (m := ⟨8, 2⟩) (meth := k8m2) (c := k8c2) (by decide +kernel) rfl rfl rfl (by decide +kernel)
set_option maxRecDepth 65536 in
theorem w_c18 : (Jvm.Cond.code ({ cls := "java/lang/StringUTF16", name := "putChar", desc := "([BII)V" } : Jvm.MethodName) jdk_52_method_4_code (3 : Nat) (Option.none : Option Jvm.ClassFile.FieldType)).before args0 about1 = true := code_word (m := ⟨8, 3⟩) (meth := k8m3) (c := k8c3) (by decide +kernel) rfl rfl rfl (by decide +kernel)
set_option maxRecDepth 65536 in
theorem w_c19 : (Jvm.Cond.code ({ cls := "java/lang/StringUTF16", name := "getChar", desc := "([BI)C" } : Jvm.MethodName) jdk_52_method_5_code (2 : Nat) (Option.some Jvm.ClassFile.FieldType.char)).before args0 about1 = true := code_word (m := ⟨8, 4⟩) (meth := k8m4) (c := k8c4) (by decide +kernel) rfl rfl rfl (by decide +kernel)
set_option maxRecDepth 65536 in
theorem w_c20 : (Jvm.Cond.code ({ cls := "java/lang/StringUTF16", name := "toChars", desc := "([B)[C" } : Jvm.MethodName) jdk_52_method_13_code (2 : Nat) (Option.some (Jvm.ClassFile.FieldType.array Jvm.ClassFile.FieldType.char))).before args0 about1 = true := code_word (m := ⟨8, 6⟩) (meth := k8m6) (c := k8c6) (by decide +kernel) rfl rfl rfl (by decide +kernel)
set_option maxRecDepth 65536 in
theorem w_c21 : (Jvm.Cond.code ({ cls := "java/lang/StringUTF16", name := "getChars", desc := "([BII[CI)V" } : Jvm.MethodName) jdk_52_method_26_code (6 : Nat) (Option.none : Option Jvm.ClassFile.FieldType)).before args0 about1 = true := code_word (m := ⟨8, 11⟩) (meth := k8m11) (c := k8c11) (by decide +kernel) rfl rfl rfl (by decide +kernel)
set_option maxRecDepth 65536 in
theorem w_c22 : (Jvm.Cond.code ({ cls := "java/lang/StringUTF16", name := "checkBoundsOffCount", desc := "(II[B)V" } : Jvm.MethodName) jdk_52_method_94_code (3 : Nat) (Option.none : Option Jvm.ClassFile.FieldType)).before args0 about1 = true := code_word (m := ⟨8, 12⟩) (meth := k8m12) (c := k8c12) (by decide +kernel) rfl rfl rfl (by decide +kernel)
set_option maxRecDepth 65536 in
theorem w_c23 : (Jvm.Cond.code ({ cls := "java/lang/StringUTF16", name := "length", desc := "([B)I" } : Jvm.MethodName) jdk_52_method_6_code (1 : Nat) (Option.some Jvm.ClassFile.FieldType.int)).before args0 about1 = true := code_word (m := ⟨8, 5⟩) (meth := k8m5) (c := k8c5) (by decide +kernel) rfl rfl rfl (by decide +kernel)
set_option maxRecDepth 65536 in
theorem w_c24 : (Jvm.Cond.code ({ cls := "java/lang/String", name := "checkBoundsOffCount", desc := "(III)I" } : Jvm.MethodName) jdk_42_method_157_code (3 : Nat) (Option.some Jvm.ClassFile.FieldType.int)).before args0 about1 = true := code_word (m := ⟨7, 5⟩) (meth := k7m5) (c := k7c5) (by decide +kernel) rfl rfl rfl (by decide +kernel)
set_option maxRecDepth 65536 in
theorem w_c25 : (Jvm.Cond.code ({ cls := "jdk/internal/util/Preconditions", name := "checkFromIndexSize", desc := "(IIILjava/util/function/BiFunction;)I" } : Jvm.MethodName) jdk_41_method_13_code (4 : Nat) (Option.some Jvm.ClassFile.FieldType.int)).before args0 about1 = true := code_word (m := ⟨11, 1⟩) (meth := k11m1) (c := k11c1) (by decide +kernel) rfl rfl rfl (by decide +kernel)
def codes1 : List Jvm.Cond := [Jvm.Cond.code x code maxLocals ret, Jvm.Cond.code ({ cls := "com/example/stratify/stratify/EnvironmentNamesSkeletonHashPinLaw", name := "step", desc := "(IC)I" } : Jvm.MethodName) method_4_code (3 : Nat) (Option.some Jvm.ClassFile.FieldType.int), Jvm.Cond.code ({ cls := "com/example/stratify/stratify/EnvironmentNamesSkeletonHashPinLaw", name := "kept", desc := "(C)I" } : Jvm.MethodName) method_3_code (1 : Nat) (Option.some Jvm.ClassFile.FieldType.int), Jvm.Cond.code ({ cls := "java/lang/String", name := "<init>", desc := "([C)V" } : Jvm.MethodName) jdk_42_method_3_code (2 : Nat) (Option.none : Option Jvm.ClassFile.FieldType), Jvm.Cond.code ({ cls := "java/lang/String", name := "<init>", desc := "([CIILjava/lang/Void;)V" } : Jvm.MethodName) jdk_42_method_149_code (6 : Nat) (Option.none : Option Jvm.ClassFile.FieldType), Jvm.Cond.code ({ cls := "java/lang/Object", name := "<init>", desc := "()V" } : Jvm.MethodName) object_method_1_code (1 : Nat) (Option.none : Option Jvm.ClassFile.FieldType), Jvm.Cond.code ({ cls := "java/lang/StringUTF16", name := "compress", desc := "([CII)[B" } : Jvm.MethodName) jdk_52_method_16_code (6 : Nat) (Option.some (Jvm.ClassFile.FieldType.array Jvm.ClassFile.FieldType.byte)), Jvm.Cond.code ({ cls := "java/lang/StringUTF16", name := "compress", desc := "([CI[BII)I" } : Jvm.MethodName) jdk_52_method_21_code (7 : Nat) (Option.some Jvm.ClassFile.FieldType.int), Jvm.Cond.code ({ cls := "java/lang/StringUTF16", name := "coderFromArrayLen", desc := "([BI)B" } : Jvm.MethodName) jdk_52_method_15_code (2 : Nat) (Option.some Jvm.ClassFile.FieldType.byte), Jvm.Cond.code ({ cls := "com/example/stratify/stratify/EnvironmentNames", name := "skeletonHash", desc := "(Ljava/lang/String;)I" } : Jvm.MethodName) prog_7_method_10_code (1 : Nat) (Option.some Jvm.ClassFile.FieldType.int), Jvm.Cond.code ({ cls := "java/lang/String", name := "toCharArray", desc := "()[C" } : Jvm.MethodName) jdk_42_method_129_code (1 : Nat) (Option.some (Jvm.ClassFile.FieldType.array Jvm.ClassFile.FieldType.char)), Jvm.Cond.code ({ cls := "java/lang/String", name := "isLatin1", desc := "()Z" } : Jvm.MethodName) jdk_42_method_154_code (1 : Nat) (Option.some Jvm.ClassFile.FieldType.boolean), Jvm.Cond.code ({ cls := "java/lang/StringLatin1", name := "toChars", desc := "([B)[C" } : Jvm.MethodName) jdk_43_method_9_code (2 : Nat) (Option.some (Jvm.ClassFile.FieldType.array Jvm.ClassFile.FieldType.char)), Jvm.Cond.code ({ cls := "java/lang/StringLatin1", name := "inflate", desc := "([BI[CII)V" } : Jvm.MethodName) jdk_43_method_49_code (6 : Nat) (Option.none : Option Jvm.ClassFile.FieldType), Jvm.Cond.code ({ cls := "com/example/stratify/stratify/EnvironmentNames", name := "skeletonHash", desc := "([C)I" } : Jvm.MethodName) prog_7_method_11_code (7 : Nat) (Option.some Jvm.ClassFile.FieldType.int), Jvm.Cond.code ({ cls := "java/lang/StringUTF16", name := "toBytes", desc := "([CII)[B" } : Jvm.MethodName) jdk_52_method_14_code (5 : Nat) (Option.some (Jvm.ClassFile.FieldType.array Jvm.ClassFile.FieldType.byte)), Jvm.Cond.code ({ cls := "java/lang/StringUTF16", name := "newBytesFor", desc := "(I)[B" } : Jvm.MethodName) jdk_52_method_2_code (1 : Nat) (Option.some (Jvm.ClassFile.FieldType.array Jvm.ClassFile.FieldType.byte)), Jvm.Cond.code ({ cls := "java/lang/StringUTF16", name := "newBytesLength", desc := "(I)I" } : Jvm.MethodName) jdk_52_method_3_code (1 : Nat) (Option.some Jvm.ClassFile.FieldType.int), Jvm.Cond.code ({ cls := "java/lang/StringUTF16", name := "putChar", desc := "([BII)V" } : Jvm.MethodName) jdk_52_method_4_code (3 : Nat) (Option.none : Option Jvm.ClassFile.FieldType), Jvm.Cond.code ({ cls := "java/lang/StringUTF16", name := "getChar", desc := "([BI)C" } : Jvm.MethodName) jdk_52_method_5_code (2 : Nat) (Option.some Jvm.ClassFile.FieldType.char), Jvm.Cond.code ({ cls := "java/lang/StringUTF16", name := "toChars", desc := "([B)[C" } : Jvm.MethodName) jdk_52_method_13_code (2 : Nat) (Option.some (Jvm.ClassFile.FieldType.array Jvm.ClassFile.FieldType.char)), Jvm.Cond.code ({ cls := "java/lang/StringUTF16", name := "getChars", desc := "([BII[CI)V" } : Jvm.MethodName) jdk_52_method_26_code (6 : Nat) (Option.none : Option Jvm.ClassFile.FieldType), Jvm.Cond.code ({ cls := "java/lang/StringUTF16", name := "checkBoundsOffCount", desc := "(II[B)V" } : Jvm.MethodName) jdk_52_method_94_code (3 : Nat) (Option.none : Option Jvm.ClassFile.FieldType), Jvm.Cond.code ({ cls := "java/lang/StringUTF16", name := "length", desc := "([B)I" } : Jvm.MethodName) jdk_52_method_6_code (1 : Nat) (Option.some Jvm.ClassFile.FieldType.int), Jvm.Cond.code ({ cls := "java/lang/String", name := "checkBoundsOffCount", desc := "(III)I" } : Jvm.MethodName) jdk_42_method_157_code (3 : Nat) (Option.some Jvm.ClassFile.FieldType.int), Jvm.Cond.code ({ cls := "jdk/internal/util/Preconditions", name := "checkFromIndexSize", desc := "(IIILjava/util/function/BiFunction;)I" } : Jvm.MethodName) jdk_41_method_13_code (4 : Nat) (Option.some Jvm.ClassFile.FieldType.int)]
set_option maxRecDepth 65536 in
theorem codes_eq : words1.filter isCode = codes1 := rfl
theorem w_codes : ∀ c ∈ words1.filter isCode, c.before args0 about1 = true := by
  rw [codes_eq]
  intro c hc
  simp only [codes1, List.mem_cons, List.not_mem_nil, or_false] at hc
  rcases hc with rfl | rfl | rfl | rfl | rfl | rfl | rfl | rfl | rfl | rfl | rfl | rfl | rfl | rfl | rfl | rfl | rfl | rfl | rfl | rfl | rfl | rfl | rfl | rfl | rfl | rfl
  · exact w_c0
  · exact w_c1
  · exact w_c2
  · exact w_c3
  · exact w_c4
  · exact w_c5
  · exact w_c6
  · exact w_c7
  · exact w_c8
  · exact w_c9
  · exact w_c10
  · exact w_c11
  · exact w_c12
  · exact w_c13
  · exact w_c14
  · exact w_c15
  · exact w_c16
  · exact w_c17
  · exact w_c18
  · exact w_c19
  · exact w_c20
  · exact w_c21
  · exact w_c22
  · exact w_c23
  · exact w_c24
  · exact w_c25
set_option maxRecDepth 65536 in
theorem w_t1 : (words1.take 24).all (fun c => isCode c || c.before args0 about1) = true := by decide +kernel
set_option maxRecDepth 65536 in
theorem w_t2 : ((words1.drop 24).take 24).all (fun c => isCode c || c.before args0 about1) = true := by decide +kernel
set_option maxRecDepth 65536 in
theorem w_t3 : (((words1.drop 24).drop 24).take 24).all (fun c => isCode c || c.before args0 about1) = true := by decide +kernel
set_option maxRecDepth 65536 in
theorem w_t4 : ((((words1.drop 24).drop 24).drop 24).take 24).all (fun c => isCode c || c.before args0 about1) = true := by decide +kernel
set_option maxRecDepth 65536 in
theorem w_t5 : ((((words1.drop 24).drop 24).drop 24).drop 24).all (fun c => isCode c || c.before args0 about1) = true := by decide +kernel
theorem w_tables : (allAtoms (Jvm.Cond.code x code maxLocals ret :: tables_1)).before args0 about1 = true := by
  rw [allAtoms_all]
  show words1.all (fun c => c.before args0 about1) = true
  refine all_split ?_ w_codes
  rw [← List.take_append_drop 24 words1, List.all_append, w_t1, ← List.take_append_drop 24 (words1.drop 24), List.all_append, w_t2, ← List.take_append_drop 24 ((words1.drop 24).drop 24), List.all_append, w_t3, ← List.take_append_drop 24 (((words1.drop 24).drop 24).drop 24), List.all_append, w_t4, w_t5]
  rfl
set_option maxRecDepth 65536 in
theorem w_rest : rest_1_c.before args0 about1 = true := by decide +kernel
set_option maxRecDepth 65536 in
theorem w_case : (Jvm.Cond.and given_1 narrow_1).before args0 about1 = true := by decide +kernel
set_option maxRecDepth 65536 in
theorem w_consts : constsHeld consts_1 about1 := Jvm.Lit.constsHeldB_iff.mp (by decide +kernel)
theorem w_applies : (headSpec (Jvm.Cond.code x code maxLocals ret :: tables_1) room_1).applies x e0.platform about1 = true :=
  (Spec.applies_iff w_frames).mpr ⟨w_running, w_runnable, w_alone, w_named, w_hears, w_ripe, w_room, w_tables⟩
theorem atStart : AtStart classFile x code maxLocals ret World_1 tables_1 room_1 Calls_1 rest_1 Pre_1 launch0 p0 e0 about1 theMethod args0 below0 :=
  ⟨lists_1, trivial, launch0.admits_env _ _ _, launch0.least_env, fairChoices_fair.cas, fairChoices_fair.clock, w_frames, w_args, w_heap, w_applies, ⟨w_consts, trivial⟩, w_rest, w_case⟩
end start1
theorem witness_1 : WitnessClaimed_1 := ⟨start1.p0, start1.e0, start1.about1, start1.theMethod, start1.args0, start1.below0, start1.atStart⟩
end Jvm.Pilot.@@N@@
