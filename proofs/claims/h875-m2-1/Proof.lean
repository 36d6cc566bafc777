import JvmDerived
import JvmDerived.Pilot.@@N@@Statement
import JvmDerived.Pilot.@@N@@Code
set_option linter.unusedVariables false
set_option linter.unusedSimpArgs false
/- laws to paste: Road.backV, Road.eqW, Road.codOf (cut by pick.py; bodies as the Statement names them) -/
namespace Jvm.Pilot.@@N@@
namespace StrChars
open Jvm Sem ClassFile Op Lib Jvm.Stand Jvm.Free.XT Jvm.Free.ALB Jvm.Free.JM Jvm.Free
open Jvm.Lib.Cold (StaticIs)
/-- a char array whose places are chars -/
def Ch (a : Addr) (A : Cell) (U : State) : Prop := Arr .char a A U ∧ Typed .char A
theorem Ch.mv {a : Addr} {A : Cell} {U U' : State} (h : Ch a A U) (hal : U.vm.Alike U'.vm) (hh : U'.heap = U.heap) : Ch a A U' := ⟨h.1.mv hal hh, h.2⟩
theorem Ch.keep {a : Addr} {A : Cell} {U U' : State} (h : Ch a A U) (hal : U.vm.Alike U'.vm) (hk : U'.heap[a]? = some A) : Ch a A U' := ⟨h.1.keep hal hk, h.2⟩
/-- what place i of a char[]'s cell holds -/
def cv (A : Cell) (i : Nat) : Int32 := match A.slots[i]? with | some (.int x) => x | _ => 0
theorem Ch.get {a : Addr} {A : Cell} {U : State} (h : Ch a A U) {i : Nat} (hi : i < A.slots.size) : A.slots[i]? = some (.int (cv A i)) := by
  have e := Array.getElem?_eq_getElem hi
  have f := h.2 i _ e
  unfold cv; rw [e]
  generalize A.slots[i] = v at f
  cases v <;> simp [fits] at f ⊢
/-- the byte that i2b leaves of a char -/
def lo8 (x : Int32) : Int32 := x.toInt8.toInt32
theorem fits_lo8 (y : Int32) : fits .byte (.int (lo8 y)) = true := by
  have h1 := y.toInt8.le_toInt
  have h2 := y.toInt8.toInt_lt
  simp only [lo8, fits, Bool.and_eq_true, decide_eq_true_eq, Int32.le_iff_toInt_le, Int8.toInt_toInt32, show (-128 : Int32).toInt = -128 from by decide, show (127 : Int32).toInt = 127 from by decide]
  omega
/-- A' is A but that each place j of lo .. hi - 1 holds f j -/
def Laid (A A' : Cell) (lo hi : Nat) (f : Nat → Value) : Prop := A'.cls = A.cls ∧ A'.vm = A.vm ∧ A'.slots.size = A.slots.size ∧ ∀ i, A'.slots[i]? = if lo ≤ i ∧ i < hi then some (f i) else A.slots[i]?
theorem Laid.zero (A : Cell) (lo : Nat) (f : Nat → Value) : Laid A A lo (lo + 0) f := ⟨rfl, rfl, rfl, fun i => by rw [if_neg (by omega)]⟩
theorem Laid.step {A Ak : Cell} {lo k : Nat} {f : Nat → Value} {v : Value} (h : Laid A Ak lo k f) (hlo : lo ≤ k) (hk : k < Ak.slots.size) (hv : v = f k) : Laid A (Ak.setSlot k v) lo (k + 1) f := by
  refine ⟨h.1, h.2.1, by simpa [Cell.setSlot] using h.2.2.1, fun i => ?_⟩
  by_cases e : k = i
  · subst e; rw [Cell.slots_setSlot_self v hk, if_pos (by omega), hv]
  · rw [Cell.slots_setSlot_ne v e, h.2.2.2 i]
    by_cases q : lo ≤ i ∧ i < k
    · rw [if_pos q, if_pos (by omega)]
    · rw [if_neg q, if_neg (by omega)]
def U16 : String := "java/lang/StringUTF16"
namespace Cmp5
def yN : MethodName := ⟨"java/lang/StringUTF16", "compress", "([CI[BII)I"⟩
abbrev yB : ByteArray := jdk_52_method_21_code
theorem d0 : decode yB 0 = .ok (.iconst 0, 1) := by decide +kernel
theorem d1 : decode yB 1 = .ok (.istore 5, 2) := by decide +kernel
theorem d3 : decode yB 3 = .ok (.iload 5, 2) := by decide +kernel
theorem d5 : decode yB 5 = .ok (.iload 4, 2) := by decide +kernel
theorem d7 : decode yB 7 = .ok (.if_icmp (.ge) 37, 3) := by decide +kernel
theorem d10 : decode yB 10 = .ok (.aload_n 0, 1) := by decide +kernel
theorem d11 : decode yB 11 = .ok (.iload_n 1, 1) := by decide +kernel
theorem d12 : decode yB 12 = .ok (.caload, 1) := by decide +kernel
theorem d13 : decode yB 13 = .ok (.istore 6, 2) := by decide +kernel
theorem d15 : decode yB 15 = .ok (.iload 6, 2) := by decide +kernel
theorem d17 : decode yB 17 = .ok (.sipush 255, 3) := by decide +kernel
theorem d20 : decode yB 20 = .ok (.if_icmp (.le) 6, 3) := by decide +kernel
theorem d26 : decode yB 26 = .ok (.aload_n 2, 1) := by decide +kernel
theorem d27 : decode yB 27 = .ok (.iload_n 3, 1) := by decide +kernel
theorem d28 : decode yB 28 = .ok (.iload 6, 2) := by decide +kernel
theorem d30 : decode yB 30 = .ok (.i2b, 1) := by decide +kernel
theorem d31 : decode yB 31 = .ok (.bastore, 1) := by decide +kernel
theorem d32 : decode yB 32 = .ok (.iinc 1 1, 3) := by decide +kernel
theorem d35 : decode yB 35 = .ok (.iinc 3 1, 3) := by decide +kernel
theorem d38 : decode yB 38 = .ok (.iinc 5 1, 3) := by decide +kernel
theorem d41 : decode yB 41 = .ok (.goto (-38), 3) := by decide +kernel
theorem d44 : decode yB 44 = .ok (.iload 4, 2) := by decide +kernel
theorem d46 : decode yB 46 = .ok (.ireturn, 1) := by decide +kernel
def site : List Cond := []
def tab : Cond := tabOf yN yB 7 (some .int) site
def P (b : Addr) (A : Cell) (d : Addr) (B : Cell) (o q len : Nat) (args : Array Value) (s : State) : Prop := args = #[.ref b, .int (Int32.ofNat o), .ref d, .int (Int32.ofNat q), .int (Int32.ofNat len)] ∧ Ch b A s ∧ Arr .byte d B s ∧ b ≠ d ∧ o + len ≤ A.slots.size ∧ q + len ≤ B.slots.size ∧ ∀ i, i < len → ¬ 255 < cv A (o + i)
def E (b : Addr) (A : Cell) (d : Addr) (B : Cell) (o q len : Nat) (r : Option Value) (s u : State) : Prop := r = some (.int (Int32.ofNat len)) ∧ ∃ B', Put d B' s u ∧ Laid B B' q (q + len) (fun j => Value.int (lo8 (cv A (o + (j - q)))))
/-- no char of the range above 255: len; the places written hold each char's low byte -/
theorem law (l : Launch) (b : Addr) (A : Cell) (d : Addr) (B : Cell) (o q len : Nat) : Law l yN 5 5 0 0 yB 7 (some .int) site (P b A d B o q len) (E b A d B o q len) (copyLocs d q len) 0 0 := by
  refine Law.of_walk (plainFor_of_name (by decide +kernel)) (by decide +kernel) (by decide +kernel) (by decide) (fun _ _ h => by rw [h.1]; rfl) (fun _ U U' hal hh h => ⟨h.1, h.2.1.mv hal hh, h.2.2.1.mv hal hh, h.2.2.2⟩) (fun r U U' V V' h1 hal h2 h => ⟨h.1, h.2.elim fun B' q => ⟨B', q.1.mv h1 h2, q.2⟩⟩) ?_
  intro p e s m args below meth c s₁ X0 hexec hbytes hml hret hlk hnm hown hh0 W hP
  obtain ⟨rfl, hA, hB, hne, l1, l2, hp⟩ := hP
  have c1 : Steps p.tables e below (s₁.setTop (entryFrame m #[.ref b, .int (Int32.ofNat o), .ref d, .int (Int32.ofNat q), .int (Int32.ofNat len)] 7)) (s₁.setTop (mkF m 0 #[.val (.ref b), .val (.int (Int32.ofNat o)), .val (.ref d), .val (.int (Int32.ofNat q)), .val (.int (Int32.ofNat len)), .unset, .unset] [])) := entry rfl
  have hA0 := hA.1.mv X0.warmed.alike hh0
  have hB0 := hB.mv X0.warmed.alike hh0
  have a31 := hA.1.2.2.2
  have c2 : Steps p.tables e below (s₁.setTop (entryFrame m #[.ref b, .int (Int32.ofNat o), .ref d, .int (Int32.ofNat q), .int (Int32.ofNat len)] 7)) (s₁.setTop (mkF m 3 #[.val (.ref b), .val (.int (Int32.ofNat o)), .val (.ref d), .val (.int (Int32.ofNat q)), .val (.int (Int32.ofNat len)), .val (.int 0), .unset] [])) := c1.trans (by
    refine iconstV X0.here hexec rfl 0 (hb hbytes d0) (by decide) ?_
    refine XS.istore X0.here hexec rfl (hb hbytes d1) rfl rfl ?_
    exact Steps.refl _)
  have loop : ∀ (r i : Nat), i + r = len → ∀ (z : Slot), (z = .unset ∨ ∃ w, z = .val w ∧ w.category = 1) → ∀ (Tl : State) (Bk : Cell), Stand p l e { frames := 0, locals := 0, cells := 0, slots := 0 } s m #[.ref b, .int (Int32.ofNat o), .ref d, .int (Int32.ofNat q), .int (Int32.ofNat len)] below meth c Tl ([] ++ copyLocs d q i) 0 0 → Put d Bk s₁ Tl → Laid B Bk q (q + i) (fun j => Value.int (lo8 (cv A (o + (j - q))))) →
      Steps p.tables e below (s₁.setTop (entryFrame m #[.ref b, .int (Int32.ofNat o), .ref d, .int (Int32.ofNat q), .int (Int32.ofNat len)] 7)) (Tl.setTop (mkF m 3 #[.val (.ref b), .val (.int (Int32.ofNat (o + i))), .val (.ref d), .val (.int (Int32.ofNat (q + i))), .val (.int (Int32.ofNat len)), .val (.int (Int32.ofNat i)), z] [])) → ∃ (T' : State) (B' : Cell) (z' : Slot), Stand p l e { frames := 0, locals := 0, cells := 0, slots := 0 } s m #[.ref b, .int (Int32.ofNat o), .ref d, .int (Int32.ofNat q), .int (Int32.ofNat len)] below meth c T' ([] ++ copyLocs d q len) 0 0 ∧ Put d B' s₁ T' ∧ Laid B B' q (q + len) (fun j => Value.int (lo8 (cv A (o + (j - q))))) ∧
      Steps p.tables e below (s₁.setTop (entryFrame m #[.ref b, .int (Int32.ofNat o), .ref d, .int (Int32.ofNat q), .int (Int32.ofNat len)] 7)) (T'.setTop (mkF m 3 #[.val (.ref b), .val (.int (Int32.ofNat (o + len))), .val (.ref d), .val (.int (Int32.ofNat (q + len))), .val (.int (Int32.ofNat len)), .val (.int (Int32.ofNat len)), z'] [])) := by
    intro r
    induction r with
    | zero =>
      intro i hi z hz Tl Bk Xl pl fl cl
      have hil : i = len := by omega
      rw [hil] at Xl fl cl
      exact ⟨Tl, Bk, z, Xl, pl, fl, cl⟩
    | succ r ih =>
      intro i hi z hz Tl Bk Xl pl fl cl
      have all := X0.warmed.alike.symm.trans Xl.warmed.alike
      have hAl := hA0.keep all (pl.other hne hA0.1)
      have hBk := hB0.like all pl.1 fl.1 fl.2.1 fl.2.2.1
      have hlt : q + i < Bk.slots.size := by rw [fl.2.2.1]; omega
      have c3 : Steps p.tables e below (s₁.setTop (entryFrame m #[.ref b, .int (Int32.ofNat o), .ref d, .int (Int32.ofNat q), .int (Int32.ofNat len)] 7)) (Tl.setTop (mkF m 12 #[.val (.ref b), .val (.int (Int32.ofNat (o + i))), .val (.ref d), .val (.int (Int32.ofNat (q + i))), .val (.int (Int32.ofNat len)), .val (.int (Int32.ofNat i)), z] [.int (Int32.ofNat (o + i)), .ref b])) := cl.trans (by
        refine XS.iload Xl.here hexec rfl (hb hbytes d3) rfl ?_
        refine XS.iload Xl.here hexec rfl (hb hbytes d5) rfl ?_
        refine XS.icmpNo Xl.here hexec rfl (hb hbytes d7) rfl (ii_ge_f (lt32 (by omega) (by omega))) ?_
        refine XS.aloadN Xl.here hexec rfl (hb hbytes d10) rfl rfl ?_
        refine XS.iloadN Xl.here hexec rfl (hb hbytes d11) rfl ?_
        exact Steps.refl _)
      have c4 : Steps p.tables e below (s₁.setTop (entryFrame m #[.ref b, .int (Int32.ofNat o), .ref d, .int (Int32.ofNat q), .int (Int32.ofNat len)] 7)) (Tl.setTop (mkF m 13 #[.val (.ref b), .val (.int (Int32.ofNat (o + i))), .val (.ref d), .val (.int (Int32.ofNat (q + i))), .val (.int (Int32.ofNat len)), .val (.int (Int32.ofNat i)), z] [.int (cv A (o + i))])) := c3.trans (by
        refine Xl.aget hexec hAl rfl (hA.get (i := o + i) (by omega)) rfl rfl (hb hbytes d12) ?_
        exact Steps.refl _)
      have c5 : Steps p.tables e below (s₁.setTop (entryFrame m #[.ref b, .int (Int32.ofNat o), .ref d, .int (Int32.ofNat q), .int (Int32.ofNat len)] 7)) (Tl.setTop (mkF m 15 #[.val (.ref b), .val (.int (Int32.ofNat (o + i))), .val (.ref d), .val (.int (Int32.ofNat (q + i))), .val (.int (Int32.ofNat len)), .val (.int (Int32.ofNat i)), .val (.int (cv A (o + i)))] [])) := c4.trans (by
        refine XS.istoreS Xl.here hexec rfl (hb hbytes d13) rfl rfl hz ?_
        exact Steps.refl _)
      have c6 : Steps p.tables e below (s₁.setTop (entryFrame m #[.ref b, .int (Int32.ofNat o), .ref d, .int (Int32.ofNat q), .int (Int32.ofNat len)] 7)) (Tl.setTop (mkF m 31 #[.val (.ref b), .val (.int (Int32.ofNat (o + i))), .val (.ref d), .val (.int (Int32.ofNat (q + i))), .val (.int (Int32.ofNat len)), .val (.int (Int32.ofNat i)), .val (.int (cv A (o + i)))] [.int (lo8 (cv A (o + i))), .int (Int32.ofNat (q + i)), .ref d])) := c5.trans (by
        refine XS.iload Xl.here hexec rfl (hb hbytes d15) rfl ?_
        refine sipushV Xl.here hexec rfl 255 (hb hbytes d17) (by decide) ?_
        refine XS.icmpYes Xl.here hexec rfl (pc0 := 20) rfl (hb hbytes d20) rfl (ii_le_t (hp i (by omega))) (by decide) rfl ?_
        refine XS.aloadN Xl.here hexec rfl (hb hbytes d26) rfl rfl ?_
        refine XS.iloadN Xl.here hexec rfl (hb hbytes d27) rfl ?_
        refine XS.iload Xl.here hexec rfl (hb hbytes d28) rfl ?_
        refine i2b Xl.here hexec rfl (hb hbytes d30) rfl ?_
        exact Steps.refl _)
      obtain ⟨T7, X7, p7, st7⟩ := Xl.aput hexec hBk rfl hlt rfl (fits_lo8 (cv A (o + i))) (g := (mkF m 31 #[.val (.ref b), .val (.int (Int32.ofNat (o + i))), .val (.ref d), .val (.int (Int32.ofNat (q + i))), .val (.int (Int32.ofNat len)), .val (.int (Int32.ofNat i)), .val (.int (cv A (o + i)))] [.int (lo8 (cv A (o + i))), .int (Int32.ofNat (q + i)), .ref d])) rfl (rest := []) rfl (hb hbytes d31)
      have c8 : Steps p.tables e below (s₁.setTop (entryFrame m #[.ref b, .int (Int32.ofNat o), .ref d, .int (Int32.ofNat q), .int (Int32.ofNat len)] 7)) (T7.setTop (mkF m 32 #[.val (.ref b), .val (.int (Int32.ofNat (o + i))), .val (.ref d), .val (.int (Int32.ofNat (q + i))), .val (.int (Int32.ofNat len)), .val (.int (Int32.ofNat i)), .val (.int (cv A (o + i)))] [])) := c6.trans (st7 _ (Steps.refl _))
      have c9 : Steps p.tables e below (s₁.setTop (entryFrame m #[.ref b, .int (Int32.ofNat o), .ref d, .int (Int32.ofNat q), .int (Int32.ofNat len)] 7)) (T7.setTop (mkF m 3 #[.val (.ref b), .val (.int (Int32.ofNat (o + i) + 1)), .val (.ref d), .val (.int (Int32.ofNat (q + i) + 1)), .val (.int (Int32.ofNat len)), .val (.int (Int32.ofNat i + 1)), .val (.int (cv A (o + i)))] [])) := c8.trans (by
        refine iincV X7.here hexec rfl 1 (hb hbytes d32) (by decide) rfl rfl ?_
        refine iincV X7.here hexec rfl 1 (hb hbytes d35) (by decide) rfl rfl ?_
        refine iincV X7.here hexec rfl 1 (hb hbytes d38) (by decide) rfl rfl ?_
        refine XS.goto X7.here hexec rfl (pc0 := 41) rfl (hb hbytes d41) (by decide) rfl ?_
        exact Steps.refl _)
      have c10 : Steps p.tables e below (s₁.setTop (entryFrame m #[.ref b, .int (Int32.ofNat o), .ref d, .int (Int32.ofNat q), .int (Int32.ofNat len)] 7)) (T7.setTop (mkF m 3 #[.val (.ref b), .val (.int (Int32.ofNat (o + (i + 1)))), .val (.ref d), .val (.int (Int32.ofNat (q + (i + 1)))), .val (.int (Int32.ofNat len)), .val (.int (Int32.ofNat (i + 1))), .val (.int (cv A (o + i)))] [])) := by
        have := c9
        rw [succ32, succ32, succ32] at this
        exact this
      exact ih (i + 1) (by omega) _ (Or.inr ⟨_, rfl, rfl⟩) T7 _ (by rw [copyLocs_step, ← List.append_assoc]; exact X7) (pl.trans p7) (fl.step (by omega) hlt (by simp)) c10
  obtain ⟨T9, B9, z9, X9, p9, f9, g9⟩ := loop len 0 (by omega) .unset (Or.inl rfl) s₁ B (by simpa [copyLocs] using X0) ⟨hB0.1, fun _ _ => rfl, rfl⟩ (Laid.zero _ _ _) c2
  have c11 : Steps p.tables e below (s₁.setTop (entryFrame m #[.ref b, .int (Int32.ofNat o), .ref d, .int (Int32.ofNat q), .int (Int32.ofNat len)] 7)) (T9.setTop (mkF m 46 #[.val (.ref b), .val (.int (Int32.ofNat (o + len))), .val (.ref d), .val (.int (Int32.ofNat (q + len))), .val (.int (Int32.ofNat len)), .val (.int (Int32.ofNat len)), z9] [.int (Int32.ofNat len)])) := g9.trans (by
    refine XS.iload X9.here hexec rfl (hb hbytes d3) rfl ?_
    refine XS.iload X9.here hexec rfl (hb hbytes d5) rfl ?_
    refine XS.icmpYes X9.here hexec rfl (pc0 := 7) rfl (hb hbytes d7) rfl (ii_ge_t (nlt32 (by omega) (Nat.le_refl _))) (by decide) rfl ?_
    refine XS.iload X9.here hexec rfl (hb hbytes d44) rfl ?_
    exact Steps.refl _)
  exact ⟨T9, some (.int (Int32.ofNat len)), _, _, _, X9, by simp, rfl, rfl, (fun h => by cases h), ⟨rfl, B9, p9.from hh0, f9⟩, fun fs hl => c11.trans (X9.ireturnOut hexec hret rfl (Or.inl rfl) (hb hbytes d46) hl)⟩
end Cmp5
namespace Cmp3
def yN : MethodName := ⟨"java/lang/StringUTF16", "compress", "([CII)[B"⟩
abbrev yB : ByteArray := jdk_52_method_16_code
theorem d0 : decode yB 0 = .ok (.iload_n 2, 1) := by decide +kernel
theorem d1 : decode yB 1 = .ok (.newarray .byte, 2) := by decide +kernel
theorem d3 : decode yB 3 = .ok (.astore_n 3, 1) := by decide +kernel
theorem d4 : decode yB 4 = .ok (.aload_n 0, 1) := by decide +kernel
theorem d5 : decode yB 5 = .ok (.iload_n 1, 1) := by decide +kernel
theorem d6 : decode yB 6 = .ok (.aload_n 3, 1) := by decide +kernel
theorem d7 : decode yB 7 = .ok (.iconst 0, 1) := by decide +kernel
theorem d8 : decode yB 8 = .ok (.iload_n 2, 1) := by decide +kernel
theorem d9 : decode yB 9 = .ok (.invokestatic 115, 3) := by decide +kernel
theorem d12 : decode yB 12 = .ok (.istore 4, 2) := by decide +kernel
theorem d14 : decode yB 14 = .ok (.iload 4, 2) := by decide +kernel
theorem d16 : decode yB 16 = .ok (.iload_n 2, 1) := by decide +kernel
theorem d17 : decode yB 17 = .ok (.if_icmp (.eq) 40, 3) := by decide +kernel
theorem d57 : decode yB 57 = .ok (.aload_n 3, 1) := by decide +kernel
theorem d58 : decode yB 58 = .ok (.areturn, 1) := by decide +kernel
def site : List Cond := [.arrayClass .byte, Cmp5.tab] ++ staticW U16 115 Cmp5.yN
def tab : Cond := tabOf yN yB 6 (some (.array .byte)) site
def P (b : Addr) (A : Cell) (o len : Nat) (args : Array Value) (s : State) : Prop := args = #[.ref b, .int (Int32.ofNat o), .int (Int32.ofNat len)] ∧ Ch b A s ∧ o + len ≤ A.slots.size ∧ len ≤ 536870912 ∧ ∀ i, i < len → ¬ 255 < cv A (o + i)
def E (b : Addr) (A : Cell) (o len : Nat) (r : Option Value) (s u : State) : Prop := NewArr .byte "[B" len (fun j => .int (lo8 (cv A (o + j)))) r s u ∧ u.heap.size = s.heap.size + 1
/-- no char of the range above 255: a new byte[] of their low bytes -/
theorem law (l : Launch) (b : Addr) (A : Cell) (o len : Nat) : Law l yN 3 3 1 18 yB 6 (some (.array .byte)) site (P b A o len) (E b A o len) [] 1 len := by
  refine Law.of_walk (plainFor_of_name (by decide +kernel)) (by decide +kernel) (by decide +kernel) (by decide) (fun _ _ h => by rw [h.1]; rfl) (fun _ U U' hal hh h => ⟨h.1, h.2.1.mv hal hh, h.2.2⟩) (fun r U U' V V' h1 hal h2 h => ⟨NewArr.mv r U U' V V' h1 hal h2 h.1, by rw [h1, h2]; exact h.2⟩) ?_
  intro p e s m args below meth c s₁ X0 hexec hbytes hml hret hlk hnm hown hh0 W hP
  obtain ⟨rfl, hA, l1, l2, hp⟩ := hP
  have a31 := hA.1.2.2.2
  have c1 : Steps p.tables e below (s₁.setTop (entryFrame m #[.ref b, .int (Int32.ofNat o), .int (Int32.ofNat len)] 6)) (s₁.setTop (mkF m 0 #[.val (.ref b), .val (.int (Int32.ofNat o)), .val (.int (Int32.ofNat len)), .unset, .unset, .unset] [])) := entry rfl
  have c2 : Steps p.tables e below (s₁.setTop (entryFrame m #[.ref b, .int (Int32.ofNat o), .int (Int32.ofNat len)] 6)) (s₁.setTop (mkF m 1 #[.val (.ref b), .val (.int (Int32.ofNat o)), .val (.int (Int32.ofNat len)), .unset, .unset, .unset] [.int (Int32.ofNat len)])) := c1.trans (by
    refine XS.iloadN X0.here hexec rfl (hb hbytes d0) rfl ?_
    exact Steps.refl _)
  obtain ⟨T3, B3, X3, ba3, bs3, bv3, bh3, bf3, st3⟩ := X0.anew hexec (atype := .byte) (wk W (.arrayClass .byte)) rfl (by show len * 1 ≤ _; omega) (by omega) (g := (mkF m 1 #[.val (.ref b), .val (.int (Int32.ofNat o)), .val (.int (Int32.ofNat len)), .unset, .unset, .unset] [.int (Int32.ofNat len)])) rfl (hb hbytes d1) (rest := []) rfl (Nat.le_refl _) (by show 0 + len ≤ len; omega)
  rw [hh0] at ba3 st3
  have kp3 : XT.Kept s T3 := (XT.Kept.of_eq hh0).push bh3
  have hA3 := hA.keep X3.warmed.alike (kp3 _ _ hA.1.1)
  have hne : b ≠ s.heap.size := hA.1.ne
  have c4 : Steps p.tables e below (s₁.setTop (entryFrame m #[.ref b, .int (Int32.ofNat o), .int (Int32.ofNat len)] 6)) (T3.setTop (mkF m 3 #[.val (.ref b), .val (.int (Int32.ofNat o)), .val (.int (Int32.ofNat len)), .unset, .unset, .unset] [.ref s.heap.size])) := c2.trans (st3 _ (Steps.refl _))
  have c5 : Steps p.tables e below (s₁.setTop (entryFrame m #[.ref b, .int (Int32.ofNat o), .int (Int32.ofNat len)] 6)) (T3.setTop (mkF m 9 #[.val (.ref b), .val (.int (Int32.ofNat o)), .val (.int (Int32.ofNat len)), .val (.ref s.heap.size), .unset, .unset] [.int (Int32.ofNat len), .int 0, .ref s.heap.size, .int (Int32.ofNat o), .ref b])) := c4.trans (by
    refine XS.astoreN X3.here hexec rfl (hb hbytes d3) rfl rfl rfl ?_
    refine XS.aloadN X3.here hexec rfl (hb hbytes d4) rfl rfl ?_
    refine XS.iloadN X3.here hexec rfl (hb hbytes d5) rfl ?_
    refine XS.aloadN X3.here hexec rfl (hb hbytes d6) rfl rfl ?_
    refine iconstV X3.here hexec rfl 0 (hb hbytes d7) (by decide) ?_
    refine XS.iloadN X3.here hexec rfl (hb hbytes d8) rfl ?_
    exact Steps.refl _)
  obtain ⟨v6, T6, X6, E6, g6⟩ := X3.callS hexec (Cmp5.law l b A s.heap.size B3 o 0 len) hown (wks W (staticW U16 115 Cmp5.yN)) (wk W Cmp5.tab) (W := 0) (Nat.le_of_ble_eq_true rfl) (Nat.le_of_ble_eq_true rfl) (Nat.le_refl _) (by show 0 + len + 0 ≤ len; omega) (g := (mkF m 9 #[.val (.ref b), .val (.int (Int32.ofNat o)), .val (.int (Int32.ofNat len)), .val (.ref s.heap.size), .unset, .unset] [.int (Int32.ofNat len), .int (Int32.ofNat 0), .ref s.heap.size, .int (Int32.ofNat o), .ref b])) rfl (by rw [hml]; rfl) c5 (argsL := [.ref b, .int (Int32.ofNat o), .ref s.heap.size, .int (Int32.ofNat 0), .int (Int32.ofNat len)]) (rest := []) rfl rfl (by show 2 * 0 + 0 ≤ _; decide) (hb hbytes d9) (⟨rfl, hA3, ba3, hne, l1, by rw [bs3]; simp, hp⟩)
  obtain ⟨rfl, B6, p6, f6⟩ := E6
  have c7 : Steps p.tables e below (s₁.setTop (entryFrame m #[.ref b, .int (Int32.ofNat o), .int (Int32.ofNat len)] 6)) (T6.setTop (mkF m 12 #[.val (.ref b), .val (.int (Int32.ofNat o)), .val (.int (Int32.ofNat len)), .val (.ref s.heap.size), .unset, .unset] [.int (Int32.ofNat len)])) := g6
  have c8 : Steps p.tables e below (s₁.setTop (entryFrame m #[.ref b, .int (Int32.ofNat o), .int (Int32.ofNat len)] 6)) (T6.setTop (mkF m 58 #[.val (.ref b), .val (.int (Int32.ofNat o)), .val (.int (Int32.ofNat len)), .val (.ref s.heap.size), .val (.int (Int32.ofNat len)), .unset] [.ref s.heap.size])) := c7.trans (by
    refine XS.istore X6.here hexec rfl (hb hbytes d12) rfl rfl ?_
    refine XS.iload X6.here hexec rfl (hb hbytes d14) rfl ?_
    refine XS.iloadN X6.here hexec rfl (hb hbytes d16) rfl ?_
    refine XS.icmpYes X6.here hexec rfl (pc0 := 17) rfl (hb hbytes d17) rfl (ii_eq_t rfl) (by decide) rfl ?_
    refine XS.aloadN X6.here hexec rfl (hb hbytes d57) rfl rfl ?_
    exact Steps.refl _)
  have X8 := X6.wide (L' := []) (cells' := 1) (slots' := len) (fun x hx hlt => by
    simp only [List.nil_append, copyLocs, List.mem_map, List.mem_range] at hx
    obtain ⟨i, -, rfl⟩ := hx
    exact absurd hlt (Nat.lt_irrefl _)) (Nat.le_refl _) (by omega)
  exact ⟨T6, some (.ref s.heap.size), _, _, _, X8, rfl, rfl, rfl, (fun h => by cases h), ⟨⟨rfl, B6, ba3.like (X3.warmed.alike.symm.trans X6.warmed.alike) p6.1 f6.1 f6.2.1 f6.2.2.1, f6.2.1.trans bv3, by rw [X6.warmed.alike.findClass, f6.1]; exact bf3, by rw [f6.2.2.1, bs3]; simp, fun j hj => by rw [f6.2.2.2 j, if_pos (by omega)]; rfl, kp3.put p6 (Nat.le_refl _)⟩, by rw [p6.2.2, bh3, hh0]; simp⟩, fun fs hl => c8.trans (X8.areturnOut hexec rfl hret rfl (hb hbytes d58) hl)⟩
end Cmp3
namespace CodL
def yN : MethodName := ⟨"java/lang/StringUTF16", "coderFromArrayLen", "([BI)B"⟩
abbrev yB : ByteArray := jdk_52_method_15_code
theorem d0 : decode yB 0 = .ok (.iload_n 1, 1) := by decide +kernel
theorem d1 : decode yB 1 = .ok (.aload_n 0, 1) := by decide +kernel
theorem d2 : decode yB 2 = .ok (.arraylength, 1) := by decide +kernel
theorem d3 : decode yB 3 = .ok (.isub, 1) := by decide +kernel
theorem d4 : decode yB 4 = .ok (.bipush 31, 2) := by decide +kernel
theorem d6 : decode yB 6 = .ok (.iushr, 1) := by decide +kernel
theorem d7 : decode yB 7 = .ok (.i2b, 1) := by decide +kernel
theorem d8 : decode yB 8 = .ok (.ireturn, 1) := by decide +kernel
def site : List Cond := []
def tab : Cond := tabOf yN yB 2 (some .byte) site
def P (d : Addr) (B : Cell) (args : Array Value) (s : State) : Prop := args = #[.ref d, .int (Int32.ofNat B.slots.size)] ∧ Arr .byte d B s
def E (r : Option Value) (s u : State) : Prop := XT.PureE (some (.int 0)) r s u
/-- an array as long as the number of chars: LATIN1 -/
theorem law (l : Launch) (d : Addr) (B : Cell) : Law l yN 2 2 0 0 yB 2 (some .byte) site (P d B) E [] 0 0 := by
  refine Law.of_walk (plainFor_of_name (by decide +kernel)) (by decide +kernel) (by decide +kernel) (by decide) (fun _ _ h => by rw [h.1]; rfl) (fun _ U U' hal hh h => ⟨h.1, h.2.mv hal hh⟩) (fun r U U' V V' h1 hal h2 h => XT.PureE.mv r U U' V V' h1 hal h2 h) ?_
  intro p e s m args below meth c s₁ X0 hexec hbytes hml hret hlk hnm hown hh0 W hP
  obtain ⟨rfl, hB⟩ := hP
  have hB0 := hB.mv X0.warmed.alike hh0
  have c1 : Steps p.tables e below (s₁.setTop (entryFrame m #[.ref d, .int (Int32.ofNat B.slots.size)] 2)) (s₁.setTop (mkF m 0 #[.val (.ref d), .val (.int (Int32.ofNat B.slots.size))] [])) := entry rfl
  have c2 : Steps p.tables e below (s₁.setTop (entryFrame m #[.ref d, .int (Int32.ofNat B.slots.size)] 2)) (s₁.setTop (mkF m 2 #[.val (.ref d), .val (.int (Int32.ofNat B.slots.size))] [.ref d, .int (Int32.ofNat B.slots.size)])) := c1.trans (by
    refine XS.iloadN X0.here hexec rfl (hb hbytes d0) rfl ?_
    refine XS.aloadN X0.here hexec rfl (hb hbytes d1) rfl rfl ?_
    exact Steps.refl _)
  have c3 : Steps p.tables e below (s₁.setTop (entryFrame m #[.ref d, .int (Int32.ofNat B.slots.size)] 2)) (s₁.setTop (mkF m 8 #[.val (.ref d), .val (.int (Int32.ofNat B.slots.size))] [.int (lo8 (ushr (Int32.ofNat B.slots.size - Int32.ofNat B.slots.size) 31))])) := c2.trans (by
    refine X0.alen hexec hB0 rfl rfl (hb hbytes d2) ?_
    refine XS.isub X0.here hexec rfl (hb hbytes d3) rfl ?_
    refine bipushV X0.here hexec rfl 31 (hb hbytes d4) (by decide) ?_
    refine iushr X0.here hexec rfl (hb hbytes d6) rfl ?_
    refine i2b X0.here hexec rfl (hb hbytes d7) rfl ?_
    exact Steps.refl _)
  have e0 : lo8 (ushr (Int32.ofNat B.slots.size - Int32.ofNat B.slots.size) 31) = 0 := by rw [Int32.sub_self]; decide
  rw [e0] at c3
  exact ⟨s₁, some (.int 0), _, _, _, X0, rfl, rfl, rfl, (fun h => by cases h), ⟨rfl, hh0⟩, fun fs hl => c3.trans (X0.ireturnOut hexec hret rfl (Or.inr (Or.inr (Or.inl rfl))) (hb hbytes d8) hl)⟩
end CodL
/-- the String at a is Latin-1 over a new byte[] (the heap's one new cell): the low bytes of the len chars of A from o on; every cell but a is kept -/
def Got (a : Addr) (D : Cell) (fV fC : Field) (A : Cell) (o len : Nat) (r : Option Value) (s u : State) : Prop := r = none ∧ ∃ D' V : Cell, Blank "java/lang/String" a D' u ∧ Same D D' [fV.slot, fC.slot] ∧ D'.slots[fV.slot]? = some (.ref s.heap.size) ∧ D'.slots[fC.slot]? = some (.int 0) ∧ Arr .byte s.heap.size V u ∧ V.vm = .none ∧ u.vm.findClass "[B" = some V.cls ∧ V.slots.size = len ∧ (∀ j, j < len → V.slots[j]? = some (.int (lo8 (cv A (o + j))))) ∧ (∀ (y : Addr) (c : Cell), y ≠ a → s.heap[y]? = some c → u.heap[y]? = some c) ∧ u.heap.size = s.heap.size + 1
theorem Got.mv {a : Addr} {D A : Cell} {fV fC : Field} {o len : Nat} : ∀ r (U U' V V' : State), U'.heap = U.heap → V.vm.Alike V'.vm → V'.heap = V.heap → Got a D fV fC A o len r U V → Got a D fV fC A o len r U' V' :=
  fun r U U' V V' h1 hal h2 ⟨e0, D', X, a1, a2, a3, a4, a5, a6, a7, a8, a9, a10, a11⟩ => ⟨e0, D', X, a1.mv hal h2, a2, by rw [h1]; exact a3, a4, by rw [h1]; exact a5.mv hal h2, a6, by rw [hal.findClass]; exact a7, a8, a9, by rw [h1, h2]; exact a10, by rw [h1, h2]; exact a11⟩
namespace New4
def yN : MethodName := ⟨"java/lang/String", "<init>", "([CIILjava/lang/Void;)V"⟩
abbrev yB : ByteArray := jdk_42_method_149_code
theorem d0 : decode yB 0 = .ok (.aload_n 0, 1) := by decide +kernel
theorem d1 : decode yB 1 = .ok (.invokespecial 1, 3) := by decide +kernel
theorem d4 : decode yB 4 = .ok (.iload_n 3, 1) := by decide +kernel
theorem d5 : decode yB 5 = .ok (.ifCond (.ne) 22, 3) := by decide +kernel
theorem d27 : decode yB 27 = .ok (.getstatic 38, 3) := by decide +kernel
theorem d30 : decode yB 30 = .ok (.ifCond (.eq) 28, 3) := by decide +kernel
theorem d33 : decode yB 33 = .ok (.aload_n 1, 1) := by decide +kernel
theorem d34 : decode yB 34 = .ok (.iload_n 2, 1) := by decide +kernel
theorem d35 : decode yB 35 = .ok (.iload_n 3, 1) := by decide +kernel
theorem d36 : decode yB 36 = .ok (.invokestatic 177, 3) := by decide +kernel
theorem d39 : decode yB 39 = .ok (.astore 5, 2) := by decide +kernel
theorem d41 : decode yB 41 = .ok (.aload_n 0, 1) := by decide +kernel
theorem d42 : decode yB 42 = .ok (.aload 5, 2) := by decide +kernel
theorem d44 : decode yB 44 = .ok (.iload_n 3, 1) := by decide +kernel
theorem d45 : decode yB 45 = .ok (.invokestatic 47, 3) := by decide +kernel
theorem d48 : decode yB 48 = .ok (.putfield 15, 3) := by decide +kernel
theorem d51 : decode yB 51 = .ok (.aload_n 0, 1) := by decide +kernel
theorem d52 : decode yB 52 = .ok (.aload 5, 2) := by decide +kernel
theorem d54 : decode yB 54 = .ok (.putfield 9, 3) := by decide +kernel
theorem d57 : decode yB 57 = .ok (.return_, 1) := by decide +kernel
def site : List Cond := [.fieldLink "java/lang/String" 38 "java/lang/String" "COMPACT_STRINGS" "Z", Cmp3.tab, CodL.tab, .laysFinal "java/lang/String" "java/lang/String" "value" "[B", .fieldLink "java/lang/String" 9 "java/lang/String" "value" "[B", .laysFinal "java/lang/String" "java/lang/String" "coder" "B", .fieldLink "java/lang/String" 15 "java/lang/String" "coder" "B"] ++ objW "java/lang/String" 1 ++ staticW "java/lang/String" 177 Cmp3.yN ++ staticW "java/lang/String" 47 CodL.yN
def tab : Cond := tabOf yN yB 6 none site
def P (a : Addr) (D : Cell) (fV fC : Field) (b : Addr) (A : Cell) (z : Int32) (o len : Nat) (args : Array Value) (s : State) : Prop := args = #[.ref a, .ref b, .int (Int32.ofNat o), .int (Int32.ofNat len), .null] ∧ Blank "java/lang/String" a D s ∧ Found "java/lang/String" "value" "[B" fV s ∧ Found "java/lang/String" "coder" "B" fC s ∧ Ch b A s ∧ StaticIs s "java/lang/String" "COMPACT_STRINGS" "Z" (.int z) ∧ ¬ z = 0 ∧ 0 < len ∧ o + len ≤ A.slots.size ∧ len ≤ 536870912 ∧ ∀ i, i < len → ¬ 255 < cv A (o + i)
def E (a : Addr) (D : Cell) (fV fC : Field) (A : Cell) (o len : Nat) (r : Option Value) (s u : State) : Prop := Got a D fV fC A o len r s u
/-- len > 0, no char of the range above 255: a Latin-1 String of their low bytes -/
theorem law (l : Launch) (a : Addr) (D : Cell) (fV fC : Field) (b : Addr) (A : Cell) (z : Int32) (o len : Nat) : Law l yN 5 4 2 35 yB 6 none site (P a D fV fC b A z o len) (E a D fV fC A o len) [⟨a, fC.slot⟩, ⟨a, fV.slot⟩] 1 len := by
  refine Law.of_walk (plainFor_of_name (by decide +kernel)) (by decide +kernel) (by decide +kernel) (by decide) (fun _ _ h => by rw [h.1]; rfl) (fun _ U U' hal hh h => ⟨h.1, h.2.1.mv hal hh, h.2.2.1.al hal, h.2.2.2.1.al hal, h.2.2.2.2.1.mv hal hh, h.2.2.2.2.2.1.there hal hh, h.2.2.2.2.2.2⟩) (fun r U U' V V' h1 hal h2 h => Got.mv r U U' V V' h1 hal h2 h) ?_
  intro p e s m args below meth c s₁ X0 hexec hbytes hml hret hlk hnm hown hh0 W hP
  obtain ⟨rfl, hB, f1, f2, hA, s1, hz, l0, l1, l2, hp⟩ := hP
  have a31 := hA.1.2.2.2
  have c1 : Steps p.tables e below (s₁.setTop (entryFrame m #[.ref a, .ref b, .int (Int32.ofNat o), .int (Int32.ofNat len), .null] 6)) (s₁.setTop (mkF m 0 #[.val (.ref a), .val (.ref b), .val (.int (Int32.ofNat o)), .val (.int (Int32.ofNat len)), .val .null, .unset] [])) := entry rfl
  have c2 : Steps p.tables e below (s₁.setTop (entryFrame m #[.ref a, .ref b, .int (Int32.ofNat o), .int (Int32.ofNat len), .null] 6)) (s₁.setTop (mkF m 1 #[.val (.ref a), .val (.ref b), .val (.int (Int32.ofNat o)), .val (.int (Int32.ofNat len)), .val .null, .unset] [.ref a])) := c1.trans (by
    refine XS.aloadN X0.here hexec rfl (hb hbytes d0) rfl rfl ?_
    exact Steps.refl _)
  obtain ⟨T3, X3, q3, st3⟩ := X0.oinit hexec hown (wks W (objW "java/lang/String" 1)) (g := (mkF m 1 #[.val (.ref a), .val (.ref b), .val (.int (Int32.ofNat o)), .val (.int (Int32.ofNat len)), .val .null, .unset] [.ref a])) rfl (by rw [hml]; rfl) (rest := []) rfl (hb hbytes d1) (W := 0) (by show 2 * 0 + 0 ≤ _; decide) (Nat.le_of_ble_eq_true rfl) (Nat.le_of_ble_eq_true rfl)
  have hh3 := q3.trans hh0
  have c4 : Steps p.tables e below (s₁.setTop (entryFrame m #[.ref a, .ref b, .int (Int32.ofNat o), .int (Int32.ofNat len), .null] 6)) (T3.setTop (mkF m 27 #[.val (.ref a), .val (.ref b), .val (.int (Int32.ofNat o)), .val (.int (Int32.ofNat len)), .val .null, .unset] [])) := (c2.trans (st3 _ (Steps.refl _))).trans (by
    refine XS.iloadN X3.here hexec rfl (hb hbytes d4) rfl ?_
    refine XS.ifYes X3.here hexec rfl (pc0 := 5) rfl (hb hbytes d5) rfl (i0_ne_t (nz32 (by omega) l0)) (by decide) rfl ?_
    exact Steps.refl _)
  obtain ⟨T5, X5, q5, st5⟩ := X3.sget hexec hown (wk W (.fieldLink "java/lang/String" 38 "java/lang/String" "COMPACT_STRINGS" "Z")) s1 (fun _ _ h => by rw [hh3]; exact h) (g := (mkF m 27 #[.val (.ref a), .val (.ref b), .val (.int (Int32.ofNat o)), .val (.int (Int32.ofNat len)), .val .null, .unset] [])) rfl (hb hbytes d27)
  have hh5 := q5.trans hh3
  have c6 : Steps p.tables e below (s₁.setTop (entryFrame m #[.ref a, .ref b, .int (Int32.ofNat o), .int (Int32.ofNat len), .null] 6)) (T5.setTop (mkF m 30 #[.val (.ref a), .val (.ref b), .val (.int (Int32.ofNat o)), .val (.int (Int32.ofNat len)), .val .null, .unset] [.int z])) := c4.trans (st5 _ (Steps.refl _))
  have c7 : Steps p.tables e below (s₁.setTop (entryFrame m #[.ref a, .ref b, .int (Int32.ofNat o), .int (Int32.ofNat len), .null] 6)) (T5.setTop (mkF m 36 #[.val (.ref a), .val (.ref b), .val (.int (Int32.ofNat o)), .val (.int (Int32.ofNat len)), .val .null, .unset] [.int (Int32.ofNat len), .int (Int32.ofNat o), .ref b])) := c6.trans (by
    refine XS.ifNo X5.here hexec rfl (hb hbytes d30) rfl (i0_eq_f hz) ?_
    refine XS.aloadN X5.here hexec rfl (hb hbytes d33) rfl rfl ?_
    refine XS.iloadN X5.here hexec rfl (hb hbytes d34) rfl ?_
    refine XS.iloadN X5.here hexec rfl (hb hbytes d35) rfl ?_
    exact Steps.refl _)
  obtain ⟨v8, T8, X8, E8, g8⟩ := X5.callS hexec (Cmp3.law l b A o len) hown (wks W (staticW "java/lang/String" 177 Cmp3.yN)) (wk W Cmp3.tab) (W := 0) (Nat.le_of_ble_eq_true rfl) (Nat.le_of_ble_eq_true rfl) (Nat.le_refl _) (by show 0 + len ≤ len; omega) (g := (mkF m 36 #[.val (.ref a), .val (.ref b), .val (.int (Int32.ofNat o)), .val (.int (Int32.ofNat len)), .val .null, .unset] [.int (Int32.ofNat len), .int (Int32.ofNat o), .ref b])) rfl (by rw [hml]; rfl) c7 (argsL := [.ref b, .int (Int32.ofNat o), .int (Int32.ofNat len)]) (rest := []) rfl rfl (by show 2 * 0 + 0 ≤ _; decide) (hb hbytes d36) (⟨rfl, hA.mv X5.warmed.alike hh5, l1, l2, hp⟩)
  obtain ⟨e8, z8⟩ := E8
  obtain ⟨rfl, N, n1, n2, n3, n4, n5, n6⟩ := NewArr.mv _ T5 s _ _ hh5.symm (Vm.Alike.refl _) rfl e8
  rw [hh5] at z8
  have hB1 := hB.keep X8.warmed.alike (n6 _ _ hB.1)
  have hne : s.heap.size ≠ a := (Nat.ne_of_lt (Array.getElem?_eq_some_iff.mp hB.1).1).symm
  have c9 : Steps p.tables e below (s₁.setTop (entryFrame m #[.ref a, .ref b, .int (Int32.ofNat o), .int (Int32.ofNat len), .null] 6)) (T8.setTop (mkF m 39 #[.val (.ref a), .val (.ref b), .val (.int (Int32.ofNat o)), .val (.int (Int32.ofNat len)), .val .null, .unset] [.ref s.heap.size])) := g8
  have c10 : Steps p.tables e below (s₁.setTop (entryFrame m #[.ref a, .ref b, .int (Int32.ofNat o), .int (Int32.ofNat len), .null] 6)) (T8.setTop (mkF m 45 #[.val (.ref a), .val (.ref b), .val (.int (Int32.ofNat o)), .val (.int (Int32.ofNat len)), .val .null, .val (.ref s.heap.size)] [.int (Int32.ofNat N.slots.size), .ref s.heap.size, .ref a])) := by
    have hc : Steps p.tables e below (s₁.setTop (entryFrame m #[.ref a, .ref b, .int (Int32.ofNat o), .int (Int32.ofNat len), .null] 6)) (T8.setTop (mkF m 45 #[.val (.ref a), .val (.ref b), .val (.int (Int32.ofNat o)), .val (.int (Int32.ofNat len)), .val .null, .val (.ref s.heap.size)] [.int (Int32.ofNat len), .ref s.heap.size, .ref a])) := c9.trans (by
      refine XS.astore X8.here hexec rfl (hb hbytes d39) rfl rfl rfl ?_
      refine XS.aloadN X8.here hexec rfl (hb hbytes d41) rfl rfl ?_
      refine XS.aload X8.here hexec rfl (hb hbytes d42) rfl rfl ?_
      refine XS.iloadN X8.here hexec rfl (hb hbytes d44) rfl ?_
      exact Steps.refl _)
    rw [n4]; exact hc
  obtain ⟨v11, T11, X11, E11, g11⟩ := X8.callS hexec (CodL.law l s.heap.size N) hown (wks W (staticW "java/lang/String" 47 CodL.yN)) (wk W CodL.tab) (W := 1) (Nat.le_of_ble_eq_true rfl) (Nat.le_of_ble_eq_true rfl) (Nat.le_refl _) (by show 0 + len + 0 ≤ len; omega) (g := (mkF m 45 #[.val (.ref a), .val (.ref b), .val (.int (Int32.ofNat o)), .val (.int (Int32.ofNat len)), .val .null, .val (.ref s.heap.size)] [.int (Int32.ofNat N.slots.size), .ref s.heap.size, .ref a])) rfl (by rw [hml]; rfl) c10 (argsL := [.ref s.heap.size, .int (Int32.ofNat N.slots.size)]) (rest := [.ref a]) rfl rfl (by show 2 * 0 + (1 + 0) ≤ _; decide) (hb hbytes d45) (⟨rfl, n1⟩)
  obtain ⟨rfl, q11⟩ := E11
  have hB11 := hB1.mv (X8.warmed.alike.symm.trans X11.warmed.alike) q11
  have c12 : Steps p.tables e below (s₁.setTop (entryFrame m #[.ref a, .ref b, .int (Int32.ofNat o), .int (Int32.ofNat len), .null] 6)) (T11.setTop (mkF m 48 #[.val (.ref a), .val (.ref b), .val (.int (Int32.ofNat o)), .val (.int (Int32.ofNat len)), .val .null, .val (.ref s.heap.size)] [.int 0, .ref a])) := g11
  obtain ⟨T13, X13, p13, bl13, sl13, st13⟩ := X11.finit hexec hown (wk W (.fieldLink "java/lang/String" 15 "java/lang/String" "coder" "B")) (Or.inr ⟨_, (wk W (.laysFinal "java/lang/String" "java/lang/String" "coder" "B"))⟩) (Or.inl ⟨rfl, hnm⟩) f2 (Or.inl rfl) hB11 (t := .byte) (by decide +kernel) rfl (g := (mkF m 48 #[.val (.ref a), .val (.ref b), .val (.int (Int32.ofNat o)), .val (.int (Int32.ofNat len)), .val .null, .val (.ref s.heap.size)] [.int 0, .ref a])) rfl (rest := []) rfl (hb hbytes d48)
  have c14 : Steps p.tables e below (s₁.setTop (entryFrame m #[.ref a, .ref b, .int (Int32.ofNat o), .int (Int32.ofNat len), .null] 6)) (T13.setTop (mkF m 54 #[.val (.ref a), .val (.ref b), .val (.int (Int32.ofNat o)), .val (.int (Int32.ofNat len)), .val .null, .val (.ref s.heap.size)] [.ref s.heap.size, .ref a])) := (c12.trans (st13 _ (Steps.refl _))).trans (by
    refine XS.aloadN X13.here hexec rfl (hb hbytes d51) rfl rfl ?_
    refine XS.aload X13.here hexec rfl (hb hbytes d52) rfl rfl ?_
    exact Steps.refl _)
  obtain ⟨T15, X15, p15, bl15, sl15, st15⟩ := X13.finit hexec hown (wk W (.fieldLink "java/lang/String" 9 "java/lang/String" "value" "[B")) (Or.inr ⟨_, (wk W (.laysFinal "java/lang/String" "java/lang/String" "value" "[B"))⟩) (Or.inl ⟨rfl, hnm⟩) f1 (Or.inl rfl) bl13 (t := (.array .byte)) (by decide +kernel) rfl (g := (mkF m 54 #[.val (.ref a), .val (.ref b), .val (.int (Int32.ofNat o)), .val (.int (Int32.ofNat len)), .val .null, .val (.ref s.heap.size)] [.ref s.heap.size, .ref a])) rfl (rest := []) rfl (hb hbytes d54)
  have c16 : Steps p.tables e below (s₁.setTop (entryFrame m #[.ref a, .ref b, .int (Int32.ofNat o), .int (Int32.ofNat len), .null] 6)) (T15.setTop (mkF m 57 #[.val (.ref a), .val (.ref b), .val (.int (Int32.ofNat o)), .val (.int (Int32.ofNat len)), .val .null, .val (.ref s.heap.size)] [])) := c14.trans (st15 _ (Steps.refl _))
  have ap := apart (Or.inr ⟨_, (wk W (.laysFinal "java/lang/String" "java/lang/String" "value" "[B"))⟩) (Or.inr ⟨_, (wk W (.laysFinal "java/lang/String" "java/lang/String" "coder" "B"))⟩) f1 f2 (t₁ := .array .byte) (t₂ := .byte) (by decide +kernel) (by decide +kernel) (by decide)
  have al := X8.warmed.alike.symm.trans X15.warmed.alike
  have n7 : T11.heap[s.heap.size]? = some N := by rw [q11]; exact n1.1
  exact ⟨T15, none, _, _, _, X15, by simp, rfl, by omega, (fun _ => rfl), ⟨rfl, _, N, bl15, ((Same.refl D _).set _ (by simp)).set _ (by simp), sl15, (Cell.slots_setSlot_ne _ ap).trans sl13, n1.keep al (p15.other hne (p13.other hne n7)), n2, by rw [al.findClass]; exact n3, n4, n5, fun y c h1 h2 => p15.other h1 (p13.other h1 (by rw [q11]; exact n6 y c h2)), by rw [p15.2.2, p13.2.2, q11]; exact z8⟩, fun fs hl => c16.trans (X15.returnOut hexec hret (hb hbytes d57) hl)⟩
end New4
namespace New1
def yN : MethodName := ⟨"java/lang/String", "<init>", "([C)V"⟩
abbrev yB : ByteArray := jdk_42_method_3_code
theorem d0 : decode yB 0 = .ok (.aload_n 0, 1) := by decide +kernel
theorem d1 : decode yB 1 = .ok (.aload_n 1, 1) := by decide +kernel
theorem d2 : decode yB 2 = .ok (.iconst 0, 1) := by decide +kernel
theorem d3 : decode yB 3 = .ok (.aload_n 1, 1) := by decide +kernel
theorem d4 : decode yB 4 = .ok (.arraylength, 1) := by decide +kernel
theorem d5 : decode yB 5 = .ok (.aconst_null, 1) := by decide +kernel
theorem d6 : decode yB 6 = .ok (.invokespecial 27, 3) := by decide +kernel
theorem d9 : decode yB 9 = .ok (.return_, 1) := by decide +kernel
def site : List Cond := [New4.tab] ++ initW "java/lang/String" 27 New4.yN
def tab : Cond := tabOf yN yB 2 none site
def P (a : Addr) (D : Cell) (fV fC : Field) (b : Addr) (A : Cell) (z : Int32) (args : Array Value) (s : State) : Prop := args = #[.ref a, .ref b] ∧ Blank "java/lang/String" a D s ∧ Found "java/lang/String" "value" "[B" fV s ∧ Found "java/lang/String" "coder" "B" fC s ∧ Ch b A s ∧ StaticIs s "java/lang/String" "COMPACT_STRINGS" "Z" (.int z) ∧ ¬ z = 0 ∧ 0 < A.slots.size ∧ A.slots.size ≤ 536870912 ∧ ∀ i, i < A.slots.size → ¬ 255 < cv A i
def E (a : Addr) (D : Cell) (fV fC : Field) (A : Cell) (r : Option Value) (s u : State) : Prop := Got a D fV fC A 0 A.slots.size r s u
/-- new String(chars), not empty, no char above 255: a Latin-1 String of their low bytes -/
theorem law (l : Launch) (a : Addr) (D : Cell) (fV fC : Field) (b : Addr) (A : Cell) (z : Int32) : Law l yN 2 1 3 52 yB 2 none site (P a D fV fC b A z) (E a D fV fC A) [⟨a, fC.slot⟩, ⟨a, fV.slot⟩] 1 A.slots.size := by
  refine Law.of_walk (plainFor_of_name (by decide +kernel)) (by decide +kernel) (by decide +kernel) (by decide) (fun _ _ h => by rw [h.1]; rfl) (fun _ U U' hal hh h => ⟨h.1, h.2.1.mv hal hh, h.2.2.1.al hal, h.2.2.2.1.al hal, h.2.2.2.2.1.mv hal hh, h.2.2.2.2.2.1.there hal hh, h.2.2.2.2.2.2⟩) (fun r U U' V V' h1 hal h2 h => Got.mv r U U' V V' h1 hal h2 h) ?_
  intro p e s m args below meth c s₁ X0 hexec hbytes hml hret hlk hnm hown hh0 W hP
  obtain ⟨rfl, hB, f1, f2, hA, s1, hz, l0, l2, hp⟩ := hP
  have c1 : Steps p.tables e below (s₁.setTop (entryFrame m #[.ref a, .ref b] 2)) (s₁.setTop (mkF m 0 #[.val (.ref a), .val (.ref b)] [])) := entry rfl
  have c2 : Steps p.tables e below (s₁.setTop (entryFrame m #[.ref a, .ref b] 2)) (s₁.setTop (mkF m 6 #[.val (.ref a), .val (.ref b)] [.null, .int (Int32.ofNat A.slots.size), .int 0, .ref b, .ref a])) := c1.trans (by
    refine XS.aloadN X0.here hexec rfl (hb hbytes d0) rfl rfl ?_
    refine XS.aloadN X0.here hexec rfl (hb hbytes d1) rfl rfl ?_
    refine iconstV X0.here hexec rfl 0 (hb hbytes d2) (by decide) ?_
    refine XS.aloadN X0.here hexec rfl (hb hbytes d3) rfl rfl ?_
    refine X0.alen hexec (hA.1.mv X0.warmed.alike hh0) rfl rfl (hb hbytes d4) ?_
    refine XS.aconstNull X0.here hexec rfl (hb hbytes d5) ?_
    exact Steps.refl _)
  obtain ⟨v3, T3, X3, E3, g3⟩ := X0.callN hexec (New4.law l a D fV fC b A z 0 A.slots.size) rfl hown (wks W (initW "java/lang/String" 27 New4.yN)) (W New4.tab (by simp only [site, List.mem_cons, List.mem_append, true_or, or_true])) (W := 0) (Nat.le_of_ble_eq_true rfl) (Nat.le_of_ble_eq_true rfl) (Nat.le_refl _) (by show 0 + A.slots.size ≤ A.slots.size; omega) (g := (mkF m 6 #[.val (.ref a), .val (.ref b)] [.null, .int (Int32.ofNat A.slots.size), .int (Int32.ofNat 0), .ref b, .ref a])) rfl (by rw [hml]; rfl) c2 (argsL := [.ref b, .int (Int32.ofNat 0), .int (Int32.ofNat A.slots.size), .null]) (rest := []) rfl rfl (by show 2 * 0 + 0 ≤ _; decide) (hb hbytes d6) (⟨rfl, hB.mv X0.warmed.alike hh0, f1.al X0.warmed.alike, f2.al X0.warmed.alike, hA.mv X0.warmed.alike hh0, s1.there X0.warmed.alike hh0, hz, l0, by omega, l2, fun i hi => by rw [Nat.zero_add]; exact hp i hi⟩)
  have e0 := Got.mv _ s₁ s _ _ hh0.symm (Vm.Alike.refl _) rfl E3
  obtain rfl := e0.1
  have c4 : Steps p.tables e below (s₁.setTop (entryFrame m #[.ref a, .ref b] 2)) (T3.setTop (mkF m 9 #[.val (.ref a), .val (.ref b)] [])) := g3
  exact ⟨T3, none, _, _, _, X3, by simp, rfl, by omega, (fun _ => rfl), e0, fun fs hl => c4.trans (X3.returnOut hexec hret (hb hbytes d9) hl)⟩
theorem pays {l : Launch} {R : Room} {p : Program} {e : Env} {below : List Frame} {s : State} {sargs : Array Value} {len W : Nat} (a : Addr) (D : Cell) (fV fC : Field) (b : Addr) (A : Cell) (z : Int32) (htab : tab.before sargs s = true) (hfr : 4 ≤ R.frames) (hlo : W + 65 ≤ R.locals) :
    Back l R p e below s sargs yN len W (fun A₁ a₁ => A₁.cells + 1 ≤ R.cells ∧ A₁.slots + A.slots.size ≤ R.slots ∧ P a D fV fC b A z a₁ A₁.U) (fun A₁ _ v₁ B₁ => E a D fV fC A v₁ A₁.U B₁.U ∧ B₁.locs = A₁.locs ++ [⟨a, fC.slot⟩, ⟨a, fV.slot⟩] ∧ B₁.cells = A₁.cells + 1 ∧ B₁.slots = A₁.slots + A.slots.size) :=
  (law l a D fV fC b A z).pays htab hfr (by omega)
end New1
/-- the byte, read back as charAt reads it, is the char -/
theorem lo8_mask {x : Int32} (h0 : ¬ x < 0) (h1 : ¬ 255 < x) : lo8 x &&& 255 = x := by
  have t : ∀ k : Fin 256, lo8 (Int32.ofNat k.val) &&& 255 = Int32.ofNat k.val := by decide +kernel
  rw [Int32.lt_iff_toInt_lt] at h0 h1
  have e0 : (0 : Int32).toInt = 0 := rfl
  have e1 : (255 : Int32).toInt = 255 := rfl
  obtain ⟨k, hk⟩ : ∃ k : Nat, x.toInt = k := ⟨x.toInt.toNat, by omega⟩
  have hx : x = Int32.ofNat k := Int32.toInt_inj.mp (by rw [hk, Int32.toInt_ofNat_small (by omega)])
  rw [hx]
  exact t ⟨k, by omega⟩
end StrChars
namespace StrChars.Road
open Jvm Sem ClassFile Op Lib Jvm.Stand Jvm.Free Jvm.Free.XT
open Jvm.Lib.Cold (StaticIs)
abbrev ST : String := "java/lang/String"
/-- every table word that New1's law asks, flat -/
abbrev words : List Jvm.Cond := [.code New1.yN New1.yB 2 none, .initialized ST, .methodLink ST 27 New4.yN, .instanceMethod New4.yN,
  .code New4.yN New4.yB 6 none, .fieldLink ST 38 ST "COMPACT_STRINGS" "Z", .laysFinal ST ST "value" "[B", .fieldLink ST 9 ST "value" "[B", .laysFinal ST ST "coder" "B", .fieldLink ST 15 ST "coder" "B",
  .methodLink ST 1 Lib.objectInit, .instanceMethod Lib.objectInit, .code Lib.objectInit ⟨#[0xb1]⟩ 1 none, .methodLink ST 177 Cmp3.yN, .static Cmp3.yN, .methodLink ST 47 CodL.yN, .static CodL.yN,
  .code Cmp3.yN Cmp3.yB 6 (some (.array .byte)), .initialized U16, .arrayClass .byte, .methodLink U16 115 Cmp5.yN, .static Cmp5.yN, .code Cmp5.yN Cmp5.yB 7 (some .int), .code CodL.yN CodL.yB 2 (some .byte)]
theorem tab_of {a : Array Value} {s : State} (h : ∀ w ∈ words, w.before a s = true) : New1.tab.before a s = true := by
  have h5 : Cmp5.tab.before a s = true := unparts (wk h (.code Cmp5.yN Cmp5.yB 7 (some .int))) (wks h (.initialized Cmp5.yN.cls :: Cmp5.site))
  have hc : CodL.tab.before a s = true := unparts (wk h (.code CodL.yN CodL.yB 2 (some .byte))) (wks h (.initialized CodL.yN.cls :: CodL.site))
  have q5 : ∀ w ∈ Cmp5.tab :: words, w.before a s = true := fun w hw => (List.mem_cons.mp hw).elim (fun e => e ▸ h5) (h w)
  have h3 : Cmp3.tab.before a s = true := unparts (wk q5 (.code Cmp3.yN Cmp3.yB 6 (some (.array .byte)))) (wks q5 (.initialized Cmp3.yN.cls :: Cmp3.site))
  have q3 : ∀ w ∈ Cmp3.tab :: CodL.tab :: words, w.before a s = true := fun w hw => (List.mem_cons.mp hw).elim (fun e => e ▸ h3) fun hw => (List.mem_cons.mp hw).elim (fun e => e ▸ hc) (h w)
  have h4 : New4.tab.before a s = true := unparts (wk q3 (.code New4.yN New4.yB 6 none)) (wks q3 (.initialized New4.yN.cls :: New4.site))
  have q4 : ∀ w ∈ New4.tab :: words, w.before a s = true := fun w hw => (List.mem_cons.mp hw).elim (fun e => e ▸ h4) (h w)
  exact unparts (wk q4 (.code New1.yN New1.yB 2 none)) (wks q4 (.initialized New1.yN.cls :: New1.site))
/-- the words ride from the start Z to the walk's own state -/
theorem moved {Z s : State} {a0 args : Array Value} (hZ : Z.Warmed39 s.vm) (hw : ∀ d ∈ words, d.before a0 Z = true) : ∀ d ∈ words, d.before args s = true := fun d hd => by
  have q := hw d hd
  have t : ∀ d ∈ words, d = .arrayClass .byte ∨ (d.onTables && d.keepsFace) = true := by decide +kernel
  rcases t d hd with rfl | t
  · exact RoadKit.mvA hZ q
  · exact RoadKit.mv hZ q t
/-- WHAT COMES BACK, over the tables of the start Z: h the heap at the call, h' behind it -/
def Q (Z : State) (x : Addr) (A : Cell) (h : Heap) (v : Option Value) (h' : Heap) (L : List Loc) : Prop := v = none ∧ (∀ y ∈ L, y.base = x) ∧ RoadKit.Keep h h' [x] ∧ h'.size = h.size + 1 ∧ RoadKit.Exa Z h' x ST ∧ RoadKit.Fld Z h' x ST "value" "[B" (.ref h.size) ∧ RoadKit.Fld Z h' x ST "coder" "B" (.int 0) ∧
  (∃ V : Cell, RoadKit.Arr Z h' h.size V .byte ∧ V.vm = .none ∧ Z.vm.findClass "[B" = some V.cls ∧ V.slots.size = A.slots.size ∧ ∀ j, j < A.slots.size → V.slots[j]? = some (.int (lo8 (cv A j)))) ∧
  ∀ (O n d : String) (w : Value), RoadKit.Fld Z h x O n d w → RoadKit.slotOf Z O n d ≠ RoadKit.slotOf Z ST "value" "[B" → RoadKit.slotOf Z O n d ≠ RoadKit.slotOf Z ST "coder" "B" → RoadKit.Fld Z h' x O n d w
/-- **new String(chars) AT A CALL, IN THE ROAD'S FORM**: for specialBack behind newO: x the fresh String, b the char[] with the cell A -/
theorem back {p : Program} {l : Launch} {e : Env} {R : Room} {s : State} {args : Array Value} {below : List Frame} {len W : Nat} {Z : State} {a0 : Array Value} {h : Heap} (hZ : Z.Warmed39 s.vm) (hw : ∀ d ∈ words, d.before a0 Z = true) {kI : Nat} (wi : (Jvm.Cond.instantiable ST kI).before a0 Z = true)
    {x b : Addr} {A : Cell} {z : Int32} {v0 c0 : Value} (E : RoadKit.Exa Z h x ST) (V : RoadKit.Fld Z h x ST "value" "[B" v0) (C : RoadKit.Fld Z h x ST "coder" "B" c0) (K : RoadKit.Arr Z h b A .char) (hty : Typed .char A) (S : RoadKit.Sta Z h ST "COMPACT_STRINGS" "Z" (.int z)) (hz : ¬ z = 0)
    (l0 : 0 < A.slots.size) (l2 : A.slots.size ≤ 536870912) (hp : ∀ i, i < A.slots.size → ¬ 255 < cv A i) (hfr : 4 ≤ R.frames) (hlo : W + 65 ≤ R.locals) :
    Back l R p e below s args New1.yN len W (fun P a => a = #[.ref x, .ref b] ∧ P.U.heap = h ∧ P.cells + 1 ≤ R.cells ∧ P.slots + A.slots.size ≤ R.slots)
      (fun P _ v B => ∃ L, Q Z x A h v B.U.heap L ∧ B.locs = P.locs ++ L ∧ B.cells = P.cells + 1 ∧ B.slots = P.slots + A.slots.size) := by
  intro m meth c P g ig mk a X hg hsize hdg hW hn hp'
  obtain ⟨rfl, rfl, r1, r2⟩ := hp'
  have al : Z.vm.Alike P.U.vm := hZ.alike.trans X.warmed.alike
  obtain ⟨D, cfV, kV, iV, fV, hD, gV, stV, knV, obV, asV, slV⟩ := id V
  obtain ⟨D', cfC, kC, iC, fC, hD', gC, stC, -, -, asC, slC⟩ := id C
  cases hD.symm.trans hD'
  obtain ⟨D2, kD, e1, e2, e3, e4, e5⟩ := id E
  cases hD.symm.trans e1
  obtain ⟨c2, k2, i1, i2, i3, -⟩ := Cond.instantiable_spec wi
  cases e2.symm.trans i1
  cases e3.symm.trans i2
  obtain ⟨kU, u1, u2⟩ := al.2.2 _ _ e3
  have hB : Blank ST x D P.U := ⟨hD, ⟨knV, fun q hq => by rw [hq] at obV; cases obV⟩, by rw [al.findClass]; exact e2, kU, u1, by rw [u2]; exact i3, by rw [u2]; exact e5 i3⟩
  have F1 : Found ST "value" "[B" fV P.U := ⟨SBG.found_only al ⟨cfV, kV, iV, gV⟩, stV⟩
  have F2 : Found ST "coder" "B" fC P.U := ⟨SBG.found_only al ⟨cfC, kC, iC, gC⟩, stC⟩
  have hA : Ch b A P.U := ⟨⟨K.1, State.isArrayOf_alike al K.2.1, K.2.2, by omega⟩, hty⟩
  have hS : StaticIs P.U ST "COMPACT_STRINGS" "Z" (.int z) := by
    obtain ⟨cfS, iS, kS, fS, st, cS, t1, t2, t3, t4, t5, t6, t7⟩ := S
    exact StaticIs.there (s := { Z with heap := P.U.heap }) ⟨cfS, iS, kS, fS, st, cS, t1, t2, t3, t4, t5, (fun q => by rw [q] at t6; cases t6), t7⟩ al rfl
  obtain ⟨v, B, X', ⟨⟨hv, E', V', q1, q2, q3, q4, q5, q6, q7, q8, q9, q10, q11⟩, hl, hc, hs⟩, st⟩ := New1.pays x D fV fC b A z (tab_of (moved hZ hw)) hfr hlo m meth c P g ig mk _ X hg hsize hdg hW hn ⟨r1, r2, rfl, hB, F1, F2, hA, hS, hz, l0, l2, hp⟩
  have al' : Z.vm.Alike B.U.vm := hZ.alike.trans X'.warmed.alike
  have hsz : E'.slots.size = D.slots.size := by
    obtain ⟨-, -, -, kB, w1, w2, w3⟩ := q1
    obtain ⟨kB', y1, y2⟩ := al'.2.2 _ _ e3
    rw [q2.2.1] at w1
    cases w1.symm.trans y1
    rw [w3, e5 i3, y2]
  refine ⟨v, B, X', ⟨_, ⟨hv, ?_, ⟨by omega, fun y cy hy hn' => q10 y cy (by simpa using hn') hy, fun y cy hy => ?_⟩, q11, ⟨E', _, q1.1, by rw [q2.2.1]; exact e2, by rw [q2.2.1]; exact e3, by rw [q2.1]; exact obV, fun _ => by rw [hsz]; exact e5 i3⟩,
    ⟨E', cfV, kV, iV, fV, q1.1, gV, stV, by rw [q2.1]; exact knV, by rw [q2.1]; exact obV, by rw [q2.2.1]; exact asV, q3⟩, ⟨E', cfC, kC, iC, fC, q1.1, gC, stC, by rw [q2.1]; exact knV, by rw [q2.1]; exact obV, by rw [q2.2.1]; exact asC, q4⟩,
    ⟨V', ⟨q5.1, State.isArrayOf_alike al'.symm q5.2.1, q5.2.2.1⟩, q6, by rw [← al'.findClass]; exact q7, q8, fun j hj => by have := q9 j hj; rwa [Nat.zero_add] at this⟩, fun O n d w F n1 n2 => ?_⟩, hl, hc, hs⟩, st⟩
  · intro y hy
    simp only [List.mem_cons, List.not_mem_nil, or_false] at hy
    rcases hy with rfl | rfl <;> rfl
  · by_cases q : y = x
    · subst q
      cases hD.symm.trans hy
      exact ⟨E', q1.1, q2.2.1, q2.1, hsz⟩
    · exact ⟨cy, q10 y cy q hy, rfl, rfl, rfl⟩
  · obtain ⟨D3, cf, k, i, f, g1, g2, g3, g4, g5, g6, g7⟩ := F
    cases hD.symm.trans g1
    simp only [RoadKit.slotOf, g2, gV, gC, Option.map_some, Option.getD_some] at n1 n2
    exact ⟨E', cf, k, i, f, q1.1, g2, g3, by rw [q2.1]; exact g4, by rw [q2.1]; exact g5, by rw [q2.2.1]; exact g6, by rw [q2.2.2 f.slot (by simp [n1, n2])]; exact g7⟩
end StrChars.Road
namespace StrChars.Road
open Jvm Sem ClassFile Op Lib Jvm.Stand Jvm.Free Jvm.Free.XT
/-- WHAT COMES BACK, the byte[] as a list of values -/
def QA (Z : State) (x : Addr) (zn : Int32) (cs : List Int32) (h : Heap) (v : Option Value) (h' : Heap) (L : List Loc) : Prop := v = none ∧ (∀ y ∈ L, y.base = x) ∧ RoadKit.Keep h h' [x] ∧ h'.size = h.size + 1 ∧ RoadKit.Exa Z h' x ST ∧ RoadKit.Fld Z h' x ST "value" "[B" (.ref h.size) ∧ RoadKit.Fld Z h' x ST "coder" "B" (.int 0) ∧
  (∃ kb, Z.vm.findClass "[B" = some kb ∧ RoadKit.Arv Z h' h.size kb .byte zn (cs.map fun c => .int (lo8 c)) (.int 0)) ∧
  ∀ (O n d : String) (w : Value), RoadKit.Fld Z h x O n d w → RoadKit.slotOf Z O n d ≠ RoadKit.slotOf Z ST "value" "[B" → RoadKit.slotOf Z O n d ≠ RoadKit.slotOf Z ST "coder" "B" → RoadKit.Fld Z h' x O n d w
/-- **new String(chars) AT A CALL, THE ARRAYS AS LISTS**: the char[] at b holds cs, not empty, no char above 255 -/
theorem backArv {p : Program} {l : Launch} {e : Env} {R : Room} {s : State} {args : Array Value} {below : List Frame} {len W : Nat} {Z : State} {a0 : Array Value} {h : Heap} (hZ : Z.Warmed39 s.vm) (hw : ∀ d ∈ words, d.before a0 Z = true) {kI : Nat} (wi : (Jvm.Cond.instantiable ST kI).before a0 Z = true)
    {x b : Addr} {k : ClassId} {zn z : Int32} {cs : List Int32} {dv v0 c0 : Value} (E : RoadKit.Exa Z h x ST) (V : RoadKit.Fld Z h x ST "value" "[B" v0) (C : RoadKit.Fld Z h x ST "coder" "B" c0) (K : RoadKit.Arv Z h b k .char zn (cs.map Value.int) dv) (S : RoadKit.Sta Z h ST "COMPACT_STRINGS" "Z" (.int z)) (hz : ¬ z = 0)
    (hlen : zn.toNatClampNeg = cs.length) (h0 : 0 < cs.length) (hbig : cs.length ≤ 536870912) (hall : ∀ c ∈ cs, ¬ 255 < c) (hfr : 4 ≤ R.frames) (hlo : W + 65 ≤ R.locals) :
    Back l R p e below s args New1.yN len W (fun P a => a = #[.ref x, .ref b] ∧ P.U.heap = h ∧ P.cells + 1 ≤ R.cells ∧ P.slots + cs.length ≤ R.slots)
      (fun P _ v B => ∃ L, QA Z x zn cs h v B.U.heap L ∧ B.locs = P.locs ++ L ∧ B.cells = P.cells + 1 ∧ B.slots = P.slots + cs.length) := by
  obtain ⟨A, K1, K2, K3, K4, K5, K6⟩ := K
  have e : A.slots.size = cs.length := K3.trans hlen
  have hat : ∀ (i : Nat) (hi : i < cs.length), A.slots[i]? = some (.int cs[i]) := fun i hi => by rw [K5 i (by omega)]; simp [List.getD_eq_getElem?_getD, hi]
  have hcv : ∀ (i : Nat) (hi : i < cs.length), cv A i = cs[i] := fun i hi => by unfold cv; rw [hat i hi]
  have hty : Typed .char A := fun i v hv => by
    have hi : i < A.slots.size := (Array.getElem?_eq_some_iff.mp hv).1
    have q := K5 i hi
    rw [hv] at q
    rw [Option.some.inj q]
    exact K6 i hi
  refine Back.mono (back hZ hw wi E V C K1 hty S hz (by omega) (by omega) (fun i hi => by rw [hcv i (by omega)]; exact hall _ (List.getElem_mem _)) hfr hlo) (fun P a hp => ⟨hp.1, hp.2.1, hp.2.2.1, by rw [e]; exact hp.2.2.2⟩) (fun P a v B hp hq => ?_)
  obtain ⟨L, ⟨q1, q2, q3, q4, q5, q6, q7, ⟨V', v1, v2, v3, v4, v5⟩, q9⟩, hl, hc, hs⟩ := hq
  refine ⟨L, ⟨q1, q2, q3, q4, q5, q6, q7, ⟨V'.cls, v3, V', v1, rfl, by rw [v4, e, hlen], K4, fun i hi => ?_, fun i hi => ?_⟩, q9⟩, hl, hc, by rw [hs, e]⟩
  · have hi' : i < cs.length := by omega
    rw [v5 i (by omega), hcv i hi']; simp [List.getD_eq_getElem?_getD, hi']
  · have hi' : i < cs.length := by omega
    simp only [List.getD_eq_getElem?_getD, List.getElem?_map, List.getElem?_eq_getElem hi', Option.map_some, Option.getD_some]
    exact fits_lo8 _
end StrChars.Road
namespace StrChars.Road
open Jvm Sem ClassFile Op Lib Jvm.Stand Jvm.Free Jvm.Free.XT
/-- WHAT COMES BACK, in the writer's own shape -/
def QV (Z : State) (x : Addr) (N : Int32) (bs : List Int32) (h : Heap) (n0 : Nat) (v : Option Value) (h' : Heap) (L : List Loc) : Prop := v = none ∧ RoadKit.Fr n0 L ∧ RoadKit.Keep h h' [x] ∧ RoadKit.Exa Z h' x ST ∧ RoadKit.Fld Z h' x ST "coder" "B" (.int 0) ∧
  ∃ (t : Addr) (kb : ClassId), n0 ≤ t ∧ h.size ≤ t ∧ ¬ t = x ∧ RoadKit.Fld Z h' x ST "value" "[B" (.ref t) ∧ RoadKit.Arv Z h' t kb .byte N (bs.map Value.int) (.int 0)
/-- **new String(chars) AT A CALL, FOR THE WRITER**: a char[] of n known ints, each 0 to 255 -/
theorem backV {p : Program} {l : Launch} {e : Env} {R : Room} {s : State} {args : Array Value} {below : List Frame} {len W : Nat} {Z : State} {a0 : Array Value} {h : Heap} (hZ : Z.Warmed39 s.vm) (hw : ∀ d ∈ words, d.before a0 Z = true) {kI : Nat} (wi : (Jvm.Cond.instantiable ST kI).before a0 Z = true)
    {x b : Addr} {kC : ClassId} {cs bs : List Int32} {d v0 c0 : Value} {z N : Int32} {n n0 : Nat} (hx0 : n0 ≤ x) (hh0 : n0 ≤ h.size) (E : RoadKit.Exa Z h x ST) (V : RoadKit.Fld Z h x ST "value" "[B" v0) (C : RoadKit.Fld Z h x ST "coder" "B" c0) (K : RoadKit.Arv Z h b kC .char N (cs.map Value.int) d) (S : RoadKit.Sta Z h ST "COMPACT_STRINGS" "Z" (.int z)) (hz : ¬ z = 0)
    (hn : cs.length = n) (hN : N = Int32.ofNat n) (l0 : 0 < n) (l2 : n ≤ 4000) (hp : ∀ c ∈ cs, ¬ c < 0 ∧ ¬ (255 : Int32) < c) (hb : bs = cs.map (fun c => c.toInt8.toInt32)) (hfr : 4 ≤ R.frames) (hlo : W + 65 ≤ R.locals) :
    Back l R p e below s args (⟨"java/lang/String", "<init>", "([C)V"⟩ : MethodName) len W (fun P a => a = #[.ref x, .ref b] ∧ P.U.heap = h ∧ P.cells + 1 ≤ R.cells ∧ P.slots + n ≤ R.slots)
      (fun P _ v B => ∃ L, QV Z x N bs h n0 v B.U.heap L ∧ B.locs = P.locs ++ L ∧ B.cells = P.cells + 1 ∧ B.slots = P.slots + n) := by
  subst hn hN hb
  refine Back.mono (backArv hZ hw wi E V C K S hz (n32 (by omega)) l0 (by omega) (fun c hc => (hp c hc).2) hfr hlo) (fun P a hp => hp) (fun P a v B hp hq => ?_)
  obtain ⟨L, ⟨q1, q2, q3, q4, q5, q6, q7, ⟨kb, v1, v2⟩, q9⟩, hl, hc, hs⟩ := hq
  exact ⟨L, ⟨q1, fun y hy => by rw [q2 y hy]; exact hx0, q3, q5, q7, h.size, kb, hh0, Nat.le_refl _, Nat.ne_of_gt E.lt, q6, by rw [List.map_map]; exact v2⟩, hl, hc, hs⟩
end StrChars.Road
namespace StrChars
open Jvm Sem ClassFile Op Lib Jvm.Stand Jvm.Free.XT Jvm.Free.ALB Jvm.Free.JM Jvm.Free
open Jvm.Lib.Cold (StaticIs)
def hi8 (x : Int32) : Int32 := lo8 (x >>> ((8 : Int32) &&& 31))
/-- what StringUTF16.getChar makes of two bytes -/
def pairCh (u v : Int32) : Int32 := (((u &&& 255) <<< ((0 : Int32) &&& 31)) ||| ((v &&& 255) <<< ((8 : Int32) &&& 31))).toUInt32.toUInt16.toUInt32.toInt32
theorem lo8_and (x : Int32) : (lo8 x &&& 255).toBitVec.toNat = x.toBitVec.toNat % 256 := by
  have h : (lo8 x).toBitVec = (x.toBitVec.signExtend 8).signExtend 32 := by rw [lo8, Int8.toBitVec_toInt32, Int32.toBitVec_toInt8]
  rw [Int32.toBitVec_and, BitVec.toNat_and, h]
  have e : ((x.toBitVec.signExtend 8).signExtend 32).toNat % 256 = x.toBitVec.toNat % 256 := by
    rw [BitVec.toNat_signExtend]
    have hlt := x.toBitVec.isLt
    simp only [BitVec.toNat_setWidth, BitVec.toNat_signExtend]
    split <;> split <;> omega
  rw [← e]
  exact Nat.and_two_pow_sub_one_eq_mod _ 8
theorem pair_says {c : Int32} (h0 : ¬ c < 0) (h1 : ¬ 65535 < c) : pairCh (lo8 c) (hi8 c) = c := by
  rw [Int32.lt_iff_toInt_lt] at h0 h1
  have e0 : (0 : Int32).toInt = 0 := rfl
  have e1 : (65535 : Int32).toInt = 65535 := rfl
  have hc : c.toInt = c.toBitVec.toNat := by
    have := c.toBitVec.isLt
    have e : c.toInt = c.toBitVec.toInt := rfl
    rw [e] at h0 h1
    rw [e]
    rw [BitVec.toInt_eq_toNat_cond] at h0 h1 ⊢
    split at h0 <;> split <;> omega
  have hn : c.toBitVec.toNat < 65536 := by omega
  have a1 := lo8_and c
  have a2 : (hi8 c &&& 255).toBitVec.toNat = c.toBitVec.toNat / 256 := by
    rw [hi8, lo8_and]
    have e : ((8 : Int32) &&& 31) = 8 := by decide
    rw [e, Int32.toBitVec_shiftRight]
    have e2 : ((8 : Int32).toBitVec.smod 32) = 8#32 := by decide
    rw [e2, BitVec.sshiftRight_eq', BitVec.toNat_sshiftRight_of_msb_false (by rw [BitVec.msb_eq_false_iff_two_mul_lt]; omega)]
    show c.toBitVec.toNat >>> 8 % 256 = _
    rw [Nat.shiftRight_eq_div_pow]
    omega
  unfold pairCh
  apply Int32.toBitVec_inj.mp
  apply BitVec.eq_of_toNat_eq
  have f0 : ((0 : Int32) &&& 31) = 0 := by decide
  have f8 : ((8 : Int32) &&& 31) = 8 := by decide
  rw [f0, f8]
  have g : (((lo8 c &&& 255) <<< (0 : Int32)) ||| ((hi8 c &&& 255) <<< (8 : Int32))).toBitVec.toNat = c.toBitVec.toNat := by
    rw [Int32.toBitVec_or, Int32.toBitVec_shiftLeft, Int32.toBitVec_shiftLeft]
    have s0 : ((0 : Int32).toBitVec.smod 32) = 0#32 := by decide
    have s8 : ((8 : Int32).toBitVec.smod 32) = 8#32 := by decide
    rw [s0, s8, BitVec.toNat_or]
    simp only [BitVec.shiftLeft_eq', BitVec.toNat_shiftLeft, a1, a2]
    show (c.toBitVec.toNat % 256) <<< 0 % 2 ^ 32 ||| (c.toBitVec.toNat / 256) <<< 8 % 2 ^ 32 = _
    rw [Nat.shiftLeft_zero, Nat.mod_eq_of_lt (show c.toBitVec.toNat % 256 < 2 ^ 32 by omega), Nat.mod_eq_of_lt (show (c.toBitVec.toNat / 256) <<< 8 < 2 ^ 32 by rw [Nat.shiftLeft_eq]; omega), Nat.or_comm, ← Nat.shiftLeft_add_eq_or_of_lt (by omega), Nat.shiftLeft_eq]
    omega
  show BitVec.toNat (((((lo8 c &&& 255) <<< (0 : Int32)) ||| ((hi8 c &&& 255) <<< (8 : Int32))).toBitVec.setWidth 16).setWidth 32) = _
  rw [BitVec.toNat_setWidth, BitVec.toNat_setWidth, g]
  omega
end StrChars
namespace StrChars
open Jvm Sem ClassFile Op Lib Jvm.Stand Jvm.Free.XT Jvm.Free.ALB Jvm.Free.JM Jvm.Free
open Jvm.Lib.Cold (StaticIs)
/-- the array's cell V codes the n chars f 0 .. f (n - 1) by the coder cd, as the JDK does: coder 1 just where some char is above 255 -/
def Cod (cd : Int32) (n : Nat) (f : Nat → Int32) (V : Cell) : Prop := (cd = 0 ∧ V.slots.size = n ∧ ∀ j, j < n → V.slots[j]? = some (.int (lo8 (f j))) ∧ ¬ 255 < f j) ∨ (cd = 1 ∧ V.slots.size = 2 * n ∧ (∀ j, j < n → V.slots[2 * j]? = some (.int (lo8 (f j))) ∧ V.slots[2 * j + 1]? = some (.int (hi8 (f j)))) ∧ ∃ j, j < n ∧ 255 < f j)
/-- **x is a String of the n chars f 0 .. f (n - 1)**, Latin-1 or UTF-16; its array at t has the cell V -/
def Txt (x t : Addr) (V : Cell) (cd : Int32) (n : Nat) (f : Nat → Int32) (U : State) : Prop := Exact "java/lang/String" x U ∧ Has x "java/lang/String" "value" "[B" (.ref t) U ∧ Has x "java/lang/String" "coder" "B" (.int cd) U ∧ XT.Arr .byte t V U ∧ Cod cd n f V ∧ ∀ j, j < n → ¬ f j < 0 ∧ ¬ 65535 < f j
theorem Txt.mv {x t : Addr} {V : Cell} {cd : Int32} {n : Nat} {f : Nat → Int32} {U U' : State} (h : Txt x t V cd n f U) (hal : U.vm.Alike U'.vm) (hh : U'.heap = U.heap) : Txt x t V cd n f U' := ⟨h.1.mv hal hh, h.2.1.mv hal hh, h.2.2.1.mv hal hh, h.2.2.2.1.mv hal hh, h.2.2.2.2⟩
end StrChars
namespace StrChars.Road
open Jvm Sem ClassFile Op Lib Jvm.Stand Jvm.Free Jvm.Free.XT
open Jvm.Lib.Cold (StaticIs)
theorem consq {a : Array Value} {s : State} {c : Jvm.Cond} {L : List Jvm.Cond} (h0 : c.before a s = true) (h : ∀ w ∈ L, w.before a s = true) : ∀ w ∈ c :: L, w.before a s = true := fun w hw => (List.mem_cons.mp hw).elim (fun e => e ▸ h0) (h w)
/-- the bytes of the chars cs, low before high -/
def wideBytes : List Int32 → List Value
  | [] => []
  | c :: cs => .int (lo8 c) :: .int (hi8 c) :: wideBytes cs
theorem wide_lo (d : Value) : ∀ (cs : List Int32) (j : Nat), j < cs.length → (wideBytes cs).getD (2 * j) d = .int (lo8 (cs.getD j 0))
  | [], j, h => absurd h (Nat.not_lt_zero j)
  | c :: cs, 0, _ => rfl
  | c :: cs, j + 1, h => by
    have q := wide_lo d cs j (by simpa using h)
    rw [show 2 * (j + 1) = 2 * j + 1 + 1 from by omega]
    simpa [wideBytes] using q
theorem wide_hi (d : Value) : ∀ (cs : List Int32) (j : Nat), j < cs.length → (wideBytes cs).getD (2 * j + 1) d = .int (hi8 (cs.getD j 0))
  | [], j, h => absurd h (Nat.not_lt_zero j)
  | c :: cs, 0, _ => rfl
  | c :: cs, j + 1, h => by
    have q := wide_hi d cs j (by simpa using h)
    rw [show 2 * (j + 1) + 1 = 2 * j + 1 + 1 + 1 from by omega]
    simpa [wideBytes] using q
theorem low_at (d : Value) (cs : List Int32) (j : Nat) (h : j < cs.length) : (cs.map fun c => Value.int (lo8 c)).getD j d = .int (lo8 (cs.getD j 0)) := by
  simp [List.getD_eq_getElem?_getD, h]
/-- an array of N2 bytes vs codes the chars cs by the coder cd -/
def CodA (cs : List Int32) (cd N2 : Int32) (vs : List Value) : Prop := (cd = 0 ∧ N2 = Int32.ofNat cs.length ∧ vs = (cs.map fun c => Value.int (lo8 c)) ∧ ∀ c ∈ cs, ¬ 255 < c) ∨ (cd = 1 ∧ N2 = Int32.ofNat (2 * cs.length) ∧ vs = wideBytes cs ∧ ∃ c ∈ cs, 255 < c)
theorem CodA.cod {cs : List Int32} {cd N2 : Int32} {vs : List Value} {V : Cell} (h : CodA cs cd N2 vs) (hn : 2 * cs.length < 2 ^ 31) (hs : V.slots.size = N2.toNatClampNeg) (hv : RoadKit.Has V vs (.int 0)) : Cod cd cs.length (fun j => cs.getD j 0) V := by
  rcases h with ⟨rfl, rfl, rfl, h⟩ | ⟨rfl, rfl, rfl, c, hc, hw⟩
  · rw [n32 (by omega)] at hs
    exact Or.inl ⟨rfl, hs, fun j hj => ⟨by rw [hv j (by omega), low_at _ _ _ hj], by
      have e : cs.getD j 0 = cs[j] := by simp [List.getD_eq_getElem?_getD, hj]
      show ¬ 255 < cs.getD j 0
      rw [e]; exact h _ (List.getElem_mem _)⟩⟩
  · rw [n32 (by omega)] at hs
    obtain ⟨j, hj, rfl⟩ := List.getElem_of_mem hc
    exact Or.inr ⟨rfl, hs, fun j hj => ⟨by rw [hv _ (by omega), wide_lo _ _ _ hj], by rw [hv _ (by omega), wide_hi _ _ _ hj]⟩, j, hj, by
      have e : cs.getD j 0 = cs[j] := by simp [List.getD_eq_getElem?_getD, hj]
      show 255 < cs.getD j 0
      rw [e]; exact hw⟩
/-- an object of exactly java/lang/String, its two fields found: as the laws ask it -/
theorem strObj {Z U : State} {a0 : Array Value} {kI : Nat} (wi : (Jvm.Cond.instantiable ST kI).before a0 Z = true) (al : Z.vm.Alike U.vm) {x : Addr} {v0 c0 : Value} (E : RoadKit.Exa Z U.heap x ST) (V : RoadKit.Fld Z U.heap x ST "value" "[B" v0) (C : RoadKit.Fld Z U.heap x ST "coder" "B" c0) :
    ∃ (D : Cell) (fV fC : Field), Blank ST x D U ∧ Found ST "value" "[B" fV U ∧ Found ST "coder" "B" fC U ∧ D.slots[fV.slot]? = some v0 ∧ D.slots[fC.slot]? = some c0 ∧ RoadKit.slotOf Z ST "value" "[B" = fV.slot ∧ RoadKit.slotOf Z ST "coder" "B" = fC.slot := by
  obtain ⟨D, cfV, kV, iV, fV, hD, gV, stV, knV, obV, asV, slV⟩ := V
  obtain ⟨D', cfC, kC, iC, fC, hD', gC, stC, -, -, asC, slC⟩ := C
  cases hD.symm.trans hD'
  obtain ⟨D2, kD, e1, e2, e3, e4, e5⟩ := E
  cases hD.symm.trans e1
  obtain ⟨c2, k2, i1, i2, i3, -⟩ := Cond.instantiable_spec wi
  cases e2.symm.trans i1
  cases e3.symm.trans i2
  obtain ⟨kU, u1, u2⟩ := al.2.2 _ _ e3
  exact ⟨D, fV, fC, ⟨hD, ⟨knV, fun q hq => by rw [hq] at obV; cases obV⟩, by rw [al.findClass]; exact e2, kU, u1, by rw [u2]; exact i3, by rw [u2]; exact e5 i3⟩, ⟨SBG.found_only al ⟨cfV, kV, iV, gV⟩, stV⟩, ⟨SBG.found_only al ⟨cfC, kC, iC, gC⟩, stC⟩, slV, slC, by simp [RoadKit.slotOf, gV], by simp [RoadKit.slotOf, gC]⟩
theorem sta_is {Z U : State} (al : Z.vm.Alike U.vm) {C n d : String} {v : Value} (S : RoadKit.Sta Z U.heap C n d v) : StaticIs U C n d v := by
  obtain ⟨cfS, iS, kS, fS, st, cS, t1, t2, t3, t4, t5, t6, t7⟩ := S
  exact StaticIs.there (s := { Z with heap := U.heap }) ⟨cfS, iS, kS, fS, st, cS, t1, t2, t3, t4, t5, (fun q => by rw [q] at t6; cases t6), t7⟩ al rfl
end StrChars.Road
namespace StrChars
open Jvm Sem ClassFile Op Lib Jvm.Stand Jvm.Free.XT Jvm.Free.ALB Jvm.Free.JM Jvm.Free
open Jvm.Lib.Cold (StaticIs)
/-- what place i of a byte[]'s cell holds -/
def yv (A : Cell) (i : Nat) : Int32 := match A.slots[i]? with | some (.int x) => x | _ => 0
theorem yv_get {a : Addr} {A : Cell} {U : State} (h : XT.Arr .byte a A U) (ht : Typed .byte A) {i : Nat} (hi : i < A.slots.size) : A.slots[i]? = some (.int (yv A i)) := by
  have e := Array.getElem?_eq_getElem hi
  have f := ht i _ e
  unfold yv; rw [e]
  generalize A.slots[i] = v at f
  cases v <;> simp [fits] at f ⊢
/-- the two arrays are equal, place for place -/
def EqC (A B : Cell) : Prop := A.slots.size = B.slots.size ∧ ∀ i, i < A.slots.size → yv A i = yv B i
/-- a boolean that says whether p -/
def Says01 (q : Prop) (r : Option Value) (s u : State) : Prop := ∃ v : Int32, r = some (.int v) ∧ u.heap = s.heap ∧ ((v = 1 ∧ q) ∨ (v = 0 ∧ ¬ q))
theorem Says01.mv {q : Prop} : ∀ r (U U' V V' : State), U'.heap = U.heap → V.vm.Alike V'.vm → V'.heap = V.heap → Says01 q r U V → Says01 q r U' V' :=
  fun r U U' V V' h1 _ h2 ⟨v, a, b, c⟩ => ⟨v, a, by rw [h1, h2]; exact b, c⟩
namespace LEq
def yN : MethodName := ⟨"java/lang/StringLatin1", "equals", "([B[B)Z"⟩
abbrev yB : ByteArray := jdk_43_method_13_code
theorem d0 : decode yB 0 = .ok (.aload_n 0, 1) := by decide +kernel
theorem d1 : decode yB 1 = .ok (.arraylength, 1) := by decide +kernel
theorem d2 : decode yB 2 = .ok (.aload_n 1, 1) := by decide +kernel
theorem d3 : decode yB 3 = .ok (.arraylength, 1) := by decide +kernel
theorem d4 : decode yB 4 = .ok (.if_icmp (.ne) 30, 3) := by decide +kernel
theorem d7 : decode yB 7 = .ok (.iconst 0, 1) := by decide +kernel
theorem d8 : decode yB 8 = .ok (.istore_n 2, 1) := by decide +kernel
theorem d9 : decode yB 9 = .ok (.iload_n 2, 1) := by decide +kernel
theorem d10 : decode yB 10 = .ok (.aload_n 0, 1) := by decide +kernel
theorem d11 : decode yB 11 = .ok (.arraylength, 1) := by decide +kernel
theorem d12 : decode yB 12 = .ok (.if_icmp (.ge) 20, 3) := by decide +kernel
theorem d15 : decode yB 15 = .ok (.aload_n 0, 1) := by decide +kernel
theorem d16 : decode yB 16 = .ok (.iload_n 2, 1) := by decide +kernel
theorem d17 : decode yB 17 = .ok (.baload, 1) := by decide +kernel
theorem d18 : decode yB 18 = .ok (.aload_n 1, 1) := by decide +kernel
theorem d19 : decode yB 19 = .ok (.iload_n 2, 1) := by decide +kernel
theorem d20 : decode yB 20 = .ok (.baload, 1) := by decide +kernel
theorem d21 : decode yB 21 = .ok (.if_icmp (.eq) 5, 3) := by decide +kernel
theorem d24 : decode yB 24 = .ok (.iconst 0, 1) := by decide +kernel
theorem d25 : decode yB 25 = .ok (.ireturn, 1) := by decide +kernel
theorem d26 : decode yB 26 = .ok (.iinc 2 1, 3) := by decide +kernel
theorem d29 : decode yB 29 = .ok (.goto (-20), 3) := by decide +kernel
theorem d32 : decode yB 32 = .ok (.iconst 1, 1) := by decide +kernel
theorem d33 : decode yB 33 = .ok (.ireturn, 1) := by decide +kernel
theorem d34 : decode yB 34 = .ok (.iconst 0, 1) := by decide +kernel
theorem d35 : decode yB 35 = .ok (.ireturn, 1) := by decide +kernel
def site : List Cond := []
def tab : Cond := tabOf yN yB 3 (some .boolean) site
def P (a : Addr) (A : Cell) (b : Addr) (B : Cell) (args : Array Value) (s : State) : Prop := args = #[.ref a, .ref b] ∧ XT.Arr .byte a A s ∧ Typed .byte A ∧ XT.Arr .byte b B s ∧ Typed .byte B
/-- whether two byte[] are equal, place for place -/
theorem law (l : Launch) (a : Addr) (A : Cell) (b : Addr) (B : Cell) : Law l yN 2 2 0 0 yB 3 (some .boolean) site (P a A b B) (Says01 (EqC A B)) [] 0 0 := by
  refine Law.of_walk (plainFor_of_name (by decide +kernel)) (by decide +kernel) (by decide +kernel) (by decide) (fun _ _ h => by rw [h.1]; rfl) (fun _ U U' hal hh h => ⟨h.1, h.2.1.mv hal hh, h.2.2.1, h.2.2.2.1.mv hal hh, h.2.2.2.2⟩) (fun r U U' V V' h1 hal h2 h => Says01.mv r U U' V V' h1 hal h2 h) ?_
  intro p e s m args below meth c s₁ X0 hexec hbytes hml hret hlk hnm hown hh0 W hP
  obtain ⟨rfl, hA, tA, hB, tB⟩ := hP
  have a31 := hA.2.2.2
  have b31 := hB.2.2.2
  have hA0 := hA.mv X0.warmed.alike hh0
  have hB0 := hB.mv X0.warmed.alike hh0
  have c1 : Steps p.tables e below (s₁.setTop (entryFrame m #[.ref a, .ref b] 3)) (s₁.setTop (mkF m 0 #[.val (.ref a), .val (.ref b), .unset] [])) := entry rfl
  have c2 : Steps p.tables e below (s₁.setTop (entryFrame m #[.ref a, .ref b] 3)) (s₁.setTop (mkF m 4 #[.val (.ref a), .val (.ref b), .unset] [.int (Int32.ofNat B.slots.size), .int (Int32.ofNat A.slots.size)])) := c1.trans (by
    refine XS.aloadN X0.here hexec rfl (hb hbytes d0) rfl rfl ?_
    refine X0.alen hexec hA0 rfl rfl (hb hbytes d1) ?_
    refine XS.aloadN X0.here hexec rfl (hb hbytes d2) rfl rfl ?_
    refine X0.alen hexec hB0 rfl rfl (hb hbytes d3) ?_
    exact Steps.refl _)
  by_cases hs : A.slots.size = B.slots.size
  · have c3 : Steps p.tables e below (s₁.setTop (entryFrame m #[.ref a, .ref b] 3)) (s₁.setTop (mkF m 9 #[.val (.ref a), .val (.ref b), .val (.int 0)] [])) := c2.trans (by
      refine XS.icmpNo X0.here hexec rfl (hb hbytes d4) rfl (ii_ne_f (by rw [hs])) ?_
      refine iconstV X0.here hexec rfl 0 (hb hbytes d7) (by decide) ?_
      refine XS.istoreN X0.here hexec rfl (hb hbytes d8) rfl rfl ?_
      exact Steps.refl _)
    have loop : ∀ (r i : Nat), i + r = A.slots.size → (∀ j, j < i → yv A j = yv B j) → Steps p.tables e below (s₁.setTop (entryFrame m #[.ref a, .ref b] 3)) (s₁.setTop (mkF m 9 #[.val (.ref a), .val (.ref b), .val (.int (Int32.ofNat i))] [])) → ∃ (pc : Nat) (Ls : Array Slot) (v : Int32), (pc = 25 ∨ pc = 33) ∧ ((v = 1 ∧ EqC A B) ∨ (v = 0 ∧ ¬ EqC A B)) ∧ Steps p.tables e below (s₁.setTop (entryFrame m #[.ref a, .ref b] 3)) (s₁.setTop (mkF m pc Ls [.int v])) := by
      intro r
      induction r with
      | zero =>
        intro i hi he cl
        exact ⟨33, _, 1, Or.inr rfl, Or.inl ⟨rfl, hs, fun j hj => he j (by omega)⟩, cl.trans (by
          refine XS.iloadN X0.here hexec rfl (hb hbytes d9) rfl ?_
          refine XS.aloadN X0.here hexec rfl (hb hbytes d10) rfl rfl ?_
          refine X0.alen hexec hA0 rfl rfl (hb hbytes d11) ?_
          refine XS.icmpYes X0.here hexec rfl (pc0 := 12) rfl (hb hbytes d12) rfl (ii_ge_t (nlt32 (by omega) (by omega))) (by decide) rfl ?_
          refine iconstV X0.here hexec rfl 1 (hb hbytes d32) (by decide) ?_
          exact Steps.refl _)⟩
      | succ r ih =>
        intro i hi he cl
        have c4 : Steps p.tables e below (s₁.setTop (entryFrame m #[.ref a, .ref b] 3)) (s₁.setTop (mkF m 21 #[.val (.ref a), .val (.ref b), .val (.int (Int32.ofNat i))] [.int (yv B i), .int (yv A i)])) := cl.trans (by
          refine XS.iloadN X0.here hexec rfl (hb hbytes d9) rfl ?_
          refine XS.aloadN X0.here hexec rfl (hb hbytes d10) rfl rfl ?_
          refine X0.alen hexec hA0 rfl rfl (hb hbytes d11) ?_
          refine XS.icmpNo X0.here hexec rfl (hb hbytes d12) rfl (ii_ge_f (lt32 (by omega) (by omega))) ?_
          refine XS.aloadN X0.here hexec rfl (hb hbytes d15) rfl rfl ?_
          refine XS.iloadN X0.here hexec rfl (hb hbytes d16) rfl ?_
          refine X0.aget hexec hA0 rfl (yv_get hA tA (i := i) (by omega)) rfl rfl (hb hbytes d17) ?_
          refine XS.aloadN X0.here hexec rfl (hb hbytes d18) rfl rfl ?_
          refine XS.iloadN X0.here hexec rfl (hb hbytes d19) rfl ?_
          refine X0.aget hexec hB0 rfl (yv_get hB tB (i := i) (by omega)) rfl rfl (hb hbytes d20) ?_
          exact Steps.refl _)
        by_cases hv : yv A i = yv B i
        · have c5 : Steps p.tables e below (s₁.setTop (entryFrame m #[.ref a, .ref b] 3)) (s₁.setTop (mkF m 9 #[.val (.ref a), .val (.ref b), .val (.int (Int32.ofNat i + 1))] [])) := c4.trans (by
            refine XS.icmpYes X0.here hexec rfl (pc0 := 21) rfl (hb hbytes d21) rfl (ii_eq_t hv) (by decide) rfl ?_
            refine iincV X0.here hexec rfl 1 (hb hbytes d26) (by decide) rfl rfl ?_
            refine XS.goto X0.here hexec rfl (pc0 := 29) rfl (hb hbytes d29) (by decide) rfl ?_
            exact Steps.refl _)
          rw [succ32] at c5
          exact ih (i + 1) (by omega) (fun j hj => by
            by_cases e : j = i
            · rw [e]; exact hv
            · exact he j (by omega)) c5
        · exact ⟨25, _, 0, Or.inl rfl, Or.inr ⟨rfl, fun q => hv (q.2 i (by omega))⟩, c4.trans (by
            refine XS.icmpNo X0.here hexec rfl (hb hbytes d21) rfl (ii_eq_f hv) ?_
            refine iconstV X0.here hexec rfl 0 (hb hbytes d24) (by decide) ?_
            exact Steps.refl _)⟩
    obtain ⟨pc, Ls, v, hpc, hv, cz⟩ := loop A.slots.size 0 (by omega) (fun j hj => absurd hj (Nat.not_lt_zero j)) c3
    have nv : narrow .boolean (.int v) = .int v := by rcases hv with ⟨rfl, -⟩ | ⟨rfl, -⟩ <;> rfl
    rcases hpc with rfl | rfl
    · exact ⟨s₁, some (.int v), _, _, _, X0, rfl, rfl, rfl, (fun h => by cases h), ⟨v, rfl, hh0, hv⟩, fun fs hl => cz.trans (X0.ireturnOut hexec hret nv (Or.inr (Or.inl rfl)) (hb hbytes d25) hl)⟩
    · exact ⟨s₁, some (.int v), _, _, _, X0, rfl, rfl, rfl, (fun h => by cases h), ⟨v, rfl, hh0, hv⟩, fun fs hl => cz.trans (X0.ireturnOut hexec hret nv (Or.inr (Or.inl rfl)) (hb hbytes d33) hl)⟩
  · have c3 : Steps p.tables e below (s₁.setTop (entryFrame m #[.ref a, .ref b] 3)) (s₁.setTop (mkF m 35 #[.val (.ref a), .val (.ref b), .unset] [.int 0])) := c2.trans (by
      refine XS.icmpYes X0.here hexec rfl (pc0 := 4) rfl (hb hbytes d4) rfl (ii_ne_t (ne32 a31 b31 hs)) (by decide) rfl ?_
      refine iconstV X0.here hexec rfl 0 (hb hbytes d34) (by decide) ?_
      exact Steps.refl _)
    exact ⟨s₁, some (.int 0), _, _, _, X0, rfl, rfl, rfl, (fun h => by cases h), ⟨0, rfl, hh0, Or.inr ⟨rfl, fun q => hs q.1⟩⟩, fun fs hl => c3.trans (X0.ireturnOut hexec hret rfl (Or.inr (Or.inl rfl)) (hb hbytes d35) hl)⟩
end LEq
theorem Cod.ty {cd : Int32} {n : Nat} {f : Nat → Int32} {V : Cell} (h : Cod cd n f V) : Typed .byte V := fun i v hv => by
  have hi : i < V.slots.size := (Array.getElem?_eq_some_iff.mp hv).1
  rcases h with ⟨-, k1, k2⟩ | ⟨-, k1, k2, -⟩
  · rw [(k2 i (by omega)).1] at hv; cases hv; exact fits_lo8 _
  · rcases Nat.mod_two_eq_zero_or_one i with e | e
    · obtain ⟨j, rfl⟩ : ∃ j, i = 2 * j := ⟨i / 2, by omega⟩
      rw [(k2 j (by omega)).1] at hv; cases hv; exact fits_lo8 _
    · obtain ⟨j, rfl⟩ : ∃ j, i = 2 * j + 1 := ⟨i / 2, by omega⟩
      rw [(k2 j (by omega)).2] at hv; cases hv; exact fits_lo8 _
/-- the same text -/
def SameT (n : Nat) (f : Nat → Int32) (k : Nat) (g : Nat → Int32) : Prop := n = k ∧ ∀ j, j < n → f j = g j
theorem lo8_inj {x y : Int32} (h0 : ¬ x < 0) (h1 : ¬ 255 < x) (k0 : ¬ y < 0) (k1 : ¬ 255 < y) (h : lo8 x = lo8 y) : x = y := by
  rw [← lo8_mask h0 h1, ← lo8_mask k0 k1, h]
/-- arrays coded by one coder are equal just where the texts are -/
theorem Cod.eqv {cd : Int32} {n k : Nat} {f g : Nat → Int32} {V V' : Cell} (h : Cod cd n f V) (h' : Cod cd k g V') (hf : ∀ j, j < n → ¬ f j < 0 ∧ ¬ 65535 < f j) (hg : ∀ j, j < k → ¬ g j < 0 ∧ ¬ 65535 < g j) : EqC V V' ↔ SameT n f k g := by
  have yvv : ∀ {W : Cell} {i : Nat} {x : Int32}, W.slots[i]? = some (.int x) → yv W i = x := fun q => by unfold yv; rw [q]
  rcases h with ⟨rfl, k1, k2⟩ | ⟨rfl, k1, k2, -⟩
  · rcases h' with ⟨-, m1, m2⟩ | ⟨e, -⟩
    · constructor
      · rintro ⟨e1, e2⟩
        refine ⟨by omega, fun j hj => ?_⟩
        have q := e2 j (by omega)
        rw [yvv (k2 j hj).1, yvv (m2 j (by omega)).1] at q
        exact lo8_inj (hf j hj).1 (k2 j hj).2 (hg j (by omega)).1 (m2 j (by omega)).2 q
      · rintro ⟨rfl, e2⟩
        refine ⟨by omega, fun j hj => ?_⟩
        rw [yvv (k2 j (by omega)).1, yvv (m2 j (by omega)).1, e2 j (by omega)]
    · exact absurd e (by decide)
  · rcases h' with ⟨e, -⟩ | ⟨-, m1, m2, -⟩
    · exact absurd e (by decide)
    · constructor
      · rintro ⟨e1, e2⟩
        refine ⟨by omega, fun j hj => ?_⟩
        have q1 := e2 (2 * j) (by omega)
        have q2 := e2 (2 * j + 1) (by omega)
        rw [yvv (k2 j hj).1, yvv (m2 j (by omega)).1] at q1
        rw [yvv (k2 j hj).2, yvv (m2 j (by omega)).2] at q2
        rw [← pair_says (hf j hj).1 (hf j hj).2, ← pair_says (hg j (by omega)).1 (hg j (by omega)).2, q1, q2]
      · rintro ⟨rfl, e2⟩
        refine ⟨by omega, fun i hi => ?_⟩
        rcases Nat.mod_two_eq_zero_or_one i with e | e
        · obtain ⟨j, rfl⟩ : ∃ j, i = 2 * j := ⟨i / 2, by omega⟩
          rw [yvv (k2 j (by omega)).1, yvv (m2 j (by omega)).1, e2 j (by omega)]
        · obtain ⟨j, rfl⟩ : ∃ j, i = 2 * j + 1 := ⟨i / 2, by omega⟩
          rw [yvv (k2 j (by omega)).2, yvv (m2 j (by omega)).2, e2 j (by omega)]
/-- two codings differ: so do the texts -/
theorem Cod.dif {cd cd' : Int32} {n k : Nat} {f g : Nat → Int32} {V V' : Cell} (h : Cod cd n f V) (h' : Cod cd' k g V') (hne : ¬ cd = cd') : ¬ SameT n f k g := by
  rintro ⟨rfl, e⟩
  rcases h with ⟨rfl, -, k2⟩ | ⟨rfl, -, -, j, hj, hw⟩
  · rcases h' with ⟨rfl, -⟩ | ⟨-, -, -, j, hj, hw⟩
    · exact hne rfl
    · exact (k2 j hj).2 (by rw [e j hj]; exact hw)
  · rcases h' with ⟨-, -, m2⟩ | ⟨rfl, -⟩
    · exact (m2 j hj).2 (by rw [← e j hj]; exact hw)
    · exact hne rfl
/-- an object of exactly C is an instance of C -/
theorem cinst {p : Program} {l : Launch} {e : Env} {R : Room} {s : State} {m : MethodId} {args : Array Value} {below : List Frame} {meth : Method} {c : Code} {T : State} {locs : List Loc} {cells slots : Nat} (X : Stand p l e R s m args below meth c T locs cells slots) (hexec : p.tables.exec = Jvm.exec) {own C : String} {index : Nat} (hown : s.vm.findClass own = some m.cls) (hlink : (Cond.classLink own index C).before args s = true) {a : Addr} (hE : Exact C a T)
    {g : JFrame} (hg : g.method = m) {rest : List Value} (hstack : g.stack = .ref a :: rest) (hdg : decode c.code g.pc = .ok (.instanceof index, 3)) :
    ∃ T', Stand p l e R s m args below meth c T' locs cells slots ∧ T'.heap = T.heap ∧ ∀ target, Steps p.tables e below (T'.setTop { g with pc := g.pc + 3, stack := .int 1 :: rest }) target → Steps p.tables e below (T.setTop g) target := by
  obtain ⟨cB, h1, D, h2, h3, h4⟩ := hE
  have h1' : s.vm.findClass C = some cB := by rw [← X.warmed.alike.findClass]; exact h1
  obtain ⟨vm', X', st⟩ := X.instanceofYes hexec hown hlink h2 h4 h1' (by rw [h3]; exact Jvm.Free.SB.assignable_self _ _) hg hstack hdg
  exact ⟨_, X', rfl, st⟩
theorem cself {p : Program} {l : Launch} {e : Env} {R : Room} {s : State} {m : MethodId} {args : Array Value} {below : List Frame} {meth : Method} {c : Code} {T : State} {locs : List Loc} {cells slots : Nat} (X : Stand p l e R s m args below meth c T locs cells slots) (hexec : p.tables.exec = Jvm.exec) {own C : String} {index : Nat} (hown : s.vm.findClass own = some m.cls) (hlink : (Cond.classLink own index C).before args s = true) {a : Addr} (hE : Exact C a T)
    {g : JFrame} (hg : g.method = m) {rest : List Value} (hstack : g.stack = .ref a :: rest) (hdg : decode c.code g.pc = .ok (.checkcast index, 3)) :
    ∃ T', Stand p l e R s m args below meth c T' locs cells slots ∧ T'.heap = T.heap ∧ ∀ target, Steps p.tables e below (T'.setTop { g with pc := g.pc + 3, stack := .ref a :: rest }) target → Steps p.tables e below (T.setTop g) target := by
  obtain ⟨cB, h1, D, h2, h3, h4⟩ := hE
  have h1' : s.vm.findClass C = some cB := by rw [← X.warmed.alike.findClass]; exact h1
  obtain ⟨vm', X', st⟩ := X.checkcastYes hexec hown hlink h2 h4 h1' (by rw [h3]; exact Jvm.Free.SB.assignable_self _ _) hg hstack hdg
  exact ⟨_, X', rfl, fun t h => st t (by rw [← hstack] at h; exact h)⟩
namespace SEq
def yN : MethodName := ⟨"java/lang/String", "equals", "(Ljava/lang/Object;)Z"⟩
abbrev yB : ByteArray := jdk_42_method_66_code
theorem d0 : decode yB 0 = .ok (.aload_n 0, 1) := by decide +kernel
theorem d1 : decode yB 1 = .ok (.aload_n 1, 1) := by decide +kernel
theorem d2 : decode yB 2 = .ok (.if_acmp (.ne) 5, 3) := by decide +kernel
theorem d5 : decode yB 5 = .ok (.iconst 1, 1) := by decide +kernel
theorem d6 : decode yB 6 = .ok (.ireturn, 1) := by decide +kernel
theorem d7 : decode yB 7 = .ok (.aload_n 1, 1) := by decide +kernel
theorem d8 : decode yB 8 = .ok (.instanceof 10, 3) := by decide +kernel
theorem d11 : decode yB 11 = .ok (.ifCond (.eq) 43, 3) := by decide +kernel
theorem d14 : decode yB 14 = .ok (.aload_n 1, 1) := by decide +kernel
theorem d15 : decode yB 15 = .ok (.checkcast 10, 3) := by decide +kernel
theorem d18 : decode yB 18 = .ok (.astore_n 2, 1) := by decide +kernel
theorem d19 : decode yB 19 = .ok (.getstatic 38, 3) := by decide +kernel
theorem d22 : decode yB 22 = .ok (.ifCond (.eq) 14, 3) := by decide +kernel
theorem d25 : decode yB 25 = .ok (.aload_n 0, 1) := by decide +kernel
theorem d26 : decode yB 26 = .ok (.getfield 15, 3) := by decide +kernel
theorem d29 : decode yB 29 = .ok (.aload_n 2, 1) := by decide +kernel
theorem d30 : decode yB 30 = .ok (.getfield 15, 3) := by decide +kernel
theorem d33 : decode yB 33 = .ok (.if_icmp (.ne) 21, 3) := by decide +kernel
theorem d36 : decode yB 36 = .ok (.aload_n 0, 1) := by decide +kernel
theorem d37 : decode yB 37 = .ok (.getfield 9, 3) := by decide +kernel
theorem d40 : decode yB 40 = .ok (.aload_n 2, 1) := by decide +kernel
theorem d41 : decode yB 41 = .ok (.getfield 9, 3) := by decide +kernel
theorem d44 : decode yB 44 = .ok (.invokestatic 541, 3) := by decide +kernel
theorem d47 : decode yB 47 = .ok (.ifCond (.eq) 7, 3) := by decide +kernel
theorem d50 : decode yB 50 = .ok (.iconst 1, 1) := by decide +kernel
theorem d51 : decode yB 51 = .ok (.goto 4, 3) := by decide +kernel
theorem d54 : decode yB 54 = .ok (.iconst 0, 1) := by decide +kernel
theorem d55 : decode yB 55 = .ok (.ireturn, 1) := by decide +kernel
def site : List Cond := [.classLink "java/lang/String" 10 "java/lang/String", .fieldLink "java/lang/String" 38 "java/lang/String" "COMPACT_STRINGS" "Z", .fieldLink "java/lang/String" 15 "java/lang/String" "coder" "B", .fieldLink "java/lang/String" 9 "java/lang/String" "value" "[B", LEq.tab] ++ staticW "java/lang/String" 541 LEq.yN
def tab : Cond := tabOf yN yB 3 (some .boolean) site
def P (x t : Addr) (V : Cell) (cd : Int32) (n : Nat) (f : Nat → Int32) (y t' : Addr) (V' : Cell) (cd' : Int32) (k : Nat) (g : Nat → Int32) (z : Int32) (args : Array Value) (s : State) : Prop := args = #[.ref x, .ref y] ∧ Txt x t V cd n f s ∧ Txt y t' V' cd' k g s ∧ StaticIs s "java/lang/String" "COMPACT_STRINGS" "Z" (.int z) ∧ ¬ z = 0
/-- equals(Object) of two Strings: whether the texts are the same -/
theorem law (l : Launch) (x t : Addr) (V : Cell) (cd : Int32) (n : Nat) (f : Nat → Int32) (y t' : Addr) (V' : Cell) (cd' : Int32) (k : Nat) (g : Nat → Int32) (z : Int32) : Law l yN 2 1 1 14 yB 3 (some .boolean) site (P x t V cd n f y t' V' cd' k g z) (Says01 (SameT n f k g)) [] 0 0 := by
  refine Law.of_walk (plainFor_of_name (by decide +kernel)) (by decide +kernel) (by decide +kernel) (by decide) (fun _ _ h => by rw [h.1]; rfl) (fun _ U U' hal hh h => ⟨h.1, h.2.1.mv hal hh, h.2.2.1.mv hal hh, h.2.2.2.1.there hal hh, h.2.2.2.2⟩) (fun r U U' V V' h1 hal h2 h => Says01.mv r U U' V V' h1 hal h2 h) ?_
  intro p e s m args below meth c s₁ X0 hexec hbytes hml hret hlk hnm hown hh0 W hP
  obtain ⟨rfl, hx, hy, s1, hz⟩ := hP
  have c1 : Steps p.tables e below (s₁.setTop (entryFrame m #[.ref x, .ref y] 3)) (s₁.setTop (mkF m 2 #[.val (.ref x), .val (.ref y), .unset] [.ref y, .ref x])) := Steps.trans (entry rfl) (by
    show Steps p.tables e below (s₁.setTop (mkF m 0 #[.val (.ref x), .val (.ref y), .unset] [])) _
    refine XS.aloadN X0.here hexec rfl (hb hbytes d0) rfl rfl ?_
    refine XS.aloadN X0.here hexec rfl (hb hbytes d1) rfl rfl ?_
    exact Steps.refl _)
  by_cases hxy : x = y
  · have c2 : Steps p.tables e below (s₁.setTop (entryFrame m #[.ref x, .ref y] 3)) (s₁.setTop (mkF m 6 #[.val (.ref x), .val (.ref y), .unset] [.int 1])) := c1.trans (by
      refine acmpNo X0.here hexec rfl (hb hbytes d2) rfl rfl rfl (by simp [acmp, hxy]) ?_
      refine iconstV X0.here hexec rfl 1 (hb hbytes d5) (by decide) ?_
      exact Steps.refl _)
    subst hxy
    have ec : cd = cd' := by
      obtain ⟨D, fd, a1, a2, a3⟩ := hx.2.2.1
      obtain ⟨D', fd', b1, b2, b3⟩ := hy.2.2.1
      cases a1.symm.trans b1
      obtain ⟨q1, q2, q3, q4⟩ := a2.1
      obtain ⟨r1, r2, r3, r4⟩ := b2.1
      cases q4.symm.trans r4
      cases a3.symm.trans b3; rfl
    have et : t = t' := by
      obtain ⟨D, fd, a1, a2, a3⟩ := hx.2.1
      obtain ⟨D', fd', b1, b2, b3⟩ := hy.2.1
      cases a1.symm.trans b1
      obtain ⟨q1, q2, q3, q4⟩ := a2.1
      obtain ⟨r1, r2, r3, r4⟩ := b2.1
      cases q4.symm.trans r4
      cases a3.symm.trans b3; rfl
    subst ec et
    have ev : V = V' := by cases hx.2.2.2.1.1.symm.trans hy.2.2.2.1.1; rfl
    subst ev
    have hs : SameT n f k g := (Cod.eqv hx.2.2.2.2.1 hy.2.2.2.2.1 hx.2.2.2.2.2 hy.2.2.2.2.2).mp ⟨rfl, fun _ _ => rfl⟩
    exact ⟨s₁, some (.int 1), _, _, _, X0, rfl, rfl, rfl, (fun h => by cases h), ⟨1, rfl, hh0, Or.inl ⟨rfl, hs⟩⟩, fun fs hl => c2.trans (X0.ireturnOut hexec hret rfl (Or.inr (Or.inl rfl)) (hb hbytes d6) hl)⟩
  · have c2 : Steps p.tables e below (s₁.setTop (entryFrame m #[.ref x, .ref y] 3)) (s₁.setTop (mkF m 8 #[.val (.ref x), .val (.ref y), .unset] [.ref y])) := c1.trans (by
      refine acmpYes X0.here hexec rfl (pc0 := 2) rfl (hb hbytes d2) rfl rfl rfl (by simp [acmp, hxy]) (by decide) rfl ?_
      refine XS.aloadN X0.here hexec rfl (hb hbytes d7) rfl rfl ?_
      exact Steps.refl _)
    obtain ⟨T3, X3, q3, st3⟩ := cinst X0 hexec hown (wk W (.classLink "java/lang/String" 10 "java/lang/String")) (hy.mv X0.warmed.alike hh0).1 (g := (mkF m 8 #[.val (.ref x), .val (.ref y), .unset] [.ref y])) rfl (rest := []) rfl (hb hbytes d8)
    have hh3 := q3.trans hh0
    have c4 : Steps p.tables e below (s₁.setTop (entryFrame m #[.ref x, .ref y] 3)) (T3.setTop (mkF m 15 #[.val (.ref x), .val (.ref y), .unset] [.ref y])) := (c2.trans (st3 _ (Steps.refl _))).trans (by
      refine XS.ifNo X3.here hexec rfl (hb hbytes d11) rfl (i0_eq_f (by decide)) ?_
      refine XS.aloadN X3.here hexec rfl (hb hbytes d14) rfl rfl ?_
      exact Steps.refl _)
    obtain ⟨T5, X5, q5, st5⟩ := cself X3 hexec hown (wk W (.classLink "java/lang/String" 10 "java/lang/String")) (hy.mv X3.warmed.alike hh3).1 (g := (mkF m 15 #[.val (.ref x), .val (.ref y), .unset] [.ref y])) rfl (rest := []) rfl (hb hbytes d15)
    have hh5 := q5.trans hh3
    have c6 : Steps p.tables e below (s₁.setTop (entryFrame m #[.ref x, .ref y] 3)) (T5.setTop (mkF m 19 #[.val (.ref x), .val (.ref y), .val (.ref y)] [])) := (c4.trans (st5 _ (Steps.refl _))).trans (by
      refine XS.astoreN X5.here hexec rfl (hb hbytes d18) rfl rfl rfl ?_
      exact Steps.refl _)
    obtain ⟨T7, X7, q7, st7⟩ := X5.sget hexec hown (wk W (.fieldLink "java/lang/String" 38 "java/lang/String" "COMPACT_STRINGS" "Z")) s1 (fun _ _ h => by rw [hh5]; exact h) (g := (mkF m 19 #[.val (.ref x), .val (.ref y), .val (.ref y)] [])) rfl (hb hbytes d19)
    have hh7 := q7.trans hh5
    have c8 : Steps p.tables e below (s₁.setTop (entryFrame m #[.ref x, .ref y] 3)) (T7.setTop (mkF m 26 #[.val (.ref x), .val (.ref y), .val (.ref y)] [.ref x])) := (c6.trans (st7 _ (Steps.refl _))).trans (by
      refine XS.ifNo X7.here hexec rfl (hb hbytes d22) rfl (i0_eq_f hz) ?_
      refine XS.aloadN X7.here hexec rfl (hb hbytes d25) rfl rfl ?_
      exact Steps.refl _)
    obtain ⟨T9, X9, q9, st9⟩ := X7.hget hexec hown (wk W (.fieldLink "java/lang/String" 15 "java/lang/String" "coder" "B")) (hx.mv X7.warmed.alike hh7).2.2.1 (g := (mkF m 26 #[.val (.ref x), .val (.ref y), .val (.ref y)] [.ref x])) rfl (rest := []) rfl (hb hbytes d26)
    have hh9 := q9.trans hh7
    have c10 : Steps p.tables e below (s₁.setTop (entryFrame m #[.ref x, .ref y] 3)) (T9.setTop (mkF m 30 #[.val (.ref x), .val (.ref y), .val (.ref y)] [.ref y, .int cd])) := (c8.trans (st9 _ (Steps.refl _))).trans (by
      refine XS.aloadN X9.here hexec rfl (hb hbytes d29) rfl rfl ?_
      exact Steps.refl _)
    obtain ⟨T11, X11, q11, st11⟩ := X9.hget hexec hown (wk W (.fieldLink "java/lang/String" 15 "java/lang/String" "coder" "B")) (hy.mv X9.warmed.alike hh9).2.2.1 (g := (mkF m 30 #[.val (.ref x), .val (.ref y), .val (.ref y)] [.ref y, .int cd])) rfl (rest := [.int cd]) rfl (hb hbytes d30)
    have hh11 := q11.trans hh9
    have c12 : Steps p.tables e below (s₁.setTop (entryFrame m #[.ref x, .ref y] 3)) (T11.setTop (mkF m 33 #[.val (.ref x), .val (.ref y), .val (.ref y)] [.int cd', .int cd])) := c10.trans (st11 _ (Steps.refl _))
    by_cases hcd : cd = cd'
    · subst hcd
      have c13 : Steps p.tables e below (s₁.setTop (entryFrame m #[.ref x, .ref y] 3)) (T11.setTop (mkF m 37 #[.val (.ref x), .val (.ref y), .val (.ref y)] [.ref x])) := c12.trans (by
        refine XS.icmpNo X11.here hexec rfl (hb hbytes d33) rfl (ii_ne_f rfl) ?_
        refine XS.aloadN X11.here hexec rfl (hb hbytes d36) rfl rfl ?_
        exact Steps.refl _)
      obtain ⟨T14, X14, q14, st14⟩ := X11.hget hexec hown (wk W (.fieldLink "java/lang/String" 9 "java/lang/String" "value" "[B")) (hx.mv X11.warmed.alike hh11).2.1 (g := (mkF m 37 #[.val (.ref x), .val (.ref y), .val (.ref y)] [.ref x])) rfl (rest := []) rfl (hb hbytes d37)
      have hh14 := q14.trans hh11
      have c15 : Steps p.tables e below (s₁.setTop (entryFrame m #[.ref x, .ref y] 3)) (T14.setTop (mkF m 41 #[.val (.ref x), .val (.ref y), .val (.ref y)] [.ref y, .ref t])) := (c13.trans (st14 _ (Steps.refl _))).trans (by
        refine XS.aloadN X14.here hexec rfl (hb hbytes d40) rfl rfl ?_
        exact Steps.refl _)
      obtain ⟨T16, X16, q16, st16⟩ := X14.hget hexec hown (wk W (.fieldLink "java/lang/String" 9 "java/lang/String" "value" "[B")) (hy.mv X14.warmed.alike hh14).2.1 (g := (mkF m 41 #[.val (.ref x), .val (.ref y), .val (.ref y)] [.ref y, .ref t])) rfl (rest := [.ref t]) rfl (hb hbytes d41)
      have hh16 := q16.trans hh14
      have c17 : Steps p.tables e below (s₁.setTop (entryFrame m #[.ref x, .ref y] 3)) (T16.setTop (mkF m 44 #[.val (.ref x), .val (.ref y), .val (.ref y)] [.ref t', .ref t])) := c15.trans (st16 _ (Steps.refl _))
      obtain ⟨v18, T18, X18, E18, g18⟩ := X16.callS hexec (LEq.law l t V t' V') hown (wks W (staticW "java/lang/String" 541 LEq.yN)) (wk W LEq.tab) (W := 0) (Nat.le_of_ble_eq_true rfl) (Nat.le_of_ble_eq_true rfl) (Nat.le_refl _) (Nat.le_refl _) (g := (mkF m 44 #[.val (.ref x), .val (.ref y), .val (.ref y)] [.ref t', .ref t])) rfl (by rw [hml]; rfl) c17 (argsL := [.ref t, .ref t']) (rest := []) rfl rfl (by show 2 * 0 + 0 ≤ _; decide) (hb hbytes d44) (⟨rfl, hx.2.2.2.1.mv X16.warmed.alike hh16, hx.2.2.2.2.1.ty, hy.2.2.2.1.mv X16.warmed.alike hh16, hy.2.2.2.2.1.ty⟩)
      obtain ⟨v, rfl, q18, hv⟩ := E18
      have iff := Cod.eqv hx.2.2.2.2.1 hy.2.2.2.2.1 hx.2.2.2.2.2 hy.2.2.2.2.2
      rcases hv with ⟨rfl, he⟩ | ⟨rfl, he⟩
      · have c19 : Steps p.tables e below (s₁.setTop (entryFrame m #[.ref x, .ref y] 3)) (T18.setTop (mkF m 55 #[.val (.ref x), .val (.ref y), .val (.ref y)] [.int 1])) := Steps.trans g18 (by
          refine XS.ifNo X18.here hexec rfl (hb hbytes d47) rfl (i0_eq_f (by decide)) ?_
          refine iconstV X18.here hexec rfl 1 (hb hbytes d50) (by decide) ?_
          refine XS.goto X18.here hexec rfl (pc0 := 51) rfl (hb hbytes d51) (by decide) rfl ?_
          exact Steps.refl _)
        exact ⟨T18, some (.int 1), _, _, _, X18, rfl, rfl, rfl, (fun h => by cases h), ⟨1, rfl, q18.trans hh16, Or.inl ⟨rfl, iff.mp he⟩⟩, fun fs hl => c19.trans (X18.ireturnOut hexec hret rfl (Or.inr (Or.inl rfl)) (hb hbytes d55) hl)⟩
      · have c19 : Steps p.tables e below (s₁.setTop (entryFrame m #[.ref x, .ref y] 3)) (T18.setTop (mkF m 55 #[.val (.ref x), .val (.ref y), .val (.ref y)] [.int 0])) := Steps.trans g18 (by
          refine XS.ifYes X18.here hexec rfl (pc0 := 47) rfl (hb hbytes d47) rfl (i0_eq_t rfl) (by decide) rfl ?_
          refine iconstV X18.here hexec rfl 0 (hb hbytes d54) (by decide) ?_
          exact Steps.refl _)
        exact ⟨T18, some (.int 0), _, _, _, X18, rfl, rfl, rfl, (fun h => by cases h), ⟨0, rfl, q18.trans hh16, Or.inr ⟨rfl, fun q => he (iff.mpr q)⟩⟩, fun fs hl => c19.trans (X18.ireturnOut hexec hret rfl (Or.inr (Or.inl rfl)) (hb hbytes d55) hl)⟩
    · have c13 : Steps p.tables e below (s₁.setTop (entryFrame m #[.ref x, .ref y] 3)) (T11.setTop (mkF m 55 #[.val (.ref x), .val (.ref y), .val (.ref y)] [.int 0])) := c12.trans (by
        refine XS.icmpYes X11.here hexec rfl (pc0 := 33) rfl (hb hbytes d33) rfl (ii_ne_t hcd) (by decide) rfl ?_
        refine iconstV X11.here hexec rfl 0 (hb hbytes d54) (by decide) ?_
        exact Steps.refl _)
      exact ⟨T11, some (.int 0), _, _, _, X11, rfl, rfl, rfl, (fun h => by cases h), ⟨0, rfl, hh11, Or.inr ⟨rfl, Cod.dif hx.2.2.2.2.1 hy.2.2.2.2.1 hcd⟩⟩, fun fs hl => c13.trans (X11.ireturnOut hexec hret rfl (Or.inr (Or.inl rfl)) (hb hbytes d55) hl)⟩
theorem pays {l : Launch} {R : Room} {p : Program} {e : Env} {below : List Frame} {s : State} {sargs : Array Value} {len W : Nat} (x t : Addr) (V : Cell) (cd : Int32) (n : Nat) (f : Nat → Int32) (y t' : Addr) (V' : Cell) (cd' : Int32) (k : Nat) (g : Nat → Int32) (z : Int32) (htab : tab.before sargs s = true) (hfr : 2 ≤ R.frames) (hlo : W + 28 ≤ R.locals) :
    Back l R p e below s sargs yN len W (fun A₁ a₁ => A₁.cells + 0 ≤ R.cells ∧ A₁.slots + 0 ≤ R.slots ∧ P x t V cd n f y t' V' cd' k g z a₁ A₁.U) (fun A₁ _ v₁ B₁ => Says01 (SameT n f k g) v₁ A₁.U B₁.U ∧ B₁.locs = A₁.locs ++ [] ∧ B₁.cells = A₁.cells + 0 ∧ B₁.slots = A₁.slots + 0) :=
  (law l x t V cd n f y t' V' cd' k g z).pays htab hfr (by omega)
end SEq
end StrChars
namespace StrChars.Road
open Jvm Sem ClassFile Op Lib Jvm.Stand Jvm.Free Jvm.Free.XT
open Jvm.Lib.Cold (StaticIs)
/-- the words of String.equals(Object) -/
abbrev wordsEq : List Jvm.Cond := [.code SEq.yN SEq.yB 3 (some .boolean), .initialized ST, .classLink ST 10 ST, .fieldLink ST 38 ST "COMPACT_STRINGS" "Z", .fieldLink ST 15 ST "coder" "B", .fieldLink ST 9 ST "value" "[B", .methodLink ST 541 LEq.yN, .static LEq.yN, .code LEq.yN LEq.yB 3 (some .boolean), .initialized "java/lang/StringLatin1"]
theorem tabEq_of {a : Array Value} {s : State} (h : ∀ w ∈ wordsEq, w.before a s = true) : SEq.tab.before a s = true := by
  have hl : LEq.tab.before a s = true := unparts (wk h (.code LEq.yN LEq.yB 3 (some .boolean))) (wks h (.initialized LEq.yN.cls :: LEq.site))
  have q := consq hl h
  exact unparts (wk q (.code SEq.yN SEq.yB 3 (some .boolean))) (wks q (.initialized SEq.yN.cls :: SEq.site))
theorem movedEq {Z s : State} {a0 args : Array Value} (hZ : Z.Warmed39 s.vm) (hw : ∀ d ∈ wordsEq, d.before a0 Z = true) : ∀ d ∈ wordsEq, d.before args s = true := fun d hd => by
  have t : ∀ d ∈ wordsEq, (d.onTables && d.keepsFace) = true := by decide +kernel
  exact RoadKit.mv hZ (hw d hd) (t d hd)
/-- the road's facts of a String, as the laws ask it -/
theorem txt_of {Z U : State} {a0 : Array Value} {kI : Nat} (wi : (Jvm.Cond.instantiable ST kI).before a0 Z = true) (al : Z.vm.Alike U.vm) {x t : Addr} {kb : ClassId} {cs : List Int32} {cd N2 : Int32} {vs : List Value} (E : RoadKit.Exa Z U.heap x ST) (V : RoadKit.Fld Z U.heap x ST "value" "[B" (.ref t)) (C : RoadKit.Fld Z U.heap x ST "coder" "B" (.int cd)) (K : RoadKit.Arv Z U.heap t kb .byte N2 vs (.int 0)) (hc : CodA cs cd N2 vs) (hb : ∀ c ∈ cs, ¬ c < 0 ∧ ¬ (65535 : Int32) < c) (l2 : cs.length ≤ 4000) :
    ∃ A, Txt x t A cd cs.length (fun j => cs.getD j 0) U := by
  obtain ⟨A, K1, K2, K3, K4, K5, K6⟩ := K
  have hcod := hc.cod (by omega) K3 K5
  obtain ⟨D, fV, fC, hB, F1, F2, g1, g2, -, -⟩ := strObj wi al E V C
  exact ⟨A, ⟨_, hB.2.2.1, D, hB.1, rfl, by cases q : D.vm <;> first | rfl | exact absurd q (hB.2.1.2 _)⟩, Has.of hB F1 g1, Has.of hB F2 g2, ⟨K1.1, State.isArrayOf_alike al K1.2.1, K1.2.2, by rcases hcod with ⟨-, q, -⟩ | ⟨-, q, -⟩ <;> omega⟩, hcod, fun j hj => by
    have e : cs.getD j 0 = cs[j] := by simp [List.getD_eq_getElem?_getD, hj]
    show ¬ cs.getD j 0 < 0 ∧ ¬ 65535 < cs.getD j 0
    rw [e]; exact hb _ (List.getElem_mem _)⟩
theorem same_list (cs ds : List Int32) : SameT cs.length (fun j => cs.getD j 0) ds.length (fun j => ds.getD j 0) ↔ cs = ds := by
  constructor
  · rintro ⟨e, q⟩
    refine List.ext_getElem e fun j h1 h2 => ?_
    have := q j h1
    simpa [List.getD_eq_getElem?_getD, h1, h2] using this
  · rintro rfl
    exact ⟨rfl, fun _ _ => rfl⟩
/-- **equals(Object) OF TWO SUCH STRINGS**: 1 just where the chars are the same -/
theorem eqW {p : Program} {l : Launch} {e : Env} {R : Room} {s : State} {args : Array Value} {below : List Frame} {len W : Nat} {Z : State} {a0 : Array Value} {h : Heap} (hZ : Z.Warmed39 s.vm) (hw : ∀ d ∈ wordsEq, d.before a0 Z = true) {kI : Nat} (wi : (Jvm.Cond.instantiable ST kI).before a0 Z = true)
    {x t : Addr} {kb : ClassId} {cs : List Int32} {cd N2 : Int32} {vs : List Value} (E : RoadKit.Exa Z h x ST) (V : RoadKit.Fld Z h x ST "value" "[B" (.ref t)) (C : RoadKit.Fld Z h x ST "coder" "B" (.int cd)) (K : RoadKit.Arv Z h t kb .byte N2 vs (.int 0)) (hc : CodA cs cd N2 vs) (hb : ∀ c ∈ cs, ¬ c < 0 ∧ ¬ (65535 : Int32) < c) (l2 : cs.length ≤ 4000)
    {y t' : Addr} {kb' : ClassId} {ds : List Int32} {cd' N2' : Int32} {vs' : List Value} (E' : RoadKit.Exa Z h y ST) (V' : RoadKit.Fld Z h y ST "value" "[B" (.ref t')) (C' : RoadKit.Fld Z h y ST "coder" "B" (.int cd')) (K' : RoadKit.Arv Z h t' kb' .byte N2' vs' (.int 0)) (hc' : CodA ds cd' N2' vs') (hb' : ∀ c ∈ ds, ¬ c < 0 ∧ ¬ (65535 : Int32) < c) (l2' : ds.length ≤ 4000)
    {z : Int32} (S : RoadKit.Sta Z h ST "COMPACT_STRINGS" "Z" (.int z)) (hz : ¬ z = 0) (hfr : 2 ≤ R.frames) (hlo : W + 28 ≤ R.locals) :
    Back l R p e below s args (⟨"java/lang/String", "equals", "(Ljava/lang/Object;)Z"⟩ : MethodName) len W (fun P a => a = #[.ref x, .ref y] ∧ P.U.heap = h ∧ P.cells + 0 ≤ R.cells ∧ P.slots + 0 ≤ R.slots)
      (fun P _ v B => ∃ L, (((v = some (.int 1) ∧ cs = ds) ∨ (v = some (.int 0) ∧ ¬ cs = ds)) ∧ L = [] ∧ B.U.heap = h) ∧ B.locs = P.locs ++ L ∧ B.cells = P.cells + 0 ∧ B.slots = P.slots + 0) := by
  intro m meth c P g ig mk a X hg hsize hdg hW hn hp'
  obtain ⟨rfl, rfl, r1, r2⟩ := hp'
  have al : Z.vm.Alike P.U.vm := hZ.alike.trans X.warmed.alike
  obtain ⟨A, hx⟩ := txt_of wi al E V C K hc hb l2
  obtain ⟨A', hy⟩ := txt_of wi al E' V' C' K' hc' hb' l2'
  obtain ⟨v, B, X', ⟨⟨w, hv, hh, hq⟩, hl, hk, hs⟩, st⟩ := SEq.pays x t A cd cs.length (fun j => cs.getD j 0) y t' A' cd' ds.length (fun j => ds.getD j 0) z (tabEq_of (movedEq hZ hw)) hfr hlo m meth c P g ig mk _ X hg hsize hdg hW hn ⟨r1, r2, rfl, hx, hy, sta_is al S, hz⟩
  refine ⟨v, B, X', ⟨[], ⟨?_, rfl, hh⟩, hl, hk, hs⟩, st⟩
  rcases hq with ⟨rfl, q⟩ | ⟨rfl, q⟩
  · exact Or.inl ⟨hv, (same_list cs ds).mp q⟩
  · exact Or.inr ⟨hv, fun e => q ((same_list cs ds).mpr e)⟩
end StrChars.Road
namespace StrChars.Road
open Jvm Sem ClassFile Op Lib Jvm.Stand Jvm.Free Jvm.Free.XT
open Jvm.Lib.Cold (StaticIs)
/-- what backV says of its String, as the contracts of this text ask it: cs's low bytes, coder 0 -/
theorem codOf {cs : List Int32} {n : Nat} (hn : cs.length = n) (hb : ∀ c ∈ cs, ¬ 255 < c) : CodA cs 0 (Int32.ofNat n) ((cs.map lo8).map Value.int) := Or.inl ⟨rfl, by rw [hn], by simp [List.map_map, Function.comp_def], hb⟩
end StrChars.Road
end Jvm.Pilot.@@N@@
namespace Jvm.OwnK
open Sem ClassFile Op Lib Jvm.Stand Jvm.Free Jvm.LawKit Jvm.RoadKit
/-- what a body leaves: Q of its value and heap; what it wrote lies in new cells; the old cells stand -/
def Out (Z s : State) (Q : Option Value → Heap → Prop) (k n : Nat) (o : Outcome) (U : State) : Prop :=
  ∃ v L, o = .returned v ∧ (Q v U.heap ∧ Fr Z.heap.size L ∧ Old Z Z.heap.size U.heap) ∧ FrameEnd s o U L k n
/-- from here the walk ends, and G holds of its end -/
def Go (tb : Tables) (e : Env) (below : List Frame) (G : Outcome → State → Prop) (T : State) (F : JFrame) : Prop :=
  ∃ s₂ o, Steps tb e below (T.setTop F) s₂ ∧ s₂.status = .running ∧ Ended s₂ below o ∧ G o s₂
/-- where the walk stands, with its heap -/
def Wk (p : Program) (l : Launch) (e : Env) (R : Room) (s : State) (m : MethodId) (args : Array Value) (below : List Frame) (meth : Method) (c : Code) (Z T : State) (h : Heap) (k n : Nat) : Prop :=
  ∃ locs, Stand p l e R s m args below meth c T locs k n ∧ T.heap = h ∧ Fr Z.heap.size locs ∧ Old Z Z.heap.size h
/-- what is known of the body -/
def Bdy (p : Program) (Z s : State) (m : MethodId) (meth : Method) (c : Code) (own : String) (bytes : ByteArray) (maxL : Nat) (ret : Option FieldType) (nm : String) : Prop :=
  p.tables.exec = Jvm.exec ∧ Z.Warmed39 s.vm ∧ s.vm.findClass own = some m.cls ∧ c.code = bytes ∧ c.maxLocals = maxL ∧ meth.sig.returnType = ret ∧ meth.locks = false ∧ meth.name = nm
/-- a contract -/
def Con (l : Launch) (Z : State) (y : MethodName) (bytes : ByteArray) (maxL : Nat) (ret : Option FieldType) (ws : List Cond) (rm : Room) (as' : Array Value) (h0 : Heap) (Q : Option Value → Heap → Prop) : Prop :=
  Old Z Z.heap.size h0 → MetFree l y (head1 (Cond.code y bytes maxL ret :: ws) rm) (fun a U => a = as' ∧ Z.Warmed39 U.vm ∧ U.heap = h0) (fun _ _ _ _ _ => True) (fun _ U o U' => Out Z U Q rm.cells rm.slots o U')
def bi (b : Bool) : Int32 := if b then 1 else 0
theorem bi_t {b : Bool} (h : b = true) : ¬ bi b = 0 := by subst h; decide
theorem bi_f {b : Bool} (h : b = false) : bi b = 0 := by subst h; rfl
theorem bi_nar (b : Bool) : nar .boolean (bi b) = bi b := by cases b <;> rfl
theorem bi_tt : bi true = 1 := rfl
theorem bi_ff : bi false = 0 := rfl
theorem bi_inj {a b : Bool} : (bi a = bi b) = (a = b) := by cases a <;> cases b <;> decide
theorem own_nb (b : Bool) : narrow .boolean (.int (bi b)) = .int (bi b) := by cases b <;> rfl
theorem own_fb (b : Bool) : fits .boolean (.int (bi b)) = true := by cases b <;> rfl
theorem own_fr {t : FieldType} {v : Value} (ht : t.isReference = true) (hv : v.isRef = true) : fits t v = true := by cases t <;> cases v <;> first | rfl | (exfalso; revert ht hv; simp [FieldType.isReference, Value.isRef]; done)
theorem own_i2c (a : Int32) : ∃ x : Int32, a.toUInt32.toUInt16.toUInt32.toInt32 = x ∧ nar .char x = x ∧ 0 ≤ x.toInt ∧ x.toInt < 65536 := by
  refine ⟨_, rfl, ?_, (c_i2c a).2.1, (c_i2c a).2.2⟩
  show (a.toUInt32.toUInt16.toUInt32.toInt32).toUInt32.toUInt16.toUInt32.toInt32 = _
  simp only [UInt32.toUInt32_toInt32, UInt16.toUInt16_toUInt32]
theorem own_i2cm (a : Int32) : ∃ x : Int32, (a &&& 255).toUInt32.toUInt16.toUInt32.toInt32 = x ∧ nar .char x = x ∧ ¬ x < 0 ∧ ¬ 255 < x := by
  refine ⟨_, rfl, ?_, ?_⟩
  · show ((a &&& 255).toUInt32.toUInt16.toUInt32.toInt32).toUInt32.toUInt16.toUInt32.toInt32 = _
    simp only [UInt32.toUInt32_toInt32, UInt16.toUInt16_toUInt32]
  · rw [i2c_mask]
    have q := c_and a 255 (by decide)
    simp only [Int32.lt_iff_toInt_lt, Int32.reduceToInt] at *; omega
theorem own_and1 {a b : Bool} (h : b = true) : (bi a &&& 1) = bi (a && b) := by subst h; cases a <;> decide
theorem own_and0 {a b : Bool} (h : b = false) : (bi a &&& 0) = bi (a && b) := by subst h; cases a <;> decide
theorem own_andb (a b : Bool) : (bi a &&& bi b) = bi (a && b) := by cases a <;> cases b <;> decide
theorem own_inc (i : Nat) : Int32.ofNat i + 1 = Int32.ofNat (i + 1) := (Int32.ofNat_add i 1).symm
theorem own_ofNat {i : Nat} (h : i < 2147483648) : (Int32.ofNat i).toInt = i := by
  have := Int32.toInt_ofNat_of_lt (n := i) (by omega); exact this
theorem own_clamp {i : Nat} (h : i < 2147483648) : (Int32.ofNat i).toNatClampNeg = i := by
  simp only [Int32.toNatClampNeg, own_ofNat h]; omega
theorem own_lt {i j : Nat} (hi : i < 2147483648) (hj : j < 2147483648) : (Int32.ofNat i < Int32.ofNat j) ↔ i < j := by
  rw [Int32.lt_iff_toInt_lt, own_ofNat hi, own_ofNat hj]; omega
theorem own_ixok {i n : Nat} (hi : i < n) (hn : n < 2147483648) : ¬ Int32.ofNat i < 0 ∧ Int32.ofNat i < Int32.ofNat n := by
  refine ⟨?_, (own_lt (by omega) hn).mpr hi⟩
  rw [Int32.lt_iff_toInt_lt, own_ofNat (by omega)]; show ¬ ((i : Int) < 0); omega
theorem nar_b0 : nar .boolean 0 = 0 := by decide
theorem nar_b1 : nar .boolean 1 = 1 := by decide
theorem old_le {Z : State} {h : Heap} (O : Old Z Z.heap.size h) : Z.heap.size ≤ h.size := O.2.1
theorem nlt {x : Addr} {n : Nat} (h : x < n) : @LT.lt Nat _ x n := h
theorem nne {x y : Addr} (h : ¬ @Eq Nat x y) : x ≠ y := h
theorem own_root {Z : State} {a0 : Array Value} {O K : String} {kk : Nat} (w : (Cond.noSuperclass O).before a0 Z = true) (wk : (Cond.instantiable K kk).before a0 Z = true) (hn : O ≠ K) : NS Z O K := by
  obtain ⟨c, k, h1, h2, h3, -, -⟩ := Cond.noSuperclass_spec w
  obtain ⟨t, kt, g1, -⟩ := Cond.instantiable_spec wk
  have ne := ids_ne h1 g1 hn
  refine ⟨c, t, h1, g1, fun fuel => ?_⟩
  cases fuel with
  | zero => rfl
  | succ f => simp [Vm.isSubclassAux, ne, h2, h3]
theorem own_no {Z : State} {a0 : Array Value} {C S K : String} {kk : Nat} (w : (Cond.superclass C S).before a0 Z = true) (wk : (Cond.instantiable K kk).before a0 Z = true) (n : NS Z C K) (hn : C ≠ K) : ∃ c t, Z.vm.findClass C = some c ∧ Z.vm.findClass K = some t ∧ Z.vm.assignable c t = false := by
  obtain ⟨c, t, h0, g0, n3⟩ := n
  obtain ⟨p, k, kp, h1, h2, h3, h4, h5, -, h7⟩ := Cond.superclass_spec h0 w
  obtain ⟨t', kt, g1, g2, g3, g4, -⟩ := Cond.instantiable_spec wk
  cases g0.symm.trans g1
  have ne := ids_ne h0 g0 hn
  have g5 : kt.isInterface = false := by cases hq : kt.isInterface <;> simp [hq] at g4 ⊢
  refine ⟨c, t, h0, g0, ?_⟩
  show Z.vm.assignableAux (255 + 1) c t = false
  simp [Vm.assignableAux, ne, h2, g2, h5, g3, g5, Vm.isSubclass, n3]
theorem own_03 (x : Int32) : (x &&& 3) = 0 ∨ (x &&& 3) = 1 ∨ (x &&& 3) = 2 ∨ (x &&& 3) = 3 := by
  have q := c_and x 3 (by decide)
  simp only [← Int32.toInt_inj, Int32.reduceToInt] at *; omega
section K
variable {p : Program} {l : Launch} {e : Env} {R : Room} {s : State} {m : MethodId} {args : Array Value} {below : List Frame} {meth : Method} {c : Code} {Z T T' : State} {h h' : Heap} {k n : Nat} {own nm : String} {bytes : ByteArray} {maxL : Nat} {ret : Option FieldType} {G : Outcome → State → Prop} {pc : Nat} {ls : Array Slot} {st : List Value} {Q : Option Value → Heap → Prop} {a0 : Array Value}
theorem Bdy.nameOf (B : Bdy p Z s m meth c own bytes maxL ret nm) : meth.name = nm := B.2.2.2.2.2.2.2
theorem Go.by {tb : Tables} {F F' : JFrame} (hs : ∀ t, Steps tb e below (T'.setTop F') t → Steps tb e below (T.setTop F) t) (q : Go tb e below G T' F') : Go tb e below G T F := by
  obtain ⟨s2, o, a, b⟩ := q; exact ⟨s2, o, hs _ a, b⟩
theorem own_gc {tb : Tables} {v v' : Int32} (hv : v = v') (q : Go tb e below G T (mkF m pc ls (.int v :: st))) : Go tb e below G T (mkF m pc ls (.int v' :: st)) := hv ▸ q
theorem Go.cast {tb : Tables} {F F' : JFrame} (hs : F = F') (q : Go tb e below G T F') : Go tb e below G T F := hs ▸ q
theorem Con.of {y : MethodName} {ws : List Cond} {rm : Room} {as' : Array Value} {h0 : Heap} (hpl : plainFor y = true)
    (body : ∀ p e s m below meth c T, Bdy p Z s m meth c y.cls bytes maxL ret y.name → Wk p l e rm s m as' below meth c Z T h0 0 0 → Go p.tables e below (Out Z s Q rm.cells rm.slots) T (entryFrame m as' maxL)) : Con l Z y bytes maxL ret ws rm as' h0 Q := by
  intro hO
  refine MetFree.of_bodySF hpl hisR ?_
  intro p e s m args below meth c s₁ Bd hml0 hP hK
  obtain ⟨rfl, hZ, hh⟩ := hP
  exact body p e s m below meth c s₁ ⟨Bd.exec, hZ, findClass_of_methodNamed Bd.named, Bd.bytes, hml0, Bd.returns, Bd.notSynchronized, (name_of_methodNamed Bd.named Bd.method).1⟩ ⟨[], Stand.of_body Bd, by rw [← hh, Bd.state]; rfl, Fr.nil _, hO⟩
theorem Wk.size (W : Wk p l e R s m args below meth c Z T h k n) : Z.heap.size ≤ h.size := by obtain ⟨_, _, _, _, O⟩ := W; exact O.2.1
theorem Wk.old (W : Wk p l e R s m args below meth c Z T h k n) : Old Z Z.heap.size h := by obtain ⟨_, _, _, _, O⟩ := W; exact O
theorem Sta.old {C nf d : String} {v : Value} (F : Sta Z Z.heap C nf d v) (W : Old Z Z.heap.size h) : Sta Z h C nf d v := F.ext W.2
theorem Wk.more {k' n' : Nat} (W : Wk p l e R s m args below meth c Z T h k n) (hk : k ≤ k') (hn : n ≤ n') : Wk p l e R s m args below meth c Z T h k' n' := by
  obtain ⟨locs, X, r⟩ := W; exact ⟨locs, X.more hk hn, r⟩
/-! ### the ends -/
theorem go_end (B : Bdy p Z s m meth c own bytes maxL ret nm) (W : Wk p l e R s m args below meth c Z T h k n) {F : JFrame} {v : Option Value} {k' n' : Nat} (hv : ret = none → v = none) (hQ : Q v h) (hk : k ≤ k') (hn : n ≤ n')
    (hst : ∀ (locs : List Loc) (fs : List Frame), Stand p l e R s m args below meth c T locs k n → (∀ (f : JFrame) (acts : List Action), f.method = m → f.locked = none → f.entered = [] → (doReturn e (T.setTop f) acts v).1 = T.setFrames fs) → Steps p.tables e below (T.setTop F) (T.setFrames fs)) :
    Go p.tables e below (Out Z s Q k' n') T F := by
  obtain ⟨locs, X, eT, N, O⟩ := W
  obtain ⟨fs, hr, hrun, hended, hW, hsame⟩ := X.leave (v := v) (fun q => hv (B.2.2.2.2.2.1 ▸ q)) B.2.2.2.2.2.2.1
  have eT' : (T.setFrames fs).heap = h := eT
  exact ⟨_, _, hst locs fs X hr, hrun, hended, _, _, rfl, ⟨by rw [eT']; exact hQ, N, by rw [eT']; exact O⟩, ⟨_, rfl⟩, hW, hsame.mono hk hn⟩
theorem r_i (B : Bdy p Z s m meth c own bytes maxL (some .int) nm) (W : Wk p l e R s m args below meth c Z T h k n) {z : Int32} {k' n' : Nat} (hd : decode bytes pc = .ok (.ireturn, 1)) (hk : k ≤ k') (hn : n ≤ n') (hQ : Q (some (.int z)) h) : Go p.tables e below (Out Z s Q k' n') T (mkF m pc ls (.int z :: st)) :=
  go_end B W (fun q => by cases q) hQ hk hn fun _ _ X hr => retOut X B.1 B.2.2.2.2.2.1 rfl (Or.inl ⟨rfl, Or.inl rfl, _, rfl⟩) (hb B.2.2.2.1 hd) hr
theorem r_b (B : Bdy p Z s m meth c own bytes maxL (some .boolean) nm) (W : Wk p l e R s m args below meth c Z T h k n) {b : Bool} {k' n' : Nat} (hd : decode bytes pc = .ok (.ireturn, 1)) (hk : k ≤ k') (hn : n ≤ n') (hQ : Q (some (.int (bi b))) h) : Go p.tables e below (Out Z s Q k' n') T (mkF m pc ls (.int (bi b) :: st)) :=
  go_end B W (fun q => by cases q) (v := some (.int (nar .boolean (bi b)))) (by rw [bi_nar]; exact hQ) hk hn fun _ _ X hr => retN X B.1 B.2.2.2.2.2.1 (Or.inl rfl) (hb B.2.2.2.1 hd) hr
theorem r_n (B : Bdy p Z s m meth c own bytes maxL ret nm) (W : Wk p l e R s m args below meth c Z T h k n) {t : FieldType} {z : Int32} {k' n' : Nat} (hret : ret = some t) (ht : t = .boolean ∨ t = .byte ∨ t = .char ∨ t = .short) (hd : decode bytes pc = .ok (.ireturn, 1)) (hk : k ≤ k') (hn : n ≤ n') (hQ : Q (some (.int (nar t z))) h) : Go p.tables e below (Out Z s Q k' n') T (mkF m pc ls (.int z :: st)) :=
  go_end B W (fun q => by rw [hret] at q; cases q) hQ hk hn fun _ _ X hr => retN X B.1 (B.2.2.2.2.2.1.trans hret) ht (hb B.2.2.2.1 hd) hr
theorem nar_ref {t : FieldType} {v : Value} (ht : t.isReference = true) : narrow t v = v := by cases t <;> first | rfl | (exfalso; revert ht; simp [FieldType.isReference]; done) | (cases v <;> rfl)
theorem r_a (B : Bdy p Z s m meth c own bytes maxL ret nm) (W : Wk p l e R s m args below meth c Z T h k n) {t : FieldType} {v : Value} {k' n' : Nat} (hret : ret = some t) (ht : t.isReference = true) (hv : v.isRef = true) (hd : decode bytes pc = .ok (.areturn, 1)) (hk : k ≤ k') (hn : n ≤ n') (hQ : Q (some v) h) : Go p.tables e below (Out Z s Q k' n') T (mkF m pc ls (v :: st)) :=
  go_end B W (fun q => by rw [hret] at q; cases q) hQ hk hn fun _ _ X hr => retOut X B.1 (B.2.2.2.2.2.1.trans hret) (nar_ref ht) (Or.inr (Or.inr (Or.inr (Or.inr ⟨rfl, ht, hv⟩)))) (hb B.2.2.2.1 hd) hr
theorem r_v (B : Bdy p Z s m meth c own bytes maxL none nm) (W : Wk p l e R s m args below meth c Z T h k n) {k' n' : Nat} (hd : decode bytes pc = .ok (.return_, 1)) (hk : k ≤ k') (hn : n ≤ n') (hQ : Q none h) : Go p.tables e below (Out Z s Q k' n') T (mkF m pc ls []) :=
  go_end B W (fun _ => rfl) hQ hk hn fun _ _ X hr => X.returnOut B.1 B.2.2.2.2.2.1 (hb B.2.2.2.1 hd) hr
theorem r_l (B : Bdy p Z s m meth c own bytes maxL (some .long) nm) (W : Wk p l e R s m args below meth c Z T h k n) {z : Int64} {k' n' : Nat} (hd : decode bytes pc = .ok (.lreturn, 1)) (hk : k ≤ k') (hn : n ≤ n') (hQ : Q (some (.long z)) h) : Go p.tables e below (Out Z s Q k' n') T (mkF m pc ls (.long z :: st)) :=
  go_end B W (fun q => by cases q) hQ hk hn fun _ _ X hr => retOut X B.1 B.2.2.2.2.2.1 rfl (Or.inr (Or.inl ⟨rfl, rfl, _, rfl⟩)) (hb B.2.2.2.1 hd) hr
/-! ### plain steps -/
theorem g_aload_n (B : Bdy p Z s m meth c own bytes maxL ret nm) (W : Wk p l e R s m args below meth c Z T h k n) {i : Fin 4} {v : Value} (hd : decode bytes pc = .ok (.aload_n i, 1)) (hl : ls[i.val]? = some (.val v)) (hv : v.isRef = true) (q : Go p.tables e below G T (mkF m (pc + 1) ls (v :: st))) : Go p.tables e below G T (mkF m pc ls st) := by
  obtain ⟨_, X, -⟩ := W
  exact Go.by (fun t q => XS.aloadN X.here B.1 rfl (hb B.2.2.2.1 hd) hl hv q) q
theorem g_aload (B : Bdy p Z s m meth c own bytes maxL ret nm) (W : Wk p l e R s m args below meth c Z T h k n) {i : Nat} {v : Value} (hd : decode bytes pc = .ok (.aload i, 2)) (hl : ls[i]? = some (.val v)) (hv : v.isRef = true) (q : Go p.tables e below G T (mkF m (pc + 2) ls (v :: st))) : Go p.tables e below G T (mkF m pc ls st) := by
  obtain ⟨_, X, -⟩ := W
  exact Go.by (fun t q => XS.aload X.here B.1 rfl (hb B.2.2.2.1 hd) hl hv q) q
theorem g_iload_n (B : Bdy p Z s m meth c own bytes maxL ret nm) (W : Wk p l e R s m args below meth c Z T h k n) {i : Fin 4} {v : Int32} (hd : decode bytes pc = .ok (.iload_n i, 1)) (hl : ls[i.val]? = some (.val (.int v))) (q : Go p.tables e below G T (mkF m (pc + 1) ls (.int v :: st))) : Go p.tables e below G T (mkF m pc ls st) := by
  obtain ⟨_, X, -⟩ := W
  exact Go.by (fun t q => XS.iloadN X.here B.1 rfl (hb B.2.2.2.1 hd) hl q) q
theorem g_iload (B : Bdy p Z s m meth c own bytes maxL ret nm) (W : Wk p l e R s m args below meth c Z T h k n) {i : Nat} {v : Int32} (hd : decode bytes pc = .ok (.iload i, 2)) (hl : ls[i]? = some (.val (.int v))) (q : Go p.tables e below G T (mkF m (pc + 2) ls (.int v :: st))) : Go p.tables e below G T (mkF m pc ls st) := by
  obtain ⟨_, X, -⟩ := W
  exact Go.by (fun t q => XS.iload X.here B.1 rfl (hb B.2.2.2.1 hd) hl q) q
theorem g_lload_n (B : Bdy p Z s m meth c own bytes maxL ret nm) (W : Wk p l e R s m args below meth c Z T h k n) {i : Fin 4} {v : Int64} (hd : decode bytes pc = .ok (.lload_n i, 1)) (hl : ls[i.val]? = some (.val (.long v))) (q : Go p.tables e below G T (mkF m (pc + 1) ls (.long v :: st))) : Go p.tables e below G T (mkF m pc ls st) := by
  obtain ⟨_, X, -⟩ := W
  exact Go.by (fun t q => XT.lloadN X.here B.1 rfl (hb B.2.2.2.1 hd) hl q) q
theorem g_lload (B : Bdy p Z s m meth c own bytes maxL ret nm) (W : Wk p l e R s m args below meth c Z T h k n) {i : Nat} {v : Int64} (hd : decode bytes pc = .ok (.lload i, 2)) (hl : ls[i]? = some (.val (.long v))) (q : Go p.tables e below G T (mkF m (pc + 2) ls (.long v :: st))) : Go p.tables e below G T (mkF m pc ls st) := by
  obtain ⟨_, X, -⟩ := W
  exact Go.by (fun t q => XT.lload X.here B.1 rfl (hb B.2.2.2.1 hd) hl q) q
theorem g_istore_n (B : Bdy p Z s m meth c own bytes maxL ret nm) (W : Wk p l e R s m args below meth c Z T h k n) {i : Fin 4} {v : Int32} {l' : Array Slot} (hd : decode bytes pc = .ok (.istore_n i, 1)) (hl : storeLocals ls i.val (.int v) = some l') (q : Go p.tables e below G T (mkF m (pc + 1) l' st)) : Go p.tables e below G T (mkF m pc ls (.int v :: st)) := by
  obtain ⟨_, X, -⟩ := W
  exact Go.by (fun t q => XS.istoreN X.here B.1 rfl (hb B.2.2.2.1 hd) rfl hl q) q
theorem g_istore (B : Bdy p Z s m meth c own bytes maxL ret nm) (W : Wk p l e R s m args below meth c Z T h k n) {i : Nat} {v : Int32} {l' : Array Slot} (hd : decode bytes pc = .ok (.istore i, 2)) (hl : storeLocals ls i (.int v) = some l') (q : Go p.tables e below G T (mkF m (pc + 2) l' st)) : Go p.tables e below G T (mkF m pc ls (.int v :: st)) := by
  obtain ⟨_, X, -⟩ := W
  exact Go.by (fun t q => XS.istore X.here B.1 rfl (hb B.2.2.2.1 hd) rfl hl q) q
theorem g_lstore_n (B : Bdy p Z s m meth c own bytes maxL ret nm) (W : Wk p l e R s m args below meth c Z T h k n) {i : Fin 4} {v : Int64} {l' : Array Slot} (hd : decode bytes pc = .ok (.lstore_n i, 1)) (hl : storeLocals ls i.val (.long v) = some l') (q : Go p.tables e below G T (mkF m (pc + 1) l' st)) : Go p.tables e below G T (mkF m pc ls (.long v :: st)) := by
  obtain ⟨_, X, -⟩ := W
  exact Go.by (fun t q => XT.lstoreN X.here B.1 rfl (hb B.2.2.2.1 hd) rfl hl q) q
theorem g_lstore (B : Bdy p Z s m meth c own bytes maxL ret nm) (W : Wk p l e R s m args below meth c Z T h k n) {i : Nat} {v : Int64} {l' : Array Slot} (hd : decode bytes pc = .ok (.lstore i, 2)) (hl : storeLocals ls i (.long v) = some l') (q : Go p.tables e below G T (mkF m (pc + 2) l' st)) : Go p.tables e below G T (mkF m pc ls (.long v :: st)) := by
  obtain ⟨_, X, -⟩ := W
  exact Go.by (fun t q => XT.lstore X.here B.1 rfl (hb B.2.2.2.1 hd) rfl hl q) q
theorem g_astore_n (B : Bdy p Z s m meth c own bytes maxL ret nm) (W : Wk p l e R s m args below meth c Z T h k n) {i : Fin 4} {v : Value} {l' : Array Slot} (hd : decode bytes pc = .ok (.astore_n i, 1)) (hv : v.isRef = true) (hl : storeLocals ls i.val v = some l') (q : Go p.tables e below G T (mkF m (pc + 1) l' st)) : Go p.tables e below G T (mkF m pc ls (v :: st)) := by
  obtain ⟨_, X, -⟩ := W
  exact Go.by (fun t q => XS.astoreN X.here B.1 rfl (hb B.2.2.2.1 hd) rfl hv hl q) q
theorem g_astore (B : Bdy p Z s m meth c own bytes maxL ret nm) (W : Wk p l e R s m args below meth c Z T h k n) {i : Nat} {v : Value} {l' : Array Slot} (hd : decode bytes pc = .ok (.astore i, 2)) (hv : v.isRef = true) (hl : storeLocals ls i v = some l') (q : Go p.tables e below G T (mkF m (pc + 2) l' st)) : Go p.tables e below G T (mkF m pc ls (v :: st)) := by
  obtain ⟨_, X, -⟩ := W
  exact Go.by (fun t q => XS.astore X.here B.1 rfl (hb B.2.2.2.1 hd) rfl hv hl q) q
theorem g_iconst (B : Bdy p Z s m meth c own bytes maxL ret nm) (W : Wk p l e R s m args below meth c Z T h k n) {i : Int} {v : Int32} (hd : decode bytes pc = .ok (.iconst i, 1)) (hv : Int32.ofInt i = v) (q : Go p.tables e below G T (mkF m (pc + 1) ls (.int v :: st))) : Go p.tables e below G T (mkF m pc ls st) := by
  obtain ⟨_, X, -⟩ := W
  exact Go.by (fun t q => XT.iconstV X.here B.1 rfl _ (hb B.2.2.2.1 hd) hv q) q
theorem g_bipush (B : Bdy p Z s m meth c own bytes maxL ret nm) (W : Wk p l e R s m args below meth c Z T h k n) {i : Int} {v : Int32} (hd : decode bytes pc = .ok (.bipush i, 2)) (hv : (Int8.ofInt i).toInt32 = v) (q : Go p.tables e below G T (mkF m (pc + 2) ls (.int v :: st))) : Go p.tables e below G T (mkF m pc ls st) := by
  obtain ⟨_, X, -⟩ := W
  exact Go.by (fun t q => XT.bipushV X.here B.1 rfl _ (hb B.2.2.2.1 hd) hv q) q
theorem g_sipush (B : Bdy p Z s m meth c own bytes maxL ret nm) (W : Wk p l e R s m args below meth c Z T h k n) {i : Int} {v : Int32} (hd : decode bytes pc = .ok (.sipush i, 3)) (hv : (Int16.ofInt i).toInt32 = v) (q : Go p.tables e below G T (mkF m (pc + 3) ls (.int v :: st))) : Go p.tables e below G T (mkF m pc ls st) := by
  obtain ⟨_, X, -⟩ := W
  exact Go.by (fun t q => XT.sipushV X.here B.1 rfl _ (hb B.2.2.2.1 hd) hv q) q
theorem g_lconst (B : Bdy p Z s m meth c own bytes maxL ret nm) (W : Wk p l e R s m args below meth c Z T h k n) {i : Fin 2} {v : Int64} (hd : decode bytes pc = .ok (.lconst i, 1)) (hv : Int64.ofNat i = v) (q : Go p.tables e below G T (mkF m (pc + 1) ls (.long v :: st))) : Go p.tables e below G T (mkF m pc ls st) := by
  obtain ⟨_, X, -⟩ := W
  exact Go.by (fun t q => XT.lconstV X.here B.1 rfl _ (hb B.2.2.2.1 hd) hv q) q
theorem g_aconst_null (B : Bdy p Z s m meth c own bytes maxL ret nm) (W : Wk p l e R s m args below meth c Z T h k n)  (hd : decode bytes pc = .ok (.aconst_null, 1))  (q : Go p.tables e below G T (mkF m (pc + 1) ls (.null :: st))) : Go p.tables e below G T (mkF m pc ls st) := by
  obtain ⟨_, X, -⟩ := W
  exact Go.by (fun t q => XS.aconstNull X.here B.1 rfl (hb B.2.2.2.1 hd) q) q
theorem g_iadd (B : Bdy p Z s m meth c own bytes maxL ret nm) (W : Wk p l e R s m args below meth c Z T h k n) {x y : Int32} (hd : decode bytes pc = .ok (.iadd, 1))  (q : Go p.tables e below G T (mkF m (pc + 1) ls (.int (x + y) :: st))) : Go p.tables e below G T (mkF m pc ls (.int y :: .int x :: st)) := by
  obtain ⟨_, X, -⟩ := W
  exact Go.by (fun t q => XS.iadd X.here B.1 rfl (hb B.2.2.2.1 hd) rfl q) q
theorem g_isub (B : Bdy p Z s m meth c own bytes maxL ret nm) (W : Wk p l e R s m args below meth c Z T h k n) {x y : Int32} (hd : decode bytes pc = .ok (.isub, 1))  (q : Go p.tables e below G T (mkF m (pc + 1) ls (.int (x - y) :: st))) : Go p.tables e below G T (mkF m pc ls (.int y :: .int x :: st)) := by
  obtain ⟨_, X, -⟩ := W
  exact Go.by (fun t q => XS.isub X.here B.1 rfl (hb B.2.2.2.1 hd) rfl q) q
theorem g_iand (B : Bdy p Z s m meth c own bytes maxL ret nm) (W : Wk p l e R s m args below meth c Z T h k n) {x y : Int32} (hd : decode bytes pc = .ok (.iand, 1))  (q : Go p.tables e below G T (mkF m (pc + 1) ls (.int (x &&& y) :: st))) : Go p.tables e below G T (mkF m pc ls (.int y :: .int x :: st)) := by
  obtain ⟨_, X, -⟩ := W
  exact Go.by (fun t q => XS.iand X.here B.1 rfl (hb B.2.2.2.1 hd) rfl q) q
theorem g_imul (B : Bdy p Z s m meth c own bytes maxL ret nm) (W : Wk p l e R s m args below meth c Z T h k n) {x y : Int32} (hd : decode bytes pc = .ok (.imul, 1))  (q : Go p.tables e below G T (mkF m (pc + 1) ls (.int (x * y) :: st))) : Go p.tables e below G T (mkF m pc ls (.int y :: .int x :: st)) := by
  obtain ⟨_, X, -⟩ := W
  exact Go.by (fun t q => XS.imul X.here B.1 rfl (hb B.2.2.2.1 hd) rfl q) q
theorem g_ior (B : Bdy p Z s m meth c own bytes maxL ret nm) (W : Wk p l e R s m args below meth c Z T h k n) {x y : Int32} (hd : decode bytes pc = .ok (.ior, 1))  (q : Go p.tables e below G T (mkF m (pc + 1) ls (.int (x ||| y) :: st))) : Go p.tables e below G T (mkF m pc ls (.int y :: .int x :: st)) := by
  obtain ⟨_, X, -⟩ := W
  exact Go.by (fun t q => XT.ior X.here B.1 rfl (hb B.2.2.2.1 hd) rfl q) q
theorem g_ixor (B : Bdy p Z s m meth c own bytes maxL ret nm) (W : Wk p l e R s m args below meth c Z T h k n) {x y : Int32} (hd : decode bytes pc = .ok (.ixor, 1))  (q : Go p.tables e below G T (mkF m (pc + 1) ls (.int (x ^^^ y) :: st))) : Go p.tables e below G T (mkF m pc ls (.int y :: .int x :: st)) := by
  obtain ⟨_, X, -⟩ := W
  exact Go.by (fun t q => XT.ixor X.here B.1 rfl (hb B.2.2.2.1 hd) rfl q) q
theorem g_ishl (B : Bdy p Z s m meth c own bytes maxL ret nm) (W : Wk p l e R s m args below meth c Z T h k n) {x y : Int32} (hd : decode bytes pc = .ok (.ishl, 1))  (q : Go p.tables e below G T (mkF m (pc + 1) ls (.int (x <<< (y &&& 31)) :: st))) : Go p.tables e below G T (mkF m pc ls (.int y :: .int x :: st)) := by
  obtain ⟨_, X, -⟩ := W
  exact Go.by (fun t q => XT.ishl X.here B.1 rfl (hb B.2.2.2.1 hd) rfl q) q
theorem g_ishr (B : Bdy p Z s m meth c own bytes maxL ret nm) (W : Wk p l e R s m args below meth c Z T h k n) {x y : Int32} (hd : decode bytes pc = .ok (.ishr, 1))  (q : Go p.tables e below G T (mkF m (pc + 1) ls (.int (x >>> (y &&& 31)) :: st))) : Go p.tables e below G T (mkF m pc ls (.int y :: .int x :: st)) := by
  obtain ⟨_, X, -⟩ := W
  exact Go.by (fun t q => XT.ishr X.here B.1 rfl (hb B.2.2.2.1 hd) rfl q) q
theorem g_iushr (B : Bdy p Z s m meth c own bytes maxL ret nm) (W : Wk p l e R s m args below meth c Z T h k n) {x y : Int32} (hd : decode bytes pc = .ok (.iushr, 1))  (q : Go p.tables e below G T (mkF m (pc + 1) ls (.int (XT.ushr x y) :: st))) : Go p.tables e below G T (mkF m pc ls (.int y :: .int x :: st)) := by
  obtain ⟨_, X, -⟩ := W
  exact Go.by (fun t q => XT.iushr X.here B.1 rfl (hb B.2.2.2.1 hd) rfl q) q
theorem g_idiv (B : Bdy p Z s m meth c own bytes maxL ret nm) (W : Wk p l e R s m args below meth c Z T h k n) {x y : Int32} (hd : decode bytes pc = .ok (.idiv, 1)) (hy : y ≠ 0) (q : Go p.tables e below G T (mkF m (pc + 1) ls (.int (x / y) :: st))) : Go p.tables e below G T (mkF m pc ls (.int y :: .int x :: st)) := by
  obtain ⟨_, X, -⟩ := W
  exact Go.by (fun t q => XS.idiv X.here B.1 rfl (hb B.2.2.2.1 hd) rfl hy q) q
theorem g_irem (B : Bdy p Z s m meth c own bytes maxL ret nm) (W : Wk p l e R s m args below meth c Z T h k n) {x y : Int32} (hd : decode bytes pc = .ok (.irem, 1)) (hy : y ≠ 0) (q : Go p.tables e below G T (mkF m (pc + 1) ls (.int (x % y) :: st))) : Go p.tables e below G T (mkF m pc ls (.int y :: .int x :: st))   := by
  obtain ⟨_, X, -⟩ := W
  exact Go.by (fun t q => iremM X B.1 rfl (hb B.2.2.2.1 hd) rfl hy q) q
theorem g_ineg (B : Bdy p Z s m meth c own bytes maxL ret nm) (W : Wk p l e R s m args below meth c Z T h k n) {x : Int32} (hd : decode bytes pc = .ok (.ineg, 1))  (q : Go p.tables e below G T (mkF m (pc + 1) ls (.int (-x) :: st))) : Go p.tables e below G T (mkF m pc ls (.int x :: st)) := by
  obtain ⟨_, X, -⟩ := W
  exact Go.by (fun t q => XS.ineg X.here B.1 rfl (hb B.2.2.2.1 hd) rfl q) q
theorem g_i2c (B : Bdy p Z s m meth c own bytes maxL ret nm) (W : Wk p l e R s m args below meth c Z T h k n) {x : Int32} (hd : decode bytes pc = .ok (.i2c, 1))  (q : Go p.tables e below G T (mkF m (pc + 1) ls (.int x.toUInt32.toUInt16.toUInt32.toInt32 :: st))) : Go p.tables e below G T (mkF m pc ls (.int x :: st)) := by
  obtain ⟨_, X, -⟩ := W
  exact Go.by (fun t q => XT.i2c X.here B.1 rfl (hb B.2.2.2.1 hd) rfl q) q
theorem g_i2b (B : Bdy p Z s m meth c own bytes maxL ret nm) (W : Wk p l e R s m args below meth c Z T h k n) {x : Int32} (hd : decode bytes pc = .ok (.i2b, 1))  (q : Go p.tables e below G T (mkF m (pc + 1) ls (.int x.toInt8.toInt32 :: st))) : Go p.tables e below G T (mkF m pc ls (.int x :: st)) := by
  obtain ⟨_, X, -⟩ := W
  exact Go.by (fun t q => XT.i2b X.here B.1 rfl (hb B.2.2.2.1 hd) rfl q) q
theorem g_i2l (B : Bdy p Z s m meth c own bytes maxL ret nm) (W : Wk p l e R s m args below meth c Z T h k n) {x : Int32} (hd : decode bytes pc = .ok (.i2l, 1))  (q : Go p.tables e below G T (mkF m (pc + 1) ls (.long x.toInt64 :: st))) : Go p.tables e below G T (mkF m pc ls (.int x :: st)) := by
  obtain ⟨_, X, -⟩ := W
  exact Go.by (fun t q => XT.i2l X.here B.1 rfl (hb B.2.2.2.1 hd) rfl q) q
theorem g_l2i (B : Bdy p Z s m meth c own bytes maxL ret nm) (W : Wk p l e R s m args below meth c Z T h k n) {x : Int64} (hd : decode bytes pc = .ok (.l2i, 1))  (q : Go p.tables e below G T (mkF m (pc + 1) ls (.int x.toInt32 :: st))) : Go p.tables e below G T (mkF m pc ls (.long x :: st)) := by
  obtain ⟨_, X, -⟩ := W
  exact Go.by (fun t q => XT.l2i X.here B.1 rfl (hb B.2.2.2.1 hd) rfl q) q
theorem g_land (B : Bdy p Z s m meth c own bytes maxL ret nm) (W : Wk p l e R s m args below meth c Z T h k n) {x y : Int64} (hd : decode bytes pc = .ok (.land, 1))  (q : Go p.tables e below G T (mkF m (pc + 1) ls (.long (x &&& y) :: st))) : Go p.tables e below G T (mkF m pc ls (.long y :: .long x :: st)) := by
  obtain ⟨_, X, -⟩ := W
  exact Go.by (fun t q => XT.land X.here B.1 rfl (hb B.2.2.2.1 hd) rfl q) q
theorem g_ladd (B : Bdy p Z s m meth c own bytes maxL ret nm) (W : Wk p l e R s m args below meth c Z T h k n) {x y : Int64} (hd : decode bytes pc = .ok (.ladd, 1))  (q : Go p.tables e below G T (mkF m (pc + 1) ls (.long (x + y) :: st))) : Go p.tables e below G T (mkF m pc ls (.long y :: .long x :: st)) := by
  obtain ⟨_, X, -⟩ := W
  exact Go.by (fun t q => XT.ladd X.here B.1 rfl (hb B.2.2.2.1 hd) rfl q) q
theorem g_lcmp (B : Bdy p Z s m meth c own bytes maxL ret nm) (W : Wk p l e R s m args below meth c Z T h k n) {x y : Int64} (hd : decode bytes pc = .ok (.lcmp, 1))  (q : Go p.tables e below G T (mkF m (pc + 1) ls (.int (XT.cmpL x y) :: st))) : Go p.tables e below G T (mkF m pc ls (.long y :: .long x :: st)) := by
  obtain ⟨_, X, -⟩ := W
  exact Go.by (fun t q => XT.lcmp X.here B.1 rfl (hb B.2.2.2.1 hd) rfl q) q
theorem g_lushr (B : Bdy p Z s m meth c own bytes maxL ret nm) (W : Wk p l e R s m args below meth c Z T h k n) {x : Int64} {y : Int32} (hd : decode bytes pc = .ok (.lushr, 1))  (q : Go p.tables e below G T (mkF m (pc + 1) ls (.long (XT.ushrL x y) :: st))) : Go p.tables e below G T (mkF m pc ls (.int y :: .long x :: st)) := by
  obtain ⟨_, X, -⟩ := W
  exact Go.by (fun t q => XT.lushr X.here B.1 rfl (hb B.2.2.2.1 hd) rfl q) q
theorem g_iinc (B : Bdy p Z s m meth c own bytes maxL ret nm) (W : Wk p l e R s m args below meth c Z T h k n) {i : Nat} {cst : Int} {x v : Int32} {l' : Array Slot} (hd : decode bytes pc = .ok (.iinc i cst, 3)) (hv : Int32.ofInt cst = v) (hl : ls[i]? = some (.val (.int x))) (hl' : storeLocals ls i (.int (x + v)) = some l') (q : Go p.tables e below G T (mkF m (pc + 3) l' st)) : Go p.tables e below G T (mkF m pc ls st) := by
  obtain ⟨_, X, -⟩ := W
  exact Go.by (fun t q => XT.iincV X.here B.1 rfl _ (hb B.2.2.2.1 hd) hv hl hl' q) q
theorem g_dup (B : Bdy p Z s m meth c own bytes maxL ret nm) (W : Wk p l e R s m args below meth c Z T h k n) {v : Value} (hd : decode bytes pc = .ok (.dup, 1)) (hv : v.category = 1) (q : Go p.tables e below G T (mkF m (pc + 1) ls (v :: v :: st))) : Go p.tables e below G T (mkF m pc ls (v :: st)) := by
  obtain ⟨_, X, -⟩ := W
  exact Go.by (fun t q => XS.dup X.here B.1 rfl (hb B.2.2.2.1 hd) rfl hv q) q
theorem g_dup_x1 (B : Bdy p Z s m meth c own bytes maxL ret nm) (W : Wk p l e R s m args below meth c Z T h k n) {v w : Value} (hd : decode bytes pc = .ok (.dup_x1, 1)) (hv : v.category = 1) (hw' : w.category = 1) (q : Go p.tables e below G T (mkF m (pc + 1) ls (v :: w :: v :: st))) : Go p.tables e below G T (mkF m pc ls (v :: w :: st)) := by
  obtain ⟨_, X, -⟩ := W
  exact Go.by (fun t q => XT.dupX1 X.here B.1 rfl (hb B.2.2.2.1 hd) rfl hv hw' q) q
theorem g_pop (B : Bdy p Z s m meth c own bytes maxL ret nm) (W : Wk p l e R s m args below meth c Z T h k n) {v : Value} (hd : decode bytes pc = .ok (.pop, 1)) (hv : v.category = 1) (q : Go p.tables e below G T (mkF m (pc + 1) ls st)) : Go p.tables e below G T (mkF m pc ls (v :: st)) := by
  obtain ⟨_, X, -⟩ := W
  exact Go.by (fun t q => XT.pop X.here B.1 rfl (hb B.2.2.2.1 hd) rfl hv q) q
theorem g_goto (B : Bdy p Z s m meth c own bytes maxL ret nm) (W : Wk p l e R s m args below meth c Z T h k n)  {o : Int} {pc' : Nat} (hd : decode bytes pc = .ok (.goto o, 3))  (hp : (pc : Int) + o = (pc' : Int)) (q : Go p.tables e below G T (mkF m pc' ls st)) : Go p.tables e below G T (mkF m pc ls st)   := by
  obtain ⟨_, X, -⟩ := W
  exact Go.by (fun t q => XS.goto X.here B.1 rfl rfl (hb B.2.2.2.1 hd)  (by rw [hp]; exact Int.natCast_nonneg _) (by rw [hp]; exact Int.toNat_natCast _) q) q
theorem g_if_y (B : Bdy p Z s m meth c own bytes maxL ret nm) (W : Wk p l e R s m args below meth c Z T h k n) {cd : ClassFile.Cond} {x : Int32} {o : Int} {pc' : Nat} (hd : decode bytes pc = .ok (.ifCond cd o, 3)) (hc : ifCond.holds cd x = true) (hp : (pc : Int) + o = (pc' : Int)) (q : Go p.tables e below G T (mkF m pc' ls st)) : Go p.tables e below G T (mkF m pc ls (.int x :: st))   := by
  obtain ⟨_, X, -⟩ := W
  exact Go.by (fun t q => XS.ifYes X.here B.1 rfl rfl (hb B.2.2.2.1 hd) rfl hc (by rw [hp]; exact Int.natCast_nonneg _) (by rw [hp]; exact Int.toNat_natCast _) q) q
theorem g_if_n (B : Bdy p Z s m meth c own bytes maxL ret nm) (W : Wk p l e R s m args below meth c Z T h k n) {cd : ClassFile.Cond} {x : Int32} {o : Int} (hd : decode bytes pc = .ok (.ifCond cd o, 3)) (hc : ifCond.holds cd x = false) (q : Go p.tables e below G T (mkF m (pc + 3) ls st)) : Go p.tables e below G T (mkF m pc ls (.int x :: st))   := by
  obtain ⟨_, X, -⟩ := W
  exact Go.by (fun t q => XS.ifNo X.here B.1 rfl (hb B.2.2.2.1 hd) rfl hc q) q
theorem g_icmp_y (B : Bdy p Z s m meth c own bytes maxL ret nm) (W : Wk p l e R s m args below meth c Z T h k n) {cd : ClassFile.Cond} {x y : Int32} {o : Int} {pc' : Nat} (hd : decode bytes pc = .ok (.if_icmp cd o, 3)) (hc : if_icmp.holds cd x y = true) (hp : (pc : Int) + o = (pc' : Int)) (q : Go p.tables e below G T (mkF m pc' ls st)) : Go p.tables e below G T (mkF m pc ls (.int y :: .int x :: st))   := by
  obtain ⟨_, X, -⟩ := W
  exact Go.by (fun t q => XS.icmpYes X.here B.1 rfl rfl (hb B.2.2.2.1 hd) rfl hc (by rw [hp]; exact Int.natCast_nonneg _) (by rw [hp]; exact Int.toNat_natCast _) q) q
theorem g_icmp_n (B : Bdy p Z s m meth c own bytes maxL ret nm) (W : Wk p l e R s m args below meth c Z T h k n) {cd : ClassFile.Cond} {x y : Int32} {o : Int} (hd : decode bytes pc = .ok (.if_icmp cd o, 3)) (hc : if_icmp.holds cd x y = false) (q : Go p.tables e below G T (mkF m (pc + 3) ls st)) : Go p.tables e below G T (mkF m pc ls (.int y :: .int x :: st))   := by
  obtain ⟨_, X, -⟩ := W
  exact Go.by (fun t q => XS.icmpNo X.here B.1 rfl (hb B.2.2.2.1 hd) rfl hc q) q
theorem g_ifnull_y (B : Bdy p Z s m meth c own bytes maxL ret nm) (W : Wk p l e R s m args below meth c Z T h k n)  {o : Int} {pc' : Nat} (hd : decode bytes pc = .ok (.ifnull o, 3))  (hp : (pc : Int) + o = (pc' : Int)) (q : Go p.tables e below G T (mkF m pc' ls st)) : Go p.tables e below G T (mkF m pc ls (.null :: st))   := by
  obtain ⟨_, X, -⟩ := W
  exact Go.by (fun t q => XS.ifnullYes X.here B.1 rfl rfl (hb B.2.2.2.1 hd) rfl (by rw [hp]; exact Int.natCast_nonneg _) (by rw [hp]; exact Int.toNat_natCast _) q) q
theorem g_ifnull_n (B : Bdy p Z s m meth c own bytes maxL ret nm) (W : Wk p l e R s m args below meth c Z T h k n) {a : Addr} {o : Int} (hd : decode bytes pc = .ok (.ifnull o, 3))  (q : Go p.tables e below G T (mkF m (pc + 3) ls st)) : Go p.tables e below G T (mkF m pc ls (.ref a :: st))   := by
  obtain ⟨_, X, -⟩ := W
  exact Go.by (fun t q => XS.ifnullNo X.here B.1 rfl (hb B.2.2.2.1 hd) rfl q) q
theorem g_ifnonnull_y (B : Bdy p Z s m meth c own bytes maxL ret nm) (W : Wk p l e R s m args below meth c Z T h k n) {a : Addr} {o : Int} {pc' : Nat} (hd : decode bytes pc = .ok (.ifnonnull o, 3))  (hp : (pc : Int) + o = (pc' : Int)) (q : Go p.tables e below G T (mkF m pc' ls st)) : Go p.tables e below G T (mkF m pc ls (.ref a :: st))   := by
  obtain ⟨_, X, -⟩ := W
  exact Go.by (fun t q => XT.ifnonnullYes X.here B.1 rfl rfl (hb B.2.2.2.1 hd) rfl (by rw [hp]; exact Int.natCast_nonneg _) (by rw [hp]; exact Int.toNat_natCast _) q) q
theorem g_ifnonnull_n (B : Bdy p Z s m meth c own bytes maxL ret nm) (W : Wk p l e R s m args below meth c Z T h k n)  {o : Int} (hd : decode bytes pc = .ok (.ifnonnull o, 3))  (q : Go p.tables e below G T (mkF m (pc + 3) ls st)) : Go p.tables e below G T (mkF m pc ls (.null :: st))   := by
  obtain ⟨_, X, -⟩ := W
  exact Go.by (fun t q => XT.ifnonnullNo X.here B.1 rfl (hb B.2.2.2.1 hd) rfl q) q
theorem g_acmp_y (B : Bdy p Z s m meth c own bytes maxL ret nm) (W : Wk p l e R s m args below meth c Z T h k n) {cd : ClassFile.ACond} {x y : Value} {o : Int} {pc' : Nat} (hd : decode bytes pc = .ok (.if_acmp cd o, 3)) (hx' : x.isRef = true) (hy' : y.isRef = true) (hc : XT.acmp cd x y = true) (hp : (pc : Int) + o = (pc' : Int)) (q : Go p.tables e below G T (mkF m pc' ls st)) : Go p.tables e below G T (mkF m pc ls (y :: x :: st))   := by
  obtain ⟨_, X, -⟩ := W
  exact Go.by (fun t q => XT.acmpYes X.here B.1 rfl rfl (hb B.2.2.2.1 hd) rfl hx' hy' hc (by rw [hp]; exact Int.natCast_nonneg _) (by rw [hp]; exact Int.toNat_natCast _) q) q
theorem g_acmp_n (B : Bdy p Z s m meth c own bytes maxL ret nm) (W : Wk p l e R s m args below meth c Z T h k n) {cd : ClassFile.ACond} {x y : Value} {o : Int} (hd : decode bytes pc = .ok (.if_acmp cd o, 3)) (hx' : x.isRef = true) (hy' : y.isRef = true) (hc : XT.acmp cd x y = false) (q : Go p.tables e below G T (mkF m (pc + 3) ls st)) : Go p.tables e below G T (mkF m pc ls (y :: x :: st))   := by
  obtain ⟨_, X, -⟩ := W
  exact Go.by (fun t q => XT.acmpNo X.here B.1 rfl (hb B.2.2.2.1 hd) rfl hx' hy' hc q) q
theorem g_dia (P : Prop) [Decidable P] {tb : Tables} {F : JFrame} {pc' : Nat} (h1 : P → Go tb e below G T (mkF m pc' ls (.int 1 :: st)) → Go tb e below G T F) (h0 : ¬ P → Go tb e below G T (mkF m pc' ls (.int 0 :: st)) → Go tb e below G T F) (q : Go tb e below G T (mkF m pc' ls (.int (bi (decide P)) :: st))) : Go tb e below G T F := by
  by_cases hp : P
  · rw [decide_eq_true hp] at q; exact h1 hp q
  · rw [decide_eq_false hp] at q; exact h0 hp q
theorem g_diab (b : Bool) {tb : Tables} {F : JFrame} {pc' : Nat} (h1 : b = true → Go tb e below G T (mkF m pc' ls (.int 1 :: st)) → Go tb e below G T F) (h0 : b = false → Go tb e below G T (mkF m pc' ls (.int 0 :: st)) → Go tb e below G T F) (q : Go tb e below G T (mkF m pc' ls (.int (bi b) :: st))) : Go tb e below G T F := by
  cases b
  · exact h0 rfl q
  · exact h1 rfl q
theorem g_ldcI (B : Bdy p Z s m meth c own bytes maxL ret nm) (W : Wk p l e R s m args below meth c Z T h k n) {i : Nat} {v : Int32} (hd : decode bytes pc = .ok (.ldc i, 2)) (w : (Cond.constant own i v).before a0 Z = true) (q : Go p.tables e below G T (mkF m (pc + 2) ls (.int v :: st))) : Go p.tables e below G T (mkF m pc ls st) := by
  obtain ⟨_, X, -⟩ := W
  exact Go.by (fun t q => X.ldcI B.1 B.2.2.1 (mv B.2.1 w) rfl (hb B.2.2.2.1 hd) q) q
theorem g_ldcL (B : Bdy p Z s m meth c own bytes maxL ret nm) (W : Wk p l e R s m args below meth c Z T h k n) {i : Nat} {v : Int64} (hd : decode bytes pc = .ok (.ldc2_w i, 3)) (w : (Cond.constantLong own i v).before a0 Z = true) (q : Go p.tables e below G T (mkF m (pc + 3) ls (.long v :: st))) : Go p.tables e below G T (mkF m pc ls st) := by
  obtain ⟨_, X, -⟩ := W
  exact Go.by (fun t q => X.ldc2J B.1 B.2.2.1 (mv B.2.1 w) rfl (hb B.2.2.2.1 hd) q) q
/-! ### the heap's steps -/
theorem x_new (B : Bdy p Z s m meth c own bytes maxL ret nm) (W : Wk p l e R s m args below meth c Z T h k n) {C : String} {i sz : Nat} (hd : decode bytes pc = .ok (.new i, 3)) (w : (Cond.classLink own i C).before a0 Z = true) (wi : (Cond.instantiable C sz).before a0 Z = true) (wz : (Cond.initialized C).before a0 Z = true) (hc : k + 1 ≤ R.cells) (hl : n + sz ≤ R.slots) (ls : Array Slot) (st : List Value) :
    ∃ T' h' b, b = h.size ∧ Wk p l e R s m args below meth c Z T' h' (k + 1) (n + sz) ∧ Keep h h' [] ∧ Exa Z h' b C ∧ (∀ {O nf d : String} {ty : FieldType}, Laid Z a0 C O nf d → parseFieldDescriptor d = some ty → Fld Z h' b O nf d (defaultValue ty)) ∧
      (∀ G, Go p.tables e below G T' (mkF m (pc + 3) ls (.ref b :: st)) → Go p.tables e below G T (mkF m pc ls st)) := by
  obtain ⟨locs, X, eT, N, O⟩ := W
  obtain ⟨T', h', X', e', E', A', D', -, st'⟩ := newO X B.1 B.2.1 B.2.2.1 w wi wz eT (g := mkF m pc ls st) rfl (hb B.2.2.2.1 hd) hc hl
  exact ⟨T', h', _, rfl, ⟨locs, X', e', N, O.ext E'⟩, (Keep.refl h []).ext E', A', D', fun G q => Go.by st' q⟩
theorem x_init (B : Bdy p Z s m meth c own bytes maxL ret nm) (W : Wk p l e R s m args below meth c Z T h k n) {i : Nat} (hd : decode bytes pc = .ok (.invokespecial i, 3)) (w1 : (Cond.methodLink own i Lib.objectInit).before a0 Z = true) (w2 : (Cond.instanceMethod Lib.objectInit).before a0 Z = true)
    (w3 : (Cond.code Lib.objectInit ⟨#[0xb1]⟩ 1 none).before a0 Z = true) (b : Addr) (ls : Array Slot) (st : List Value) (hsz : ls.size = maxL) (V : Nat) (hV : (st.map fun v => v.category).sum = V) (hf : 1 ≤ R.frames) (hl : V + 12 ≤ R.locals) :
    ∃ T', Wk p l e R s m args below meth c Z T' h k n ∧ (∀ G, Go p.tables e below G T' (mkF m (pc + 3) ls st) → Go p.tables e below G T (mkF m pc ls (.ref b :: st))) := by
  obtain ⟨locs, X, eT, N, O⟩ := W
  obtain ⟨T', X', e', st'⟩ := initO X B.1 B.2.1 B.2.2.1 w1 w2 w3 eT (g := mkF m pc ls (.ref b :: st)) rfl (hsz.trans B.2.2.2.2.1.symm) rfl (hb B.2.2.2.1 hd) hf (W := V) (by show 2 * 0 + _ ≤ _; omega) hl
  exact ⟨T', ⟨locs, X', e', N, O⟩, fun G q => Go.by st' q⟩
theorem x_get (B : Bdy p Z s m meth c own bytes maxL ret nm) (W : Wk p l e R s m args below meth c Z T h k n) {R0 O nf d host : String} {i : Nat} {b : Addr} {v : Value} (hd : decode bytes pc = .ok (.getfield i, 3)) (w : (Cond.fieldLink own i R0 nf d).before a0 Z = true ∨ (Cond.fieldLinkNest own i R0 nf d host).before a0 Z = true) (via : Via Z R0 O nf d) (F : Fld Z h b O nf d v) (ls : Array Slot) (st : List Value) :
    ∃ T', Wk p l e R s m args below meth c Z T' h k n ∧ (∀ G, Go p.tables e below G T' (mkF m (pc + 3) ls (v :: st)) → Go p.tables e below G T (mkF m pc ls (.ref b :: st))) := by
  obtain ⟨locs, X, eT, N, O'⟩ := W
  obtain ⟨T', X', e', st'⟩ := getF X B.1 B.2.1 B.2.2.1 w via eT F (g := mkF m pc ls (.ref b :: st)) rfl rfl (hb B.2.2.2.1 hd)
  exact ⟨T', ⟨locs, X', e', N, O'⟩, fun G q => Go.by st' q⟩
theorem x_gets (B : Bdy p Z s m meth c own bytes maxL ret nm) (W : Wk p l e R s m args below meth c Z T h k n) {R0 O nf d host : String} {i : Nat} {v : Value} (hd : decode bytes pc = .ok (.getstatic i, 3)) (w : (Cond.fieldLink own i R0 nf d).before a0 Z = true ∨ (Cond.fieldLinkNest own i R0 nf d host).before a0 Z = true) (via : Via Z R0 O nf d) (F : Sta Z Z.heap O nf d v) (ls : Array Slot) (st : List Value) :
    ∃ T', Wk p l e R s m args below meth c Z T' h k n ∧ (∀ G, Go p.tables e below G T' (mkF m (pc + 3) ls (v :: st)) → Go p.tables e below G T (mkF m pc ls st)) := by
  obtain ⟨locs, X, eT, N, O'⟩ := W
  obtain ⟨T', X', e', st'⟩ := getS2 X B.1 B.2.1 B.2.2.1 w via eT (F.ext O'.2) (g := mkF m pc ls st) rfl (hb B.2.2.2.1 hd)
  exact ⟨T', ⟨locs, X', e', N, O'⟩, fun G q => Go.by st' q⟩
theorem x_put (B : Bdy p Z s m meth c own bytes maxL ret nm) (W : Wk p l e R s m args below meth c Z T h k n) {R0 O nf d C : String} {i kk : Nat} {ty : FieldType} {b : Addr} {v v' old : Value} (hd : decode bytes pc = .ok (.putfield i, 3)) (w : (Cond.fieldLink own i R0 nf d).before a0 Z = true) (via : Via Z R0 O nf d) (F : Fld Z h b O nf d old) (E : Exa Z h b C) (L : (Cond.lays C O nf d).before a0 Z = true ∨ ((Cond.laysFinal C O nf d).before a0 Z = true ∧ own = O ∧ nm = "<init>")) (wi : (Cond.instantiable C kk).before a0 Z = true)
    (hty : parseFieldDescriptor d = some ty) (hn : narrow ty v = v') (hf : fits ty v' = true) (hb' : Z.heap.size ≤ b) (ls : Array Slot) (st : List Value) :
    ∃ T' h', Wk p l e R s m args below meth c Z T' h' k n ∧ Keep h h' [b] ∧ Wr h h' b (RoadKit.slotOf Z O nf d) v' ∧ Fld Z h' b O nf d v' ∧ Exa Z h' b C ∧ (∀ G, Go p.tables e below G T' (mkF m (pc + 3) ls st) → Go p.tables e below G T (mkF m pc ls (v :: .ref b :: st))) := by
  obtain ⟨locs, X, eT, N, O'⟩ := W
  obtain ⟨T', h', X', e', W', st'⟩ := putFN X B.1 B.2.1 B.2.2.1 w via eT F E (L.imp id fun q => ⟨q.1, q.2.1, B.nameOf.trans q.2.2⟩) wi hty hn hf (g := mkF m pc ls (v :: .ref b :: st)) rfl rfl (hb B.2.2.2.1 hd)
  exact ⟨T', h', ⟨_, X', e', Fr.snoc X' N hb', O'.wr W' hb'⟩, Keep.of_wr W', W', F.same W', E.wr W', fun G q => Go.by st' q⟩
theorem x_instY (B : Bdy p Z s m meth c own bytes maxL ret nm) (W : Wk p l e R s m args below meth c Z T h k n) {K : String} {i : Nat} {b : Addr} (hd : decode bytes pc = .ok (.instanceof i, 3)) (w : (Cond.classLink own i K).before a0 Z = true) (F : Ins Z h b K true) (ls : Array Slot) (st : List Value) :
    ∃ T', Wk p l e R s m args below meth c Z T' h k n ∧ (∀ G, Go p.tables e below G T' (mkF m (pc + 3) ls (.int 1 :: st)) → Go p.tables e below G T (mkF m pc ls (.ref b :: st))) := by
  obtain ⟨locs, X, eT, N, O⟩ := W
  obtain ⟨T', X', e', st'⟩ := instY X B.1 B.2.1 B.2.2.1 w eT F (g := mkF m pc ls (.ref b :: st)) rfl rfl (hb B.2.2.2.1 hd)
  exact ⟨T', ⟨locs, X', e', N, O⟩, fun G q => Go.by st' q⟩
theorem x_instN (B : Bdy p Z s m meth c own bytes maxL ret nm) (W : Wk p l e R s m args below meth c Z T h k n) {K C : String} {i : Nat} {b : Addr} (hd : decode bytes pc = .ok (.instanceof i, 3)) (w : (Cond.classLink own i K).before a0 Z = true) (E : Exa Z h b C) (F : ∃ c t, Z.vm.findClass C = some c ∧ Z.vm.findClass K = some t ∧ Z.vm.assignable c t = false) (ls : Array Slot) (st : List Value) :
    ∃ T', Wk p l e R s m args below meth c Z T' h k n ∧ (∀ G, Go p.tables e below G T' (mkF m (pc + 3) ls (.int 0 :: st)) → Go p.tables e below G T (mkF m pc ls (.ref b :: st))) := by
  obtain ⟨locs, X, eT, N, O⟩ := W
  obtain ⟨T', X', e', st'⟩ := instNo X B.1 B.2.1 B.2.2.1 w eT E F (g := mkF m pc ls (.ref b :: st)) rfl rfl (hb B.2.2.2.1 hd)
  exact ⟨T', ⟨locs, X', e', N, O⟩, fun G q => Go.by st' q⟩
theorem x_castY (B : Bdy p Z s m meth c own bytes maxL ret nm) (W : Wk p l e R s m args below meth c Z T h k n) {K : String} {i : Nat} {b : Addr} (hd : decode bytes pc = .ok (.checkcast i, 3)) (w : (Cond.classLink own i K).before a0 Z = true) (F : Ins Z h b K true) (ls : Array Slot) (st : List Value) :
    ∃ T', Wk p l e R s m args below meth c Z T' h k n ∧ (∀ G, Go p.tables e below G T' (mkF m (pc + 3) ls (.ref b :: st)) → Go p.tables e below G T (mkF m pc ls (.ref b :: st))) := by
  obtain ⟨locs, X, eT, N, O⟩ := W
  obtain ⟨T', X', e', st'⟩ := castY X B.1 B.2.1 B.2.2.1 w eT F (g := mkF m pc ls (.ref b :: st)) rfl rfl (hb B.2.2.2.1 hd)
  exact ⟨T', ⟨locs, X', e', N, O⟩, fun G q => Go.by st' q⟩
/-! ### arrays -/
theorem x_newA (B : Bdy p Z s m meth c own bytes maxL ret nm) (W : Wk p l e R s m args below meth c Z T h k n) {aty : ArrayType} {z : Int32} (cap : Nat) (hd : decode bytes pc = .ok (.newarray aty, 2)) (w : (Cond.arrayClass (newarray.typeOf aty)).before a0 Z = true) (hn : ¬ z < 0) (hcap : z.toNatClampNeg ≤ cap) (hbg : cap * 8 ≤ 536870912) (hc : k + 1 ≤ R.cells) (hl : n + cap ≤ R.slots) (ls : Array Slot) (st : List Value) :
    ∃ T' h' b cA, b = h.size ∧ Wk p l e R s m args below meth c Z T' h' (k + 1) (n + cap) ∧ Keep h h' [] ∧ Arv Z h' b cA (newarray.typeOf aty) z (List.replicate cap (defaultValue (newarray.typeOf aty))) (defaultValue (newarray.typeOf aty)) ∧
      (∀ G, Go p.tables e below G T' (mkF m (pc + 2) ls (.ref b :: st)) → Go p.tables e below G T (mkF m pc ls (.int z :: st))) := by
  obtain ⟨locs, X, eT, N, O⟩ := W
  obtain ⟨T', h', cA, X', e', E', A', st'⟩ := newP X B.1 B.2.1 w eT (g := mkF m pc ls (.int z :: st)) rfl (hb B.2.2.2.1 hd) rfl hn hcap hbg hc hl
  exact ⟨T', h', _, cA, rfl, ⟨locs, X', e', N, O.ext E'⟩, (Keep.refl h []).ext E', (Arv.new A' hn).pad (vs' := [] ++ List.replicate cap _) (pad_rep [] _ cap), fun G q => Go.by st' q⟩
theorem arv_put {kc : ClassId} {ty : FieldType} {z j : Int32} {vs : List Value} {dv v : Value} {b : Addr} (F : Arv Z h b kc ty z vs dv) (hv : fits ty v = true) (hW : Wr h h' b j.toNatClampNeg v) (hi : j.toNatClampNeg < vs.length) : Arv Z h' b kc ty z (vs.set j.toNatClampNeg v) dv := by
  obtain ⟨cl, A, r1, r2, r3, H, Gf⟩ := F
  exact Arv.set A r1 r2 r3 H Gf hv hW _ rfl hi
theorem x_castore (B : Bdy p Z s m meth c own bytes maxL ret nm) (W : Wk p l e R s m args below meth c Z T h k n) {kc : ClassId} {z j x : Int32} {vs : List Value} {dv : Value} {b : Addr} (hd : decode bytes pc = .ok (.castore, 1)) (F : Arv Z h b kc .char z vs dv) (hj : ¬ j < 0 ∧ j < z) (hi : j.toNatClampNeg < vs.length) (hb' : Z.heap.size ≤ b) (ls : Array Slot) (st : List Value) :
    ∃ T' h', Wk p l e R s m args below meth c Z T' h' k n ∧ Keep h h' [b] ∧ Arv Z h' b kc .char z (vs.set j.toNatClampNeg (.int (nar .char x))) dv ∧ (∀ G, Go p.tables e below G T' (mkF m (pc + 1) ls st) → Go p.tables e below G T (mkF m pc ls (.int x :: .int j :: .ref b :: st))) := by
  obtain ⟨locs, X, eT, N, O⟩ := W
  have F' := F
  obtain ⟨cl, A, r1, r2, r3, Hs, Gf⟩ := F
  obtain ⟨T', h', X', e', W', st'⟩ := stC X B.1 B.2.1 eT A (inb_of r2 hj) (g := mkF m pc ls (.int x :: .int j :: .ref b :: st)) rfl rfl (hb B.2.2.2.1 hd)
  exact ⟨T', h', ⟨_, X', e', Fr.snoc X' N hb', O.wr W' hb'⟩, Keep.of_wr W', arv_put F' (fits_nar_char _) W' hi, fun G q => Go.by st' q⟩
theorem arv_read {kc : ClassId} {ty : FieldType} {z : Int32} {vs : List Value} {dv : Value} {b : Addr} (F : Arv Z h b kc ty z vs dv) {j : Int32} (hj : ¬ j < 0 ∧ j < z) {v : Value} (hv : vs.getD j.toNatClampNeg dv = v) : ∃ cl : Cell, Arr Z h b cl ty ∧ ¬ (j < 0 ∨ cl.slots.size ≤ j.toNatClampNeg) ∧ cl.slots[j.toNatClampNeg]? = some v := by
  obtain ⟨cl, A, r1, r2, r3, H, -⟩ := F
  exact ⟨cl, A, inb_of r2 hj, H.at (inb_of r2 hj) hv⟩
theorem g_caload (B : Bdy p Z s m meth c own bytes maxL ret nm) (W : Wk p l e R s m args below meth c Z T h k n) {kc : ClassId} {z j : Int32} {vs : List Value} {dv v : Value} {b : Addr} (hd : decode bytes pc = .ok (.caload, 1)) (F : Arv Z h b kc .char z vs dv) (hj : ¬ j < 0 ∧ j < z) (hv : vs.getD j.toNatClampNeg dv = v)
    (q : Go p.tables e below G T (mkF m (pc + 1) ls (v :: st))) : Go p.tables e below G T (mkF m pc ls (.int j :: .ref b :: st)) := by
  obtain ⟨locs, X, eT, N, O⟩ := W
  obtain ⟨cl, A, hin, hat⟩ := arv_read F hj hv
  exact Go.by (X.caload B.1 (by rw [eT]; exact A.1) (State.isArrayOf_alike B.2.1.alike A.2.1) A.2.2 hin hat (g := mkF m pc ls (.int j :: .ref b :: st)) rfl rfl (hb B.2.2.2.1 hd)) q
theorem g_caloadK (B : Bdy p Z s m meth c own bytes maxL ret nm) (W : Wk p l e R s m args below meth c Z T h k n) {j : Int32} {v : Value} {cl : Cell} {b : Addr} (hd : decode bytes pc = .ok (.caload, 1)) (A : Arr Z h b cl .char) (hin : ¬ (j < 0 ∨ cl.slots.size ≤ j.toNatClampNeg)) (hat : cl.slots[j.toNatClampNeg]? = some v)
    (q : Go p.tables e below G T (mkF m (pc + 1) ls (v :: st))) : Go p.tables e below G T (mkF m pc ls (.int j :: .ref b :: st)) := by
  obtain ⟨locs, X, eT, N, O⟩ := W
  exact Go.by (X.caload B.1 (by rw [eT]; exact A.1) (State.isArrayOf_alike B.2.1.alike A.2.1) A.2.2 hin hat (g := mkF m pc ls (.int j :: .ref b :: st)) rfl rfl (hb B.2.2.2.1 hd)) q
theorem g_alenK (B : Bdy p Z s m meth c own bytes maxL ret nm) (W : Wk p l e R s m args below meth c Z T h k n) {ty : FieldType} {z : Int32} {cl : Cell} {b : Addr} (hd : decode bytes pc = .ok (.arraylength, 1)) (A : Arr Z h b cl ty) (hz : cl.slots.size.toInt32 = z)
    (q : Go p.tables e below G T (mkF m (pc + 1) ls (.int z :: st))) : Go p.tables e below G T (mkF m pc ls (.ref b :: st)) := by
  obtain ⟨locs, X, eT, N, O⟩ := W
  refine Go.by (X.arraylength B.1 (by rw [eT]; exact A.1) (State.isArrayOf_alike B.2.1.alike A.2.1) (g := mkF m pc ls (.ref b :: st)) rfl rfl (hb B.2.2.2.1 hd)) ?_
  rw [hz]; exact q
theorem g_aalen (B : Bdy p Z s m meth c own bytes maxL ret nm) (W : Wk p l e R s m args below meth c Z T h k n) {kc : ClassId} {ty : FieldType} {z : Int32} {vs : List Value} {dv : Value} {b : Addr} (hd : decode bytes pc = .ok (.arraylength, 1)) (F : Arv Z h b kc ty z vs dv)
    (q : Go p.tables e below G T (mkF m (pc + 1) ls (.int z :: st))) : Go p.tables e below G T (mkF m pc ls (.ref b :: st)) := by
  obtain ⟨locs, X, eT, N, O⟩ := W
  obtain ⟨cl, A, r1, r2, r3, H, -⟩ := F
  refine Go.by (X.arraylength B.1 (by rw [eT]; exact A.1) (State.isArrayOf_alike B.2.1.alike A.2.1) (g := mkF m pc ls (.ref b :: st)) rfl rfl (hb B.2.2.2.1 hd)) ?_
  rw [len_of r2 r3]; exact q
theorem g_aaload (B : Bdy p Z s m meth c own bytes maxL ret nm) (W : Wk p l e R s m args below meth c Z T h k n) {ty : FieldType} {j : Int32} {v : Value} {cl : Cell} {b : Addr} (hd : decode bytes pc = .ok (.aaload, 1)) (A : Arr Z h b cl ty) (ht : ty.isReference = true) (hin : ¬ (j < 0 ∨ cl.slots.size ≤ j.toNatClampNeg)) (hat : cl.slots[j.toNatClampNeg]? = some v)
    (q : Go p.tables e below G T (mkF m (pc + 1) ls (v :: st))) : Go p.tables e below G T (mkF m pc ls (.int j :: .ref b :: st)) := by
  obtain ⟨locs, X, eT, N, O⟩ := W
  exact Go.by (X.aaload B.1 (by rw [eT]; exact A.1) (State.isArrayOf_alike B.2.1.alike A.2.1) ht A.2.2 hin hat (g := mkF m pc ls (.int j :: .ref b :: st)) rfl rfl (hb B.2.2.2.1 hd)) q
theorem g_instNull (B : Bdy p Z s m meth c own bytes maxL ret nm) (W : Wk p l e R s m args below meth c Z T h k n) {i : Nat} (hd : decode bytes pc = .ok (.instanceof i, 3)) (q : Go p.tables e below G T (mkF m (pc + 3) ls (.int 0 :: st))) : Go p.tables e below G T (mkF m pc ls (.null :: st)) := by
  obtain ⟨_, X, -⟩ := W
  exact Go.by (X.instanceofNull B.1 (g := mkF m pc ls (.null :: st)) rfl rfl (hb B.2.2.2.1 hd)) q
theorem g_castNull (B : Bdy p Z s m meth c own bytes maxL ret nm) (W : Wk p l e R s m args below meth c Z T h k n) {i : Nat} (hd : decode bytes pc = .ok (.checkcast i, 3)) (q : Go p.tables e below G T (mkF m (pc + 3) ls (.null :: st))) : Go p.tables e below G T (mkF m pc ls (.null :: st)) := by
  obtain ⟨_, X, -⟩ := W
  refine Go.by (fun t q => ?_) q
  jvm_step X.here [B.1, (hb B.2.2.2.1 hd), checkcast.sem]
  exact q
theorem x_newR (B : Bdy p Z s m meth c own bytes maxL ret nm) (W : Wk p l e R s m args below meth c Z T h k n) {C : String} {i : Nat} {z : Int32} (cap : Nat) (hd : decode bytes pc = .ok (.anewarray i, 3)) (w1 : (Cond.classLink own i C).before a0 Z = true) (w2 : (Cond.arrayOver (.object C)).before a0 Z = true) (hn : ¬ z < 0) (hcap : z.toNatClampNeg ≤ cap) (hbg : cap * 8 ≤ 536870912) (hc : k + 1 ≤ R.cells) (hl : n + cap ≤ R.slots) (ls : Array Slot) (st : List Value) :
    ∃ T' h' b cA, b = h.size ∧ Wk p l e R s m args below meth c Z T' h' (k + 1) (n + cap) ∧ Keep h h' [] ∧ Arv Z h' b cA (.object C) z (List.replicate cap .null) .null ∧ Ovr Z cA C ∧
      (∀ G, Go p.tables e below G T' (mkF m (pc + 3) ls (.ref b :: st)) → Go p.tables e below G T (mkF m pc ls (.int z :: st))) := by
  obtain ⟨locs, X, eT, N, O⟩ := W
  obtain ⟨T', h', cA, X', e', E', A', Ov', st'⟩ := newR X B.1 B.2.1 B.2.2.1 w1 w2 eT (g := mkF m pc ls (.int z :: st)) rfl (hb B.2.2.2.1 hd) rfl hn hcap hbg hc hl
  exact ⟨T', h', _, cA, rfl, ⟨locs, X', e', N, O.ext E'⟩, (Keep.refl h []).ext E', (Arv.new A' hn).pad (vs' := [] ++ List.replicate cap _) (pad_rep [] _ cap), Ov', fun G q => Go.by st' q⟩
theorem x_aastore (B : Bdy p Z s m meth c own bytes maxL ret nm) (W : Wk p l e R s m args below meth c Z T h k n) {kc : ClassId} {ty : FieldType} {z j : Int32} {vs : List Value} {dv v : Value} {b : Addr} (hd : decode bytes pc = .ok (.aastore, 1)) (F : Arv Z h b kc ty z vs dv) (ht : ty.isReference = true) (hj : ¬ j < 0 ∧ j < z) (hi : j.toNatClampNeg < vs.length) (hv : v.isRef = true) (hS : ∀ cl, Arr Z h b cl ty → cl.cls = kc → Sto Z h b v) (hb' : Z.heap.size ≤ b) (ls : Array Slot) (st : List Value) :
    ∃ T' h', Wk p l e R s m args below meth c Z T' h' k n ∧ Keep h h' [b] ∧ Arv Z h' b kc ty z (vs.set j.toNatClampNeg v) dv ∧ (∀ G, Go p.tables e below G T' (mkF m (pc + 1) ls st) → Go p.tables e below G T (mkF m pc ls (v :: .int j :: .ref b :: st))) := by
  obtain ⟨locs, X, eT, N, O⟩ := W
  have F' := F
  have hby : ty ≠ .byte := fun q => by rw [q] at ht; cases ht
  obtain ⟨cl, A, r1, r2, r3, Hs, Gf⟩ := F
  obtain ⟨T', h', X', e', W', st'⟩ := stR X B.1 B.2.1 eT A (inb_of r2 hj) ht (hS cl A r1) (g := mkF m pc ls (v :: .int j :: .ref b :: st)) rfl rfl (hb B.2.2.2.1 hd)
  exact ⟨T', h', ⟨_, X', e', Fr.snoc X' N hb', O.wr W' hb'⟩, Keep.of_wr W', arv_put F' (own_fr ht hv) W' hi, fun G q => Go.by st' q⟩
theorem g_aaloadV (B : Bdy p Z s m meth c own bytes maxL ret nm) (W : Wk p l e R s m args below meth c Z T h k n) {kc : ClassId} {ty : FieldType} {z j : Int32} {vs : List Value} {dv v : Value} {b : Addr} (hd : decode bytes pc = .ok (.aaload, 1)) (F : Arv Z h b kc ty z vs dv) (ht : ty.isReference = true) (hj : ¬ j < 0 ∧ j < z) (hv : vs.getD j.toNatClampNeg dv = v)
    (q : Go p.tables e below G T (mkF m (pc + 1) ls (v :: st))) : Go p.tables e below G T (mkF m pc ls (.int j :: .ref b :: st)) := by
  obtain ⟨cl, A, hin, hat⟩ := arv_read F hj hv
  exact g_aaload B W hd A ht hin hat q
theorem x_clone (B : Bdy p Z s m meth c own bytes maxL ret nm) (W : Wk p l e R s m args below meth c Z T h k n) {ad : String} {i : Nat} {b : Addr} {cl : Cell} {ty : FieldType} (cap : Nat) (hd : decode bytes pc = .ok (.invokevirtual i, 3)) (w1 : (Cond.methodLink own i ⟨ad, "clone", "()Ljava/lang/Object;"⟩).before a0 Z = true) (w2 : (Cond.sameMethod ad "java/lang/Object" "clone" "()Ljava/lang/Object;").before a0 Z = true) (w3 : (Cond.native ⟨"java/lang/Object", "clone", "()Ljava/lang/Object;"⟩).before a0 Z = true)
    (w4 : (Cond.instanceMethod ⟨"java/lang/Object", "clone", "()Ljava/lang/Object;"⟩).before a0 Z = true) (w5 : (Cond.selects ad ⟨ad, "clone", "()Ljava/lang/Object;"⟩ ⟨"java/lang/Object", "clone", "()Ljava/lang/Object;"⟩).before a0 Z = true) (w6 : (Cond.castable ad "java/lang/Cloneable").before a0 Z = true) (A : Arr Z h b cl ty) (E : Exa Z h b ad) (F : FitC Z cl)
    (ls : Array Slot) (st : List Value) (hsz : ls.size = maxL) (V : Nat) (hV : (st.map fun v => v.category).sum = V) (hf : 1 ≤ R.frames) (hl : V + 14 ≤ R.locals) (hcap : cl.slots.size ≤ cap) (hc : k + 1 ≤ R.cells) (hs : n + cap ≤ R.slots) :
    ∃ T' h' b', b' = h.size ∧ Wk p l e R s m args below meth c Z T' h' (k + 1) (n + cap) ∧ Keep h h' [] ∧ Arr Z h' b' (cloneOf cl) ty ∧ Exa Z h' b' ad ∧ (∀ G, Go p.tables e below G T' (mkF m (pc + 3) ls (.ref b' :: st)) → Go p.tables e below G T (mkF m pc ls (.ref b :: st))) := by
  obtain ⟨locs, X, eT, N, O⟩ := W
  obtain ⟨T', h', X', e', E', A', Ex', st'⟩ := cloneA X B.1 B.2.1 B.2.2.1 w1 w2 w3 w4 w5 w6 eT A E F (g := mkF m pc ls (.ref b :: st)) rfl (hsz.trans B.2.2.2.2.1.symm) rfl (hb B.2.2.2.1 hd) hf (W := V) (by show 2 * 0 + _ ≤ _; omega) hl hcap hc hs
  exact ⟨T', h', _, rfl, ⟨locs, X', e', N, O.ext E'⟩, (Keep.refl h []).ext E', A', Ex', fun G q => Go.by st' q⟩
theorem x_cloneV (B : Bdy p Z s m meth c own bytes maxL ret nm) (W : Wk p l e R s m args below meth c Z T h k n) {ad : String} {i : Nat} {b : Addr} {kc : ClassId} {ty : FieldType} {z : Int32} {vs : List Value} {dv : Value} (cap : Nat) (hd : decode bytes pc = .ok (.invokevirtual i, 3)) (w1 : (Cond.methodLink own i ⟨ad, "clone", "()Ljava/lang/Object;"⟩).before a0 Z = true) (w2 : (Cond.sameMethod ad "java/lang/Object" "clone" "()Ljava/lang/Object;").before a0 Z = true) (w3 : (Cond.native ⟨"java/lang/Object", "clone", "()Ljava/lang/Object;"⟩).before a0 Z = true)
    (w4 : (Cond.instanceMethod ⟨"java/lang/Object", "clone", "()Ljava/lang/Object;"⟩).before a0 Z = true) (w5 : (Cond.selects ad ⟨ad, "clone", "()Ljava/lang/Object;"⟩ ⟨"java/lang/Object", "clone", "()Ljava/lang/Object;"⟩).before a0 Z = true) (w6 : (Cond.castable ad "java/lang/Cloneable").before a0 Z = true) (F : Arv Z h b kc ty z vs dv) (E : Exa Z h b ad)
    (ls : Array Slot) (st : List Value) (hsz : ls.size = maxL) (V : Nat) (hV : (st.map fun v => v.category).sum = V) (hf : 1 ≤ R.frames) (hl : V + 14 ≤ R.locals) (hcap : z.toNatClampNeg ≤ cap) (hc : k + 1 ≤ R.cells) (hs : n + cap ≤ R.slots) :
    ∃ T' h' b', b' = h.size ∧ Wk p l e R s m args below meth c Z T' h' (k + 1) (n + cap) ∧ Keep h h' [] ∧ Arv Z h' b' kc ty z vs dv ∧ Exa Z h' b' ad ∧ (∀ G, Go p.tables e below G T' (mkF m (pc + 3) ls (.ref b' :: st)) → Go p.tables e below G T (mkF m pc ls (.ref b :: st))) := by
  obtain ⟨cl, A, r1, r2, r3, H, G⟩ := F
  obtain ⟨T', h', b', eb, W', K, A', E', st'⟩ := x_clone B W cap hd w1 w2 w3 w4 w5 w6 A E (fitC_of A (fun i hi v hv => by have q := H i hi; rw [hv] at q; cases q; exact G i hi)) ls st hsz V hV hf hl (r2 ▸ hcap) hc hs
  exact ⟨T', h', b', eb, W', K, ⟨_, A', r1, r2, r3, H, G⟩, E', st'⟩
theorem x_newE (B : Bdy p Z s m meth c own bytes maxL ret nm) (W : Wk p l e R s m args below meth c Z T h k n) {aty : ArrayType} {z : Int32} {ad : String} (cap : Nat) (hd : decode bytes pc = .ok (.newarray aty, 2)) (w : (Cond.arrayClass (newarray.typeOf aty)).before a0 Z = true) (hn : ¬ z < 0) (hcap : z.toNatClampNeg ≤ cap) (hbg : cap * 8 ≤ 536870912) (hc : k + 1 ≤ R.cells) (hl : n + cap ≤ R.slots) (had : "[" ++ (newarray.typeOf aty).toString = ad) (ls : Array Slot) (st : List Value) :
    ∃ T' h' b cA, b = h.size ∧ Wk p l e R s m args below meth c Z T' h' (k + 1) (n + cap) ∧ Keep h h' [] ∧ Arv Z h' b cA (newarray.typeOf aty) z (List.replicate cap (defaultValue (newarray.typeOf aty))) (defaultValue (newarray.typeOf aty)) ∧ Exa Z h' b ad ∧
      (∀ G, Go p.tables e below G T' (mkF m (pc + 2) ls (.ref b :: st)) → Go p.tables e below G T (mkF m pc ls (.int z :: st))) := by
  obtain ⟨locs, X, eT, N, O⟩ := W
  obtain ⟨T', h', cA, X', e', E', A', Ex', st'⟩ := newPE X B.1 B.2.1 w eT (g := mkF m pc ls (.int z :: st)) rfl (hb B.2.2.2.1 hd) rfl hn hcap hbg hc hl had
  exact ⟨T', h', _, cA, rfl, ⟨locs, X', e', N, O.ext E'⟩, (Keep.refl h []).ext E', (Arv.new A' hn).pad (vs' := [] ++ List.replicate cap _) (pad_rep [] _ cap), Ex', fun G q => Go.by st' q⟩
theorem x_bastore (B : Bdy p Z s m meth c own bytes maxL ret nm) (W : Wk p l e R s m args below meth c Z T h k n) {kc : ClassId} {z j x : Int32} {vs : List Value} {dv : Value} {b : Addr} (hd : decode bytes pc = .ok (.bastore, 1)) (F : Arv Z h b kc .byte z vs dv) (hj : ¬ j < 0 ∧ j < z) (hi : j.toNatClampNeg < vs.length) (hb' : Z.heap.size ≤ b) (ls : Array Slot) (st : List Value) :
    ∃ T' h', Wk p l e R s m args below meth c Z T' h' k n ∧ Keep h h' [b] ∧ Arv Z h' b kc .byte z (vs.set j.toNatClampNeg (.int (nar .byte x))) dv ∧ (∀ G, Go p.tables e below G T' (mkF m (pc + 1) ls st) → Go p.tables e below G T (mkF m pc ls (.int x :: .int j :: .ref b :: st))) := by
  obtain ⟨locs, X, eT, N, O⟩ := W
  have F' := F
  obtain ⟨cl, A, r1, r2, r3, Hs, Gf⟩ := F
  obtain ⟨T', h', X', e', W', st'⟩ := stB X B.1 B.2.1 eT A (inb_of r2 hj) (g := mkF m pc ls (.int x :: .int j :: .ref b :: st)) rfl rfl (hb B.2.2.2.1 hd)
  exact ⟨T', h', ⟨_, X', e', Fr.snoc X' N hb', O.wr W' hb'⟩, Keep.of_wr W', arv_put F' (fits_nar_byte _) W' hi, fun G q => Go.by st' q⟩
theorem g_baload (B : Bdy p Z s m meth c own bytes maxL ret nm) (W : Wk p l e R s m args below meth c Z T h k n) {kc : ClassId} {z j : Int32} {vs : List Value} {dv v : Value} {b : Addr} (hd : decode bytes pc = .ok (.baload, 1)) (F : Arv Z h b kc .byte z vs dv) (hj : ¬ j < 0 ∧ j < z) (hv : vs.getD j.toNatClampNeg dv = v)
    (q : Go p.tables e below G T (mkF m (pc + 1) ls (v :: st))) : Go p.tables e below G T (mkF m pc ls (.int j :: .ref b :: st)) := by
  obtain ⟨locs, X, eT, N, O⟩ := W
  obtain ⟨cl, A, hin, hat⟩ := arv_read F hj hv
  exact Go.by (X.baloadBytes B.1 (by rw [eT]; exact A.1) (State.isArrayOf_alike B.2.1.alike A.2.1) A.2.2 hin hat (g := mkF m pc ls (.int j :: .ref b :: st)) rfl rfl (hb B.2.2.2.1 hd)) q
theorem x_acopy (B : Bdy p Z s m meth c own bytes maxL ret nm) (W : Wk p l e R s m args below meth c Z T h k n) {i : Nat} {ka kb : ClassId} {ty ty' : FieldType} {za zb sp dp nn : Int32} {va vb us : List Value} {da db : Value} {a b : Addr} (hd : decode bytes pc = .ok (.invokestatic i, 3)) (w1 : (Cond.methodLink own i Jvm.Stand.acN).before a0 Z = true) (w2 : (Cond.native Jvm.Stand.acN).before a0 Z = true) (w3 : (Cond.static Jvm.Stand.acN).before a0 Z = true) (w4 : (Cond.initialized "java/lang/System").before a0 Z = true)
    (A : Arv Z h a ka ty za va da) (A' : Arv Z h b kb ty' zb vb db) (hty : (ty = ty' ∧ refKind ty = false) ∨ (refKind ty = true ∧ refKind ty' = true ∧ StoL Z h b us)) (h1 : ¬ sp < 0) (h2 : ¬ dp < 0) (h3 : ¬ nn < 0) (h4 : sp.toNatClampNeg + nn.toNatClampNeg ≤ za.toNatClampNeg) (h5 : dp.toNatClampNeg + nn.toNatClampNeg ≤ zb.toNatClampNeg)
    (hus : us = (List.range nn.toNatClampNeg).map fun i => va.getD (sp.toNatClampNeg + i) da) (hl : dp.toNatClampNeg + nn.toNatClampNeg ≤ vb.length) (hb' : Z.heap.size ≤ b) (ls : Array Slot) (st : List Value) (hsz : ls.size = maxL) (V : Nat) (hV : (st.map fun v => v.category).sum = V) (hf : 1 ≤ R.frames) (hlo : V + (nativeFrameWords "java/lang/System" "arraycopy" 5 + 11) ≤ R.locals) :
    ∃ T' h', Wk p l e R s m args below meth c Z T' h' k n ∧ Keep h h' [b] ∧ Arv Z h' b kb ty' zb (vb.take dp.toNatClampNeg ++ us ++ vb.drop (dp.toNatClampNeg + nn.toNatClampNeg)) db ∧ (∀ G, Go p.tables e below G T' (mkF m (pc + 3) ls st) → Go p.tables e below G T (mkF m pc ls (.int nn :: .int dp :: .ref b :: .int sp :: .ref a :: st))) := by
  obtain ⟨locs, X, eT, N, O⟩ := W
  obtain ⟨T', h', L', X', e', N', K', F', st'⟩ := cpA X B.1 B.2.1 B.2.2.1 w1 w2 w3 w4 eT A A' hty h1 h2 h3 h4 h5 hus hl N hb' (g := mkF m pc ls (.int nn :: .int dp :: .ref b :: .int sp :: .ref a :: st)) rfl (hsz.trans B.2.2.2.2.1.symm) rfl (hb B.2.2.2.1 hd) hf (W := V) (by show 2 * 0 + _ ≤ _; omega) hlo
  exact ⟨T', h', ⟨_, X', e', N', O.keep K' (allS hb' all0)⟩, K', F', fun G q => Go.by st' q⟩
def Mi (Z : State) (C : String) (mr : Addr) : Prop := ∃ (c : ClassId) (k : Class), Z.vm.findClass C = some c ∧ Z.vm.classes[c]? = some k ∧ k.mirror = some mr
theorem x_getClass (B : Bdy p Z s m meth c own bytes maxL ret nm) (W : Wk p l e R s m args below meth c Z T h k n) {C : String} {i : Nat} {b mr : Addr} (hd : decode bytes pc = .ok (.invokevirtual i, 3)) (w1 : (Cond.methodLink own i ⟨"java/lang/Object", "getClass", "()Ljava/lang/Class;"⟩).before a0 Z = true) (w2 : (Cond.declares ⟨"java/lang/Object", "getClass", "()Ljava/lang/Class;"⟩).before a0 Z = true) (w4 : (Cond.selects C ⟨"java/lang/Object", "getClass", "()Ljava/lang/Class;"⟩ ⟨"java/lang/Object", "getClass", "()Ljava/lang/Class;"⟩).before a0 Z = true)
    (w5 : (Cond.instanceMethod ⟨"java/lang/Object", "getClass", "()Ljava/lang/Class;"⟩).before a0 Z = true) (w6 : (Cond.native ⟨"java/lang/Object", "getClass", "()Ljava/lang/Class;"⟩).before a0 Z = true) (E : Exa Z h b C) (M : Mi Z C mr) (ls : Array Slot) (st : List Value) (hsz : ls.size = maxL) (V : Nat) (hV : (st.map fun v => v.category).sum = V) (hf : 1 ≤ R.frames) (hl : V + (nativeFrameWords "java/lang/Object" "getClass" 1 + 11) ≤ R.locals) :
    ∃ T', Wk p l e R s m args below meth c Z T' h k n ∧ (∀ G, Go p.tables e below G T' (mkF m (pc + 3) ls (.ref mr :: st)) → Go p.tables e below G T (mkF m pc ls (.ref b :: st))) := by
  obtain ⟨locs, X, eT, N, O⟩ := W
  obtain ⟨cB, kB, i1, i2, i3⟩ := isOf B.2.1 eT E
  obtain ⟨cc, kc, m1, m2, m3⟩ := M
  rw [B.2.1.alike.findClass] at i1
  cases i1.symm.trans m1
  obtain ⟨k', q, ek⟩ := B.2.1.alike.2.2 _ _ m2
  obtain ⟨vm', X', st'⟩ := X.getClassOf B.1 B.2.2.1 (mvT B.2.1 w1) (mvT B.2.1 w2) (notFace_of_selects (args := #[]) (mvT B.2.1 w4)) (mvT B.2.1 w4) (mvT B.2.1 w5) (mvT B.2.1 w6) (by rw [B.2.1.alike.findClass]; exact m1) i3 q (by rw [ek]; exact m3) (g := mkF m pc ls (.ref b :: st)) rfl (hsz.trans B.2.2.2.2.1.symm) rfl (hb B.2.2.2.1 hd) hf (by show 2 * 0 + _ + _ ≤ _; omega)
  have e' : (T.setVm vm').heap = h := eT
  have X' := X'
  exact ⟨_, ⟨locs, X', e', N, O⟩, fun G q => Go.by st' q⟩
theorem x_ldcM (B : Bdy p Z s m meth c own bytes maxL ret nm) (W : Wk p l e R s m args below meth c Z T h k n) {C : String} {i : Nat} {mr : Addr} (hd : decode bytes pc = .ok (.ldc i, 2)) (w : (Cond.classLink own i C).before a0 Z = true) (M : Mi Z C mr) (ls : Array Slot) (st : List Value) :
    ∃ T', Wk p l e R s m args below meth c Z T' h k n ∧ (∀ G, Go p.tables e below G T' (mkF m (pc + 2) ls (.ref mr :: st)) → Go p.tables e below G T (mkF m pc ls st)) := by
  obtain ⟨locs, X, eT, N, O⟩ := W
  obtain ⟨cc, kc, m1, m2, m3⟩ := M
  obtain ⟨k', q, ek⟩ := B.2.1.alike.2.2 _ _ m2
  have m1' := (B.2.1.alike.findClass C none).trans m1
  have e0 : k'.mirror = some mr := by rw [ek]; exact m3
  obtain ⟨vm', X', st'⟩ := X.ldcMirror B.1 B.2.2.1 (mv B.2.1 w) (C := C) (a := mr) (by first | (simp [Term.eval, m1', q, e0]; done) | (simp [State.setVm] at m1' q; simp [Term.eval, State.setVm, m1', q, e0]; done)) (g := mkF m pc ls st) rfl (hb B.2.2.2.1 hd)
  have e' : (T.setVm vm').heap = h := eT
  exact ⟨_, ⟨locs, X', e', N, O⟩, fun G q => Go.by st' q⟩
theorem x_newRE (B : Bdy p Z s m meth c own bytes maxL ret nm) (W : Wk p l e R s m args below meth c Z T h k n) {C ad : String} {i : Nat} {z : Int32} (cap : Nat) (hd : decode bytes pc = .ok (.anewarray i, 3)) (w1 : (Cond.classLink own i C).before a0 Z = true) (w2 : (Cond.arrayOver (.object C)).before a0 Z = true) (hn : ¬ z < 0) (hcap : z.toNatClampNeg ≤ cap) (hbg : cap * 8 ≤ 536870912) (hc : k + 1 ≤ R.cells) (hl : n + cap ≤ R.slots) (had : "[" ++ (FieldType.object C).toString = ad) (ls : Array Slot) (st : List Value) :
    ∃ T' h' b cA, b = h.size ∧ Wk p l e R s m args below meth c Z T' h' (k + 1) (n + cap) ∧ Keep h h' [] ∧ Arv Z h' b cA (.object C) z (List.replicate cap .null) .null ∧ Ovr Z cA C ∧ Exa Z h' b ad ∧
      (∀ G, Go p.tables e below G T' (mkF m (pc + 3) ls (.ref b :: st)) → Go p.tables e below G T (mkF m pc ls (.int z :: st))) := by
  obtain ⟨locs, X, eT, N, O⟩ := W
  obtain ⟨T', h', cA, X', e', E', A', Ex', Ov', st'⟩ := newRE X B.1 B.2.1 B.2.2.1 w1 w2 eT (g := mkF m pc ls (.int z :: st)) rfl (hb B.2.2.2.1 hd) rfl hn hcap hbg hc hl had
  exact ⟨T', h', _, cA, rfl, ⟨locs, X', e', N, O.ext E'⟩, (Keep.refl h []).ext E', (Arv.new A' hn).pad (vs' := [] ++ List.replicate cap _) (pad_rep [] _ cap), Ov', Ex', fun G q => Go.by st' q⟩
/-! ### calls -/
theorem backC {y : MethodName} {yb : ByteArray} {yL : Nat} {yr : Option FieldType} {rm : Room} {len V : Nat} {as' : Array Value} (C : Con l Z y yb yL yr [] rm as' h Q) (O : Old Z Z.heap.size h)
    (hZ : Z.Warmed39 s.vm) (wc : (Cond.code y yb yL yr).before a0 Z = true) (wz : (Cond.initialized y.cls).before a0 Z = true) (hf : rm.frames + 1 ≤ R.frames) (hl : V + (yL + 11) + rm.locals ≤ R.locals) :
    Back l R p e below s args y len V (fun A a => a = as' ∧ A.U.heap = h ∧ A.cells + rm.cells ≤ R.cells ∧ A.slots + rm.slots ≤ R.slots)
      (fun A _ v B => ∃ L, (Q v B.U.heap ∧ Fr Z.heap.size L ∧ Old Z Z.heap.size B.U.heap) ∧ B.locs = A.locs ++ L ∧ B.cells = A.cells + rm.cells ∧ B.slots = A.slots + rm.slots) :=
  backOf (Q := fun v h L => Q v h ∧ Fr Z.heap.size L ∧ Old Z Z.heap.size h) (C O) hZ wc wz hf hl
theorem x_static (B : Bdy p Z s m meth c own bytes maxL ret nm) (W : Wk p l e R s m args below meth c Z T h k n) {y : MethodName} {yb : ByteArray} {yL i : Nat} {yr : Option FieldType} {rm : Room} (argsL : List Value) (C : Con l Z y yb yL yr [] rm argsL.toArray h Q)
    (hd : decode bytes pc = .ok (.invokestatic i, 3)) (w1 : (Cond.methodLink own i y).before a0 Z = true) (w2 : (Cond.static y).before a0 Z = true) (wz : (Cond.initialized y.cls).before a0 Z = true) (wc : (Cond.code y yb yL yr).before a0 Z = true) (hy : y.cls ≠ "java/lang/invoke/MethodHandle" ∧ y.cls ≠ "java/lang/invoke/VarHandle")
    (hlen : ∀ sig, parseMethodDescriptor y.desc = some sig → argsL.length = sig.parameters.length) (ls : Array Slot) (st : List Value) (hsz : ls.size = maxL) (V : Nat) (hV : (st.map fun v => v.category).sum = V) (hf : rm.frames + 1 ≤ R.frames) (hl : V + (yL + 11) + rm.locals ≤ R.locals) (hc : k + rm.cells ≤ R.cells) (hs : n + rm.slots ≤ R.slots) :
    ∃ T' h' v, Wk p l e R s m args below meth c Z T' h' (k + rm.cells) (n + rm.slots) ∧ Q v h' ∧ (∀ G, Go p.tables e below G T' (mkF m (pc + 3) ls (v.toList ++ st)) → Go p.tables e below G T (mkF m pc ls (argsL.reverse ++ st))) := by
  obtain ⟨locs, X, eT, N, O⟩ := W
  obtain ⟨v, _, ⟨T', L', k', n'⟩, -, X', ⟨Lc, hQ, l1, l2, l3⟩, st'⟩ := Jvm.LawKit.callS X B.1 (y := y) B.2.2.1 (mvT B.2.1 w1) (mvT B.2.1 w2) (mvT B.2.1 wz) (mvT B.2.1 wc) hy (backC (V := V) C O B.2.1 wc wz hf hl) (g := mkF m pc ls (argsL.reverse ++ st)) rfl (hsz.trans B.2.2.2.2.1.symm) (argsL := argsL) (rest := st) hlen rfl (by show 2 * 0 + _ ≤ _; omega) (hb B.2.2.2.1 hd) (fun _ _ => ⟨rfl, eT, hc, hs⟩)
  dsimp only [Pt.U, Pt.locs, Pt.cells, Pt.slots] at X' l1 l2 l3 st' hQ
  subst l1 l2 l3
  exact ⟨T', T'.heap, v, ⟨_, X', rfl, N.app hQ.2.1, hQ.2.2⟩, hQ.1, fun G q => Go.by st' q⟩
theorem x_special (B : Bdy p Z s m meth c own bytes maxL ret nm) (W : Wk p l e R s m args below meth c Z T h k n) {y : MethodName} {yb : ByteArray} {yL i : Nat} {rm : Room} {b : Addr} (argsL : List Value) (C : Con l Z y yb yL none [] rm (.ref b :: argsL).toArray h Q)
    (hd : decode bytes pc = .ok (.invokespecial i, 3)) (hy1 : y.name = "<init>") (w1 : (Cond.methodLink own i y).before a0 Z = true) (w2 : (Cond.instanceMethod y).before a0 Z = true) (wz : (Cond.initialized y.cls).before a0 Z = true) (wc : (Cond.code y yb yL none).before a0 Z = true) (hy : y.cls ≠ "java/lang/invoke/MethodHandle" ∧ y.cls ≠ "java/lang/invoke/VarHandle")
    (hlen : ∀ sig, parseMethodDescriptor y.desc = some sig → argsL.length = sig.parameters.length) (ls : Array Slot) (st : List Value) (hsz : ls.size = maxL) (V : Nat) (hV : (st.map fun v => v.category).sum = V) (hf : rm.frames + 1 ≤ R.frames) (hl : V + (yL + 11) + rm.locals ≤ R.locals) (hc : k + rm.cells ≤ R.cells) (hs : n + rm.slots ≤ R.slots) :
    ∃ T' h' v, Wk p l e R s m args below meth c Z T' h' (k + rm.cells) (n + rm.slots) ∧ Q v h' ∧ (∀ G, Go p.tables e below G T' (mkF m (pc + 3) ls (v.toList ++ st)) → Go p.tables e below G T (mkF m pc ls (argsL.reverse ++ .ref b :: st))) := by
  obtain ⟨locs, X, eT, N, O⟩ := W
  obtain ⟨v, _, ⟨T', L', k', n'⟩, -, X', ⟨Lc, hQ, l1, l2, l3⟩, st'⟩ := X.specialBack B.1 (y := y) hy1 B.2.2.1 (mvT B.2.1 w1) (mvT B.2.1 w2) (mvT B.2.1 wc) hy (backC (V := V) C O B.2.1 wc wz hf hl) (g := mkF m pc ls (argsL.reverse ++ .ref b :: st)) rfl (hsz.trans B.2.2.2.2.1.symm) (Steps.refl _) (a := b) (argsL := argsL) (rest := st) hlen rfl (by show 2 * 0 + _ ≤ _; omega) (hb B.2.2.2.1 hd) (fun _ _ => ⟨rfl, eT, hc, hs⟩)
  dsimp only [Pt.U, Pt.locs, Pt.cells, Pt.slots] at X' l1 l2 l3 st' hQ
  subst l1 l2 l3
  exact ⟨T', T'.heap, v, ⟨_, X', rfl, N.app hQ.2.1, hQ.2.2⟩, hQ.1, fun G q => Go.by (fun t q => st'.trans q) q⟩
theorem x_virtual (B : Bdy p Z s m meth c own bytes maxL ret nm) (W : Wk p l e R s m args below meth c Z T h k n) {y : MethodName} {yb : ByteArray} {yL i : Nat} {yr : Option FieldType} {rm : Room} {b : Addr} {D : String} (argsL : List Value) (C : Con l Z y yb yL yr [] rm (.ref b :: argsL).toArray h Q) (E : Exa Z h b D)
    (hd : decode bytes pc = .ok (.invokevirtual i, 3)) (w1 : (Cond.methodLink own i y).before a0 Z = true) (w2 : (Cond.declares y).before a0 Z = true) (w3 : (Cond.selects D y y).before a0 Z = true) (w4 : (Cond.instanceMethod y).before a0 Z = true) (wz : (Cond.initialized y.cls).before a0 Z = true) (wc : (Cond.code y yb yL yr).before a0 Z = true) (hy : y.cls ≠ "java/lang/invoke/MethodHandle" ∧ y.cls ≠ "java/lang/invoke/VarHandle")
    (hlen : ∀ sig, parseMethodDescriptor y.desc = some sig → argsL.length = sig.parameters.length) (ls : Array Slot) (st : List Value) (hsz : ls.size = maxL) (V : Nat) (hV : (st.map fun v => v.category).sum = V) (hf : rm.frames + 1 ≤ R.frames) (hl : V + (yL + 11) + rm.locals ≤ R.locals) (hc : k + rm.cells ≤ R.cells) (hs : n + rm.slots ≤ R.slots) :
    ∃ T' h' v, Wk p l e R s m args below meth c Z T' h' (k + rm.cells) (n + rm.slots) ∧ Q v h' ∧ (∀ G, Go p.tables e below G T' (mkF m (pc + 3) ls (v.toList ++ st)) → Go p.tables e below G T (mkF m pc ls (argsL.reverse ++ .ref b :: st))) := by
  obtain ⟨locs, X, eT, N, O⟩ := W
  obtain ⟨cq, kq, qa, qb, qc⟩ := isOf B.2.1 eT E
  obtain ⟨v, _, ⟨T', L', k', n'⟩, -, X', ⟨Lc, hQ, l1, l2, l3⟩, st'⟩ := X.virtualBack B.1 (y := y) (z := y) B.2.2.1 (mvT B.2.1 w1) (mvT B.2.1 w2) (notFace_of_selects (args := #[]) (mvT B.2.1 w3)) (mvT B.2.1 w3) (mvT B.2.1 w4) hy (backC (V := V) C O B.2.1 wc wz hf hl) qa qc (g := mkF m pc ls (argsL.reverse ++ .ref b :: st)) rfl (hsz.trans B.2.2.2.2.1.symm) (Steps.refl _) (argsL := argsL) (rest := st) hlen rfl (by show 2 * 0 + _ ≤ _; omega) (hb B.2.2.2.1 hd) (fun _ _ => ⟨rfl, eT, hc, hs⟩)
  dsimp only [Pt.U, Pt.locs, Pt.cells, Pt.slots] at X' l1 l2 l3 st' hQ
  subst l1 l2 l3
  exact ⟨T', T'.heap, v, ⟨_, X', rfl, N.app hQ.2.1, hQ.2.2⟩, hQ.1, fun G q => Go.by (fun t q => st'.trans q) q⟩
theorem x_iface (B : Bdy p Z s m meth c own bytes maxL ret nm) (W : Wk p l e R s m args below meth c Z T h k n) {xi y : MethodName} {count : Nat} {D : String} {yb : ByteArray} {yL i : Nat} {yr : Option FieldType} {rm : Room} {b : Addr} (argsL : List Value) (C : Con l Z y yb yL yr [] rm (.ref b :: argsL).toArray h Q) (E : Exa Z h b D)
    (hd : decode bytes pc = .ok (.invokeinterface i count, 5)) (w1 : (Cond.methodLink own i xi).before a0 Z = true) (w2 : (Cond.declares xi).before a0 Z = true) (w3 : (Cond.interfaceMethod xi.cls xi.cls xi.name xi.desc).before a0 Z = true) (w4 : (Cond.selects D xi y).before a0 Z = true) (w5 : (Cond.instanceMethod y).before a0 Z = true) (w6 : (Cond.publicMethod y).before a0 Z = true) (w7 : (Cond.unhidden D xi.name xi.desc).before a0 Z = true) (w8 : (Cond.castable D xi.cls).before a0 Z = true) (hk3 : ((Cond.interfaceMethod xi.cls xi.cls xi.name xi.desc).onTables && (Cond.interfaceMethod xi.cls xi.cls xi.name xi.desc).keepsFace) = true) (wz : (Cond.initialized y.cls).before a0 Z = true) (wc : (Cond.code y yb yL yr).before a0 Z = true) (hy : xi.cls ≠ "java/lang/invoke/MethodHandle" ∧ xi.cls ≠ "java/lang/invoke/VarHandle")
    (hlen : ∀ sig, parseMethodDescriptor xi.desc = some sig → argsL.length = sig.parameters.length) (ls : Array Slot) (st : List Value) (hsz : ls.size = maxL) (V : Nat) (hV : (st.map fun v => v.category).sum = V) (hf : rm.frames + 1 ≤ R.frames) (hl : V + (yL + 11) + rm.locals ≤ R.locals) (hc : k + rm.cells ≤ R.cells) (hs : n + rm.slots ≤ R.slots) :
    ∃ T' h' v, Wk p l e R s m args below meth c Z T' h' (k + rm.cells) (n + rm.slots) ∧ Q v h' ∧ (∀ G, Go p.tables e below G T' (mkF m (pc + 5) ls (v.toList ++ st)) → Go p.tables e below G T (mkF m pc ls (argsL.reverse ++ .ref b :: st))) := by
  obtain ⟨locs, X, eT, N, O⟩ := W
  obtain ⟨cq, kq, qa, qb, qc⟩ := isOf B.2.1 eT E
  obtain ⟨v, _, ⟨T', L', k', n'⟩, -, X', ⟨Lc, hQ, l1, l2, l3⟩, st'⟩ := X.interfaceBack B.1 (xi := xi) (y := y) B.2.2.1 (mvT B.2.1 w1) (mvT B.2.1 w2) (mvT B.2.1 w3 hk3) (mvT B.2.1 w4) (mvT B.2.1 w5) (mvT B.2.1 w6) (mvT B.2.1 w7) (mvT B.2.1 w8) hy (backC (V := V) C O B.2.1 wc wz hf hl) qa qb qc (g := mkF m pc ls (argsL.reverse ++ .ref b :: st)) rfl (hsz.trans B.2.2.2.2.1.symm) (Steps.refl _) (argsL := argsL) (rest := st) hlen rfl (by show 2 * 0 + _ ≤ _; omega) (hb B.2.2.2.1 hd) (fun _ _ => ⟨rfl, eT, hc, hs⟩)
  dsimp only [Pt.U, Pt.locs, Pt.cells, Pt.slots] at X' l1 l2 l3 st' hQ
  subst l1 l2 l3
  exact ⟨T', T'.heap, v, ⟨_, X', rfl, N.app hQ.2.1, hQ.2.2⟩, hQ.1, fun G q => Go.by (fun t q => st'.trans q) q⟩
theorem x_private (B : Bdy p Z s m meth c own bytes maxL ret nm) (W : Wk p l e R s m args below meth c Z T h k n) {y : MethodName} {D : String} {yb : ByteArray} {yL i : Nat} {yr : Option FieldType} {rm : Room} {b : Addr} (argsL : List Value) (C : Con l Z y yb yL yr [] rm (.ref b :: argsL).toArray h Q) (E : Exa Z h b D)
    (hd : decode bytes pc = .ok (.invokevirtual i, 3)) (w1 : (Cond.methodLink own i y).before a0 Z = true) (w2 : (Cond.instanceMethod y).before a0 Z = true) (w3 : (Cond.selects y.cls y y).before a0 Z = true) (w4 : (Cond.privateMethod y).before a0 Z = true) (wz : (Cond.initialized y.cls).before a0 Z = true) (wc : (Cond.code y yb yL yr).before a0 Z = true) (hy : y.cls ≠ "java/lang/invoke/MethodHandle" ∧ y.cls ≠ "java/lang/invoke/VarHandle")
    (hlen : ∀ sig, parseMethodDescriptor y.desc = some sig → argsL.length = sig.parameters.length) (ls : Array Slot) (st : List Value) (hsz : ls.size = maxL) (V : Nat) (hV : (st.map fun v => v.category).sum = V) (hf : rm.frames + 1 ≤ R.frames) (hl : V + (yL + 11) + rm.locals ≤ R.locals) (hc : k + rm.cells ≤ R.cells) (hs : n + rm.slots ≤ R.slots) :
    ∃ T' h' v, Wk p l e R s m args below meth c Z T' h' (k + rm.cells) (n + rm.slots) ∧ Q v h' ∧ (∀ G, Go p.tables e below G T' (mkF m (pc + 3) ls (v.toList ++ st)) → Go p.tables e below G T (mkF m pc ls (argsL.reverse ++ .ref b :: st))) := by
  obtain ⟨locs, X, eT, N, O⟩ := W
  obtain ⟨cell, qa, qb⟩ := Exa.cell E
  obtain ⟨v, _, ⟨T', L', k', n'⟩, -, X', ⟨Lc, hQ, l1, l2, l3⟩, st'⟩ := X.privateBack B.1 (y := y) B.2.2.1 (mvT B.2.1 w1) (mvT B.2.1 w2) (mvT B.2.1 w3) (Cond.privateMethod_at (mvP B.2.1 w4 (args := #[]))) (mvT B.2.1 wc) hy (backC (V := V) C O B.2.1 wc wz hf hl) (g := mkF m pc ls (argsL.reverse ++ .ref b :: st)) rfl (hsz.trans B.2.2.2.2.1.symm) (Steps.refl _) (a := b) (by rw [eT]; exact qa) qb (argsL := argsL) (rest := st) hlen rfl (by show 2 * 0 + _ ≤ _; omega) (hb B.2.2.2.1 hd) (fun _ _ => ⟨rfl, eT, hc, hs⟩)
  dsimp only [Pt.U, Pt.locs, Pt.cells, Pt.slots] at X' l1 l2 l3 st' hQ
  subst l1 l2 l3
  exact ⟨T', T'.heap, v, ⟨_, X', rfl, N.app hQ.2.1, hQ.2.2⟩, hQ.1, fun G q => Go.by (fun t q => st'.trans q) q⟩
theorem x_specialB (B : Bdy p Z s m meth c own bytes maxL ret nm) (W : Wk p l e R s m args below meth c Z T h k n) {y : MethodName} {yb : ByteArray} {yL i V rc rs : Nat} {b : Addr} {QL : Option Value → Heap → List Loc → Prop} (argsL : List Value) (hK : ∀ s' : State, Z.Warmed39 s'.vm → Back l R p e below s' args y 3 V (fun A a => a = (.ref b :: argsL).toArray ∧ A.U.heap = h ∧ A.cells + rc ≤ R.cells ∧ A.slots + rs ≤ R.slots) (fun A _ v B => ∃ L, QL v B.U.heap L ∧ B.locs = A.locs ++ L ∧ B.cells = A.cells + rc ∧ B.slots = A.slots + rs))
    (hd : decode bytes pc = .ok (.invokespecial i, 3)) (hy1 : y.name = "<init>") (w1 : (Cond.methodLink own i y).before a0 Z = true) (w2 : (Cond.instanceMethod y).before a0 Z = true) (wc : (Cond.code y yb yL none).before a0 Z = true) (hy : y.cls ≠ "java/lang/invoke/MethodHandle" ∧ y.cls ≠ "java/lang/invoke/VarHandle")
    (hlen : ∀ sig, parseMethodDescriptor y.desc = some sig → argsL.length = sig.parameters.length) (ls : Array Slot) (st : List Value) (hsz : ls.size = maxL) (hV : (st.map fun v => v.category).sum = V) (hc : k + rc ≤ R.cells) (hs : n + rs ≤ R.slots) (wl : List Addr) (hwl : ∀ x ∈ wl, Z.heap.size ≤ x) (hq : ∀ v h' L, QL v h' L → Fr Z.heap.size L ∧ Keep h h' wl) : ∃ T' h' v L, Wk p l e R s m args below meth c Z T' h' (k + rc) (n + rs) ∧ QL v h' L ∧ (∀ G, Go p.tables e below G T' (mkF m (pc + 3) ls (v.toList ++ st)) → Go p.tables e below G T (mkF m pc ls (argsL.reverse ++ .ref b :: st))) := by
  obtain ⟨locs, X, eT, N, O⟩ := W
  obtain ⟨v, _, ⟨T', L', k', n'⟩, -, X', ⟨Lc, hQ, l1, l2, l3⟩, st'⟩ := X.specialBack B.1 (y := y) hy1 B.2.2.1 (mvT B.2.1 w1) (mvT B.2.1 w2) (mvT B.2.1 wc) hy (hK _ B.2.1) (g := mkF m pc ls (argsL.reverse ++ .ref b :: st)) rfl (hsz.trans B.2.2.2.2.1.symm) (Steps.refl _) (a := b) (argsL := argsL) (rest := st) hlen rfl (by show 2 * 0 + _ ≤ _; omega) (hb B.2.2.2.1 hd) (fun _ _ => ⟨rfl, eT, hc, hs⟩)
  dsimp only [Pt.U, Pt.locs, Pt.cells, Pt.slots] at X' l1 l2 l3 st' hQ
  subst l1 l2 l3
  obtain ⟨hF, hKp⟩ := hq _ _ _ hQ
  exact ⟨T', T'.heap, v, Lc, ⟨_, X', rfl, N.app hF, O.keep hKp hwl⟩, hQ, fun G q => Go.by (fun t q => st'.trans q) q⟩
theorem x_virtualB (B : Bdy p Z s m meth c own bytes maxL ret nm) (W : Wk p l e R s m args below meth c Z T h k n) {y : MethodName} {D : String} {i V rc rs : Nat} {b : Addr} {QL : Option Value → Heap → List Loc → Prop} (argsL : List Value) (hK : ∀ s' : State, Z.Warmed39 s'.vm → Back l R p e below s' args y 3 V (fun A a => a = (.ref b :: argsL).toArray ∧ A.U.heap = h ∧ A.cells + rc ≤ R.cells ∧ A.slots + rs ≤ R.slots) (fun A _ v B => ∃ L, QL v B.U.heap L ∧ B.locs = A.locs ++ L ∧ B.cells = A.cells + rc ∧ B.slots = A.slots + rs)) (E : Exa Z h b D)
    (hd : decode bytes pc = .ok (.invokevirtual i, 3)) (w1 : (Cond.methodLink own i y).before a0 Z = true) (w2 : (Cond.declares y).before a0 Z = true) (w3 : (Cond.selects D y y).before a0 Z = true) (w4 : (Cond.instanceMethod y).before a0 Z = true) (hy : y.cls ≠ "java/lang/invoke/MethodHandle" ∧ y.cls ≠ "java/lang/invoke/VarHandle")
    (hlen : ∀ sig, parseMethodDescriptor y.desc = some sig → argsL.length = sig.parameters.length) (ls : Array Slot) (st : List Value) (hsz : ls.size = maxL) (hV : (st.map fun v => v.category).sum = V) (hc : k + rc ≤ R.cells) (hs : n + rs ≤ R.slots) (wl : List Addr) (hwl : ∀ x ∈ wl, Z.heap.size ≤ x) (hq : ∀ v h' L, QL v h' L → Fr Z.heap.size L ∧ Keep h h' wl) : ∃ T' h' v L, Wk p l e R s m args below meth c Z T' h' (k + rc) (n + rs) ∧ QL v h' L ∧ (∀ G, Go p.tables e below G T' (mkF m (pc + 3) ls (v.toList ++ st)) → Go p.tables e below G T (mkF m pc ls (argsL.reverse ++ .ref b :: st))) := by
  obtain ⟨locs, X, eT, N, O⟩ := W
  obtain ⟨cq, kq, qa, qb, qc⟩ := isOf B.2.1 eT E
  obtain ⟨v, _, ⟨T', L', k', n'⟩, -, X', ⟨Lc, hQ, l1, l2, l3⟩, st'⟩ := X.virtualBack B.1 (y := y) (z := y) B.2.2.1 (mvT B.2.1 w1) (mvT B.2.1 w2) (notFace_of_selects (args := #[]) (mvT B.2.1 w3)) (mvT B.2.1 w3) (mvT B.2.1 w4) hy (hK _ B.2.1) qa qc (g := mkF m pc ls (argsL.reverse ++ .ref b :: st)) rfl (hsz.trans B.2.2.2.2.1.symm) (Steps.refl _) (argsL := argsL) (rest := st) hlen rfl (by show 2 * 0 + _ ≤ _; omega) (hb B.2.2.2.1 hd) (fun _ _ => ⟨rfl, eT, hc, hs⟩)
  dsimp only [Pt.U, Pt.locs, Pt.cells, Pt.slots] at X' l1 l2 l3 st' hQ
  subst l1 l2 l3
  obtain ⟨hF, hKp⟩ := hq _ _ _ hQ
  exact ⟨T', T'.heap, v, Lc, ⟨_, X', rfl, N.app hF, O.keep hKp hwl⟩, hQ, fun G q => Go.by (fun t q => st'.trans q) q⟩
theorem x_staticUp (B : Bdy p Z s m meth c own bytes maxL ret nm) (W : Wk p l e R s m args below meth c Z T h k n) {xc owner xn xd : String} {yb : ByteArray} {yL i : Nat} {yr : Option FieldType} {rm : Room} (argsL : List Value) (C : Con l Z ⟨owner, xn, xd⟩ yb yL yr [] rm argsL.toArray h Q)
    (hd : decode bytes pc = .ok (.invokestatic i, 3)) (w1 : (Cond.methodLink own i ⟨xc, xn, xd⟩).before a0 Z = true) (w1' : (Cond.sameMethod xc owner xn xd).before a0 Z = true) (w2 : (Cond.static ⟨owner, xn, xd⟩).before a0 Z = true) (wz : (Cond.initialized owner).before a0 Z = true) (wc : (Cond.code ⟨owner, xn, xd⟩ yb yL yr).before a0 Z = true) (hy : owner ≠ "java/lang/invoke/MethodHandle" ∧ owner ≠ "java/lang/invoke/VarHandle")
    (hlen : ∀ sig, parseMethodDescriptor xd = some sig → argsL.length = sig.parameters.length) (ls : Array Slot) (st : List Value) (hsz : ls.size = maxL) (V : Nat) (hV : (st.map fun v => v.category).sum = V) (hf : rm.frames + 1 ≤ R.frames) (hl : V + (yL + 11) + rm.locals ≤ R.locals) (hc : k + rm.cells ≤ R.cells) (hs : n + rm.slots ≤ R.slots) :
    ∃ T' h' v, Wk p l e R s m args below meth c Z T' h' (k + rm.cells) (n + rm.slots) ∧ Q v h' ∧ (∀ G, Go p.tables e below G T' (mkF m (pc + 3) ls (v.toList ++ st)) → Go p.tables e below G T (mkF m pc ls (argsL.reverse ++ st))) := by
  obtain ⟨locs, X, eT, N, O⟩ := W
  have wcs : (Cond.code ⟨owner, xn, xd⟩ yb yL yr).before args s = true := mvT B.2.1 wc
  obtain ⟨mk, hnamed⟩ := Cond.code_named wcs
  obtain ⟨methM, cM, hmethM, -, -, -, -, -, -, hsigM⟩ := Cond.code_spec hnamed wcs
  obtain ⟨v, _, ⟨T', L', k', n'⟩, -, X', ⟨Lc, hQ, l1, l2, l3⟩, st'⟩ := X.staticBackUp B.1 (x := ⟨xc, xn, xd⟩) (owner := owner) B.2.2.1 (mvT B.2.1 w1) (mvT B.2.1 w1') (mvT B.2.1 w2) (mvT B.2.1 wz) hnamed hmethM hsigM hy (backC (V := V) C O B.2.1 wc wz hf hl) (g := mkF m pc ls (argsL.reverse ++ st)) rfl (hsz.trans B.2.2.2.2.1.symm) (Steps.refl _) (argsL := argsL) (rest := st) hlen rfl (by show 2 * 0 + _ ≤ _; omega) (hb B.2.2.2.1 hd) (fun _ _ => ⟨rfl, eT, hc, hs⟩)
  dsimp only [Pt.U, Pt.locs, Pt.cells, Pt.slots] at X' l1 l2 l3 st' hQ
  subst l1 l2 l3
  exact ⟨T', T'.heap, v, ⟨_, X', rfl, N.app hQ.2.1, hQ.2.2⟩, hQ.1, fun G q => Go.by (fun t q => st'.trans q) q⟩
end K
end Jvm.OwnK
namespace Jvm.Pilot.@@N@@
open Jvm Jvm.ClassFile Sem Op Lib Jvm.Free Jvm.Stand Jvm.LawKit Jvm.RoadKit Jvm.OwnK Bundle Jvm.Pilot.@@N@@.Jvm.D
theorem tw {Z : State} {a0 : Array Value} (hw : ∀ d ∈ tables_1, d.before a0 Z = true) (i : Nat) {d : Jvm.Cond} (h : tables_1[i]? = some d) : d.before a0 Z = true := hw _ (List.mem_of_getElem? h)
theorem d_method_2_0 : decode method_2_code 0 = .ok (.iload_n 0, 1) := by decide +kernel
theorem d_method_2_1 : decode method_2_code 1 = .ok (.ldc 7, 2) := by decide +kernel
theorem d_method_2_3 : decode method_2_code 3 = .ok (.iand, 1) := by decide +kernel
theorem d_method_2_4 : decode method_2_code 4 = .ok (.bipush 37, 2) := by decide +kernel
theorem d_method_2_6 : decode method_2_code 6 = .ok (.irem, 1) := by decide +kernel
theorem d_method_2_7 : decode method_2_code 7 = .ok (.istore_n 1, 1) := by decide +kernel
theorem d_method_2_8 : decode method_2_code 8 = .ok (.iload_n 1, 1) := by decide +kernel
theorem d_method_2_9 : decode method_2_code 9 = .ok (.bipush 26, 2) := by decide +kernel
theorem d_method_2_11 : decode method_2_code 11 = .ok (.if_icmp .ge 9, 3) := by decide +kernel
theorem d_method_2_14 : decode method_2_code 14 = .ok (.bipush 97, 2) := by decide +kernel
theorem d_method_2_16 : decode method_2_code 16 = .ok (.iload_n 1, 1) := by decide +kernel
theorem d_method_2_17 : decode method_2_code 17 = .ok (.iadd, 1) := by decide +kernel
theorem d_method_2_18 : decode method_2_code 18 = .ok (.i2c, 1) := by decide +kernel
theorem d_method_2_19 : decode method_2_code 19 = .ok (.ireturn, 1) := by decide +kernel
theorem d_method_2_20 : decode method_2_code 20 = .ok (.iload_n 1, 1) := by decide +kernel
theorem d_method_2_21 : decode method_2_code 21 = .ok (.bipush 36, 2) := by decide +kernel
theorem d_method_2_23 : decode method_2_code 23 = .ok (.if_icmp .ge 12, 3) := by decide +kernel
theorem d_method_2_26 : decode method_2_code 26 = .ok (.bipush 48, 2) := by decide +kernel
theorem d_method_2_28 : decode method_2_code 28 = .ok (.iload_n 1, 1) := by decide +kernel
theorem d_method_2_29 : decode method_2_code 29 = .ok (.bipush 26, 2) := by decide +kernel
theorem d_method_2_31 : decode method_2_code 31 = .ok (.isub, 1) := by decide +kernel
theorem d_method_2_32 : decode method_2_code 32 = .ok (.iadd, 1) := by decide +kernel
theorem d_method_2_33 : decode method_2_code 33 = .ok (.i2c, 1) := by decide +kernel
theorem d_method_2_34 : decode method_2_code 34 = .ok (.ireturn, 1) := by decide +kernel
theorem d_method_2_35 : decode method_2_code 35 = .ok (.bipush 45, 2) := by decide +kernel
theorem d_method_2_37 : decode method_2_code 37 = .ok (.ireturn, 1) := by decide +kernel
theorem d_method_3_0 : decode method_3_code 0 = .ok (.iload_n 0, 1) := by decide +kernel
theorem d_method_3_1 : decode method_3_code 1 = .ok (.ldc 7, 2) := by decide +kernel
theorem d_method_3_3 : decode method_3_code 3 = .ok (.iand, 1) := by decide +kernel
theorem d_method_3_4 : decode method_3_code 4 = .ok (.bipush 36, 2) := by decide +kernel
theorem d_method_3_6 : decode method_3_code 6 = .ok (.irem, 1) := by decide +kernel
theorem d_method_3_7 : decode method_3_code 7 = .ok (.istore_n 1, 1) := by decide +kernel
theorem d_method_3_8 : decode method_3_code 8 = .ok (.iload_n 1, 1) := by decide +kernel
theorem d_method_3_9 : decode method_3_code 9 = .ok (.bipush 26, 2) := by decide +kernel
theorem d_method_3_11 : decode method_3_code 11 = .ok (.if_icmp .ge 9, 3) := by decide +kernel
theorem d_method_3_14 : decode method_3_code 14 = .ok (.bipush 97, 2) := by decide +kernel
theorem d_method_3_16 : decode method_3_code 16 = .ok (.iload_n 1, 1) := by decide +kernel
theorem d_method_3_17 : decode method_3_code 17 = .ok (.iadd, 1) := by decide +kernel
theorem d_method_3_18 : decode method_3_code 18 = .ok (.i2c, 1) := by decide +kernel
theorem d_method_3_19 : decode method_3_code 19 = .ok (.ireturn, 1) := by decide +kernel
theorem d_method_3_20 : decode method_3_code 20 = .ok (.bipush 48, 2) := by decide +kernel
theorem d_method_3_22 : decode method_3_code 22 = .ok (.iload_n 1, 1) := by decide +kernel
theorem d_method_3_23 : decode method_3_code 23 = .ok (.bipush 26, 2) := by decide +kernel
theorem d_method_3_25 : decode method_3_code 25 = .ok (.isub, 1) := by decide +kernel
theorem d_method_3_26 : decode method_3_code 26 = .ok (.iadd, 1) := by decide +kernel
theorem d_method_3_27 : decode method_3_code 27 = .ok (.i2c, 1) := by decide +kernel
theorem d_method_3_28 : decode method_3_code 28 = .ok (.ireturn, 1) := by decide +kernel
theorem d_method_4_0 : decode method_4_code 0 = .ok (.iload_n 0, 1) := by decide +kernel
theorem d_method_4_1 : decode method_4_code 1 = .ok (.iconst 1, 1) := by decide +kernel
theorem d_method_4_2 : decode method_4_code 2 = .ok (.if_icmp .ne 7, 3) := by decide +kernel
theorem d_method_4_5 : decode method_4_code 5 = .ok (.iconst 1, 1) := by decide +kernel
theorem d_method_4_6 : decode method_4_code 6 = .ok (.newarray .char, 2) := by decide +kernel
theorem d_method_4_8 : decode method_4_code 8 = .ok (.areturn, 1) := by decide +kernel
theorem d_method_4_9 : decode method_4_code 9 = .ok (.iload_n 0, 1) := by decide +kernel
theorem d_method_4_10 : decode method_4_code 10 = .ok (.iconst 2, 1) := by decide +kernel
theorem d_method_4_11 : decode method_4_code 11 = .ok (.if_icmp .ne 7, 3) := by decide +kernel
theorem d_method_4_14 : decode method_4_code 14 = .ok (.iconst 2, 1) := by decide +kernel
theorem d_method_4_15 : decode method_4_code 15 = .ok (.newarray .char, 2) := by decide +kernel
theorem d_method_4_17 : decode method_4_code 17 = .ok (.areturn, 1) := by decide +kernel
theorem d_method_4_18 : decode method_4_code 18 = .ok (.iload_n 0, 1) := by decide +kernel
theorem d_method_4_19 : decode method_4_code 19 = .ok (.iconst 3, 1) := by decide +kernel
theorem d_method_4_20 : decode method_4_code 20 = .ok (.if_icmp .ne 7, 3) := by decide +kernel
theorem d_method_4_23 : decode method_4_code 23 = .ok (.iconst 3, 1) := by decide +kernel
theorem d_method_4_24 : decode method_4_code 24 = .ok (.newarray .char, 2) := by decide +kernel
theorem d_method_4_26 : decode method_4_code 26 = .ok (.areturn, 1) := by decide +kernel
theorem d_method_4_27 : decode method_4_code 27 = .ok (.iload_n 0, 1) := by decide +kernel
theorem d_method_4_28 : decode method_4_code 28 = .ok (.iconst 4, 1) := by decide +kernel
theorem d_method_4_29 : decode method_4_code 29 = .ok (.if_icmp .ne 7, 3) := by decide +kernel
theorem d_method_4_32 : decode method_4_code 32 = .ok (.iconst 4, 1) := by decide +kernel
theorem d_method_4_33 : decode method_4_code 33 = .ok (.newarray .char, 2) := by decide +kernel
theorem d_method_4_35 : decode method_4_code 35 = .ok (.areturn, 1) := by decide +kernel
theorem d_method_4_36 : decode method_4_code 36 = .ok (.iload_n 0, 1) := by decide +kernel
theorem d_method_4_37 : decode method_4_code 37 = .ok (.iconst 5, 1) := by decide +kernel
theorem d_method_4_38 : decode method_4_code 38 = .ok (.if_icmp .ne 7, 3) := by decide +kernel
theorem d_method_4_41 : decode method_4_code 41 = .ok (.iconst 5, 1) := by decide +kernel
theorem d_method_4_42 : decode method_4_code 42 = .ok (.newarray .char, 2) := by decide +kernel
theorem d_method_4_44 : decode method_4_code 44 = .ok (.areturn, 1) := by decide +kernel
theorem d_method_4_45 : decode method_4_code 45 = .ok (.iload_n 0, 1) := by decide +kernel
theorem d_method_4_46 : decode method_4_code 46 = .ok (.bipush 6, 2) := by decide +kernel
theorem d_method_4_48 : decode method_4_code 48 = .ok (.if_icmp .ne 8, 3) := by decide +kernel
theorem d_method_4_51 : decode method_4_code 51 = .ok (.bipush 6, 2) := by decide +kernel
theorem d_method_4_53 : decode method_4_code 53 = .ok (.newarray .char, 2) := by decide +kernel
theorem d_method_4_55 : decode method_4_code 55 = .ok (.areturn, 1) := by decide +kernel
theorem d_method_4_56 : decode method_4_code 56 = .ok (.iload_n 0, 1) := by decide +kernel
theorem d_method_4_57 : decode method_4_code 57 = .ok (.bipush 7, 2) := by decide +kernel
theorem d_method_4_59 : decode method_4_code 59 = .ok (.if_icmp .ne 8, 3) := by decide +kernel
theorem d_method_4_62 : decode method_4_code 62 = .ok (.bipush 7, 2) := by decide +kernel
theorem d_method_4_64 : decode method_4_code 64 = .ok (.newarray .char, 2) := by decide +kernel
theorem d_method_4_66 : decode method_4_code 66 = .ok (.areturn, 1) := by decide +kernel
theorem d_method_4_67 : decode method_4_code 67 = .ok (.iload_n 0, 1) := by decide +kernel
theorem d_method_4_68 : decode method_4_code 68 = .ok (.bipush 8, 2) := by decide +kernel
theorem d_method_4_70 : decode method_4_code 70 = .ok (.if_icmp .ne 8, 3) := by decide +kernel
theorem d_method_4_73 : decode method_4_code 73 = .ok (.bipush 8, 2) := by decide +kernel
theorem d_method_4_75 : decode method_4_code 75 = .ok (.newarray .char, 2) := by decide +kernel
theorem d_method_4_77 : decode method_4_code 77 = .ok (.areturn, 1) := by decide +kernel
theorem d_method_4_78 : decode method_4_code 78 = .ok (.bipush 9, 2) := by decide +kernel
theorem d_method_4_80 : decode method_4_code 80 = .ok (.newarray .char, 2) := by decide +kernel
theorem d_method_4_82 : decode method_4_code 82 = .ok (.areturn, 1) := by decide +kernel
theorem d_prog_5_method_1_0 : decode prog_5_method_1_code 0 = .ok (.aload_n 0, 1) := by decide +kernel
theorem d_prog_5_method_1_1 : decode prog_5_method_1_code 1 = .ok (.invokespecial 1, 3) := by decide +kernel
theorem d_prog_5_method_1_4 : decode prog_5_method_1_code 4 = .ok (.aload_n 1, 1) := by decide +kernel
theorem d_prog_5_method_1_5 : decode prog_5_method_1_code 5 = .ok (.bipush 47, 2) := by decide +kernel
theorem d_prog_5_method_1_7 : decode prog_5_method_1_code 7 = .ok (.invokevirtual 7, 3) := by decide +kernel
theorem d_prog_5_method_1_10 : decode prog_5_method_1_code 10 = .ok (.istore_n 2, 1) := by decide +kernel
theorem d_prog_5_method_1_11 : decode prog_5_method_1_code 11 = .ok (.aload_n 1, 1) := by decide +kernel
theorem d_prog_5_method_1_12 : decode prog_5_method_1_code 12 = .ok (.iconst 0, 1) := by decide +kernel
theorem d_prog_5_method_1_13 : decode prog_5_method_1_code 13 = .ok (.iload_n 2, 1) := by decide +kernel
theorem d_prog_5_method_1_14 : decode prog_5_method_1_code 14 = .ok (.iconst 1, 1) := by decide +kernel
theorem d_prog_5_method_1_15 : decode prog_5_method_1_code 15 = .ok (.iadd, 1) := by decide +kernel
theorem d_prog_5_method_1_16 : decode prog_5_method_1_code 16 = .ok (.invokevirtual 13, 3) := by decide +kernel
theorem d_prog_5_method_1_19 : decode prog_5_method_1_code 19 = .ok (.invokestatic 17, 3) := by decide +kernel
theorem d_prog_5_method_1_22 : decode prog_5_method_1_code 22 = .ok (.ifCond .eq 16, 3) := by decide +kernel
theorem d_prog_5_method_1_25 : decode prog_5_method_1_code 25 = .ok (.aload_n 1, 1) := by decide +kernel
theorem d_prog_5_method_1_26 : decode prog_5_method_1_code 26 = .ok (.iload_n 2, 1) := by decide +kernel
theorem d_prog_5_method_1_27 : decode prog_5_method_1_code 27 = .ok (.iconst 1, 1) := by decide +kernel
theorem d_prog_5_method_1_28 : decode prog_5_method_1_code 28 = .ok (.iadd, 1) := by decide +kernel
theorem d_prog_5_method_1_29 : decode prog_5_method_1_code 29 = .ok (.invokevirtual 23, 3) := by decide +kernel
theorem d_prog_5_method_1_32 : decode prog_5_method_1_code 32 = .ok (.invokestatic 26, 3) := by decide +kernel
theorem d_prog_5_method_1_35 : decode prog_5_method_1_code 35 = .ok (.ifCond .ne 17, 3) := by decide +kernel
theorem d_prog_5_method_1_52 : decode prog_5_method_1_code 52 = .ok (.aload_n 0, 1) := by decide +kernel
theorem d_prog_5_method_1_53 : decode prog_5_method_1_code 53 = .ok (.aload_n 1, 1) := by decide +kernel
theorem d_prog_5_method_1_54 : decode prog_5_method_1_code 54 = .ok (.putfield 40, 3) := by decide +kernel
theorem d_prog_5_method_1_57 : decode prog_5_method_1_code 57 = .ok (.return_, 1) := by decide +kernel
theorem d_jdk_30_method_1_0 : decode jdk_30_method_1_code 0 = .ok (.aload_n 0, 1) := by decide +kernel
theorem d_jdk_30_method_1_1 : decode jdk_30_method_1_code 1 = .ok (.invokespecial 1, 3) := by decide +kernel
theorem d_jdk_30_method_1_4 : decode jdk_30_method_1_code 4 = .ok (.return_, 1) := by decide +kernel
theorem d_jdk_42_method_82_0 : decode jdk_42_method_82_code 0 = .ok (.aload_n 0, 1) := by decide +kernel
theorem d_jdk_42_method_82_1 : decode jdk_42_method_82_code 1 = .ok (.iload_n 1, 1) := by decide +kernel
theorem d_jdk_42_method_82_2 : decode jdk_42_method_82_code 2 = .ok (.aload_n 0, 1) := by decide +kernel
theorem d_jdk_42_method_82_3 : decode jdk_42_method_82_code 3 = .ok (.invokevirtual 505, 3) := by decide +kernel
theorem d_jdk_42_method_82_6 : decode jdk_42_method_82_code 6 = .ok (.iconst 1, 1) := by decide +kernel
theorem d_jdk_42_method_82_7 : decode jdk_42_method_82_code 7 = .ok (.isub, 1) := by decide +kernel
theorem d_jdk_42_method_82_8 : decode jdk_42_method_82_code 8 = .ok (.invokevirtual 641, 3) := by decide +kernel
theorem d_jdk_42_method_82_11 : decode jdk_42_method_82_code 11 = .ok (.ireturn, 1) := by decide +kernel
theorem d_jdk_42_method_54_0 : decode jdk_42_method_54_code 0 = .ok (.aload_n 0, 1) := by decide +kernel
theorem d_jdk_42_method_54_1 : decode jdk_42_method_54_code 1 = .ok (.getfield 9, 3) := by decide +kernel
theorem d_jdk_42_method_54_4 : decode jdk_42_method_54_code 4 = .ok (.arraylength, 1) := by decide +kernel
theorem d_jdk_42_method_54_5 : decode jdk_42_method_54_code 5 = .ok (.aload_n 0, 1) := by decide +kernel
theorem d_jdk_42_method_54_6 : decode jdk_42_method_54_code 6 = .ok (.invokevirtual 335, 3) := by decide +kernel
theorem d_jdk_42_method_54_9 : decode jdk_42_method_54_code 9 = .ok (.ishr, 1) := by decide +kernel
theorem d_jdk_42_method_54_10 : decode jdk_42_method_54_code 10 = .ok (.ireturn, 1) := by decide +kernel
theorem d_jdk_42_method_152_0 : decode jdk_42_method_152_code 0 = .ok (.getstatic 38, 3) := by decide +kernel
theorem d_jdk_42_method_152_3 : decode jdk_42_method_152_code 3 = .ok (.ifCond .eq 10, 3) := by decide +kernel
theorem d_jdk_42_method_152_6 : decode jdk_42_method_152_code 6 = .ok (.aload_n 0, 1) := by decide +kernel
theorem d_jdk_42_method_152_7 : decode jdk_42_method_152_code 7 = .ok (.getfield 15, 3) := by decide +kernel
theorem d_jdk_42_method_152_10 : decode jdk_42_method_152_code 10 = .ok (.goto 4, 3) := by decide +kernel
theorem d_jdk_42_method_152_14 : decode jdk_42_method_152_code 14 = .ok (.ireturn, 1) := by decide +kernel
theorem d_jdk_42_method_83_0 : decode jdk_42_method_83_code 0 = .ok (.aload_n 0, 1) := by decide +kernel
theorem d_jdk_42_method_83_1 : decode jdk_42_method_83_code 1 = .ok (.invokevirtual 492, 3) := by decide +kernel
theorem d_jdk_42_method_83_4 : decode jdk_42_method_83_code 4 = .ok (.ifCond .eq 15, 3) := by decide +kernel
theorem d_jdk_42_method_83_7 : decode jdk_42_method_83_code 7 = .ok (.aload_n 0, 1) := by decide +kernel
theorem d_jdk_42_method_83_8 : decode jdk_42_method_83_code 8 = .ok (.getfield 9, 3) := by decide +kernel
theorem d_jdk_42_method_83_11 : decode jdk_42_method_83_code 11 = .ok (.iload_n 1, 1) := by decide +kernel
theorem d_jdk_42_method_83_12 : decode jdk_42_method_83_code 12 = .ok (.iload_n 2, 1) := by decide +kernel
theorem d_jdk_42_method_83_13 : decode jdk_42_method_83_code 13 = .ok (.invokestatic 644, 3) := by decide +kernel
theorem d_jdk_42_method_83_16 : decode jdk_42_method_83_code 16 = .ok (.goto 12, 3) := by decide +kernel
theorem d_jdk_42_method_83_28 : decode jdk_42_method_83_code 28 = .ok (.ireturn, 1) := by decide +kernel
theorem d_jdk_42_method_154_0 : decode jdk_42_method_154_code 0 = .ok (.getstatic 38, 3) := by decide +kernel
theorem d_jdk_42_method_154_3 : decode jdk_42_method_154_code 3 = .ok (.ifCond .eq 14, 3) := by decide +kernel
theorem d_jdk_42_method_154_6 : decode jdk_42_method_154_code 6 = .ok (.aload_n 0, 1) := by decide +kernel
theorem d_jdk_42_method_154_7 : decode jdk_42_method_154_code 7 = .ok (.getfield 15, 3) := by decide +kernel
theorem d_jdk_42_method_154_10 : decode jdk_42_method_154_code 10 = .ok (.ifCond .ne 7, 3) := by decide +kernel
theorem d_jdk_42_method_154_13 : decode jdk_42_method_154_code 13 = .ok (.iconst 1, 1) := by decide +kernel
theorem d_jdk_42_method_154_14 : decode jdk_42_method_154_code 14 = .ok (.goto 4, 3) := by decide +kernel
theorem d_jdk_42_method_154_18 : decode jdk_42_method_154_code 18 = .ok (.ireturn, 1) := by decide +kernel
theorem d_jdk_43_method_27_0 : decode jdk_43_method_27_code 0 = .ok (.iload_n 1, 1) := by decide +kernel
theorem d_jdk_43_method_27_1 : decode jdk_43_method_27_code 1 = .ok (.invokestatic 88, 3) := by decide +kernel
theorem d_jdk_43_method_27_4 : decode jdk_43_method_27_code 4 = .ok (.ifCond .ne 5, 3) := by decide +kernel
theorem d_jdk_43_method_27_9 : decode jdk_43_method_27_code 9 = .ok (.iload_n 2, 1) := by decide +kernel
theorem d_jdk_43_method_27_10 : decode jdk_43_method_27_code 10 = .ok (.aload_n 0, 1) := by decide +kernel
theorem d_jdk_43_method_27_11 : decode jdk_43_method_27_code 11 = .ok (.arraylength, 1) := by decide +kernel
theorem d_jdk_43_method_27_12 : decode jdk_43_method_27_code 12 = .ok (.iconst 1, 1) := by decide +kernel
theorem d_jdk_43_method_27_13 : decode jdk_43_method_27_code 13 = .ok (.isub, 1) := by decide +kernel
theorem d_jdk_43_method_27_14 : decode jdk_43_method_27_code 14 = .ok (.invokestatic 38, 3) := by decide +kernel
theorem d_jdk_43_method_27_17 : decode jdk_43_method_27_code 17 = .ok (.istore_n 3, 1) := by decide +kernel
theorem d_jdk_43_method_27_18 : decode jdk_43_method_27_code 18 = .ok (.iload_n 3, 1) := by decide +kernel
theorem d_jdk_43_method_27_19 : decode jdk_43_method_27_code 19 = .ok (.ifCond .lt 19, 3) := by decide +kernel
theorem d_jdk_43_method_27_22 : decode jdk_43_method_27_code 22 = .ok (.aload_n 0, 1) := by decide +kernel
theorem d_jdk_43_method_27_23 : decode jdk_43_method_27_code 23 = .ok (.iload_n 3, 1) := by decide +kernel
theorem d_jdk_43_method_27_24 : decode jdk_43_method_27_code 24 = .ok (.baload, 1) := by decide +kernel
theorem d_jdk_43_method_27_25 : decode jdk_43_method_27_code 25 = .ok (.iload_n 1, 1) := by decide +kernel
theorem d_jdk_43_method_27_26 : decode jdk_43_method_27_code 26 = .ok (.i2b, 1) := by decide +kernel
theorem d_jdk_43_method_27_27 : decode jdk_43_method_27_code 27 = .ok (.if_icmp .ne 5, 3) := by decide +kernel
theorem d_jdk_43_method_27_30 : decode jdk_43_method_27_code 30 = .ok (.iload_n 3, 1) := by decide +kernel
theorem d_jdk_43_method_27_31 : decode jdk_43_method_27_code 31 = .ok (.ireturn, 1) := by decide +kernel
theorem d_jdk_43_method_27_32 : decode jdk_43_method_27_code 32 = .ok (.iinc 3 (-1), 3) := by decide +kernel
theorem d_jdk_43_method_27_35 : decode jdk_43_method_27_code 35 = .ok (.goto (-17), 3) := by decide +kernel
theorem d_jdk_43_method_4_0 : decode jdk_43_method_4_code 0 = .ok (.iload_n 0, 1) := by decide +kernel
theorem d_jdk_43_method_4_1 : decode jdk_43_method_4_code 1 = .ok (.ifCond .lt 14, 3) := by decide +kernel
theorem d_jdk_43_method_4_4 : decode jdk_43_method_4_code 4 = .ok (.iload_n 0, 1) := by decide +kernel
theorem d_jdk_43_method_4_5 : decode jdk_43_method_4_code 5 = .ok (.sipush 255, 3) := by decide +kernel
theorem d_jdk_43_method_4_8 : decode jdk_43_method_4_code 8 = .ok (.if_icmp .gt 7, 3) := by decide +kernel
theorem d_jdk_43_method_4_11 : decode jdk_43_method_4_code 11 = .ok (.iconst 1, 1) := by decide +kernel
theorem d_jdk_43_method_4_12 : decode jdk_43_method_4_code 12 = .ok (.goto 4, 3) := by decide +kernel
theorem d_jdk_43_method_4_16 : decode jdk_43_method_4_code 16 = .ok (.ireturn, 1) := by decide +kernel
theorem d_jdk_29_method_69_0 : decode jdk_29_method_69_code 0 = .ok (.iload_n 0, 1) := by decide +kernel
theorem d_jdk_29_method_69_1 : decode jdk_29_method_69_code 1 = .ok (.iload_n 1, 1) := by decide +kernel
theorem d_jdk_29_method_69_2 : decode jdk_29_method_69_code 2 = .ok (.if_icmp .gt 7, 3) := by decide +kernel
theorem d_jdk_29_method_69_5 : decode jdk_29_method_69_code 5 = .ok (.iload_n 0, 1) := by decide +kernel
theorem d_jdk_29_method_69_6 : decode jdk_29_method_69_code 6 = .ok (.goto 4, 3) := by decide +kernel
theorem d_jdk_29_method_69_9 : decode jdk_29_method_69_code 9 = .ok (.iload_n 1, 1) := by decide +kernel
theorem d_jdk_29_method_69_10 : decode jdk_29_method_69_code 10 = .ok (.ireturn, 1) := by decide +kernel
theorem d_jdk_42_method_92_0 : decode jdk_42_method_92_code 0 = .ok (.aload_n 0, 1) := by decide +kernel
theorem d_jdk_42_method_92_1 : decode jdk_42_method_92_code 1 = .ok (.invokevirtual 505, 3) := by decide +kernel
theorem d_jdk_42_method_92_4 : decode jdk_42_method_92_code 4 = .ok (.istore_n 3, 1) := by decide +kernel
theorem d_jdk_42_method_92_5 : decode jdk_42_method_92_code 5 = .ok (.iload_n 1, 1) := by decide +kernel
theorem d_jdk_42_method_92_6 : decode jdk_42_method_92_code 6 = .ok (.iload_n 2, 1) := by decide +kernel
theorem d_jdk_42_method_92_7 : decode jdk_42_method_92_code 7 = .ok (.iload_n 3, 1) := by decide +kernel
theorem d_jdk_42_method_92_8 : decode jdk_42_method_92_code 8 = .ok (.invokestatic 521, 3) := by decide +kernel
theorem d_jdk_42_method_92_11 : decode jdk_42_method_92_code 11 = .ok (.iload_n 1, 1) := by decide +kernel
theorem d_jdk_42_method_92_12 : decode jdk_42_method_92_code 12 = .ok (.ifCond .ne 10, 3) := by decide +kernel
theorem d_jdk_42_method_92_15 : decode jdk_42_method_92_code 15 = .ok (.iload_n 2, 1) := by decide +kernel
theorem d_jdk_42_method_92_16 : decode jdk_42_method_92_code 16 = .ok (.iload_n 3, 1) := by decide +kernel
theorem d_jdk_42_method_92_17 : decode jdk_42_method_92_code 17 = .ok (.if_icmp .ne 5, 3) := by decide +kernel
theorem d_jdk_42_method_92_22 : decode jdk_42_method_92_code 22 = .ok (.iload_n 2, 1) := by decide +kernel
theorem d_jdk_42_method_92_23 : decode jdk_42_method_92_code 23 = .ok (.iload_n 1, 1) := by decide +kernel
theorem d_jdk_42_method_92_24 : decode jdk_42_method_92_code 24 = .ok (.isub, 1) := by decide +kernel
theorem d_jdk_42_method_92_25 : decode jdk_42_method_92_code 25 = .ok (.istore 4, 2) := by decide +kernel
theorem d_jdk_42_method_92_27 : decode jdk_42_method_92_code 27 = .ok (.aload_n 0, 1) := by decide +kernel
theorem d_jdk_42_method_92_28 : decode jdk_42_method_92_code 28 = .ok (.invokevirtual 492, 3) := by decide +kernel
theorem d_jdk_42_method_92_31 : decode jdk_42_method_92_code 31 = .ok (.ifCond .eq 16, 3) := by decide +kernel
theorem d_jdk_42_method_92_34 : decode jdk_42_method_92_code 34 = .ok (.aload_n 0, 1) := by decide +kernel
theorem d_jdk_42_method_92_35 : decode jdk_42_method_92_code 35 = .ok (.getfield 9, 3) := by decide +kernel
theorem d_jdk_42_method_92_38 : decode jdk_42_method_92_code 38 = .ok (.iload_n 1, 1) := by decide +kernel
theorem d_jdk_42_method_92_39 : decode jdk_42_method_92_code 39 = .ok (.iload 4, 2) := by decide +kernel
theorem d_jdk_42_method_92_41 : decode jdk_42_method_92_code 41 = .ok (.invokestatic 685, 3) := by decide +kernel
theorem d_jdk_42_method_92_44 : decode jdk_42_method_92_code 44 = .ok (.goto 13, 3) := by decide +kernel
theorem d_jdk_42_method_92_57 : decode jdk_42_method_92_code 57 = .ok (.areturn, 1) := by decide +kernel
theorem d_jdk_42_method_158_0 : decode jdk_42_method_158_code 0 = .ok (.iload_n 0, 1) := by decide +kernel
theorem d_jdk_42_method_158_1 : decode jdk_42_method_158_code 1 = .ok (.iload_n 1, 1) := by decide +kernel
theorem d_jdk_42_method_158_2 : decode jdk_42_method_158_code 2 = .ok (.iload_n 2, 1) := by decide +kernel
theorem d_jdk_42_method_158_3 : decode jdk_42_method_158_code 3 = .ok (.getstatic 1053, 3) := by decide +kernel
theorem d_jdk_42_method_158_6 : decode jdk_42_method_158_code 6 = .ok (.invokestatic 1062, 3) := by decide +kernel
theorem d_jdk_42_method_158_9 : decode jdk_42_method_158_code 9 = .ok (.pop, 1) := by decide +kernel
theorem d_jdk_42_method_158_10 : decode jdk_42_method_158_code 10 = .ok (.return_, 1) := by decide +kernel
theorem d_jdk_41_method_12_0 : decode jdk_41_method_12_code 0 = .ok (.iload_n 0, 1) := by decide +kernel
theorem d_jdk_41_method_12_1 : decode jdk_41_method_12_code 1 = .ok (.ifCond .lt 13, 3) := by decide +kernel
theorem d_jdk_41_method_12_4 : decode jdk_41_method_12_code 4 = .ok (.iload_n 0, 1) := by decide +kernel
theorem d_jdk_41_method_12_5 : decode jdk_41_method_12_code 5 = .ok (.iload_n 1, 1) := by decide +kernel
theorem d_jdk_41_method_12_6 : decode jdk_41_method_12_code 6 = .ok (.if_icmp .gt 8, 3) := by decide +kernel
theorem d_jdk_41_method_12_9 : decode jdk_41_method_12_code 9 = .ok (.iload_n 1, 1) := by decide +kernel
theorem d_jdk_41_method_12_10 : decode jdk_41_method_12_code 10 = .ok (.iload_n 2, 1) := by decide +kernel
theorem d_jdk_41_method_12_11 : decode jdk_41_method_12_code 11 = .ok (.if_icmp .le 11, 3) := by decide +kernel
theorem d_jdk_41_method_12_22 : decode jdk_41_method_12_code 22 = .ok (.iload_n 0, 1) := by decide +kernel
theorem d_jdk_41_method_12_23 : decode jdk_41_method_12_code 23 = .ok (.ireturn, 1) := by decide +kernel
theorem d_jdk_43_method_47_0 : decode jdk_43_method_47_code 0 = .ok (.iload_n 2, 1) := by decide +kernel
theorem d_jdk_43_method_47_1 : decode jdk_43_method_47_code 1 = .ok (.ifCond .ne 6, 3) := by decide +kernel
theorem d_jdk_43_method_47_7 : decode jdk_43_method_47_code 7 = .ok (.new 1, 3) := by decide +kernel
theorem d_jdk_43_method_47_10 : decode jdk_43_method_47_code 10 = .ok (.dup, 1) := by decide +kernel
theorem d_jdk_43_method_47_11 : decode jdk_43_method_47_code 11 = .ok (.aload_n 0, 1) := by decide +kernel
theorem d_jdk_43_method_47_12 : decode jdk_43_method_47_code 12 = .ok (.iload_n 1, 1) := by decide +kernel
theorem d_jdk_43_method_47_13 : decode jdk_43_method_47_code 13 = .ok (.iload_n 1, 1) := by decide +kernel
theorem d_jdk_43_method_47_14 : decode jdk_43_method_47_code 14 = .ok (.iload_n 2, 1) := by decide +kernel
theorem d_jdk_43_method_47_15 : decode jdk_43_method_47_code 15 = .ok (.iadd, 1) := by decide +kernel
theorem d_jdk_43_method_47_16 : decode jdk_43_method_47_code 16 = .ok (.invokestatic 232, 3) := by decide +kernel
theorem d_jdk_43_method_47_19 : decode jdk_43_method_47_code 19 = .ok (.iconst 0, 1) := by decide +kernel
theorem d_jdk_43_method_47_20 : decode jdk_43_method_47_code 20 = .ok (.invokespecial 112, 3) := by decide +kernel
theorem d_jdk_43_method_47_23 : decode jdk_43_method_47_code 23 = .ok (.areturn, 1) := by decide +kernel
theorem d_jdk_65_method_132_0 : decode jdk_65_method_132_code 0 = .ok (.iload_n 1, 1) := by decide +kernel
theorem d_jdk_65_method_132_1 : decode jdk_65_method_132_code 1 = .ok (.ifCond .ne 9, 3) := by decide +kernel
theorem d_jdk_65_method_132_4 : decode jdk_65_method_132_code 4 = .ok (.iload_n 2, 1) := by decide +kernel
theorem d_jdk_65_method_132_5 : decode jdk_65_method_132_code 5 = .ok (.aload_n 0, 1) := by decide +kernel
theorem d_jdk_65_method_132_6 : decode jdk_65_method_132_code 6 = .ok (.arraylength, 1) := by decide +kernel
theorem d_jdk_65_method_132_7 : decode jdk_65_method_132_code 7 = .ok (.if_icmp .eq 10, 3) := by decide +kernel
theorem d_jdk_65_method_132_10 : decode jdk_65_method_132_code 10 = .ok (.aload_n 0, 1) := by decide +kernel
theorem d_jdk_65_method_132_11 : decode jdk_65_method_132_code 11 = .ok (.iload_n 1, 1) := by decide +kernel
theorem d_jdk_65_method_132_12 : decode jdk_65_method_132_code 12 = .ok (.iload_n 2, 1) := by decide +kernel
theorem d_jdk_65_method_132_13 : decode jdk_65_method_132_code 13 = .ok (.invokestatic 339, 3) := by decide +kernel
theorem d_jdk_65_method_132_16 : decode jdk_65_method_132_code 16 = .ok (.areturn, 1) := by decide +kernel
theorem d_jdk_65_method_133_0 : decode jdk_65_method_133_code 0 = .ok (.iload_n 1, 1) := by decide +kernel
theorem d_jdk_65_method_133_1 : decode jdk_65_method_133_code 1 = .ok (.iload_n 2, 1) := by decide +kernel
theorem d_jdk_65_method_133_2 : decode jdk_65_method_133_code 2 = .ok (.invokestatic 343, 3) := by decide +kernel
theorem d_jdk_65_method_133_5 : decode jdk_65_method_133_code 5 = .ok (.iload_n 2, 1) := by decide +kernel
theorem d_jdk_65_method_133_6 : decode jdk_65_method_133_code 6 = .ok (.iload_n 1, 1) := by decide +kernel
theorem d_jdk_65_method_133_7 : decode jdk_65_method_133_code 7 = .ok (.isub, 1) := by decide +kernel
theorem d_jdk_65_method_133_8 : decode jdk_65_method_133_code 8 = .ok (.istore_n 3, 1) := by decide +kernel
theorem d_jdk_65_method_133_9 : decode jdk_65_method_133_code 9 = .ok (.iload_n 3, 1) := by decide +kernel
theorem d_jdk_65_method_133_10 : decode jdk_65_method_133_code 10 = .ok (.newarray .byte, 2) := by decide +kernel
theorem d_jdk_65_method_133_12 : decode jdk_65_method_133_code 12 = .ok (.astore 4, 2) := by decide +kernel
theorem d_jdk_65_method_133_14 : decode jdk_65_method_133_code 14 = .ok (.aload_n 0, 1) := by decide +kernel
theorem d_jdk_65_method_133_15 : decode jdk_65_method_133_code 15 = .ok (.iload_n 1, 1) := by decide +kernel
theorem d_jdk_65_method_133_16 : decode jdk_65_method_133_code 16 = .ok (.aload 4, 2) := by decide +kernel
theorem d_jdk_65_method_133_18 : decode jdk_65_method_133_code 18 = .ok (.iconst 0, 1) := by decide +kernel
theorem d_jdk_65_method_133_19 : decode jdk_65_method_133_code 19 = .ok (.aload_n 0, 1) := by decide +kernel
theorem d_jdk_65_method_133_20 : decode jdk_65_method_133_code 20 = .ok (.arraylength, 1) := by decide +kernel
theorem d_jdk_65_method_133_21 : decode jdk_65_method_133_code 21 = .ok (.iload_n 1, 1) := by decide +kernel
theorem d_jdk_65_method_133_22 : decode jdk_65_method_133_code 22 = .ok (.isub, 1) := by decide +kernel
theorem d_jdk_65_method_133_23 : decode jdk_65_method_133_code 23 = .ok (.iload_n 3, 1) := by decide +kernel
theorem d_jdk_65_method_133_24 : decode jdk_65_method_133_code 24 = .ok (.invokestatic 304, 3) := by decide +kernel
theorem d_jdk_65_method_133_27 : decode jdk_65_method_133_code 27 = .ok (.invokestatic 150, 3) := by decide +kernel
theorem d_jdk_65_method_133_30 : decode jdk_65_method_133_code 30 = .ok (.aload 4, 2) := by decide +kernel
theorem d_jdk_65_method_133_32 : decode jdk_65_method_133_code 32 = .ok (.areturn, 1) := by decide +kernel
theorem d_jdk_65_method_131_0 : decode jdk_65_method_131_code 0 = .ok (.iload_n 1, 1) := by decide +kernel
theorem d_jdk_65_method_131_1 : decode jdk_65_method_131_code 1 = .ok (.iload_n 0, 1) := by decide +kernel
theorem d_jdk_65_method_131_2 : decode jdk_65_method_131_code 2 = .ok (.if_icmp .ge 35, 3) := by decide +kernel
theorem d_jdk_65_method_131_37 : decode jdk_65_method_131_code 37 = .ok (.return_, 1) := by decide +kernel
theorem d_jdk_42_method_151_0 : decode jdk_42_method_151_code 0 = .ok (.aload_n 0, 1) := by decide +kernel
theorem d_jdk_42_method_151_1 : decode jdk_42_method_151_code 1 = .ok (.invokespecial 1, 3) := by decide +kernel
theorem d_jdk_42_method_151_4 : decode jdk_42_method_151_code 4 = .ok (.aload_n 0, 1) := by decide +kernel
theorem d_jdk_42_method_151_5 : decode jdk_42_method_151_code 5 = .ok (.aload_n 1, 1) := by decide +kernel
theorem d_jdk_42_method_151_6 : decode jdk_42_method_151_code 6 = .ok (.putfield 9, 3) := by decide +kernel
theorem d_jdk_42_method_151_9 : decode jdk_42_method_151_code 9 = .ok (.aload_n 0, 1) := by decide +kernel
theorem d_jdk_42_method_151_10 : decode jdk_42_method_151_code 10 = .ok (.iload_n 2, 1) := by decide +kernel
theorem d_jdk_42_method_151_11 : decode jdk_42_method_151_code 11 = .ok (.putfield 15, 3) := by decide +kernel
theorem d_jdk_42_method_151_14 : decode jdk_42_method_151_code 14 = .ok (.return_, 1) := by decide +kernel
theorem d_prog_12_method_2_0 : decode prog_12_method_2_code 0 = .ok (.aload_n 0, 1) := by decide +kernel
theorem d_prog_12_method_2_1 : decode prog_12_method_2_code 1 = .ok (.invokevirtual 26, 3) := by decide +kernel
theorem d_prog_12_method_2_4 : decode prog_12_method_2_code 4 = .ok (.iconst 1, 1) := by decide +kernel
theorem d_prog_12_method_2_5 : decode prog_12_method_2_code 5 = .ok (.isub, 1) := by decide +kernel
theorem d_prog_12_method_2_6 : decode prog_12_method_2_code 6 = .ok (.istore_n 1, 1) := by decide +kernel
theorem d_prog_12_method_2_7 : decode prog_12_method_2_code 7 = .ok (.iload_n 1, 1) := by decide +kernel
theorem d_prog_12_method_2_8 : decode prog_12_method_2_code 8 = .ok (.ifCond .lt 23, 3) := by decide +kernel
theorem d_prog_12_method_2_11 : decode prog_12_method_2_code 11 = .ok (.aload_n 0, 1) := by decide +kernel
theorem d_prog_12_method_2_12 : decode prog_12_method_2_code 12 = .ok (.iconst 0, 1) := by decide +kernel
theorem d_prog_12_method_2_13 : decode prog_12_method_2_code 13 = .ok (.invokevirtual 32, 3) := by decide +kernel
theorem d_prog_12_method_2_16 : decode prog_12_method_2_code 16 = .ok (.bipush 47, 2) := by decide +kernel
theorem d_prog_12_method_2_18 : decode prog_12_method_2_code 18 = .ok (.if_icmp .ne 13, 3) := by decide +kernel
theorem d_prog_12_method_2_21 : decode prog_12_method_2_code 21 = .ok (.aload_n 0, 1) := by decide +kernel
theorem d_prog_12_method_2_22 : decode prog_12_method_2_code 22 = .ok (.iload_n 1, 1) := by decide +kernel
theorem d_prog_12_method_2_23 : decode prog_12_method_2_code 23 = .ok (.invokevirtual 32, 3) := by decide +kernel
theorem d_prog_12_method_2_26 : decode prog_12_method_2_code 26 = .ok (.bipush 47, 2) := by decide +kernel
theorem d_prog_12_method_2_28 : decode prog_12_method_2_code 28 = .ok (.if_icmp .eq 5, 3) := by decide +kernel
theorem d_prog_12_method_2_33 : decode prog_12_method_2_code 33 = .ok (.iconst 1, 1) := by decide +kernel
theorem d_prog_12_method_2_34 : decode prog_12_method_2_code 34 = .ok (.istore_n 2, 1) := by decide +kernel
theorem d_prog_12_method_2_35 : decode prog_12_method_2_code 35 = .ok (.iconst 1, 1) := by decide +kernel
theorem d_prog_12_method_2_36 : decode prog_12_method_2_code 36 = .ok (.istore_n 3, 1) := by decide +kernel
theorem d_prog_12_method_2_37 : decode prog_12_method_2_code 37 = .ok (.iload_n 3, 1) := by decide +kernel
theorem d_prog_12_method_2_38 : decode prog_12_method_2_code 38 = .ok (.iload_n 1, 1) := by decide +kernel
theorem d_prog_12_method_2_39 : decode prog_12_method_2_code 39 = .ok (.if_icmp .gt 87, 3) := by decide +kernel
theorem d_prog_12_method_2_42 : decode prog_12_method_2_code 42 = .ok (.aload_n 0, 1) := by decide +kernel
theorem d_prog_12_method_2_43 : decode prog_12_method_2_code 43 = .ok (.iload_n 3, 1) := by decide +kernel
theorem d_prog_12_method_2_44 : decode prog_12_method_2_code 44 = .ok (.invokevirtual 32, 3) := by decide +kernel
theorem d_prog_12_method_2_47 : decode prog_12_method_2_code 47 = .ok (.istore 4, 2) := by decide +kernel
theorem d_prog_12_method_2_49 : decode prog_12_method_2_code 49 = .ok (.iload 4, 2) := by decide +kernel
theorem d_prog_12_method_2_51 : decode prog_12_method_2_code 51 = .ok (.bipush 47, 2) := by decide +kernel
theorem d_prog_12_method_2_53 : decode prog_12_method_2_code 53 = .ok (.if_icmp .ne 30, 3) := by decide +kernel
theorem d_prog_12_method_2_56 : decode prog_12_method_2_code 56 = .ok (.iload_n 3, 1) := by decide +kernel
theorem d_prog_12_method_2_57 : decode prog_12_method_2_code 57 = .ok (.iload_n 2, 1) := by decide +kernel
theorem d_prog_12_method_2_58 : decode prog_12_method_2_code 58 = .ok (.isub, 1) := by decide +kernel
theorem d_prog_12_method_2_59 : decode prog_12_method_2_code 59 = .ok (.istore 5, 2) := by decide +kernel
theorem d_prog_12_method_2_61 : decode prog_12_method_2_code 61 = .ok (.iload 5, 2) := by decide +kernel
theorem d_prog_12_method_2_63 : decode prog_12_method_2_code 63 = .ok (.ifCond .eq 11, 3) := by decide +kernel
theorem d_prog_12_method_2_66 : decode prog_12_method_2_code 66 = .ok (.iload 5, 2) := by decide +kernel
theorem d_prog_12_method_2_68 : decode prog_12_method_2_code 68 = .ok (.sipush 255, 3) := by decide +kernel
theorem d_prog_12_method_2_71 : decode prog_12_method_2_code 71 = .ok (.if_icmp .le 5, 3) := by decide +kernel
theorem d_prog_12_method_2_76 : decode prog_12_method_2_code 76 = .ok (.iload_n 3, 1) := by decide +kernel
theorem d_prog_12_method_2_77 : decode prog_12_method_2_code 77 = .ok (.iconst 1, 1) := by decide +kernel
theorem d_prog_12_method_2_78 : decode prog_12_method_2_code 78 = .ok (.iadd, 1) := by decide +kernel
theorem d_prog_12_method_2_79 : decode prog_12_method_2_code 79 = .ok (.istore_n 2, 1) := by decide +kernel
theorem d_prog_12_method_2_80 : decode prog_12_method_2_code 80 = .ok (.goto 40, 3) := by decide +kernel
theorem d_prog_12_method_2_83 : decode prog_12_method_2_code 83 = .ok (.iload 4, 2) := by decide +kernel
theorem d_prog_12_method_2_85 : decode prog_12_method_2_code 85 = .ok (.bipush 97, 2) := by decide +kernel
theorem d_prog_12_method_2_87 : decode prog_12_method_2_code 87 = .ok (.if_icmp .lt 10, 3) := by decide +kernel
theorem d_prog_12_method_2_90 : decode prog_12_method_2_code 90 = .ok (.iload 4, 2) := by decide +kernel
theorem d_prog_12_method_2_92 : decode prog_12_method_2_code 92 = .ok (.bipush 122, 2) := by decide +kernel
theorem d_prog_12_method_2_94 : decode prog_12_method_2_code 94 = .ok (.if_icmp .le 26, 3) := by decide +kernel
theorem d_prog_12_method_2_97 : decode prog_12_method_2_code 97 = .ok (.iload 4, 2) := by decide +kernel
theorem d_prog_12_method_2_99 : decode prog_12_method_2_code 99 = .ok (.bipush 48, 2) := by decide +kernel
theorem d_prog_12_method_2_101 : decode prog_12_method_2_code 101 = .ok (.if_icmp .lt 10, 3) := by decide +kernel
theorem d_prog_12_method_2_104 : decode prog_12_method_2_code 104 = .ok (.iload 4, 2) := by decide +kernel
theorem d_prog_12_method_2_106 : decode prog_12_method_2_code 106 = .ok (.bipush 57, 2) := by decide +kernel
theorem d_prog_12_method_2_108 : decode prog_12_method_2_code 108 = .ok (.if_icmp .le 12, 3) := by decide +kernel
theorem d_prog_12_method_2_111 : decode prog_12_method_2_code 111 = .ok (.iload 4, 2) := by decide +kernel
theorem d_prog_12_method_2_113 : decode prog_12_method_2_code 113 = .ok (.bipush 45, 2) := by decide +kernel
theorem d_prog_12_method_2_115 : decode prog_12_method_2_code 115 = .ok (.if_icmp .eq 5, 3) := by decide +kernel
theorem d_prog_12_method_2_120 : decode prog_12_method_2_code 120 = .ok (.iinc 3 1, 3) := by decide +kernel
theorem d_prog_12_method_2_123 : decode prog_12_method_2_code 123 = .ok (.goto (-86), 3) := by decide +kernel
theorem d_prog_12_method_2_126 : decode prog_12_method_2_code 126 = .ok (.iconst 1, 1) := by decide +kernel
theorem d_prog_12_method_2_127 : decode prog_12_method_2_code 127 = .ok (.ireturn, 1) := by decide +kernel
theorem d_jdk_42_method_56_0 : decode jdk_42_method_56_code 0 = .ok (.aload_n 0, 1) := by decide +kernel
theorem d_jdk_42_method_56_1 : decode jdk_42_method_56_code 1 = .ok (.invokevirtual 492, 3) := by decide +kernel
theorem d_jdk_42_method_56_4 : decode jdk_42_method_56_code 4 = .ok (.ifCond .eq 12, 3) := by decide +kernel
theorem d_jdk_42_method_56_7 : decode jdk_42_method_56_code 7 = .ok (.aload_n 0, 1) := by decide +kernel
theorem d_jdk_42_method_56_8 : decode jdk_42_method_56_code 8 = .ok (.getfield 9, 3) := by decide +kernel
theorem d_jdk_42_method_56_11 : decode jdk_42_method_56_code 11 = .ok (.iload_n 1, 1) := by decide +kernel
theorem d_jdk_42_method_56_12 : decode jdk_42_method_56_code 12 = .ok (.invokestatic 495, 3) := by decide +kernel
theorem d_jdk_42_method_56_15 : decode jdk_42_method_56_code 15 = .ok (.ireturn, 1) := by decide +kernel
theorem d_jdk_43_method_2_0 : decode jdk_43_method_2_code 0 = .ok (.iload_n 1, 1) := by decide +kernel
theorem d_jdk_43_method_2_1 : decode jdk_43_method_2_code 1 = .ok (.aload_n 0, 1) := by decide +kernel
theorem d_jdk_43_method_2_2 : decode jdk_43_method_2_code 2 = .ok (.arraylength, 1) := by decide +kernel
theorem d_jdk_43_method_2_3 : decode jdk_43_method_2_code 3 = .ok (.invokestatic 9, 3) := by decide +kernel
theorem d_jdk_43_method_2_6 : decode jdk_43_method_2_code 6 = .ok (.aload_n 0, 1) := by decide +kernel
theorem d_jdk_43_method_2_7 : decode jdk_43_method_2_code 7 = .ok (.iload_n 1, 1) := by decide +kernel
theorem d_jdk_43_method_2_8 : decode jdk_43_method_2_code 8 = .ok (.baload, 1) := by decide +kernel
theorem d_jdk_43_method_2_9 : decode jdk_43_method_2_code 9 = .ok (.sipush 255, 3) := by decide +kernel
theorem d_jdk_43_method_2_12 : decode jdk_43_method_2_code 12 = .ok (.iand, 1) := by decide +kernel
theorem d_jdk_43_method_2_13 : decode jdk_43_method_2_code 13 = .ok (.i2c, 1) := by decide +kernel
theorem d_jdk_43_method_2_14 : decode jdk_43_method_2_code 14 = .ok (.ireturn, 1) := by decide +kernel
theorem d_jdk_42_method_155_0 : decode jdk_42_method_155_code 0 = .ok (.iload_n 0, 1) := by decide +kernel
theorem d_jdk_42_method_155_1 : decode jdk_42_method_155_code 1 = .ok (.iload_n 1, 1) := by decide +kernel
theorem d_jdk_42_method_155_2 : decode jdk_42_method_155_code 2 = .ok (.getstatic 1053, 3) := by decide +kernel
theorem d_jdk_42_method_155_5 : decode jdk_42_method_155_code 5 = .ok (.invokestatic 1059, 3) := by decide +kernel
theorem d_jdk_42_method_155_8 : decode jdk_42_method_155_code 8 = .ok (.pop, 1) := by decide +kernel
theorem d_jdk_42_method_155_9 : decode jdk_42_method_155_code 9 = .ok (.return_, 1) := by decide +kernel
theorem d_jdk_41_method_11_0 : decode jdk_41_method_11_code 0 = .ok (.iload_n 0, 1) := by decide +kernel
theorem d_jdk_41_method_11_1 : decode jdk_41_method_11_code 1 = .ok (.ifCond .lt 8, 3) := by decide +kernel
theorem d_jdk_41_method_11_4 : decode jdk_41_method_11_code 4 = .ok (.iload_n 0, 1) := by decide +kernel
theorem d_jdk_41_method_11_5 : decode jdk_41_method_11_code 5 = .ok (.iload_n 1, 1) := by decide +kernel
theorem d_jdk_41_method_11_6 : decode jdk_41_method_11_code 6 = .ok (.if_icmp .lt 10, 3) := by decide +kernel
theorem d_jdk_41_method_11_16 : decode jdk_41_method_11_code 16 = .ok (.iload_n 0, 1) := by decide +kernel
theorem d_jdk_41_method_11_17 : decode jdk_41_method_11_code 17 = .ok (.ireturn, 1) := by decide +kernel
theorem d_jdk_42_method_91_0 : decode jdk_42_method_91_code 0 = .ok (.aload_n 0, 1) := by decide +kernel
theorem d_jdk_42_method_91_1 : decode jdk_42_method_91_code 1 = .ok (.iload_n 1, 1) := by decide +kernel
theorem d_jdk_42_method_91_2 : decode jdk_42_method_91_code 2 = .ok (.aload_n 0, 1) := by decide +kernel
theorem d_jdk_42_method_91_3 : decode jdk_42_method_91_code 3 = .ok (.invokevirtual 505, 3) := by decide +kernel
theorem d_jdk_42_method_91_6 : decode jdk_42_method_91_code 6 = .ok (.invokevirtual 681, 3) := by decide +kernel
theorem d_jdk_42_method_91_9 : decode jdk_42_method_91_code 9 = .ok (.areturn, 1) := by decide +kernel
theorem d_prog_5_method_4_0 : decode prog_5_method_4_code 0 = .ok (.aload_n 0, 1) := by decide +kernel
theorem d_prog_5_method_4_1 : decode prog_5_method_4_code 1 = .ok (.bipush 46, 2) := by decide +kernel
theorem d_prog_5_method_4_3 : decode prog_5_method_4_code 3 = .ok (.invokevirtual 50, 3) := by decide +kernel
theorem d_prog_5_method_4_6 : decode prog_5_method_4_code 6 = .ok (.istore_n 1, 1) := by decide +kernel
theorem d_prog_5_method_4_7 : decode prog_5_method_4_code 7 = .ok (.iload_n 1, 1) := by decide +kernel
theorem d_prog_5_method_4_8 : decode prog_5_method_4_code 8 = .ok (.iconst 1, 1) := by decide +kernel
theorem d_prog_5_method_4_9 : decode prog_5_method_4_code 9 = .ok (.if_icmp .lt 23, 3) := by decide +kernel
theorem d_prog_5_method_4_12 : decode prog_5_method_4_code 12 = .ok (.iload_n 1, 1) := by decide +kernel
theorem d_prog_5_method_4_13 : decode prog_5_method_4_code 13 = .ok (.aload_n 0, 1) := by decide +kernel
theorem d_prog_5_method_4_14 : decode prog_5_method_4_code 14 = .ok (.invokevirtual 53, 3) := by decide +kernel
theorem d_prog_5_method_4_17 : decode prog_5_method_4_code 17 = .ok (.iconst 1, 1) := by decide +kernel
theorem d_prog_5_method_4_18 : decode prog_5_method_4_code 18 = .ok (.isub, 1) := by decide +kernel
theorem d_prog_5_method_4_19 : decode prog_5_method_4_code 19 = .ok (.if_icmp .eq 13, 3) := by decide +kernel
theorem d_prog_5_method_4_22 : decode prog_5_method_4_code 22 = .ok (.aload_n 0, 1) := by decide +kernel
theorem d_prog_5_method_4_23 : decode prog_5_method_4_code 23 = .ok (.invokevirtual 53, 3) := by decide +kernel
theorem d_prog_5_method_4_26 : decode prog_5_method_4_code 26 = .ok (.sipush 255, 3) := by decide +kernel
theorem d_prog_5_method_4_29 : decode prog_5_method_4_code 29 = .ok (.if_icmp .le 5, 3) := by decide +kernel
theorem d_prog_5_method_4_34 : decode prog_5_method_4_code 34 = .ok (.iconst 0, 1) := by decide +kernel
theorem d_prog_5_method_4_35 : decode prog_5_method_4_code 35 = .ok (.istore_n 2, 1) := by decide +kernel
theorem d_prog_5_method_4_36 : decode prog_5_method_4_code 36 = .ok (.iload_n 2, 1) := by decide +kernel
theorem d_prog_5_method_4_37 : decode prog_5_method_4_code 37 = .ok (.aload_n 0, 1) := by decide +kernel
theorem d_prog_5_method_4_38 : decode prog_5_method_4_code 38 = .ok (.invokevirtual 53, 3) := by decide +kernel
theorem d_prog_5_method_4_41 : decode prog_5_method_4_code 41 = .ok (.if_icmp .ge 69, 3) := by decide +kernel
theorem d_prog_5_method_4_44 : decode prog_5_method_4_code 44 = .ok (.aload_n 0, 1) := by decide +kernel
theorem d_prog_5_method_4_45 : decode prog_5_method_4_code 45 = .ok (.iload_n 2, 1) := by decide +kernel
theorem d_prog_5_method_4_46 : decode prog_5_method_4_code 46 = .ok (.invokevirtual 57, 3) := by decide +kernel
theorem d_prog_5_method_4_49 : decode prog_5_method_4_code 49 = .ok (.istore_n 3, 1) := by decide +kernel
theorem d_prog_5_method_4_50 : decode prog_5_method_4_code 50 = .ok (.iload_n 3, 1) := by decide +kernel
theorem d_prog_5_method_4_51 : decode prog_5_method_4_code 51 = .ok (.bipush 97, 2) := by decide +kernel
theorem d_prog_5_method_4_53 : decode prog_5_method_4_code 53 = .ok (.if_icmp .lt 9, 3) := by decide +kernel
theorem d_prog_5_method_4_56 : decode prog_5_method_4_code 56 = .ok (.iload_n 3, 1) := by decide +kernel
theorem d_prog_5_method_4_57 : decode prog_5_method_4_code 57 = .ok (.bipush 122, 2) := by decide +kernel
theorem d_prog_5_method_4_59 : decode prog_5_method_4_code 59 = .ok (.if_icmp .le 15, 3) := by decide +kernel
theorem d_prog_5_method_4_62 : decode prog_5_method_4_code 62 = .ok (.iload_n 3, 1) := by decide +kernel
theorem d_prog_5_method_4_63 : decode prog_5_method_4_code 63 = .ok (.bipush 48, 2) := by decide +kernel
theorem d_prog_5_method_4_65 : decode prog_5_method_4_code 65 = .ok (.if_icmp .lt 13, 3) := by decide +kernel
theorem d_prog_5_method_4_68 : decode prog_5_method_4_code 68 = .ok (.iload_n 3, 1) := by decide +kernel
theorem d_prog_5_method_4_69 : decode prog_5_method_4_code 69 = .ok (.bipush 57, 2) := by decide +kernel
theorem d_prog_5_method_4_71 : decode prog_5_method_4_code 71 = .ok (.if_icmp .gt 7, 3) := by decide +kernel
theorem d_prog_5_method_4_74 : decode prog_5_method_4_code 74 = .ok (.iconst 1, 1) := by decide +kernel
theorem d_prog_5_method_4_75 : decode prog_5_method_4_code 75 = .ok (.goto 4, 3) := by decide +kernel
theorem d_prog_5_method_4_78 : decode prog_5_method_4_code 78 = .ok (.iconst 0, 1) := by decide +kernel
theorem d_prog_5_method_4_79 : decode prog_5_method_4_code 79 = .ok (.istore 4, 2) := by decide +kernel
theorem d_prog_5_method_4_81 : decode prog_5_method_4_code 81 = .ok (.iload_n 2, 1) := by decide +kernel
theorem d_prog_5_method_4_82 : decode prog_5_method_4_code 82 = .ok (.iload_n 1, 1) := by decide +kernel
theorem d_prog_5_method_4_83 : decode prog_5_method_4_code 83 = .ok (.if_icmp .eq 21, 3) := by decide +kernel
theorem d_prog_5_method_4_86 : decode prog_5_method_4_code 86 = .ok (.iload 4, 2) := by decide +kernel
theorem d_prog_5_method_4_88 : decode prog_5_method_4_code 88 = .ok (.ifCond .ne 16, 3) := by decide +kernel
theorem d_prog_5_method_4_91 : decode prog_5_method_4_code 91 = .ok (.iload_n 3, 1) := by decide +kernel
theorem d_prog_5_method_4_92 : decode prog_5_method_4_code 92 = .ok (.bipush 45, 2) := by decide +kernel
theorem d_prog_5_method_4_94 : decode prog_5_method_4_code 94 = .ok (.if_icmp .ne 8, 3) := by decide +kernel
theorem d_prog_5_method_4_97 : decode prog_5_method_4_code 97 = .ok (.iload_n 2, 1) := by decide +kernel
theorem d_prog_5_method_4_98 : decode prog_5_method_4_code 98 = .ok (.iload_n 1, 1) := by decide +kernel
theorem d_prog_5_method_4_99 : decode prog_5_method_4_code 99 = .ok (.if_icmp .lt 5, 3) := by decide +kernel
theorem d_prog_5_method_4_104 : decode prog_5_method_4_code 104 = .ok (.iinc 2 1, 3) := by decide +kernel
theorem d_prog_5_method_4_107 : decode prog_5_method_4_code 107 = .ok (.goto (-71), 3) := by decide +kernel
theorem d_prog_5_method_4_110 : decode prog_5_method_4_code 110 = .ok (.iconst 1, 1) := by decide +kernel
theorem d_prog_5_method_4_111 : decode prog_5_method_4_code 111 = .ok (.ireturn, 1) := by decide +kernel
theorem d_jdk_42_method_79_0 : decode jdk_42_method_79_code 0 = .ok (.aload_n 0, 1) := by decide +kernel
theorem d_jdk_42_method_79_1 : decode jdk_42_method_79_code 1 = .ok (.iload_n 1, 1) := by decide +kernel
theorem d_jdk_42_method_79_2 : decode jdk_42_method_79_code 2 = .ok (.iconst 0, 1) := by decide +kernel
theorem d_jdk_42_method_79_3 : decode jdk_42_method_79_code 3 = .ok (.invokevirtual 633, 3) := by decide +kernel
theorem d_jdk_42_method_79_6 : decode jdk_42_method_79_code 6 = .ok (.ireturn, 1) := by decide +kernel
theorem d_jdk_42_method_80_0 : decode jdk_42_method_80_code 0 = .ok (.aload_n 0, 1) := by decide +kernel
theorem d_jdk_42_method_80_1 : decode jdk_42_method_80_code 1 = .ok (.invokevirtual 492, 3) := by decide +kernel
theorem d_jdk_42_method_80_4 : decode jdk_42_method_80_code 4 = .ok (.ifCond .eq 19, 3) := by decide +kernel
theorem d_jdk_42_method_80_7 : decode jdk_42_method_80_code 7 = .ok (.aload_n 0, 1) := by decide +kernel
theorem d_jdk_42_method_80_8 : decode jdk_42_method_80_code 8 = .ok (.getfield 9, 3) := by decide +kernel
theorem d_jdk_42_method_80_11 : decode jdk_42_method_80_code 11 = .ok (.iload_n 1, 1) := by decide +kernel
theorem d_jdk_42_method_80_12 : decode jdk_42_method_80_code 12 = .ok (.iload_n 2, 1) := by decide +kernel
theorem d_jdk_42_method_80_13 : decode jdk_42_method_80_code 13 = .ok (.aload_n 0, 1) := by decide +kernel
theorem d_jdk_42_method_80_14 : decode jdk_42_method_80_code 14 = .ok (.invokevirtual 505, 3) := by decide +kernel
theorem d_jdk_42_method_80_17 : decode jdk_42_method_80_code 17 = .ok (.invokestatic 637, 3) := by decide +kernel
theorem d_jdk_42_method_80_20 : decode jdk_42_method_80_code 20 = .ok (.goto 16, 3) := by decide +kernel
theorem d_jdk_42_method_80_36 : decode jdk_42_method_80_code 36 = .ok (.ireturn, 1) := by decide +kernel
theorem d_jdk_43_method_22_0 : decode jdk_43_method_22_code 0 = .ok (.iload_n 1, 1) := by decide +kernel
theorem d_jdk_43_method_22_1 : decode jdk_43_method_22_code 1 = .ok (.invokestatic 88, 3) := by decide +kernel
theorem d_jdk_43_method_22_4 : decode jdk_43_method_22_code 4 = .ok (.ifCond .ne 5, 3) := by decide +kernel
theorem d_jdk_43_method_22_9 : decode jdk_43_method_22_code 9 = .ok (.iload_n 2, 1) := by decide +kernel
theorem d_jdk_43_method_22_10 : decode jdk_43_method_22_code 10 = .ok (.iconst 0, 1) := by decide +kernel
theorem d_jdk_43_method_22_11 : decode jdk_43_method_22_code 11 = .ok (.invokestatic 92, 3) := by decide +kernel
theorem d_jdk_43_method_22_14 : decode jdk_43_method_22_code 14 = .ok (.istore_n 2, 1) := by decide +kernel
theorem d_jdk_43_method_22_15 : decode jdk_43_method_22_code 15 = .ok (.iload_n 3, 1) := by decide +kernel
theorem d_jdk_43_method_22_16 : decode jdk_43_method_22_code 16 = .ok (.aload_n 0, 1) := by decide +kernel
theorem d_jdk_43_method_22_17 : decode jdk_43_method_22_code 17 = .ok (.arraylength, 1) := by decide +kernel
theorem d_jdk_43_method_22_18 : decode jdk_43_method_22_code 18 = .ok (.invokestatic 38, 3) := by decide +kernel
theorem d_jdk_43_method_22_21 : decode jdk_43_method_22_code 21 = .ok (.istore_n 3, 1) := by decide +kernel
theorem d_jdk_43_method_22_22 : decode jdk_43_method_22_code 22 = .ok (.iload_n 2, 1) := by decide +kernel
theorem d_jdk_43_method_22_23 : decode jdk_43_method_22_code 23 = .ok (.iload_n 3, 1) := by decide +kernel
theorem d_jdk_43_method_22_24 : decode jdk_43_method_22_code 24 = .ok (.if_icmp .lt 5, 3) := by decide +kernel
theorem d_jdk_43_method_22_29 : decode jdk_43_method_22_code 29 = .ok (.aload_n 0, 1) := by decide +kernel
theorem d_jdk_43_method_22_30 : decode jdk_43_method_22_code 30 = .ok (.iload_n 1, 1) := by decide +kernel
theorem d_jdk_43_method_22_31 : decode jdk_43_method_22_code 31 = .ok (.iload_n 2, 1) := by decide +kernel
theorem d_jdk_43_method_22_32 : decode jdk_43_method_22_code 32 = .ok (.iload_n 3, 1) := by decide +kernel
theorem d_jdk_43_method_22_33 : decode jdk_43_method_22_code 33 = .ok (.invokestatic 95, 3) := by decide +kernel
theorem d_jdk_43_method_22_36 : decode jdk_43_method_22_code 36 = .ok (.ireturn, 1) := by decide +kernel
theorem d_jdk_29_method_65_0 : decode jdk_29_method_65_code 0 = .ok (.iload_n 0, 1) := by decide +kernel
theorem d_jdk_29_method_65_1 : decode jdk_29_method_65_code 1 = .ok (.iload_n 1, 1) := by decide +kernel
theorem d_jdk_29_method_65_2 : decode jdk_29_method_65_code 2 = .ok (.if_icmp .lt 7, 3) := by decide +kernel
theorem d_jdk_29_method_65_5 : decode jdk_29_method_65_code 5 = .ok (.iload_n 0, 1) := by decide +kernel
theorem d_jdk_29_method_65_6 : decode jdk_29_method_65_code 6 = .ok (.goto 4, 3) := by decide +kernel
theorem d_jdk_29_method_65_10 : decode jdk_29_method_65_code 10 = .ok (.ireturn, 1) := by decide +kernel
theorem d_jdk_43_method_23_0 : decode jdk_43_method_23_code 0 = .ok (.iload_n 1, 1) := by decide +kernel
theorem d_jdk_43_method_23_1 : decode jdk_43_method_23_code 1 = .ok (.i2b, 1) := by decide +kernel
theorem d_jdk_43_method_23_2 : decode jdk_43_method_23_code 2 = .ok (.istore 4, 2) := by decide +kernel
theorem d_jdk_43_method_23_4 : decode jdk_43_method_23_code 4 = .ok (.iload_n 2, 1) := by decide +kernel
theorem d_jdk_43_method_23_5 : decode jdk_43_method_23_code 5 = .ok (.istore 5, 2) := by decide +kernel
theorem d_jdk_43_method_23_7 : decode jdk_43_method_23_code 7 = .ok (.iload 5, 2) := by decide +kernel
theorem d_jdk_43_method_23_9 : decode jdk_43_method_23_code 9 = .ok (.iload_n 3, 1) := by decide +kernel
theorem d_jdk_43_method_23_10 : decode jdk_43_method_23_code 10 = .ok (.if_icmp .ge 21, 3) := by decide +kernel
theorem d_jdk_43_method_23_13 : decode jdk_43_method_23_code 13 = .ok (.aload_n 0, 1) := by decide +kernel
theorem d_jdk_43_method_23_14 : decode jdk_43_method_23_code 14 = .ok (.iload 5, 2) := by decide +kernel
theorem d_jdk_43_method_23_16 : decode jdk_43_method_23_code 16 = .ok (.baload, 1) := by decide +kernel
theorem d_jdk_43_method_23_17 : decode jdk_43_method_23_code 17 = .ok (.iload 4, 2) := by decide +kernel
theorem d_jdk_43_method_23_19 : decode jdk_43_method_23_code 19 = .ok (.if_icmp .ne 6, 3) := by decide +kernel
theorem d_jdk_43_method_23_22 : decode jdk_43_method_23_code 22 = .ok (.iload 5, 2) := by decide +kernel
theorem d_jdk_43_method_23_24 : decode jdk_43_method_23_code 24 = .ok (.ireturn, 1) := by decide +kernel
theorem d_jdk_43_method_23_25 : decode jdk_43_method_23_code 25 = .ok (.iinc 5 1, 3) := by decide +kernel
theorem d_jdk_43_method_23_28 : decode jdk_43_method_23_code 28 = .ok (.goto (-21), 3) := by decide +kernel
theorem d_prog_5_method_3_0 : decode prog_5_method_3_code 0 = .ok (.aload_n 0, 1) := by decide +kernel
theorem d_prog_5_method_3_1 : decode prog_5_method_3_code 1 = .ok (.getfield 40, 3) := by decide +kernel
theorem d_prog_5_method_3_4 : decode prog_5_method_3_code 4 = .ok (.aload_n 0, 1) := by decide +kernel
theorem d_prog_5_method_3_5 : decode prog_5_method_3_code 5 = .ok (.getfield 40, 3) := by decide +kernel
theorem d_prog_5_method_3_8 : decode prog_5_method_3_code 8 = .ok (.bipush 46, 2) := by decide +kernel
theorem d_prog_5_method_3_10 : decode prog_5_method_3_code 10 = .ok (.invokevirtual 7, 3) := by decide +kernel
theorem d_prog_5_method_3_13 : decode prog_5_method_3_code 13 = .ok (.iconst 1, 1) := by decide +kernel
theorem d_prog_5_method_3_14 : decode prog_5_method_3_code 14 = .ok (.iadd, 1) := by decide +kernel
theorem d_prog_5_method_3_15 : decode prog_5_method_3_code 15 = .ok (.invokevirtual 23, 3) := by decide +kernel
theorem d_prog_5_method_3_18 : decode prog_5_method_3_code 18 = .ok (.areturn, 1) := by decide +kernel
theorem pn_com_example_presswright_presswright_publishing_FilePathExtensionPinLaw : plainName "com/example/presswright/presswright/publishing/FilePathExtensionPinLaw" = true := by first | (simp [plainName, overriddenIn]; done) | decide +kernel
theorem pd__I_C : parseMethodDescriptor "(I)C" = some ⟨[.int], some .char⟩ := by decide +kernel
theorem pd__I__C : parseMethodDescriptor "(I)[C" = some ⟨[.int], some (.array .char)⟩ := by decide +kernel
theorem pn_java_lang_String : plainName "java/lang/String" = true := by first | (simp [plainName, overriddenIn]; done) | decide +kernel
theorem pd___C_V : parseMethodDescriptor "([C)V" = some ⟨[(.array .char)], none⟩ := by decide +kernel
theorem pd___V : parseMethodDescriptor "()V" = some ⟨[], none⟩ := by decide +kernel
theorem pn_com_example_presswright_presswright_publishing_FilePath : plainName "com/example/presswright/presswright/publishing/FilePath" = true := by first | (simp [plainName, overriddenIn]; done) | decide +kernel
theorem pd__Ljava_lang_String__V : parseMethodDescriptor "(Ljava/lang/String;)V" = some ⟨[(.object "java/lang/String")], none⟩ := by decide +kernel
theorem pd__I_I : parseMethodDescriptor "(I)I" = some ⟨[.int], some .int⟩ := by decide +kernel
theorem pd__II_Ljava_lang_String_ : parseMethodDescriptor "(II)Ljava/lang/String;" = some ⟨[.int, .int], some (.object "java/lang/String")⟩ := by decide +kernel
theorem pd__Ljava_lang_String__Z : parseMethodDescriptor "(Ljava/lang/String;)Z" = some ⟨[(.object "java/lang/String")], some .boolean⟩ := by decide +kernel
theorem pd__I_Ljava_lang_String_ : parseMethodDescriptor "(I)Ljava/lang/String;" = some ⟨[.int], some (.object "java/lang/String")⟩ := by decide +kernel
theorem pn_java_lang_Record : plainName "java/lang/Record" = true := by first | (simp [plainName, overriddenIn]; done) | decide +kernel
theorem pd___I : parseMethodDescriptor "()I" = some ⟨[], some .int⟩ := by decide +kernel
theorem pd__II_I : parseMethodDescriptor "(II)I" = some ⟨[.int, .int], some .int⟩ := by decide +kernel
theorem pd___B : parseMethodDescriptor "()B" = some ⟨[], some .byte⟩ := by decide +kernel
theorem pd___Z : parseMethodDescriptor "()Z" = some ⟨[], some .boolean⟩ := by decide +kernel
theorem pd___BII_I : parseMethodDescriptor "([BII)I" = some ⟨[(.array .byte), .int, .int], some .int⟩ := by decide +kernel
theorem pn_java_lang_StringLatin1 : plainName "java/lang/StringLatin1" = true := by first | (simp [plainName, overriddenIn]; done) | decide +kernel
theorem pd__I_Z : parseMethodDescriptor "(I)Z" = some ⟨[.int], some .boolean⟩ := by decide +kernel
theorem pd__III_V : parseMethodDescriptor "(III)V" = some ⟨[.int, .int, .int], none⟩ := by decide +kernel
theorem pd___BII_Ljava_lang_String_ : parseMethodDescriptor "([BII)Ljava/lang/String;" = some ⟨[(.array .byte), .int, .int], some (.object "java/lang/String")⟩ := by decide +kernel
theorem pd__IIILjava_util_function_BiFunction__I : parseMethodDescriptor "(IIILjava/util/function/BiFunction;)I" = some ⟨[.int, .int, .int, (.object "java/util/function/BiFunction")], some .int⟩ := by decide +kernel
theorem pn_jdk_internal_util_Preconditions : plainName "jdk/internal/util/Preconditions" = true := by first | (simp [plainName, overriddenIn]; done) | decide +kernel
theorem pd___BII__B : parseMethodDescriptor "([BII)[B" = some ⟨[(.array .byte), .int, .int], some (.array .byte)⟩ := by decide +kernel
theorem pd___BB_V : parseMethodDescriptor "([BB)V" = some ⟨[(.array .byte), .byte], none⟩ := by decide +kernel
theorem pn_java_util_Arrays : plainName "java/util/Arrays" = true := by first | (simp [plainName, overriddenIn]; done) | decide +kernel
theorem pd__II_V : parseMethodDescriptor "(II)V" = some ⟨[.int, .int], none⟩ := by decide +kernel
theorem pn_com_example_presswright_presswright_publishing_PagePath : plainName "com/example/presswright/presswright/publishing/PagePath" = true := by first | (simp [plainName, overriddenIn]; done) | decide +kernel
theorem pd___BI_C : parseMethodDescriptor "([BI)C" = some ⟨[(.array .byte), .int], some .char⟩ := by decide +kernel
theorem pd__IILjava_util_function_BiFunction__I : parseMethodDescriptor "(IILjava/util/function/BiFunction;)I" = some ⟨[.int, .int, (.object "java/util/function/BiFunction")], some .int⟩ := by decide +kernel
theorem pd___BIII_I : parseMethodDescriptor "([BIII)I" = some ⟨[(.array .byte), .int, .int, .int], some .int⟩ := by decide +kernel
theorem pd___Ljava_lang_String_ : parseMethodDescriptor "()Ljava/lang/String;" = some ⟨[], some (.object "java/lang/String")⟩ := by decide +kernel
theorem pd__Ljava_lang_Object__Z : parseMethodDescriptor "(Ljava/lang/Object;)Z" = some ⟨[(.object "java/lang/Object")], some .boolean⟩ := by decide +kernel
theorem own_words : ∀ d ∈ StrChars.Road.words, d ∈ tables_1 := by decide +kernel
def StrIs (Z : State) (h : Heap) (b : Addr) (cs : List Int32) : Prop := ∃ (t : Addr) (kb : ClassId), Exa Z h b "java/lang/String" ∧ Fld Z h b "java/lang/String" "coder" "B" (.int 0) ∧ Fld Z h b "java/lang/String" "value" "[B" (.ref t) ∧ Arv Z h t kb .byte (Int32.ofNat cs.length) ((cs.map fun c => c.toInt8.toInt32).map Value.int) (.int 0) ∧ (∀ c ∈ cs, ¬ c < 0 ∧ ¬ 255 < c) ∧ cs.length ≤ 4000
theorem StrIs.keep {Z : State} {h h' : Heap} {b : Addr} {cs : List Int32} (F : StrIs Z h b cs) (K : Keep h h' []) : StrIs Z h' b cs := by
  obtain ⟨t, kb, q1, q2, q3, q4, r⟩ := F
  exact ⟨t, kb, q1.keep K, q2.keep K nin0, q3.keep K nin0, q4.keep K nin0, r⟩
theorem StrIs.ext {Z : State} {h h' : Heap} {b : Addr} {cs : List Int32} (F : StrIs Z h b cs) (K : Ext h h') : StrIs Z h' b cs := F.keep ((Keep.refl h []).ext K)
theorem StrIs.exa {Z : State} {h : Heap} {b : Addr} {cs : List Int32} (F : StrIs Z h b cs) : Exa Z h b "java/lang/String" := by obtain ⟨t, kb, q, -⟩ := F; exact q
theorem own_up {cs : List Int32} (h : ∀ c ∈ cs, ¬ c < 0 ∧ ¬ (255 : Int32) < c) : ∀ c ∈ cs, ¬ c < 0 ∧ ¬ (65535 : Int32) < c := fun c hc => by
  have q := h c hc
  simp only [Int32.lt_iff_toInt_lt, Int32.reduceToInt] at *; omega
theorem own_eqv {v : Option Value} {P : Prop} [Decidable P] (h : (v = some (.int 1) ∧ P) ∨ (v = some (.int 0) ∧ ¬ P)) : v = some (.int (bi (decide P))) := by
  rcases h with ⟨h, q⟩ | ⟨h, q⟩
  · rw [h, decide_eq_true q]; rfl
  · rw [h, decide_eq_false q]; rfl
theorem own_eqr {args : Array Value} {Z : State} {X F : Term} {idx : List Nat} {y : Addr} (hF : F.eval args Z none idx Z = some (.ref y)) (h : (Jvm.Cond.eq X F).value args Z none Z idx = some true) : X.eval args Z none idx Z = some (.ref y) := by
  cases hX : X.eval args Z none idx Z with
  | none => simp [Cond.value, hX] at h
  | some x => cases x <;> simp [Cond.value, hX, hF] at h ⊢ <;> exact h
theorem own_wordsEq : ∀ d ∈ StrChars.Road.wordsEq, d ∈ tables_1 := by decide +kernel
theorem own_eqB {p : Program} {l : Launch} {e : Env} {R : Room} {s' : State} {args : Array Value} {below : List Frame} {Z : State} {a0 : Array Value} {h : Heap} {V : Nat} {x y : Addr} {cs ds : List Int32} {cz : Int32} (hw : ∀ d ∈ tables_1, d.before a0 Z = true) (F : StrIs Z h x cs) (G : StrIs Z h y ds) (S : Sta Z h "java/lang/String" "COMPACT_STRINGS" "Z" (.int cz)) (hz : ¬ cz = 0) (wi : (Jvm.Cond.instantiable "java/lang/String" 4).before a0 Z = true) (hfr : 2 ≤ R.frames) (hlo : V + 28 ≤ R.locals) (hZ : Z.Warmed39 s'.vm) :
    Back l R p e below s' args (⟨"java/lang/String", "equals", "(Ljava/lang/Object;)Z"⟩ : MethodName) 3 V (fun P a => a = (.ref x :: [.ref y] : List Value).toArray ∧ P.U.heap = h ∧ P.cells + 0 ≤ R.cells ∧ P.slots + 0 ≤ R.slots)
      (fun P _ v B => ∃ L, (v = some (.int (bi (decide (cs = ds)))) ∧ L = [] ∧ h = B.U.heap) ∧ B.locs = P.locs ++ L ∧ B.cells = P.cells + 0 ∧ B.slots = P.slots + 0) := by
  obtain ⟨t, kb, E1, C1, V1, A1, p1, l1⟩ := F
  obtain ⟨u, kd, E2, C2, V2, A2, p2, l2⟩ := G
  refine Back.mono (StrChars.Road.eqW hZ (fun d hd => hw d (own_wordsEq d hd)) wi E1 V1 C1 A1 (StrChars.Road.codOf rfl fun c hc => (p1 c hc).2) (own_up p1) l1 E2 V2 C2 A2 (StrChars.Road.codOf rfl fun c hc => (p2 c hc).2) (own_up p2) l2 S hz hfr hlo) (fun P a hp => hp) (fun P a v B hp hq => ?_)
  obtain ⟨L, ⟨q1, q2, q3⟩, r⟩ := hq
  exact ⟨L, ⟨own_eqv q1, q2, q3.symm⟩, r⟩
theorem own_isref {args : Array Value} {s : State} {t : Term} (h : (Jvm.Cond.isRef t).value args s none s [] = some true) : ∃ v : Value, t.eval args s none [] s = some v ∧ v.isRef = true := by
  cases e : t.eval args s none [] s with
  | none => simp [Cond.value, e] at h
  | some v => exact ⟨v, rfl, by cases v <;> simp_all [Cond.value, Value.isRef]⟩
theorem own_nneg {i : Nat} (h : i < 2147483648) : ¬ Int32.ofNat i < 0 := by
  rw [Int32.lt_iff_toInt_lt, own_ofNat h]; show ¬ ((i : Int) < 0); omega
theorem own_inj {i j : Nat} (hi : i < 2147483648) (hj : j < 2147483648) : (Int32.ofNat i = Int32.ofNat j) ↔ i = j := by
  rw [← Int32.toInt_inj, own_ofNat hi, own_ofNat hj]; omega
theorem own_sub {i j : Nat} (h : j ≤ i) : Int32.ofNat i - Int32.ofNat j = Int32.ofNat (i - j) := by
  have q : Int32.ofNat i = Int32.ofNat (i - j) + Int32.ofNat j := by rw [← Int32.ofNat_add, Nat.sub_add_cancel h]
  rw [q, Int32.add_sub_cancel]
theorem own_dec {i : Nat} (h : 1 ≤ i) : Int32.ofNat i - 1 = Int32.ofNat (i - 1) := own_sub h
theorem own_dec1 (i : Nat) : Int32.ofNat (i + 1) + (-1) = Int32.ofNat i := by
  rw [← own_inc, Int32.add_assoc, show (1 + -1 : Int32) = 0 by decide, Int32.add_zero]
theorem own_add (i j : Nat) : Int32.ofNat i + Int32.ofNat j = Int32.ofNat (i + j) := (Int32.ofNat_add i j).symm
def arl (n : Nat) (f : Nat → Int32) : List Value := (List.range n).map fun i => Value.int (f i)
def lst (n : Nat) (f : Nat → Int32) : List Int32 := (List.range n).map f
theorem arl_len (n : Nat) (f : Nat → Int32) : (arl n f).length = n := by simp [arl]
theorem lst_len (n : Nat) (f : Nat → Int32) : (lst n f).length = n := by simp [lst]
theorem arl_get {n i : Nat} {f : Nat → Int32} {d : Value} (h : i < n) : (arl n f).getD i d = .int (f i) := by
  simp [arl, List.getD_eq_getElem?_getD, h]
theorem arl_rd {n i : Nat} (h : i < n) (hn : n < 2147483648) {f : Nat → Int32} {d : Value} : (arl n f).getD (Int32.ofNat i).toNatClampNeg d = .int (f i) := by
  rw [own_clamp (by omega)]; exact arl_get h
theorem arl_set {n i : Nat} {f : Nat → Int32} {x : Int32} : (arl n f).set i (.int x) = arl n (fun j => if j = i then x else f j) := by
  apply List.ext_getElem (by simp [arl])
  intro j h1 h2
  simp only [arl, List.getElem_set, List.getElem_map, List.getElem_range]
  by_cases q : i = j
  · subst q; simp
  · rw [if_neg q, if_neg (fun e => q e.symm)]
theorem arl_congr {n : Nat} {f g : Nat → Int32} (h : ∀ i, i < n → f i = g i) : arl n f = arl n g :=
  List.map_congr_left fun i hi => by rw [h i (List.mem_range.mp hi)]
theorem arl_zero (n : Nat) : List.replicate n (Value.int 0) = arl n (fun _ => 0) := by
  apply List.ext_getElem (by simp [arl])
  intro j h1 h2; simp [arl]
theorem lst_map {n : Nat} {f : Nat → Int32} {g : Int32 → Int32} : ((lst n f).map g).map Value.int = arl n (fun i => g (f i)) := by
  simp [arl, lst, Function.comp_def]
theorem lst_mem {n : Nat} {f : Nat → Int32} {P : Int32 → Prop} : (∀ c ∈ lst n f, P c) ↔ ∀ i, i < n → P (f i) := by
  simp [lst]
theorem arv_eq {Z : State} {h : Heap} {a : Addr} {k : ClassId} {ty : FieldType} {z : Int32} {vs vs' : List Value} {d : Value} (F : Arv Z h a k ty z vs d) (q : ∀ i, i < z.toNatClampNeg → vs.getD i d = vs'.getD i d) : Arv Z h a k ty z vs' d := by
  obtain ⟨c, A, r1, r2, r3, H, G⟩ := F
  exact ⟨c, A, r1, r2, r3, fun i hi => by rw [H i hi, q i (r2 ▸ hi)], fun i hi => by rw [← q i (r2 ▸ hi)]; exact G i hi⟩
theorem arl_of_rep {Z : State} {h : Heap} {a : Addr} {k : ClassId} {ty : FieldType} {n cap : Nat} (hn : n ≤ cap) (hc : cap < 2147483648) (F : Arv Z h a k ty (Int32.ofNat n) (List.replicate cap (Value.int 0)) (.int 0)) : Arv Z h a k ty (Int32.ofNat n) (arl n fun _ => 0) (.int 0) := by
  refine arv_eq F fun i hi => ?_
  rw [own_clamp (by omega)] at hi
  rw [arl_get hi, List.getD_eq_getElem?_getD, List.getElem?_replicate, if_pos (by omega)]; rfl
theorem own_b2c {c : Int32} (h0 : ¬ c < 0) (h1 : ¬ 255 < c) : (c.toInt8.toInt32 &&& 255).toUInt32.toUInt16.toUInt32.toInt32 = c := by
  have a := c_i2b c
  have b := c_mask c.toInt8.toInt32 255 8 (by decide) (by decide)
  have d := c_i2c (c.toInt8.toInt32 &&& 255)
  simp only [Int32.lt_iff_toInt_lt, Int32.reduceToInt] at h0 h1
  rw [← Int32.toInt_inj]; omega
theorem own_narc {c : Int32} (h0 : ¬ c < 0) (h1 : ¬ 65535 < c) : nar .char c = c := by
  show c.toUInt32.toUInt16.toUInt32.toInt32 = c
  have d := c_i2c c
  simp only [Int32.lt_iff_toInt_lt, Int32.reduceToInt] at h0 h1
  rw [← Int32.toInt_inj]; omega
theorem own_255 {c : Int32} (h1 : ¬ 255 < c) : ¬ 65535 < c := by
  simp only [Int32.lt_iff_toInt_lt, Int32.reduceToInt] at *; omega
theorem own_lo8 {c d : Int32} (hc : ¬ c < 0 ∧ ¬ 255 < c) (hd : ¬ d < 0 ∧ ¬ 255 < d) (q : c.toInt8.toInt32 = d.toInt8.toInt32) : c = d := by
  have a := c_i2b c; have b := c_i2b d
  rw [← Int32.toInt_inj] at q ⊢
  simp only [Int32.lt_iff_toInt_lt, Int32.reduceToInt] at hc hd; omega
theorem own_shr0 (z : Int32) : z >>> (0 &&& 31) = z := by
  rw [show (0 &&& 31 : Int32) = 0 by decide]; simp
theorem StrIs.op {Z : State} {h : Heap} {b : Addr} {n : Nat} {f : Nat → Int32} (F : StrIs Z h b (lst n f)) : ∃ (t : Addr) (kb : ClassId), Exa Z h b "java/lang/String" ∧ Fld Z h b "java/lang/String" "coder" "B" (.int 0) ∧ Fld Z h b "java/lang/String" "value" "[B" (.ref t) ∧ Arv Z h t kb .byte (Int32.ofNat n) (arl n fun i => (f i).toInt8.toInt32) (.int 0) ∧ (∀ i, i < n → ¬ f i < 0 ∧ ¬ 255 < f i) ∧ n ≤ 4000 := by
  obtain ⟨t, kb, q1, q2, q3, q4, q5, q6⟩ := F
  rw [lst_len] at q4 q6; rw [lst_map] at q4
  exact ⟨t, kb, q1, q2, q3, q4, lst_mem.mp q5, q6⟩
theorem StrIs.cl {Z : State} {h : Heap} {b t : Addr} {kb : ClassId} {n : Nat} {f : Nat → Int32} (q1 : Exa Z h b "java/lang/String") (q2 : Fld Z h b "java/lang/String" "coder" "B" (.int 0)) (q3 : Fld Z h b "java/lang/String" "value" "[B" (.ref t)) (q4 : Arv Z h t kb .byte (Int32.ofNat n) (arl n fun i => (f i).toInt8.toInt32) (.int 0)) (q5 : ∀ i, i < n → ¬ f i < 0 ∧ ¬ 255 < f i) (q6 : n ≤ 4000) : StrIs Z h b (lst n f) := by
  refine ⟨t, kb, q1, q2, q3, ?_, lst_mem.mpr q5, ?_⟩
  · rw [lst_len, lst_map]; exact q4
  · rw [lst_len]; exact q6
theorem ef_coder (m : MethodId) (a1 : Addr) (cz : Int32) : entryFrame m #[(.ref a1)] 1 = mkF m 0 #[.val (.ref a1)] [] := by first | (simp [entryFrame, mkF, argsToLocals, Value.category]; done) | rfl
def Q_coder (Z : State) (a1 : Addr) (cz : Int32) (h0 : Heap) (v : Option Value) (h : Heap) : Prop := v = some (.int 0) ∧ h0 = h
set_option maxRecDepth 65536 in
set_option maxHeartbeats 40000000 in
theorem c_coder (l : Launch) (Z : State) (a0 : Array Value) (hw : ∀ d ∈ tables_1, d.before a0 Z = true) (a1 : Addr) (cz : Int32) (h0 : Heap) (Scs : Sta Z Z.heap "java/lang/String" "COMPACT_STRINGS" "Z" (.int cz)) (hcz : ¬ cz = 0) (F1 : Fld Z h0 a1 "java/lang/String" "coder" "B" (.int 0)) :
    Con l Z (⟨"java/lang/String", "coder", "()B"⟩ : MethodName) jdk_42_method_152_code 1 (Option.some FieldType.byte) [] ({ frames := 0, cells := 0, slots := 0, locals := 0 } : Room) #[(.ref a1)] h0 (Q_coder Z a1 cz h0) := by
  refine Con.of (plainFor_of_name pn_java_lang_String) ?_
  intro p e s m below meth c T0 B W0
  refine Go.cast (ef_coder m a1 cz ) ?_
  obtain ⟨T101, W101, st101⟩ := x_gets B W0 (host := "") (d_jdk_42_method_152_0) (Or.inl (tw hw 26 rfl)) Via.refl Scs #[.val (.ref a1)] []
  refine st101 _ ?_
  refine g_if_n B W101 (d_jdk_42_method_152_3) (XT.i0_eq_f hcz) ?_
  show Go p.tables e below _ T101 (mkF m 6 #[.val (.ref a1)] [])
  refine g_aload_n B W101 (d_jdk_42_method_152_6) rfl rfl ?_
  obtain ⟨T102, W102, st102⟩ := x_get B W101 (host := "") (d_jdk_42_method_152_7) (Or.inl (tw hw 38 rfl)) Via.refl F1 #[.val (.ref a1)] []
  refine st102 _ ?_
  refine g_goto B W102 (d_jdk_42_method_152_10) (pc' := 14) (by decide) ?_
  show Go p.tables e below _ T102 (mkF m 14 #[.val (.ref a1)] [(.int 0)])
  exact r_n B W102 (t := .byte) rfl (by simp) (d_jdk_42_method_152_14) (by decide) (by decide) ⟨rfl, rfl⟩
theorem ef_isLat (m : MethodId) (a1 : Addr) (cz : Int32) : entryFrame m #[(.ref a1)] 1 = mkF m 0 #[.val (.ref a1)] [] := by first | (simp [entryFrame, mkF, argsToLocals, Value.category]; done) | rfl
def Q_isLat (Z : State) (a1 : Addr) (cz : Int32) (h0 : Heap) (v : Option Value) (h : Heap) : Prop := v = some (.int 1) ∧ h0 = h
set_option maxRecDepth 65536 in
set_option maxHeartbeats 40000000 in
theorem c_isLat (l : Launch) (Z : State) (a0 : Array Value) (hw : ∀ d ∈ tables_1, d.before a0 Z = true) (a1 : Addr) (cz : Int32) (h0 : Heap) (Scs : Sta Z Z.heap "java/lang/String" "COMPACT_STRINGS" "Z" (.int cz)) (hcz : ¬ cz = 0) (F1 : Fld Z h0 a1 "java/lang/String" "coder" "B" (.int 0)) :
    Con l Z (⟨"java/lang/String", "isLatin1", "()Z"⟩ : MethodName) jdk_42_method_154_code 1 (Option.some FieldType.boolean) [] ({ frames := 0, cells := 0, slots := 0, locals := 0 } : Room) #[(.ref a1)] h0 (Q_isLat Z a1 cz h0) := by
  refine Con.of (plainFor_of_name pn_java_lang_String) ?_
  intro p e s m below meth c T0 B W0
  refine Go.cast (ef_isLat m a1 cz ) ?_
  obtain ⟨T101, W101, st101⟩ := x_gets B W0 (host := "") (d_jdk_42_method_154_0) (Or.inl (tw hw 26 rfl)) Via.refl Scs #[.val (.ref a1)] []
  refine st101 _ ?_
  refine g_if_n B W101 (d_jdk_42_method_154_3) (XT.i0_eq_f hcz) ?_
  show Go p.tables e below _ T101 (mkF m 6 #[.val (.ref a1)] [])
  refine g_aload_n B W101 (d_jdk_42_method_154_6) rfl rfl ?_
  obtain ⟨T102, W102, st102⟩ := x_get B W101 (host := "") (d_jdk_42_method_154_7) (Or.inl (tw hw 38 rfl)) Via.refl F1 #[.val (.ref a1)] []
  refine st102 _ ?_
  refine g_if_n B W102 (d_jdk_42_method_154_10) (XT.i0_ne_f (by decide)) ?_
  show Go p.tables e below _ T102 (mkF m 13 #[.val (.ref a1)] [])
  refine g_iconst B W102 (d_jdk_42_method_154_13) (v := 1) (by decide) ?_
  refine g_goto B W102 (d_jdk_42_method_154_14) (pc' := 18) (by decide) ?_
  show Go p.tables e below _ T102 (mkF m 18 #[.val (.ref a1)] [(.int 1)])
  exact r_n B W102 (t := .boolean) rfl (by simp) (d_jdk_42_method_154_18) (by decide) (by decide) ⟨by rw [nar_b1], rfl⟩
theorem ef_len (m : MethodId) (a1 : Addr) (nn : Nat) (ff : Nat → Int32) (cz : Int32) : entryFrame m #[(.ref a1)] 1 = mkF m 0 #[.val (.ref a1)] [] := by first | (simp [entryFrame, mkF, argsToLocals, Value.category]; done) | rfl
def Q_len (Z : State) (a1 : Addr) (nn : Nat) (ff : Nat → Int32) (cz : Int32) (h0 : Heap) (v : Option Value) (h : Heap) : Prop := v = some (.int (Int32.ofNat nn)) ∧ h0 = h
set_option maxRecDepth 65536 in
set_option maxHeartbeats 40000000 in
theorem c_len (l : Launch) (Z : State) (a0 : Array Value) (hw : ∀ d ∈ tables_1, d.before a0 Z = true) (a1 : Addr) (nn : Nat) (ff : Nat → Int32) (cz : Int32) (h0 : Heap) (Scs : Sta Z Z.heap "java/lang/String" "COMPACT_STRINGS" "Z" (.int cz)) (hcz : ¬ cz = 0) (S1 : StrIs Z h0 a1 (lst nn ff)) :
    Con l Z (⟨"java/lang/String", "length", "()I"⟩ : MethodName) jdk_42_method_54_code 1 (Option.some FieldType.int) [] ({ frames := 1, cells := 0, slots := 0, locals := 13 } : Room) #[(.ref a1)] h0 (Q_len Z a1 nn ff cz h0) := by
  refine Con.of (plainFor_of_name pn_java_lang_String) ?_
  intro p e s m below meth c T0 B W0
  refine Go.cast (ef_len m a1 nn ff cz ) ?_
  obtain ⟨t1, kb1, E_a1, Fc_a1, Fv_a1, A_t1, R_a1, L_a1⟩ := S1.op
  refine g_aload_n B W0 (d_jdk_42_method_54_0) rfl rfl ?_
  obtain ⟨T101, W101, st101⟩ := x_get B W0 (host := "") (d_jdk_42_method_54_1) (Or.inl (tw hw 40 rfl)) Via.refl Fv_a1 #[.val (.ref a1)] []
  refine st101 _ ?_
  refine g_aalen B W101 (d_jdk_42_method_54_4) A_t1 ?_
  refine g_aload_n B W101 (d_jdk_42_method_54_5) rfl rfl ?_
  obtain ⟨T102, h102, v102, W102, Q102, st102⟩ := x_virtual B W101 (b := a1) [] (c_coder l Z a0 hw a1 cz h0 Scs hcz Fc_a1) E_a1 (d_jdk_42_method_54_6) (tw hw 64 rfl) (tw hw 65 rfl) (tw hw 67 rfl) (tw hw 66 rfl) (tw hw 15 rfl) (tw hw 68 rfl) (by decide) (lenOf pd___B rfl) #[.val (.ref a1)] [(.int (Int32.ofNat nn))] rfl 1 rfl (by decide) (by decide) (by decide) (by decide)
  obtain ⟨rfl, rfl⟩ := Q102
  refine st102 _ ?_
  show Go p.tables e below _ T102 (mkF m 9 #[.val (.ref a1)] [(.int 0), (.int (Int32.ofNat nn))])
  refine g_ishr B W102 (d_jdk_42_method_54_9)  ?_
  rw [own_shr0]
  show Go p.tables e below _ T102 (mkF m 10 #[.val (.ref a1)] [(.int (Int32.ofNat nn))])
  exact r_i B W102 (d_jdk_42_method_54_10) (by decide) (by decide) ⟨rfl, rfl⟩
theorem ef_pci (m : MethodId) (i : Nat) (nn : Nat) (sf : Value) (rsf : sf.isRef = true) : entryFrame m #[(.int (Int32.ofNat i)), (.int (Int32.ofNat nn)), sf] 3 = mkF m 0 #[.val (.int (Int32.ofNat i)), .val (.int (Int32.ofNat nn)), .val sf] [] := by
  (cases sf <;> try cases rsf)
  all_goals first | (simp [entryFrame, mkF, argsToLocals, Value.category]; done) | rfl
def Q_pci (Z : State) (i : Nat) (nn : Nat) (sf : Value) (h0 : Heap) (v : Option Value) (h : Heap) : Prop := v = some (.int (Int32.ofNat i)) ∧ h0 = h
set_option maxRecDepth 65536 in
set_option maxHeartbeats 40000000 in
theorem c_pci (l : Launch) (Z : State) (a0 : Array Value) (hw : ∀ d ∈ tables_1, d.before a0 Z = true) (i : Nat) (nn : Nat) (sf : Value) (h0 : Heap) (rsf : sf.isRef = true) (hi : i < nn) (hn : nn ≤ 8000) :
    Con l Z (⟨"jdk/internal/util/Preconditions", "checkIndex", "(IILjava/util/function/BiFunction;)I"⟩ : MethodName) jdk_41_method_11_code 3 (Option.some FieldType.int) [] ({ frames := 0, cells := 0, slots := 0, locals := 0 } : Room) #[(.int (Int32.ofNat i)), (.int (Int32.ofNat nn)), sf] h0 (Q_pci Z i nn sf h0) := by
  refine Con.of (plainFor_of_name pn_jdk_internal_util_Preconditions) ?_
  intro p e s m below meth c T0 B W0
  refine Go.cast (ef_pci m i nn sf rsf) ?_
  refine g_iload_n B W0 (d_jdk_41_method_11_0) rfl ?_
  refine g_if_n B W0 (d_jdk_41_method_11_1) (XT.i0_lt_f (own_nneg (by omega))) ?_
  show Go p.tables e below _ T0 (mkF m 4 #[.val (.int (Int32.ofNat i)), .val (.int (Int32.ofNat nn)), .val sf] [])
  refine g_iload_n B W0 (d_jdk_41_method_11_4) rfl ?_
  refine g_iload_n B W0 (d_jdk_41_method_11_5) rfl ?_
  refine g_icmp_y B W0 (d_jdk_41_method_11_6) (XT.ii_lt_t ((own_lt (by omega) (by omega)).mpr hi)) (pc' := 16) (by decide) ?_
  show Go p.tables e below _ T0 (mkF m 16 #[.val (.int (Int32.ofNat i)), .val (.int (Int32.ofNat nn)), .val sf] [])
  refine g_iload_n B W0 (d_jdk_41_method_11_16) rfl ?_
  exact r_i B W0 (d_jdk_41_method_11_17) (by decide) (by decide) ⟨rfl, rfl⟩
theorem ef_sci (m : MethodId) (i : Nat) (nn : Nat) (sf : Value) : entryFrame m #[(.int (Int32.ofNat i)), (.int (Int32.ofNat nn))] 2 = mkF m 0 #[.val (.int (Int32.ofNat i)), .val (.int (Int32.ofNat nn))] [] := by first | (simp [entryFrame, mkF, argsToLocals, Value.category]; done) | rfl
def Q_sci (Z : State) (i : Nat) (nn : Nat) (sf : Value) (h0 : Heap) (v : Option Value) (h : Heap) : Prop := v = none ∧ h0 = h
set_option maxRecDepth 65536 in
set_option maxHeartbeats 40000000 in
theorem c_sci (l : Launch) (Z : State) (a0 : Array Value) (hw : ∀ d ∈ tables_1, d.before a0 Z = true) (i : Nat) (nn : Nat) (sf : Value) (h0 : Heap) (Ssf : Sta Z Z.heap "jdk/internal/util/Preconditions" "SIOOBE_FORMATTER" "Ljava/util/function/BiFunction;" sf) (rsf : sf.isRef = true) (hi : i < nn) (hn : nn ≤ 8000) :
    Con l Z (⟨"java/lang/String", "checkIndex", "(II)V"⟩ : MethodName) jdk_42_method_155_code 2 (Option.none : Option FieldType) [] ({ frames := 1, cells := 0, slots := 0, locals := 14 } : Room) #[(.int (Int32.ofNat i)), (.int (Int32.ofNat nn))] h0 (Q_sci Z i nn sf h0) := by
  refine Con.of (plainFor_of_name pn_java_lang_String) ?_
  intro p e s m below meth c T0 B W0
  refine Go.cast (ef_sci m i nn sf ) ?_
  refine g_iload_n B W0 (d_jdk_42_method_155_0) rfl ?_
  refine g_iload_n B W0 (d_jdk_42_method_155_1) rfl ?_
  obtain ⟨T101, W101, st101⟩ := x_gets B W0 (host := "") (d_jdk_42_method_155_2) (Or.inl (tw hw 98 rfl)) Via.refl Ssf #[.val (.int (Int32.ofNat i)), .val (.int (Int32.ofNat nn))] [(.int (Int32.ofNat nn)), (.int (Int32.ofNat i))]
  refine st101 _ ?_
  obtain ⟨T102, h102, v102, W102, Q102, st102⟩ := x_static B W101 [(.int (Int32.ofNat i)), (.int (Int32.ofNat nn)), sf] (c_pci l Z a0 hw i nn sf h0 rsf (by omega) (by omega)) (d_jdk_42_method_155_5) (tw hw 141 rfl) (tw hw 142 rfl) (tw hw 99 rfl) (tw hw 143 rfl) (by decide) (lenOf pd__IILjava_util_function_BiFunction__I rfl) #[.val (.int (Int32.ofNat i)), .val (.int (Int32.ofNat nn))] [] rfl 0 rfl (by decide) (by decide) (by decide) (by decide)
  obtain ⟨rfl, rfl⟩ := Q102
  refine st102 _ ?_
  refine g_pop B W102 (d_jdk_42_method_155_8) rfl ?_
  exact r_v B W102 (d_jdk_42_method_155_9) (by decide) (by decide) ⟨rfl, rfl⟩
theorem ef_lca (m : MethodId) (t1 : Addr) (kb : ClassId) (nn : Nat) (ff : Nat → Int32) (i : Nat) (sf : Value) : entryFrame m #[(.ref t1), (.int (Int32.ofNat i))] 2 = mkF m 0 #[.val (.ref t1), .val (.int (Int32.ofNat i))] [] := by first | (simp [entryFrame, mkF, argsToLocals, Value.category]; done) | rfl
def Q_lca (Z : State) (t1 : Addr) (kb : ClassId) (nn : Nat) (ff : Nat → Int32) (i : Nat) (sf : Value) (h0 : Heap) (v : Option Value) (h : Heap) : Prop := v = some (.int (ff i)) ∧ h0 = h
set_option maxRecDepth 65536 in
set_option maxHeartbeats 40000000 in
theorem c_lca (l : Launch) (Z : State) (a0 : Array Value) (hw : ∀ d ∈ tables_1, d.before a0 Z = true) (t1 : Addr) (kb : ClassId) (nn : Nat) (ff : Nat → Int32) (i : Nat) (sf : Value) (h0 : Heap) (Ssf : Sta Z Z.heap "jdk/internal/util/Preconditions" "SIOOBE_FORMATTER" "Ljava/util/function/BiFunction;" sf) (rsf : sf.isRef = true) (A1 : Arv Z h0 t1 kb .byte (Int32.ofNat nn) (arl nn fun i => (ff i).toInt8.toInt32) (.int 0)) (rg : ¬ ff i < 0 ∧ ¬ 255 < ff i) (hi : i < nn) (hn : nn ≤ 4000) :
    Con l Z (⟨"java/lang/StringLatin1", "charAt", "([BI)C"⟩ : MethodName) jdk_43_method_2_code 2 (Option.some FieldType.char) [] ({ frames := 2, cells := 0, slots := 0, locals := 27 } : Room) #[(.ref t1), (.int (Int32.ofNat i))] h0 (Q_lca Z t1 kb nn ff i sf h0) := by
  refine Con.of (plainFor_of_name pn_java_lang_StringLatin1) ?_
  intro p e s m below meth c T0 B W0
  refine Go.cast (ef_lca m t1 kb nn ff i sf ) ?_
  refine g_iload_n B W0 (d_jdk_43_method_2_0) rfl ?_
  refine g_aload_n B W0 (d_jdk_43_method_2_1) rfl rfl ?_
  refine g_aalen B W0 (d_jdk_43_method_2_2) A1 ?_
  obtain ⟨T101, h101, v101, W101, Q101, st101⟩ := x_static B W0 [(.int (Int32.ofNat i)), (.int (Int32.ofNat nn))] (c_sci l Z a0 hw i nn sf h0 Ssf rsf (by omega) (by omega)) (d_jdk_43_method_2_3) (tw hw 138 rfl) (tw hw 139 rfl) (tw hw 15 rfl) (tw hw 140 rfl) (by decide) (lenOf pd__II_V rfl) #[.val (.ref t1), .val (.int (Int32.ofNat i))] [] rfl 0 rfl (by decide) (by decide) (by decide) (by decide)
  obtain ⟨rfl, rfl⟩ := Q101
  refine st101 _ ?_
  refine g_aload_n B W101 (d_jdk_43_method_2_6) rfl rfl ?_
  refine g_iload_n B W101 (d_jdk_43_method_2_7) rfl ?_
  refine g_baload B W101 (d_jdk_43_method_2_8) A1 (own_ixok (i := i) (n := nn) (by omega) (by omega)) (arl_rd (i := i) (n := nn) (by omega) (by omega)) ?_
  show Go p.tables e below _ T101 (mkF m 9 #[.val (.ref t1), .val (.int (Int32.ofNat i))] [(.int (ff i).toInt8.toInt32)])
  refine g_sipush B W101 (d_jdk_43_method_2_9) (v := 255) (by decide) ?_
  refine g_iand B W101 (d_jdk_43_method_2_12)  ?_
  refine g_i2c B W101 (d_jdk_43_method_2_13)  ?_
  rw [own_b2c rg.1 rg.2]
  show Go p.tables e below _ T101 (mkF m 14 #[.val (.ref t1), .val (.int (Int32.ofNat i))] [(.int (ff i))])
  exact r_n B W101 (t := .char) rfl (by simp) (d_jdk_43_method_2_14) (by decide) (by decide) ⟨by rw [own_narc rg.1 (own_255 rg.2)], rfl⟩
theorem ef_cat (m : MethodId) (a1 : Addr) (nn : Nat) (ff : Nat → Int32) (i : Nat) (cz : Int32) (sf : Value) : entryFrame m #[(.ref a1), (.int (Int32.ofNat i))] 2 = mkF m 0 #[.val (.ref a1), .val (.int (Int32.ofNat i))] [] := by first | (simp [entryFrame, mkF, argsToLocals, Value.category]; done) | rfl
def Q_cat (Z : State) (a1 : Addr) (nn : Nat) (ff : Nat → Int32) (i : Nat) (cz : Int32) (sf : Value) (h0 : Heap) (v : Option Value) (h : Heap) : Prop := v = some (.int (ff i)) ∧ h0 = h
set_option maxRecDepth 65536 in
set_option maxHeartbeats 40000000 in
theorem c_cat (l : Launch) (Z : State) (a0 : Array Value) (hw : ∀ d ∈ tables_1, d.before a0 Z = true) (a1 : Addr) (nn : Nat) (ff : Nat → Int32) (i : Nat) (cz : Int32) (sf : Value) (h0 : Heap) (Scs : Sta Z Z.heap "java/lang/String" "COMPACT_STRINGS" "Z" (.int cz)) (hcz : ¬ cz = 0) (Ssf : Sta Z Z.heap "jdk/internal/util/Preconditions" "SIOOBE_FORMATTER" "Ljava/util/function/BiFunction;" sf) (rsf : sf.isRef = true) (S1 : StrIs Z h0 a1 (lst nn ff)) (hi : i < nn) :
    Con l Z (⟨"java/lang/String", "charAt", "(I)C"⟩ : MethodName) jdk_42_method_56_code 2 (Option.some FieldType.char) [] ({ frames := 3, cells := 0, slots := 0, locals := 40 } : Room) #[(.ref a1), (.int (Int32.ofNat i))] h0 (Q_cat Z a1 nn ff i cz sf h0) := by
  refine Con.of (plainFor_of_name pn_java_lang_String) ?_
  intro p e s m below meth c T0 B W0
  refine Go.cast (ef_cat m a1 nn ff i cz sf ) ?_
  obtain ⟨t1, kb1, E_a1, Fc_a1, Fv_a1, A_t1, R_a1, L_a1⟩ := S1.op
  refine g_aload_n B W0 (d_jdk_42_method_56_0) rfl rfl ?_
  obtain ⟨T101, h101, v101, W101, Q101, st101⟩ := x_virtual B W0 (b := a1) [] (c_isLat l Z a0 hw a1 cz h0 Scs hcz Fc_a1) E_a1 (d_jdk_42_method_56_1) (tw hw 74 rfl) (tw hw 75 rfl) (tw hw 77 rfl) (tw hw 76 rfl) (tw hw 15 rfl) (tw hw 78 rfl) (by decide) (lenOf pd___Z rfl) #[.val (.ref a1), .val (.int (Int32.ofNat i))] [] rfl 0 rfl (by decide) (by decide) (by decide) (by decide)
  obtain ⟨rfl, rfl⟩ := Q101
  refine st101 _ ?_
  show Go p.tables e below _ T101 (mkF m 4 #[.val (.ref a1), .val (.int (Int32.ofNat i))] [(.int 1)])
  refine g_if_n B W101 (d_jdk_42_method_56_4) (XT.i0_eq_f (by decide)) ?_
  show Go p.tables e below _ T101 (mkF m 7 #[.val (.ref a1), .val (.int (Int32.ofNat i))] [])
  refine g_aload_n B W101 (d_jdk_42_method_56_7) rfl rfl ?_
  obtain ⟨T102, W102, st102⟩ := x_get B W101 (host := "") (d_jdk_42_method_56_8) (Or.inl (tw hw 40 rfl)) Via.refl Fv_a1 #[.val (.ref a1), .val (.int (Int32.ofNat i))] []
  refine st102 _ ?_
  refine g_iload_n B W102 (d_jdk_42_method_56_11) rfl ?_
  obtain ⟨T103, h103, v103, W103, Q103, st103⟩ := x_static B W102 [(.ref t1), (.int (Int32.ofNat i))] (c_lca l Z a0 hw t1 kb1 nn ff i sf h0 Ssf rsf A_t1 (R_a1 _ hi) hi L_a1) (d_jdk_42_method_56_12) (tw hw 135 rfl) (tw hw 136 rfl) (tw hw 81 rfl) (tw hw 137 rfl) (by decide) (lenOf pd___BI_C rfl) #[.val (.ref a1), .val (.int (Int32.ofNat i))] [] rfl 0 rfl (by decide) (by decide) (by decide) (by decide)
  obtain ⟨rfl, rfl⟩ := Q103
  refine st103 _ ?_
  exact r_n B W103 (t := .char) rfl (by simp) (d_jdk_42_method_56_15) (by decide) (by decide) ⟨by rw [own_narc (R_a1 _ hi).1 (own_255 (R_a1 _ hi).2)], rfl⟩
theorem ef_min (m : MethodId) (i : Nat) (j : Nat) (r : Nat) : entryFrame m #[(.int (Int32.ofNat i)), (.int (Int32.ofNat j))] 2 = mkF m 0 #[.val (.int (Int32.ofNat i)), .val (.int (Int32.ofNat j))] [] := by first | (simp [entryFrame, mkF, argsToLocals, Value.category]; done) | rfl
def Q_min (Z : State) (i : Nat) (j : Nat) (r : Nat) (h0 : Heap) (v : Option Value) (h : Heap) : Prop := v = some (.int (Int32.ofNat r)) ∧ h0 = h
set_option maxRecDepth 65536 in
set_option maxHeartbeats 40000000 in
theorem c_min (l : Launch) (Z : State) (a0 : Array Value) (hw : ∀ d ∈ tables_1, d.before a0 Z = true) (i : Nat) (j : Nat) (r : Nat) (h0 : Heap) (hi : i ≤ 8000) (hj : j ≤ 8000) (hr : r = min i j) :
    Con l Z (⟨"java/lang/Math", "min", "(II)I"⟩ : MethodName) jdk_29_method_69_code 2 (Option.some FieldType.int) [] ({ frames := 0, cells := 0, slots := 0, locals := 0 } : Room) #[(.int (Int32.ofNat i)), (.int (Int32.ofNat j))] h0 (Q_min Z i j r h0) := by
  refine Con.of (Jvm.Free.JP.mathPlain rfl (by decide +kernel)) ?_
  intro p e s m below meth c T0 B W0
  refine Go.cast (ef_min m i j r ) ?_
  refine g_iload_n B W0 (d_jdk_29_method_69_0) rfl ?_
  refine g_iload_n B W0 (d_jdk_29_method_69_1) rfl ?_
  by_cases hc101 : (Int32.ofNat j) < (Int32.ofNat i)
  · skip
    refine g_icmp_y B W0 (d_jdk_29_method_69_2) (XT.ii_gt_t hc101) (pc' := 9) (by decide) ?_
    show Go p.tables e below _ T0 (mkF m 9 #[.val (.int (Int32.ofNat i)), .val (.int (Int32.ofNat j))] [])
    refine g_iload_n B W0 (d_jdk_29_method_69_9) rfl ?_
    exact r_i B W0 (d_jdk_29_method_69_10) (by decide) (by decide) ⟨by rw [show r = j by have q := hc101; rw [own_lt (by omega) (by omega)] at q; omega], rfl⟩
  · skip
    refine g_icmp_n B W0 (d_jdk_29_method_69_2) (XT.ii_gt_f hc101) ?_
    show Go p.tables e below _ T0 (mkF m 5 #[.val (.int (Int32.ofNat i)), .val (.int (Int32.ofNat j))] [])
    refine g_iload_n B W0 (d_jdk_29_method_69_5) rfl ?_
    refine g_goto B W0 (d_jdk_29_method_69_6) (pc' := 10) (by decide) ?_
    show Go p.tables e below _ T0 (mkF m 10 #[.val (.int (Int32.ofNat i)), .val (.int (Int32.ofNat j))] [(.int (Int32.ofNat i))])
    exact r_i B W0 (d_jdk_29_method_69_10) (by decide) (by decide) ⟨by rw [show r = i by have q := hc101; rw [own_lt (by omega) (by omega)] at q; omega], rfl⟩
theorem ef_max (m : MethodId)  : entryFrame m #[(.int 0), (.int 0)] 2 = mkF m 0 #[.val (.int 0), .val (.int 0)] [] := by first | (simp [entryFrame, mkF, argsToLocals, Value.category]; done) | rfl
def Q_max (Z : State)  (h0 : Heap) (v : Option Value) (h : Heap) : Prop := v = some (.int 0) ∧ h0 = h
set_option maxRecDepth 65536 in
set_option maxHeartbeats 40000000 in
theorem c_max (l : Launch) (Z : State) (a0 : Array Value) (hw : ∀ d ∈ tables_1, d.before a0 Z = true)  (h0 : Heap) :
    Con l Z (⟨"java/lang/Math", "max", "(II)I"⟩ : MethodName) jdk_29_method_65_code 2 (Option.some FieldType.int) [] ({ frames := 0, cells := 0, slots := 0, locals := 0 } : Room) #[(.int 0), (.int 0)] h0 (Q_max Z  h0) := by
  refine Con.of (Jvm.Free.JP.mathPlain rfl (by decide +kernel)) ?_
  intro p e s m below meth c T0 B W0
  refine Go.cast (ef_max m  ) ?_
  refine g_iload_n B W0 (d_jdk_29_method_65_0) rfl ?_
  refine g_iload_n B W0 (d_jdk_29_method_65_1) rfl ?_
  refine g_icmp_n B W0 (d_jdk_29_method_65_2) (XT.ii_lt_f (by decide)) ?_
  show Go p.tables e below _ T0 (mkF m 5 #[.val (.int 0), .val (.int 0)] [])
  refine g_iload_n B W0 (d_jdk_29_method_65_5) rfl ?_
  refine g_goto B W0 (d_jdk_29_method_65_6) (pc' := 10) (by decide) ?_
  show Go p.tables e below _ T0 (mkF m 10 #[.val (.int 0), .val (.int 0)] [(.int 0)])
  exact r_i B W0 (d_jdk_29_method_65_10) (by decide) (by decide) ⟨rfl, rfl⟩
theorem ef_canEnc (m : MethodId) (q0 : Int32) : entryFrame m #[(.int q0)] 1 = mkF m 0 #[.val (.int q0)] [] := by first | (simp [entryFrame, mkF, argsToLocals, Value.category]; done) | rfl
def Q_canEnc (Z : State) (q0 : Int32) (h0 : Heap) (v : Option Value) (h : Heap) : Prop := v = some (.int 1) ∧ h0 = h
set_option maxRecDepth 65536 in
set_option maxHeartbeats 40000000 in
theorem c_canEnc (l : Launch) (Z : State) (a0 : Array Value) (hw : ∀ d ∈ tables_1, d.before a0 Z = true) (q0 : Int32) (h0 : Heap) (rq0 : ¬ q0 < 0 ∧ ¬ 255 < q0) :
    Con l Z (⟨"java/lang/StringLatin1", "canEncode", "(I)Z"⟩ : MethodName) jdk_43_method_4_code 1 (Option.some FieldType.boolean) [] ({ frames := 0, cells := 0, slots := 0, locals := 0 } : Room) #[(.int q0)] h0 (Q_canEnc Z q0 h0) := by
  refine Con.of (plainFor_of_name pn_java_lang_StringLatin1) ?_
  intro p e s m below meth c T0 B W0
  refine Go.cast (ef_canEnc m q0 ) ?_
  refine g_iload_n B W0 (d_jdk_43_method_4_0) rfl ?_
  refine g_if_n B W0 (d_jdk_43_method_4_1) (XT.i0_lt_f rq0.1) ?_
  show Go p.tables e below _ T0 (mkF m 4 #[.val (.int q0)] [])
  refine g_iload_n B W0 (d_jdk_43_method_4_4) rfl ?_
  refine g_sipush B W0 (d_jdk_43_method_4_5) (v := 255) (by decide) ?_
  refine g_icmp_n B W0 (d_jdk_43_method_4_8) (XT.ii_gt_f rq0.2) ?_
  show Go p.tables e below _ T0 (mkF m 11 #[.val (.int q0)] [])
  refine g_iconst B W0 (d_jdk_43_method_4_11) (v := 1) (by decide) ?_
  refine g_goto B W0 (d_jdk_43_method_4_12) (pc' := 16) (by decide) ?_
  show Go p.tables e below _ T0 (mkF m 16 #[.val (.int q0)] [(.int 1)])
  exact r_n B W0 (t := .boolean) rfl (by simp) (d_jdk_43_method_4_16) (by decide) (by decide) ⟨by rw [nar_b1], rfl⟩
theorem ef_llast (m : MethodId) (t1 : Addr) (kb : ClassId) (nn : Nat) (gg : Nat → Int32) (ch : Int32) (kx : Nat) : entryFrame m #[(.ref t1), (.int ch), (.int (Int32.ofNat (nn - 1)))] 4 = mkF m 0 #[.val (.ref t1), .val (.int ch), .val (.int (Int32.ofNat (nn - 1))), .unset] [] := by first | (simp [entryFrame, mkF, argsToLocals, Value.category]; done) | rfl
def Q_llast (Z : State) (t1 : Addr) (kb : ClassId) (nn : Nat) (gg : Nat → Int32) (ch : Int32) (kx : Nat) (h0 : Heap) (v : Option Value) (h : Heap) : Prop := v = some (.int (Int32.ofNat kx)) ∧ h0 = h
set_option maxRecDepth 65536 in
set_option maxHeartbeats 40000000 in
theorem c_llast (l : Launch) (Z : State) (a0 : Array Value) (hw : ∀ d ∈ tables_1, d.before a0 Z = true) (t1 : Addr) (kb : ClassId) (nn : Nat) (gg : Nat → Int32) (ch : Int32) (kx : Nat) (h0 : Heap) (A1 : Arv Z h0 t1 kb .byte (Int32.ofNat nn) (arl nn gg) (.int 0)) (hn : nn ≤ 4000) (hch : ¬ ch < 0 ∧ ¬ 255 < ch) (hk : kx < nn) (hg : gg kx = ch.toInt8.toInt32) (hgt : ∀ j, kx < j → j < nn → ¬ gg j = ch.toInt8.toInt32) :
    Con l Z (⟨"java/lang/StringLatin1", "lastIndexOf", "([BII)I"⟩ : MethodName) jdk_43_method_27_code 4 (Option.some FieldType.int) [] ({ frames := 1, cells := 0, slots := 0, locals := 13 } : Room) #[(.ref t1), (.int ch), (.int (Int32.ofNat (nn - 1)))] h0 (Q_llast Z t1 kb nn gg ch kx h0) := by
  refine Con.of (plainFor_of_name pn_java_lang_StringLatin1) ?_
  intro p e s m below meth c T0 B W0
  refine Go.cast (ef_llast m t1 kb nn gg ch kx ) ?_
  refine g_iload_n B W0 (d_jdk_43_method_27_0) rfl ?_
  obtain ⟨T101, h101, v101, W101, Q101, st101⟩ := x_static B W0 [(.int ch)] (c_canEnc l Z a0 hw ch h0 hch) (d_jdk_43_method_27_1) (tw hw 83 rfl) (tw hw 84 rfl) (tw hw 81 rfl) (tw hw 85 rfl) (by decide) (lenOf pd__I_Z rfl) #[.val (.ref t1), .val (.int ch), .val (.int (Int32.ofNat (nn - 1))), .unset] [] rfl 0 rfl (by decide) (by decide) (by decide) (by decide)
  obtain ⟨rfl, rfl⟩ := Q101
  refine st101 _ ?_
  show Go p.tables e below _ T101 (mkF m 4 #[.val (.ref t1), .val (.int ch), .val (.int (Int32.ofNat (nn - 1))), .unset] [(.int 1)])
  refine g_if_y B W101 (d_jdk_43_method_27_4) (XT.i0_ne_t (by decide)) (pc' := 9) (by decide) ?_
  show Go p.tables e below _ T101 (mkF m 9 #[.val (.ref t1), .val (.int ch), .val (.int (Int32.ofNat (nn - 1))), .unset] [])
  refine g_iload_n B W101 (d_jdk_43_method_27_9) rfl ?_
  refine g_aload_n B W101 (d_jdk_43_method_27_10) rfl rfl ?_
  refine g_aalen B W101 (d_jdk_43_method_27_11) A1 ?_
  refine g_iconst B W101 (d_jdk_43_method_27_12) (v := 1) (by decide) ?_
  refine g_isub B W101 (d_jdk_43_method_27_13)  ?_
  rw [own_dec (i := nn) (by omega)]
  show Go p.tables e below _ T101 (mkF m 14 #[.val (.ref t1), .val (.int ch), .val (.int (Int32.ofNat (nn - 1))), .unset] [(.int (Int32.ofNat (nn - 1))), (.int (Int32.ofNat (nn - 1)))])
  obtain ⟨T102, h102, v102, W102, Q102, st102⟩ := x_static B W101 [(.int (Int32.ofNat (nn - 1))), (.int (Int32.ofNat (nn - 1)))] (c_min l Z a0 hw ((nn - 1)) ((nn - 1)) (nn - 1) h0 (by omega) (by omega) (by omega)) (d_jdk_43_method_27_14) (tw hw 86 rfl) (tw hw 87 rfl) (tw hw 88 rfl) (tw hw 89 rfl) (by decide) (lenOf pd__II_I rfl) #[.val (.ref t1), .val (.int ch), .val (.int (Int32.ofNat (nn - 1))), .unset] [] rfl 0 rfl (by decide) (by decide) (by decide) (by decide)
  obtain ⟨rfl, rfl⟩ := Q102
  refine st102 _ ?_
  refine g_istore_n B W102 (d_jdk_43_method_27_17)  (l' := #[.val (.ref t1), .val (.int ch), .val (.int (Int32.ofNat (nn - 1))), .val (.int (Int32.ofNat (nn - 1)))]) rfl ?_
  obtain ⟨r0, hr0⟩ : ∃ r0, nn - 1 = kx + r0 := ⟨nn - 1 - kx, by omega⟩
  suffices q0 : Go p.tables e below (Jvm.OwnK.Out Z s (Q_llast Z t1 kb nn gg ch kx h0) ({ frames := 1, cells := 0, slots := 0, locals := 13 } : Room).cells ({ frames := 1, cells := 0, slots := 0, locals := 13 } : Room).slots) T102 (mkF m 18 #[.val (.ref t1), .val (.int ch), .val (.int (Int32.ofNat (nn - 1))), .val (.int (Int32.ofNat (kx + r0)))] []) by rw [← hr0] at q0; exact q0
  have loop : ∀ (r : Nat)  (T : State), (kx + r < nn) → Wk p l e ({ frames := 1, cells := 0, slots := 0, locals := 13 } : Room) s m #[(.ref t1), (.int ch), (.int (Int32.ofNat (nn - 1)))] below meth c Z T h0 0 0 → Go p.tables e below (Jvm.OwnK.Out Z s (Q_llast Z t1 kb nn gg ch kx h0) ({ frames := 1, cells := 0, slots := 0, locals := 13 } : Room).cells ({ frames := 1, cells := 0, slots := 0, locals := 13 } : Room).slots) T (mkF m 18 #[.val (.ref t1), .val (.int ch), .val (.int (Int32.ofNat (nn - 1))), .val (.int (Int32.ofNat (kx + r)))] []) := by
    intro r; induction r with
    | zero =>
      intro  T hr W
      refine g_iload_n B W (d_jdk_43_method_27_18) rfl ?_
      refine g_if_n B W (d_jdk_43_method_27_19) (XT.i0_lt_f (own_nneg (by omega))) ?_
      show Go p.tables e below _ T (mkF m 22 #[.val (.ref t1), .val (.int ch), .val (.int (Int32.ofNat (nn - 1))), .val (.int (Int32.ofNat (kx + 0)))] [])
      refine g_aload_n B W (d_jdk_43_method_27_22) rfl rfl ?_
      refine g_iload_n B W (d_jdk_43_method_27_23) rfl ?_
      refine g_baload B W (d_jdk_43_method_27_24) A1 (own_ixok (i := (kx + 0)) (n := nn) (by omega) (by omega)) (arl_rd (i := (kx + 0)) (n := nn) (by omega) (by omega)) ?_
      show Go p.tables e below _ T (mkF m 25 #[.val (.ref t1), .val (.int ch), .val (.int (Int32.ofNat (nn - 1))), .val (.int (Int32.ofNat (kx + 0)))] [(.int (gg ((kx + 0))))])
      refine g_iload_n B W (d_jdk_43_method_27_25) rfl ?_
      refine g_i2b B W (d_jdk_43_method_27_26)  ?_
      refine g_icmp_n B W (d_jdk_43_method_27_27) (XT.ii_ne_f hg) ?_
      show Go p.tables e below _ T (mkF m 30 #[.val (.ref t1), .val (.int ch), .val (.int (Int32.ofNat (nn - 1))), .val (.int (Int32.ofNat (kx + 0)))] [])
      refine g_iload_n B W (d_jdk_43_method_27_30) rfl ?_
      exact r_i B W (d_jdk_43_method_27_31) (by decide) (by decide) ⟨by rw [Nat.add_zero], rfl⟩
    | succ r ih =>
      intro  T hr W
      refine g_iload_n B W (d_jdk_43_method_27_18) rfl ?_
      refine g_if_n B W (d_jdk_43_method_27_19) (XT.i0_lt_f (own_nneg (by omega))) ?_
      show Go p.tables e below _ T (mkF m 22 #[.val (.ref t1), .val (.int ch), .val (.int (Int32.ofNat (nn - 1))), .val (.int (Int32.ofNat (kx + (r + 1))))] [])
      refine g_aload_n B W (d_jdk_43_method_27_22) rfl rfl ?_
      refine g_iload_n B W (d_jdk_43_method_27_23) rfl ?_
      refine g_baload B W (d_jdk_43_method_27_24) A1 (own_ixok (i := (kx + (r + 1))) (n := nn) (by omega) (by omega)) (arl_rd (i := (kx + (r + 1))) (n := nn) (by omega) (by omega)) ?_
      show Go p.tables e below _ T (mkF m 25 #[.val (.ref t1), .val (.int ch), .val (.int (Int32.ofNat (nn - 1))), .val (.int (Int32.ofNat (kx + (r + 1))))] [(.int (gg ((kx + (r + 1)))))])
      refine g_iload_n B W (d_jdk_43_method_27_25) rfl ?_
      refine g_i2b B W (d_jdk_43_method_27_26)  ?_
      refine g_icmp_y B W (d_jdk_43_method_27_27) (XT.ii_ne_t (hgt (kx + (r + 1)) (by omega) (by omega))) (pc' := 32) (by decide) ?_
      show Go p.tables e below _ T (mkF m 32 #[.val (.ref t1), .val (.int ch), .val (.int (Int32.ofNat (nn - 1))), .val (.int (Int32.ofNat (kx + (r + 1))))] [])
      refine g_iinc B W (d_jdk_43_method_27_32) (v := (-1)) (l' := #[.val (.ref t1), .val (.int ch), .val (.int (Int32.ofNat (nn - 1))), .val (.int (Int32.ofNat ((kx + (r + 1))) + (-1)))]) (by decide) rfl rfl ?_
      rw [show (Int32.ofNat ((kx + (r + 1))) + (-1) : Int32) = Int32.ofNat (kx + r) from own_dec1 _]
      show Go p.tables e below _ T (mkF m 35 #[.val (.ref t1), .val (.int ch), .val (.int (Int32.ofNat (nn - 1))), .val (.int (Int32.ofNat (kx + r)))] [])
      refine g_goto B W (d_jdk_43_method_27_35) (pc' := 18) (by decide) ?_
      show Go p.tables e below _ T (mkF m 18 #[.val (.ref t1), .val (.int ch), .val (.int (Int32.ofNat (nn - 1))), .val (.int (Int32.ofNat (kx + r)))] [])
      exact ih _ (by omega) W
  exact loop r0 _ (by omega) W102
theorem ef_lidx (m : MethodId) (t1 : Addr) (kb : ClassId) (nn : Nat) (gg : Nat → Int32) (ch : Int32) (kx : Nat) : entryFrame m #[(.ref t1), (.int ch), (.int 0), (.int (Int32.ofNat nn))] 6 = mkF m 0 #[.val (.ref t1), .val (.int ch), .val (.int 0), .val (.int (Int32.ofNat nn)), .unset, .unset] [] := by first | (simp [entryFrame, mkF, argsToLocals, Value.category]; done) | rfl
def Q_lidx (Z : State) (t1 : Addr) (kb : ClassId) (nn : Nat) (gg : Nat → Int32) (ch : Int32) (kx : Nat) (h0 : Heap) (v : Option Value) (h : Heap) : Prop := v = some (.int (Int32.ofNat kx)) ∧ h0 = h
set_option maxRecDepth 65536 in
set_option maxHeartbeats 40000000 in
theorem c_lidx (l : Launch) (Z : State) (a0 : Array Value) (hw : ∀ d ∈ tables_1, d.before a0 Z = true) (t1 : Addr) (kb : ClassId) (nn : Nat) (gg : Nat → Int32) (ch : Int32) (kx : Nat) (h0 : Heap) (A1 : Arv Z h0 t1 kb .byte (Int32.ofNat nn) (arl nn gg) (.int 0)) (hn : nn ≤ 4000) (hch : ¬ ch < 0 ∧ ¬ 255 < ch) (hk : kx < nn) (hg : gg kx = ch.toInt8.toInt32) (hlt : ∀ j, j < kx → ¬ gg j = ch.toInt8.toInt32) :
    Con l Z (⟨"java/lang/StringLatin1", "indexOfChar", "([BIII)I"⟩ : MethodName) jdk_43_method_23_code 6 (Option.some FieldType.int) [] ({ frames := 0, cells := 0, slots := 0, locals := 0 } : Room) #[(.ref t1), (.int ch), (.int 0), (.int (Int32.ofNat nn))] h0 (Q_lidx Z t1 kb nn gg ch kx h0) := by
  refine Con.of (plainFor_of_name pn_java_lang_StringLatin1) ?_
  intro p e s m below meth c T0 B W0
  refine Go.cast (ef_lidx m t1 kb nn gg ch kx ) ?_
  refine g_iload_n B W0 (d_jdk_43_method_23_0) rfl ?_
  refine g_i2b B W0 (d_jdk_43_method_23_1)  ?_
  refine g_istore B W0 (d_jdk_43_method_23_2)  (l' := #[.val (.ref t1), .val (.int ch), .val (.int 0), .val (.int (Int32.ofNat nn)), .val (.int (ch : Int32).toInt8.toInt32), .unset]) rfl ?_
  refine g_iload_n B W0 (d_jdk_43_method_23_4) rfl ?_
  refine g_istore B W0 (d_jdk_43_method_23_5)  (l' := #[.val (.ref t1), .val (.int ch), .val (.int 0), .val (.int (Int32.ofNat nn)), .val (.int (ch : Int32).toInt8.toInt32), .val (.int 0)]) rfl ?_
  have loop : ∀ (r : Nat) (j : Nat) (T : State), (j + r = kx) → Wk p l e ({ frames := 0, cells := 0, slots := 0, locals := 0 } : Room) s m #[(.ref t1), (.int ch), (.int 0), (.int (Int32.ofNat nn))] below meth c Z T h0 0 0 → Go p.tables e below (Jvm.OwnK.Out Z s (Q_lidx Z t1 kb nn gg ch kx h0) ({ frames := 0, cells := 0, slots := 0, locals := 0 } : Room).cells ({ frames := 0, cells := 0, slots := 0, locals := 0 } : Room).slots) T (mkF m 7 #[.val (.ref t1), .val (.int ch), .val (.int 0), .val (.int (Int32.ofNat nn)), .val (.int (ch : Int32).toInt8.toInt32), .val (.int (Int32.ofNat j))] []) := by
    intro r; induction r with
    | zero =>
      intro j T hr W
      have hj : j = kx := by omega
      refine g_iload B W (d_jdk_43_method_23_7) rfl ?_
      refine g_iload_n B W (d_jdk_43_method_23_9) rfl ?_
      refine g_icmp_n B W (d_jdk_43_method_23_10) (XT.ii_ge_f ((own_lt (by omega) (by omega)).mpr (by omega))) ?_
      show Go p.tables e below _ T (mkF m 13 #[.val (.ref t1), .val (.int ch), .val (.int 0), .val (.int (Int32.ofNat nn)), .val (.int (ch : Int32).toInt8.toInt32), .val (.int (Int32.ofNat j))] [])
      refine g_aload_n B W (d_jdk_43_method_23_13) rfl rfl ?_
      refine g_iload B W (d_jdk_43_method_23_14) rfl ?_
      refine g_baload B W (d_jdk_43_method_23_16) A1 (own_ixok (i := j) (n := nn) (by omega) (by omega)) (arl_rd (i := j) (n := nn) (by omega) (by omega)) ?_
      show Go p.tables e below _ T (mkF m 17 #[.val (.ref t1), .val (.int ch), .val (.int 0), .val (.int (Int32.ofNat nn)), .val (.int (ch : Int32).toInt8.toInt32), .val (.int (Int32.ofNat j))] [(.int (gg j))])
      refine g_iload B W (d_jdk_43_method_23_17) rfl ?_
      refine g_icmp_n B W (d_jdk_43_method_23_19) (XT.ii_ne_f (by rw [hj]; exact hg)) ?_
      show Go p.tables e below _ T (mkF m 22 #[.val (.ref t1), .val (.int ch), .val (.int 0), .val (.int (Int32.ofNat nn)), .val (.int (ch : Int32).toInt8.toInt32), .val (.int (Int32.ofNat j))] [])
      refine g_iload B W (d_jdk_43_method_23_22) rfl ?_
      exact r_i B W (d_jdk_43_method_23_24) (by decide) (by decide) ⟨by rw [show j = kx by omega], rfl⟩
    | succ r ih =>
      intro j T hr W
      refine g_iload B W (d_jdk_43_method_23_7) rfl ?_
      refine g_iload_n B W (d_jdk_43_method_23_9) rfl ?_
      refine g_icmp_n B W (d_jdk_43_method_23_10) (XT.ii_ge_f ((own_lt (by omega) (by omega)).mpr (by omega))) ?_
      show Go p.tables e below _ T (mkF m 13 #[.val (.ref t1), .val (.int ch), .val (.int 0), .val (.int (Int32.ofNat nn)), .val (.int (ch : Int32).toInt8.toInt32), .val (.int (Int32.ofNat j))] [])
      refine g_aload_n B W (d_jdk_43_method_23_13) rfl rfl ?_
      refine g_iload B W (d_jdk_43_method_23_14) rfl ?_
      refine g_baload B W (d_jdk_43_method_23_16) A1 (own_ixok (i := j) (n := nn) (by omega) (by omega)) (arl_rd (i := j) (n := nn) (by omega) (by omega)) ?_
      show Go p.tables e below _ T (mkF m 17 #[.val (.ref t1), .val (.int ch), .val (.int 0), .val (.int (Int32.ofNat nn)), .val (.int (ch : Int32).toInt8.toInt32), .val (.int (Int32.ofNat j))] [(.int (gg j))])
      refine g_iload B W (d_jdk_43_method_23_17) rfl ?_
      refine g_icmp_y B W (d_jdk_43_method_23_19) (XT.ii_ne_t (hlt j (by omega))) (pc' := 25) (by decide) ?_
      show Go p.tables e below _ T (mkF m 25 #[.val (.ref t1), .val (.int ch), .val (.int 0), .val (.int (Int32.ofNat nn)), .val (.int (ch : Int32).toInt8.toInt32), .val (.int (Int32.ofNat j))] [])
      refine g_iinc B W (d_jdk_43_method_23_25) (v := 1) (l' := #[.val (.ref t1), .val (.int ch), .val (.int 0), .val (.int (Int32.ofNat nn)), .val (.int (ch : Int32).toInt8.toInt32), .val (.int (Int32.ofNat j + 1))]) (by decide) rfl rfl ?_
      rw [own_inc]
      show Go p.tables e below _ T (mkF m 28 #[.val (.ref t1), .val (.int ch), .val (.int 0), .val (.int (Int32.ofNat nn)), .val (.int (ch : Int32).toInt8.toInt32), .val (.int (Int32.ofNat (j + 1)))] [])
      refine g_goto B W (d_jdk_43_method_23_28) (pc' := 7) (by decide) ?_
      show Go p.tables e below _ T (mkF m 7 #[.val (.ref t1), .val (.int ch), .val (.int 0), .val (.int (Int32.ofNat nn)), .val (.int (ch : Int32).toInt8.toInt32), .val (.int (Int32.ofNat (j + 1)))] [])
      exact ih _ _ (by omega) W
  exact loop kx 0 _ (by omega) W0
theorem ef_lidx4 (m : MethodId) (t1 : Addr) (kb : ClassId) (nn : Nat) (gg : Nat → Int32) (ch : Int32) (kx : Nat) : entryFrame m #[(.ref t1), (.int ch), (.int 0), (.int (Int32.ofNat nn))] 4 = mkF m 0 #[.val (.ref t1), .val (.int ch), .val (.int 0), .val (.int (Int32.ofNat nn))] [] := by first | (simp [entryFrame, mkF, argsToLocals, Value.category]; done) | rfl
def Q_lidx4 (Z : State) (t1 : Addr) (kb : ClassId) (nn : Nat) (gg : Nat → Int32) (ch : Int32) (kx : Nat) (h0 : Heap) (v : Option Value) (h : Heap) : Prop := v = some (.int (Int32.ofNat kx)) ∧ h0 = h
set_option maxRecDepth 65536 in
set_option maxHeartbeats 40000000 in
theorem c_lidx4 (l : Launch) (Z : State) (a0 : Array Value) (hw : ∀ d ∈ tables_1, d.before a0 Z = true) (t1 : Addr) (kb : ClassId) (nn : Nat) (gg : Nat → Int32) (ch : Int32) (kx : Nat) (h0 : Heap) (A1 : Arv Z h0 t1 kb .byte (Int32.ofNat nn) (arl nn gg) (.int 0)) (hn : nn ≤ 4000) (hch : ¬ ch < 0 ∧ ¬ 255 < ch) (hk : kx < nn) (hg : gg kx = ch.toInt8.toInt32) (hlt : ∀ j, j < kx → ¬ gg j = ch.toInt8.toInt32) :
    Con l Z (⟨"java/lang/StringLatin1", "indexOf", "([BIII)I"⟩ : MethodName) jdk_43_method_22_code 4 (Option.some FieldType.int) [] ({ frames := 1, cells := 0, slots := 0, locals := 17 } : Room) #[(.ref t1), (.int ch), (.int 0), (.int (Int32.ofNat nn))] h0 (Q_lidx4 Z t1 kb nn gg ch kx h0) := by
  refine Con.of (plainFor_of_name pn_java_lang_StringLatin1) ?_
  intro p e s m below meth c T0 B W0
  refine Go.cast (ef_lidx4 m t1 kb nn gg ch kx ) ?_
  refine g_iload_n B W0 (d_jdk_43_method_22_0) rfl ?_
  obtain ⟨T101, h101, v101, W101, Q101, st101⟩ := x_static B W0 [(.int ch)] (c_canEnc l Z a0 hw ch h0 hch) (d_jdk_43_method_22_1) (tw hw 83 rfl) (tw hw 84 rfl) (tw hw 81 rfl) (tw hw 85 rfl) (by decide) (lenOf pd__I_Z rfl) #[.val (.ref t1), .val (.int ch), .val (.int 0), .val (.int (Int32.ofNat nn))] [] rfl 0 rfl (by decide) (by decide) (by decide) (by decide)
  obtain ⟨rfl, rfl⟩ := Q101
  refine st101 _ ?_
  show Go p.tables e below _ T101 (mkF m 4 #[.val (.ref t1), .val (.int ch), .val (.int 0), .val (.int (Int32.ofNat nn))] [(.int 1)])
  refine g_if_y B W101 (d_jdk_43_method_22_4) (XT.i0_ne_t (by decide)) (pc' := 9) (by decide) ?_
  show Go p.tables e below _ T101 (mkF m 9 #[.val (.ref t1), .val (.int ch), .val (.int 0), .val (.int (Int32.ofNat nn))] [])
  refine g_iload_n B W101 (d_jdk_43_method_22_9) rfl ?_
  refine g_iconst B W101 (d_jdk_43_method_22_10) (v := 0) (by decide) ?_
  obtain ⟨T102, h102, v102, W102, Q102, st102⟩ := x_static B W101 [(.int 0), (.int 0)] (c_max l Z a0 hw h0) (d_jdk_43_method_22_11) (tw hw 166 rfl) (tw hw 167 rfl) (tw hw 88 rfl) (tw hw 168 rfl) (by decide) (lenOf pd__II_I rfl) #[.val (.ref t1), .val (.int ch), .val (.int 0), .val (.int (Int32.ofNat nn))] [] rfl 0 rfl (by decide) (by decide) (by decide) (by decide)
  obtain ⟨rfl, rfl⟩ := Q102
  refine st102 _ ?_
  show Go p.tables e below _ T102 (mkF m 14 #[.val (.ref t1), .val (.int ch), .val (.int 0), .val (.int (Int32.ofNat nn))] [(.int 0)])
  refine g_istore_n B W102 (d_jdk_43_method_22_14)  (l' := #[.val (.ref t1), .val (.int ch), .val (.int 0), .val (.int (Int32.ofNat nn))]) rfl ?_
  refine g_iload_n B W102 (d_jdk_43_method_22_15) rfl ?_
  refine g_aload_n B W102 (d_jdk_43_method_22_16) rfl rfl ?_
  refine g_aalen B W102 (d_jdk_43_method_22_17) A1 ?_
  obtain ⟨T103, h103, v103, W103, Q103, st103⟩ := x_static B W102 [(.int (Int32.ofNat nn)), (.int (Int32.ofNat nn))] (c_min l Z a0 hw nn nn nn h0 (by omega) (by omega) (by omega)) (d_jdk_43_method_22_18) (tw hw 86 rfl) (tw hw 87 rfl) (tw hw 88 rfl) (tw hw 89 rfl) (by decide) (lenOf pd__II_I rfl) #[.val (.ref t1), .val (.int ch), .val (.int 0), .val (.int (Int32.ofNat nn))] [] rfl 0 rfl (by decide) (by decide) (by decide) (by decide)
  obtain ⟨rfl, rfl⟩ := Q103
  refine st103 _ ?_
  refine g_istore_n B W103 (d_jdk_43_method_22_21)  (l' := #[.val (.ref t1), .val (.int ch), .val (.int 0), .val (.int (Int32.ofNat nn))]) rfl ?_
  refine g_iload_n B W103 (d_jdk_43_method_22_22) rfl ?_
  refine g_iload_n B W103 (d_jdk_43_method_22_23) rfl ?_
  refine g_icmp_y B W103 (d_jdk_43_method_22_24) (XT.ii_lt_t ((own_lt (i := 0) (by omega) (by omega)).mpr (by omega))) (pc' := 29) (by decide) ?_
  show Go p.tables e below _ T103 (mkF m 29 #[.val (.ref t1), .val (.int ch), .val (.int 0), .val (.int (Int32.ofNat nn))] [])
  refine g_aload_n B W103 (d_jdk_43_method_22_29) rfl rfl ?_
  refine g_iload_n B W103 (d_jdk_43_method_22_30) rfl ?_
  refine g_iload_n B W103 (d_jdk_43_method_22_31) rfl ?_
  refine g_iload_n B W103 (d_jdk_43_method_22_32) rfl ?_
  obtain ⟨T104, h104, v104, W104, Q104, st104⟩ := x_static B W103 [(.ref t1), (.int ch), (.int 0), (.int (Int32.ofNat nn))] (c_lidx l Z a0 hw t1 kb nn gg ch kx h0 A1 hn hch hk hg hlt) (d_jdk_43_method_22_33) (tw hw 169 rfl) (tw hw 170 rfl) (tw hw 81 rfl) (tw hw 171 rfl) (by decide) (lenOf pd___BIII_I rfl) #[.val (.ref t1), .val (.int ch), .val (.int 0), .val (.int (Int32.ofNat nn))] [] rfl 0 rfl (by decide) (by decide) (by decide) (by decide)
  obtain ⟨rfl, rfl⟩ := Q104
  refine st104 _ ?_
  exact r_i B W104 (d_jdk_43_method_22_36) (by decide) (by decide) ⟨rfl, rfl⟩
theorem ef_slast2 (m : MethodId) (a1 : Addr) (nn : Nat) (ff : Nat → Int32) (ch : Int32) (kx : Nat) (cz : Int32) : entryFrame m #[(.ref a1), (.int ch), (.int (Int32.ofNat (nn - 1)))] 3 = mkF m 0 #[.val (.ref a1), .val (.int ch), .val (.int (Int32.ofNat (nn - 1)))] [] := by first | (simp [entryFrame, mkF, argsToLocals, Value.category]; done) | rfl
def Q_slast2 (Z : State) (a1 : Addr) (nn : Nat) (ff : Nat → Int32) (ch : Int32) (kx : Nat) (cz : Int32) (h0 : Heap) (v : Option Value) (h : Heap) : Prop := v = some (.int (Int32.ofNat kx)) ∧ h0 = h
set_option maxRecDepth 65536 in
set_option maxHeartbeats 40000000 in
theorem c_slast2 (l : Launch) (Z : State) (a0 : Array Value) (hw : ∀ d ∈ tables_1, d.before a0 Z = true) (a1 : Addr) (nn : Nat) (ff : Nat → Int32) (ch : Int32) (kx : Nat) (cz : Int32) (h0 : Heap) (Scs : Sta Z Z.heap "java/lang/String" "COMPACT_STRINGS" "Z" (.int cz)) (hcz : ¬ cz = 0) (S1 : StrIs Z h0 a1 (lst nn ff)) (hch : ¬ ch < 0 ∧ ¬ 255 < ch) (hk : kx < nn) (hg : ff kx = ch) (hgt : ∀ j, kx < j → j < nn → ¬ ff j = ch) :
    Con l Z (⟨"java/lang/String", "lastIndexOf", "(II)I"⟩ : MethodName) jdk_42_method_83_code 3 (Option.some FieldType.int) [] ({ frames := 2, cells := 0, slots := 0, locals := 28 } : Room) #[(.ref a1), (.int ch), (.int (Int32.ofNat (nn - 1)))] h0 (Q_slast2 Z a1 nn ff ch kx cz h0) := by
  refine Con.of (plainFor_of_name pn_java_lang_String) ?_
  intro p e s m below meth c T0 B W0
  refine Go.cast (ef_slast2 m a1 nn ff ch kx cz ) ?_
  obtain ⟨t1, kb1, E_a1, Fc_a1, Fv_a1, A_t1, R_a1, L_a1⟩ := S1.op
  refine g_aload_n B W0 (d_jdk_42_method_83_0) rfl rfl ?_
  obtain ⟨T101, h101, v101, W101, Q101, st101⟩ := x_virtual B W0 (b := a1) [] (c_isLat l Z a0 hw a1 cz h0 Scs hcz Fc_a1) E_a1 (d_jdk_42_method_83_1) (tw hw 74 rfl) (tw hw 75 rfl) (tw hw 77 rfl) (tw hw 76 rfl) (tw hw 15 rfl) (tw hw 78 rfl) (by decide) (lenOf pd___Z rfl) #[.val (.ref a1), .val (.int ch), .val (.int (Int32.ofNat (nn - 1)))] [] rfl 0 rfl (by decide) (by decide) (by decide) (by decide)
  obtain ⟨rfl, rfl⟩ := Q101
  refine st101 _ ?_
  show Go p.tables e below _ T101 (mkF m 4 #[.val (.ref a1), .val (.int ch), .val (.int (Int32.ofNat (nn - 1)))] [(.int 1)])
  refine g_if_n B W101 (d_jdk_42_method_83_4) (XT.i0_eq_f (by decide)) ?_
  show Go p.tables e below _ T101 (mkF m 7 #[.val (.ref a1), .val (.int ch), .val (.int (Int32.ofNat (nn - 1)))] [])
  refine g_aload_n B W101 (d_jdk_42_method_83_7) rfl rfl ?_
  obtain ⟨T102, W102, st102⟩ := x_get B W101 (host := "") (d_jdk_42_method_83_8) (Or.inl (tw hw 40 rfl)) Via.refl Fv_a1 #[.val (.ref a1), .val (.int ch), .val (.int (Int32.ofNat (nn - 1)))] []
  refine st102 _ ?_
  refine g_iload_n B W102 (d_jdk_42_method_83_11) rfl ?_
  refine g_iload_n B W102 (d_jdk_42_method_83_12) rfl ?_
  obtain ⟨T103, h103, v103, W103, Q103, st103⟩ := x_static B W102 [(.ref t1), (.int ch), (.int (Int32.ofNat (nn - 1)))] (c_llast l Z a0 hw t1 kb1 nn _ ch kx h0 A_t1 L_a1 hch hk (by rw [hg]) (fun j h1 h2 q => hgt j h1 h2 (own_lo8 (R_a1 j h2) hch q))) (d_jdk_42_method_83_13) (tw hw 79 rfl) (tw hw 80 rfl) (tw hw 81 rfl) (tw hw 82 rfl) (by decide) (lenOf pd___BII_I rfl) #[.val (.ref a1), .val (.int ch), .val (.int (Int32.ofNat (nn - 1)))] [] rfl 0 rfl (by decide) (by decide) (by decide) (by decide)
  obtain ⟨rfl, rfl⟩ := Q103
  refine st103 _ ?_
  refine g_goto B W103 (d_jdk_42_method_83_16) (pc' := 28) (by decide) ?_
  show Go p.tables e below _ T103 (mkF m 28 #[.val (.ref a1), .val (.int ch), .val (.int (Int32.ofNat (nn - 1)))] [(.int (Int32.ofNat kx))])
  exact r_i B W103 (d_jdk_42_method_83_28) (by decide) (by decide) ⟨rfl, rfl⟩
theorem ef_slast1 (m : MethodId) (a1 : Addr) (nn : Nat) (ff : Nat → Int32) (ch : Int32) (kx : Nat) (cz : Int32) : entryFrame m #[(.ref a1), (.int ch)] 2 = mkF m 0 #[.val (.ref a1), .val (.int ch)] [] := by first | (simp [entryFrame, mkF, argsToLocals, Value.category]; done) | rfl
def Q_slast1 (Z : State) (a1 : Addr) (nn : Nat) (ff : Nat → Int32) (ch : Int32) (kx : Nat) (cz : Int32) (h0 : Heap) (v : Option Value) (h : Heap) : Prop := v = some (.int (Int32.ofNat kx)) ∧ h0 = h
set_option maxRecDepth 65536 in
set_option maxHeartbeats 40000000 in
theorem c_slast1 (l : Launch) (Z : State) (a0 : Array Value) (hw : ∀ d ∈ tables_1, d.before a0 Z = true) (a1 : Addr) (nn : Nat) (ff : Nat → Int32) (ch : Int32) (kx : Nat) (cz : Int32) (h0 : Heap) (Scs : Sta Z Z.heap "java/lang/String" "COMPACT_STRINGS" "Z" (.int cz)) (hcz : ¬ cz = 0) (S1 : StrIs Z h0 a1 (lst nn ff)) (hch : ¬ ch < 0 ∧ ¬ 255 < ch) (hk : kx < nn) (hg : ff kx = ch) (hgt : ∀ j, kx < j → j < nn → ¬ ff j = ch) :
    Con l Z (⟨"java/lang/String", "lastIndexOf", "(I)I"⟩ : MethodName) jdk_42_method_82_code 2 (Option.some FieldType.int) [] ({ frames := 3, cells := 0, slots := 0, locals := 42 } : Room) #[(.ref a1), (.int ch)] h0 (Q_slast1 Z a1 nn ff ch kx cz h0) := by
  refine Con.of (plainFor_of_name pn_java_lang_String) ?_
  intro p e s m below meth c T0 B W0
  refine Go.cast (ef_slast1 m a1 nn ff ch kx cz ) ?_
  have E_a1 := S1.exa
  refine g_aload_n B W0 (d_jdk_42_method_82_0) rfl rfl ?_
  refine g_iload_n B W0 (d_jdk_42_method_82_1) rfl ?_
  refine g_aload_n B W0 (d_jdk_42_method_82_2) rfl rfl ?_
  obtain ⟨T101, h101, v101, W101, Q101, st101⟩ := x_virtual B W0 (b := a1) [] (c_len l Z a0 hw a1 nn ff cz h0 Scs hcz S1) E_a1 (d_jdk_42_method_82_3) (tw hw 59 rfl) (tw hw 60 rfl) (tw hw 62 rfl) (tw hw 61 rfl) (tw hw 15 rfl) (tw hw 63 rfl) (by decide) (lenOf pd___I rfl) #[.val (.ref a1), .val (.int ch)] [(.int ch), (.ref a1)] rfl 2 rfl (by decide) (by decide) (by decide) (by decide)
  obtain ⟨rfl, rfl⟩ := Q101
  refine st101 _ ?_
  refine g_iconst B W101 (d_jdk_42_method_82_6) (v := 1) (by decide) ?_
  refine g_isub B W101 (d_jdk_42_method_82_7)  ?_
  rw [own_dec (i := nn) (by omega)]
  show Go p.tables e below _ T101 (mkF m 8 #[.val (.ref a1), .val (.int ch)] [(.int (Int32.ofNat (nn - 1))), (.int ch), (.ref a1)])
  obtain ⟨T102, h102, v102, W102, Q102, st102⟩ := x_virtual B W101 (b := a1) [(.int ch), (.int (Int32.ofNat (nn - 1)))] (c_slast2 l Z a0 hw a1 nn ff ch kx cz h0 Scs hcz S1 hch hk hg hgt) E_a1 (d_jdk_42_method_82_8) (tw hw 69 rfl) (tw hw 70 rfl) (tw hw 72 rfl) (tw hw 71 rfl) (tw hw 15 rfl) (tw hw 73 rfl) (by decide) (lenOf pd__II_I rfl) #[.val (.ref a1), .val (.int ch)] [] rfl 0 rfl (by decide) (by decide) (by decide) (by decide)
  obtain ⟨rfl, rfl⟩ := Q102
  refine st102 _ ?_
  exact r_i B W102 (d_jdk_42_method_82_11) (by decide) (by decide) ⟨rfl, rfl⟩
theorem ef_sidx2 (m : MethodId) (a1 : Addr) (nn : Nat) (ff : Nat → Int32) (ch : Int32) (kx : Nat) (cz : Int32) : entryFrame m #[(.ref a1), (.int ch), (.int 0)] 3 = mkF m 0 #[.val (.ref a1), .val (.int ch), .val (.int 0)] [] := by first | (simp [entryFrame, mkF, argsToLocals, Value.category]; done) | rfl
def Q_sidx2 (Z : State) (a1 : Addr) (nn : Nat) (ff : Nat → Int32) (ch : Int32) (kx : Nat) (cz : Int32) (h0 : Heap) (v : Option Value) (h : Heap) : Prop := v = some (.int (Int32.ofNat kx)) ∧ h0 = h
set_option maxRecDepth 65536 in
set_option maxHeartbeats 40000000 in
theorem c_sidx2 (l : Launch) (Z : State) (a0 : Array Value) (hw : ∀ d ∈ tables_1, d.before a0 Z = true) (a1 : Addr) (nn : Nat) (ff : Nat → Int32) (ch : Int32) (kx : Nat) (cz : Int32) (h0 : Heap) (Scs : Sta Z Z.heap "java/lang/String" "COMPACT_STRINGS" "Z" (.int cz)) (hcz : ¬ cz = 0) (S1 : StrIs Z h0 a1 (lst nn ff)) (hch : ¬ ch < 0 ∧ ¬ 255 < ch) (hk : kx < nn) (hg : ff kx = ch) (hlt : ∀ j, j < kx → ¬ ff j = ch) :
    Con l Z (⟨"java/lang/String", "indexOf", "(II)I"⟩ : MethodName) jdk_42_method_80_code 3 (Option.some FieldType.int) [] ({ frames := 2, cells := 0, slots := 0, locals := 35 } : Room) #[(.ref a1), (.int ch), (.int 0)] h0 (Q_sidx2 Z a1 nn ff ch kx cz h0) := by
  refine Con.of (plainFor_of_name pn_java_lang_String) ?_
  intro p e s m below meth c T0 B W0
  refine Go.cast (ef_sidx2 m a1 nn ff ch kx cz ) ?_
  obtain ⟨t1, kb1, E_a1, Fc_a1, Fv_a1, A_t1, R_a1, L_a1⟩ := S1.op
  refine g_aload_n B W0 (d_jdk_42_method_80_0) rfl rfl ?_
  obtain ⟨T101, h101, v101, W101, Q101, st101⟩ := x_virtual B W0 (b := a1) [] (c_isLat l Z a0 hw a1 cz h0 Scs hcz Fc_a1) E_a1 (d_jdk_42_method_80_1) (tw hw 74 rfl) (tw hw 75 rfl) (tw hw 77 rfl) (tw hw 76 rfl) (tw hw 15 rfl) (tw hw 78 rfl) (by decide) (lenOf pd___Z rfl) #[.val (.ref a1), .val (.int ch), .val (.int 0)] [] rfl 0 rfl (by decide) (by decide) (by decide) (by decide)
  obtain ⟨rfl, rfl⟩ := Q101
  refine st101 _ ?_
  show Go p.tables e below _ T101 (mkF m 4 #[.val (.ref a1), .val (.int ch), .val (.int 0)] [(.int 1)])
  refine g_if_n B W101 (d_jdk_42_method_80_4) (XT.i0_eq_f (by decide)) ?_
  show Go p.tables e below _ T101 (mkF m 7 #[.val (.ref a1), .val (.int ch), .val (.int 0)] [])
  refine g_aload_n B W101 (d_jdk_42_method_80_7) rfl rfl ?_
  obtain ⟨T102, W102, st102⟩ := x_get B W101 (host := "") (d_jdk_42_method_80_8) (Or.inl (tw hw 40 rfl)) Via.refl Fv_a1 #[.val (.ref a1), .val (.int ch), .val (.int 0)] []
  refine st102 _ ?_
  refine g_iload_n B W102 (d_jdk_42_method_80_11) rfl ?_
  refine g_iload_n B W102 (d_jdk_42_method_80_12) rfl ?_
  refine g_aload_n B W102 (d_jdk_42_method_80_13) rfl rfl ?_
  obtain ⟨T103, h103, v103, W103, Q103, st103⟩ := x_virtual B W102 (b := a1) [] (c_len l Z a0 hw a1 nn ff cz h0 Scs hcz S1) E_a1 (d_jdk_42_method_80_14) (tw hw 59 rfl) (tw hw 60 rfl) (tw hw 62 rfl) (tw hw 61 rfl) (tw hw 15 rfl) (tw hw 63 rfl) (by decide) (lenOf pd___I rfl) #[.val (.ref a1), .val (.int ch), .val (.int 0)] [(.int 0), (.int ch), (.ref t1)] rfl 3 rfl (by decide) (by decide) (by decide) (by decide)
  obtain ⟨rfl, rfl⟩ := Q103
  refine st103 _ ?_
  obtain ⟨T104, h104, v104, W104, Q104, st104⟩ := x_static B W103 [(.ref t1), (.int ch), (.int 0), (.int (Int32.ofNat nn))] (c_lidx4 l Z a0 hw t1 kb1 nn _ ch kx h0 A_t1 L_a1 hch hk (by rw [hg]) (fun j h1 q => hlt j h1 (own_lo8 (R_a1 j (by omega)) hch q))) (d_jdk_42_method_80_17) (tw hw 163 rfl) (tw hw 164 rfl) (tw hw 81 rfl) (tw hw 165 rfl) (by decide) (lenOf pd___BIII_I rfl) #[.val (.ref a1), .val (.int ch), .val (.int 0)] [] rfl 0 rfl (by decide) (by decide) (by decide) (by decide)
  obtain ⟨rfl, rfl⟩ := Q104
  refine st104 _ ?_
  refine g_goto B W104 (d_jdk_42_method_80_20) (pc' := 36) (by decide) ?_
  show Go p.tables e below _ T104 (mkF m 36 #[.val (.ref a1), .val (.int ch), .val (.int 0)] [(.int (Int32.ofNat kx))])
  exact r_i B W104 (d_jdk_42_method_80_36) (by decide) (by decide) ⟨rfl, rfl⟩
theorem ef_sidx1 (m : MethodId) (a1 : Addr) (nn : Nat) (ff : Nat → Int32) (ch : Int32) (kx : Nat) (cz : Int32) : entryFrame m #[(.ref a1), (.int ch)] 2 = mkF m 0 #[.val (.ref a1), .val (.int ch)] [] := by first | (simp [entryFrame, mkF, argsToLocals, Value.category]; done) | rfl
def Q_sidx1 (Z : State) (a1 : Addr) (nn : Nat) (ff : Nat → Int32) (ch : Int32) (kx : Nat) (cz : Int32) (h0 : Heap) (v : Option Value) (h : Heap) : Prop := v = some (.int (Int32.ofNat kx)) ∧ h0 = h
set_option maxRecDepth 65536 in
set_option maxHeartbeats 40000000 in
theorem c_sidx1 (l : Launch) (Z : State) (a0 : Array Value) (hw : ∀ d ∈ tables_1, d.before a0 Z = true) (a1 : Addr) (nn : Nat) (ff : Nat → Int32) (ch : Int32) (kx : Nat) (cz : Int32) (h0 : Heap) (Scs : Sta Z Z.heap "java/lang/String" "COMPACT_STRINGS" "Z" (.int cz)) (hcz : ¬ cz = 0) (S1 : StrIs Z h0 a1 (lst nn ff)) (hch : ¬ ch < 0 ∧ ¬ 255 < ch) (hk : kx < nn) (hg : ff kx = ch) (hlt : ∀ j, j < kx → ¬ ff j = ch) :
    Con l Z (⟨"java/lang/String", "indexOf", "(I)I"⟩ : MethodName) jdk_42_method_79_code 2 (Option.some FieldType.int) [] ({ frames := 3, cells := 0, slots := 0, locals := 49 } : Room) #[(.ref a1), (.int ch)] h0 (Q_sidx1 Z a1 nn ff ch kx cz h0) := by
  refine Con.of (plainFor_of_name pn_java_lang_String) ?_
  intro p e s m below meth c T0 B W0
  refine Go.cast (ef_sidx1 m a1 nn ff ch kx cz ) ?_
  have E_a1 := S1.exa
  refine g_aload_n B W0 (d_jdk_42_method_79_0) rfl rfl ?_
  refine g_iload_n B W0 (d_jdk_42_method_79_1) rfl ?_
  refine g_iconst B W0 (d_jdk_42_method_79_2) (v := 0) (by decide) ?_
  obtain ⟨T101, h101, v101, W101, Q101, st101⟩ := x_virtual B W0 (b := a1) [(.int ch), (.int 0)] (c_sidx2 l Z a0 hw a1 nn ff ch kx cz h0 Scs hcz S1 hch hk hg hlt) E_a1 (d_jdk_42_method_79_3) (tw hw 158 rfl) (tw hw 159 rfl) (tw hw 161 rfl) (tw hw 160 rfl) (tw hw 15 rfl) (tw hw 162 rfl) (by decide) (lenOf pd__II_I rfl) #[.val (.ref a1), .val (.int ch)] [] rfl 0 rfl (by decide) (by decide) (by decide) (by decide)
  obtain ⟨rfl, rfl⟩ := Q101
  refine st101 _ ?_
  exact r_i B W101 (d_jdk_42_method_79_6) (by decide) (by decide) ⟨rfl, rfl⟩
theorem own_copied {Z : State} {h : Heap} {a : Addr} {k : ClassId} {n bx ex cap : Nat} {g : Nat → Int32} (h1 : bx < ex) (h2 : ex ≤ n) (hn : n < 2147483648) (F : Arv Z h a k .byte (Int32.ofNat (ex - bx)) ((List.replicate cap (Value.int 0)).take (0 : Int32).toNatClampNeg ++ ((List.range (ex - bx)).map fun i => (arl n g).getD (bx + i) (.int 0)) ++ (List.replicate cap (Value.int 0)).drop ((0 : Int32).toNatClampNeg + (Int32.ofNat (ex - bx)).toNatClampNeg)) (.int 0)) : Arv Z h a k .byte (Int32.ofNat (ex - bx)) (arl (ex - bx) fun i => g (bx + i)) (.int 0) := by
  refine arv_eq F fun i hi => ?_
  rw [own_clamp (by omega)] at hi
  rw [arl_get hi, show (0 : Int32).toNatClampNeg = 0 from rfl, List.take_zero, List.nil_append, List.getD_eq_getElem?_getD, List.getElem?_append_left (by simpa using hi), List.getElem?_map, List.getElem?_range hi]
  show (arl n g).getD (bx + i) (.int 0) = _
  exact arl_get (by omega)
theorem ef_pft (m : MethodId) (bx : Nat) (ex : Nat) (nn : Nat) (sf : Value) (rsf : sf.isRef = true) : entryFrame m #[(.int (Int32.ofNat bx)), (.int (Int32.ofNat ex)), (.int (Int32.ofNat nn)), sf] 4 = mkF m 0 #[.val (.int (Int32.ofNat bx)), .val (.int (Int32.ofNat ex)), .val (.int (Int32.ofNat nn)), .val sf] [] := by
  (cases sf <;> try cases rsf)
  all_goals first | (simp [entryFrame, mkF, argsToLocals, Value.category]; done) | rfl
def Q_pft (Z : State) (bx : Nat) (ex : Nat) (nn : Nat) (sf : Value) (h0 : Heap) (v : Option Value) (h : Heap) : Prop := v = some (.int (Int32.ofNat bx)) ∧ h0 = h
set_option maxRecDepth 65536 in
set_option maxHeartbeats 40000000 in
theorem c_pft (l : Launch) (Z : State) (a0 : Array Value) (hw : ∀ d ∈ tables_1, d.before a0 Z = true) (bx : Nat) (ex : Nat) (nn : Nat) (sf : Value) (h0 : Heap) (rsf : sf.isRef = true) (h1 : bx ≤ ex) (h2 : ex ≤ nn) (hn : nn ≤ 4000) :
    Con l Z (⟨"jdk/internal/util/Preconditions", "checkFromToIndex", "(IIILjava/util/function/BiFunction;)I"⟩ : MethodName) jdk_41_method_12_code 4 (Option.some FieldType.int) [] ({ frames := 0, cells := 0, slots := 0, locals := 0 } : Room) #[(.int (Int32.ofNat bx)), (.int (Int32.ofNat ex)), (.int (Int32.ofNat nn)), sf] h0 (Q_pft Z bx ex nn sf h0) := by
  refine Con.of (plainFor_of_name pn_jdk_internal_util_Preconditions) ?_
  intro p e s m below meth c T0 B W0
  refine Go.cast (ef_pft m bx ex nn sf rsf) ?_
  refine g_iload_n B W0 (d_jdk_41_method_12_0) rfl ?_
  refine g_if_n B W0 (d_jdk_41_method_12_1) (XT.i0_lt_f (own_nneg (by omega))) ?_
  show Go p.tables e below _ T0 (mkF m 4 #[.val (.int (Int32.ofNat bx)), .val (.int (Int32.ofNat ex)), .val (.int (Int32.ofNat nn)), .val sf] [])
  refine g_iload_n B W0 (d_jdk_41_method_12_4) rfl ?_
  refine g_iload_n B W0 (d_jdk_41_method_12_5) rfl ?_
  refine g_icmp_n B W0 (d_jdk_41_method_12_6) (XT.ii_gt_f (by rw [own_lt (by omega) (by omega)]; omega)) ?_
  show Go p.tables e below _ T0 (mkF m 9 #[.val (.int (Int32.ofNat bx)), .val (.int (Int32.ofNat ex)), .val (.int (Int32.ofNat nn)), .val sf] [])
  refine g_iload_n B W0 (d_jdk_41_method_12_9) rfl ?_
  refine g_iload_n B W0 (d_jdk_41_method_12_10) rfl ?_
  refine g_icmp_y B W0 (d_jdk_41_method_12_11) (XT.ii_le_t (by rw [own_lt (by omega) (by omega)]; omega)) (pc' := 22) (by decide) ?_
  show Go p.tables e below _ T0 (mkF m 22 #[.val (.int (Int32.ofNat bx)), .val (.int (Int32.ofNat ex)), .val (.int (Int32.ofNat nn)), .val sf] [])
  refine g_iload_n B W0 (d_jdk_41_method_12_22) rfl ?_
  exact r_i B W0 (d_jdk_41_method_12_23) (by decide) (by decide) ⟨rfl, rfl⟩
theorem ef_cbb (m : MethodId) (bx : Nat) (ex : Nat) (nn : Nat) (sf : Value) : entryFrame m #[(.int (Int32.ofNat bx)), (.int (Int32.ofNat ex)), (.int (Int32.ofNat nn))] 3 = mkF m 0 #[.val (.int (Int32.ofNat bx)), .val (.int (Int32.ofNat ex)), .val (.int (Int32.ofNat nn))] [] := by first | (simp [entryFrame, mkF, argsToLocals, Value.category]; done) | rfl
def Q_cbb (Z : State) (bx : Nat) (ex : Nat) (nn : Nat) (sf : Value) (h0 : Heap) (v : Option Value) (h : Heap) : Prop := v = none ∧ h0 = h
set_option maxRecDepth 65536 in
set_option maxHeartbeats 40000000 in
theorem c_cbb (l : Launch) (Z : State) (a0 : Array Value) (hw : ∀ d ∈ tables_1, d.before a0 Z = true) (bx : Nat) (ex : Nat) (nn : Nat) (sf : Value) (h0 : Heap) (Ssf : Sta Z Z.heap "jdk/internal/util/Preconditions" "SIOOBE_FORMATTER" "Ljava/util/function/BiFunction;" sf) (rsf : sf.isRef = true) (h1 : bx ≤ ex) (h2 : ex ≤ nn) (hn : nn ≤ 4000) :
    Con l Z (⟨"java/lang/String", "checkBoundsBeginEnd", "(III)V"⟩ : MethodName) jdk_42_method_158_code 3 (Option.none : Option FieldType) [] ({ frames := 1, cells := 0, slots := 0, locals := 15 } : Room) #[(.int (Int32.ofNat bx)), (.int (Int32.ofNat ex)), (.int (Int32.ofNat nn))] h0 (Q_cbb Z bx ex nn sf h0) := by
  refine Con.of (plainFor_of_name pn_java_lang_String) ?_
  intro p e s m below meth c T0 B W0
  refine Go.cast (ef_cbb m bx ex nn sf ) ?_
  refine g_iload_n B W0 (d_jdk_42_method_158_0) rfl ?_
  refine g_iload_n B W0 (d_jdk_42_method_158_1) rfl ?_
  refine g_iload_n B W0 (d_jdk_42_method_158_2) rfl ?_
  obtain ⟨T101, W101, st101⟩ := x_gets B W0 (host := "") (d_jdk_42_method_158_3) (Or.inl (tw hw 98 rfl)) Via.refl Ssf #[.val (.int (Int32.ofNat bx)), .val (.int (Int32.ofNat ex)), .val (.int (Int32.ofNat nn))] [(.int (Int32.ofNat nn)), (.int (Int32.ofNat ex)), (.int (Int32.ofNat bx))]
  refine st101 _ ?_
  obtain ⟨T102, h102, v102, W102, Q102, st102⟩ := x_static B W101 [(.int (Int32.ofNat bx)), (.int (Int32.ofNat ex)), (.int (Int32.ofNat nn)), sf] (c_pft l Z a0 hw bx ex nn sf h0 rsf h1 h2 hn) (d_jdk_42_method_158_6) (tw hw 100 rfl) (tw hw 101 rfl) (tw hw 99 rfl) (tw hw 102 rfl) (by decide) (lenOf pd__IIILjava_util_function_BiFunction__I rfl) #[.val (.int (Int32.ofNat bx)), .val (.int (Int32.ofNat ex)), .val (.int (Int32.ofNat nn))] [] rfl 0 rfl (by decide) (by decide) (by decide) (by decide)
  obtain ⟨rfl, rfl⟩ := Q102
  refine st102 _ ?_
  refine g_pop B W102 (d_jdk_42_method_158_9) rfl ?_
  exact r_v B W102 (d_jdk_42_method_158_10) (by decide) (by decide) ⟨rfl, rfl⟩
theorem ef_chl (m : MethodId) (bx : Nat) (ex : Nat) : entryFrame m #[(.int (Int32.ofNat bx)), (.int (Int32.ofNat ex))] 2 = mkF m 0 #[.val (.int (Int32.ofNat bx)), .val (.int (Int32.ofNat ex))] [] := by first | (simp [entryFrame, mkF, argsToLocals, Value.category]; done) | rfl
def Q_chl (Z : State) (bx : Nat) (ex : Nat) (h0 : Heap) (v : Option Value) (h : Heap) : Prop := v = none ∧ h0 = h
set_option maxRecDepth 65536 in
set_option maxHeartbeats 40000000 in
theorem c_chl (l : Launch) (Z : State) (a0 : Array Value) (hw : ∀ d ∈ tables_1, d.before a0 Z = true) (bx : Nat) (ex : Nat) (h0 : Heap) (h1 : bx ≤ ex) (h2 : ex ≤ 4000) :
    Con l Z (⟨"java/util/Arrays", "checkLength", "(II)V"⟩ : MethodName) jdk_65_method_131_code 2 (Option.none : Option FieldType) [] ({ frames := 0, cells := 0, slots := 0, locals := 0 } : Room) #[(.int (Int32.ofNat bx)), (.int (Int32.ofNat ex))] h0 (Q_chl Z bx ex h0) := by
  refine Con.of (plainFor_of_name pn_java_util_Arrays) ?_
  intro p e s m below meth c T0 B W0
  refine Go.cast (ef_chl m bx ex ) ?_
  refine g_iload_n B W0 (d_jdk_65_method_131_0) rfl ?_
  refine g_iload_n B W0 (d_jdk_65_method_131_1) rfl ?_
  refine g_icmp_y B W0 (d_jdk_65_method_131_2) (XT.ii_ge_t (by rw [own_lt (by omega) (by omega)]; omega)) (pc' := 37) (by decide) ?_
  show Go p.tables e below _ T0 (mkF m 37 #[.val (.int (Int32.ofNat bx)), .val (.int (Int32.ofNat ex))] [])
  exact r_v B W0 (d_jdk_65_method_131_37) (by decide) (by decide) ⟨rfl, rfl⟩
theorem ef_corb (m : MethodId) (t1 : Addr) (kb : ClassId) (nn : Nat) (gg : Nat → Int32) (bx : Nat) (ex : Nat) : entryFrame m #[(.ref t1), (.int (Int32.ofNat bx)), (.int (Int32.ofNat ex))] 5 = mkF m 0 #[.val (.ref t1), .val (.int (Int32.ofNat bx)), .val (.int (Int32.ofNat ex)), .unset, .unset] [] := by first | (simp [entryFrame, mkF, argsToLocals, Value.category]; done) | rfl
def Q_corb (Z : State) (t1 : Addr) (kb : ClassId) (nn : Nat) (gg : Nat → Int32) (bx : Nat) (ex : Nat) (h0 : Heap) (v : Option Value) (h : Heap) : Prop := h0.size ≤ h.size ∧ ∃ (b : Addr) (kc : ClassId), v = some (.ref b) ∧ h0.size ≤ b ∧ Keep h0 h [] ∧ Arv Z h b kc .byte (Int32.ofNat (ex - bx)) (arl (ex - bx) fun i => gg (bx + i)) (.int 0)
set_option maxRecDepth 65536 in
set_option maxHeartbeats 40000000 in
theorem c_corb (l : Launch) (Z : State) (a0 : Array Value) (hw : ∀ d ∈ tables_1, d.before a0 Z = true) (t1 : Addr) (kb : ClassId) (nn : Nat) (gg : Nat → Int32) (bx : Nat) (ex : Nat) (h0 : Heap) (A1 : Arv Z h0 t1 kb .byte (Int32.ofNat nn) (arl nn gg) (.int 0)) (hn : nn ≤ 9) (h1 : bx < ex) (h2 : ex ≤ nn) :
    Con l Z (⟨"java/util/Arrays", "copyOfRangeByte", "([BII)[B"⟩ : MethodName) jdk_65_method_133_code 5 (Option.some (FieldType.array FieldType.byte)) [] ({ frames := 1, cells := 1, slots := 9, locals := 30 } : Room) #[(.ref t1), (.int (Int32.ofNat bx)), (.int (Int32.ofNat ex))] h0 (Q_corb Z t1 kb nn gg bx ex h0) := by
  refine Con.of (plainFor_of_name pn_java_util_Arrays) ?_
  intro p e s m below meth c T0 B W0
  refine Go.cast (ef_corb m t1 kb nn gg bx ex ) ?_
  have l_t1 := nlt A1.lt
  refine g_iload_n B W0 (d_jdk_65_method_133_0) rfl ?_
  refine g_iload_n B W0 (d_jdk_65_method_133_1) rfl ?_
  obtain ⟨T101, h101, v101, W101, Q101, st101⟩ := x_static B W0 [(.int (Int32.ofNat bx)), (.int (Int32.ofNat ex))] (c_chl l Z a0 hw bx ex h0 (by omega) (by omega)) (d_jdk_65_method_133_2) (tw hw 114 rfl) (tw hw 115 rfl) (tw hw 109 rfl) (tw hw 116 rfl) (by decide) (lenOf pd__II_V rfl) #[.val (.ref t1), .val (.int (Int32.ofNat bx)), .val (.int (Int32.ofNat ex)), .unset, .unset] [] rfl 0 rfl (by decide) (by decide) (by decide) (by decide)
  obtain ⟨rfl, rfl⟩ := Q101
  refine st101 _ ?_
  refine g_iload_n B W101 (d_jdk_65_method_133_5) rfl ?_
  refine g_iload_n B W101 (d_jdk_65_method_133_6) rfl ?_
  refine g_isub B W101 (d_jdk_65_method_133_7)  ?_
  show Go p.tables e below _ T101 (mkF m 8 #[.val (.ref t1), .val (.int (Int32.ofNat bx)), .val (.int (Int32.ofNat ex)), .unset, .unset] [(.int (Int32.ofNat ex - Int32.ofNat bx))])
  rw [own_sub (i := ex) (j := bx) (by omega)]
  show Go p.tables e below _ T101 (mkF m 8 #[.val (.ref t1), .val (.int (Int32.ofNat bx)), .val (.int (Int32.ofNat ex)), .unset, .unset] [(.int (Int32.ofNat (ex - bx)))])
  refine g_istore_n B W101 (d_jdk_65_method_133_8)  (l' := #[.val (.ref t1), .val (.int (Int32.ofNat bx)), .val (.int (Int32.ofNat ex)), .val (.int (Int32.ofNat (ex - bx))), .unset]) rfl ?_
  refine g_iload_n B W101 (d_jdk_65_method_133_9) rfl ?_
  obtain ⟨T102, h102, b102, cA102, gb102, W102, K102, A102, st102⟩ := x_newA B W101 (z := (Int32.ofNat (ex - bx))) 9 (d_jdk_65_method_133_10) (tw hw 31 rfl) (own_nneg (by omega)) (by rw [own_clamp (by omega)]; omega) (by decide) (by decide) (by decide) #[.val (.ref t1), .val (.int (Int32.ofNat bx)), .val (.int (Int32.ofNat ex)), .val (.int (Int32.ofNat (ex - bx))), .unset] []
  have l102 := nlt A102.lt
  have z102 := W101.size
  refine st102 _ ?_
  have s103 := K102.1
  show Go p.tables e below _ T102 (mkF m 12 #[.val (.ref t1), .val (.int (Int32.ofNat bx)), .val (.int (Int32.ofNat ex)), .val (.int (Int32.ofNat (ex - bx))), .unset] [(.ref b102)])
  refine g_astore B W102 (d_jdk_65_method_133_12) rfl (l' := #[.val (.ref t1), .val (.int (Int32.ofNat bx)), .val (.int (Int32.ofNat ex)), .val (.int (Int32.ofNat (ex - bx))), .val (.ref b102)]) rfl ?_
  refine g_aload_n B W102 (d_jdk_65_method_133_14) rfl rfl ?_
  refine g_iload_n B W102 (d_jdk_65_method_133_15) rfl ?_
  refine g_aload B W102 (d_jdk_65_method_133_16) rfl rfl ?_
  refine g_iconst B W102 (d_jdk_65_method_133_18) (v := 0) (by decide) ?_
  refine g_aload_n B W102 (d_jdk_65_method_133_19) rfl rfl ?_
  have f104 := (A1.keep K102 nin0)
  refine g_aalen B W102 (d_jdk_65_method_133_20) f104 ?_
  refine g_iload_n B W102 (d_jdk_65_method_133_21) rfl ?_
  refine g_isub B W102 (d_jdk_65_method_133_22)  ?_
  show Go p.tables e below _ T102 (mkF m 23 #[.val (.ref t1), .val (.int (Int32.ofNat bx)), .val (.int (Int32.ofNat ex)), .val (.int (Int32.ofNat (ex - bx))), .val (.ref b102)] [(.int (Int32.ofNat nn - Int32.ofNat bx)), (.int 0), (.ref b102), (.int (Int32.ofNat bx)), (.ref t1)])
  rw [own_sub (i := nn) (j := bx) (by omega)]
  show Go p.tables e below _ T102 (mkF m 23 #[.val (.ref t1), .val (.int (Int32.ofNat bx)), .val (.int (Int32.ofNat ex)), .val (.int (Int32.ofNat (ex - bx))), .val (.ref b102)] [(.int (Int32.ofNat (nn - bx))), (.int 0), (.ref b102), (.int (Int32.ofNat bx)), (.ref t1)])
  refine g_iload_n B W102 (d_jdk_65_method_133_23) rfl ?_
  obtain ⟨T105, h105, v105, W105, Q105, st105⟩ := x_static B W102 [(.int (Int32.ofNat (nn - bx))), (.int (Int32.ofNat (ex - bx)))] (c_min l Z a0 hw ((nn - bx)) ((ex - bx)) (ex - bx) h102 (by omega) (by omega) (by omega)) (d_jdk_65_method_133_24) (tw hw 117 rfl) (tw hw 87 rfl) (tw hw 88 rfl) (tw hw 89 rfl) (by decide) (lenOf pd__II_I rfl) #[.val (.ref t1), .val (.int (Int32.ofNat bx)), .val (.int (Int32.ofNat ex)), .val (.int (Int32.ofNat (ex - bx))), .val (.ref b102)] [(.int 0), (.ref b102), (.int (Int32.ofNat bx)), (.ref t1)] rfl 4 rfl (by decide) (by decide) (by decide) (by decide)
  obtain ⟨rfl, rfl⟩ := Q105
  refine st105 _ ?_
  obtain ⟨T106, h106, W106, K106, A106, st106⟩ := x_acopy B W105 (sp := (Int32.ofNat bx)) (dp := 0) (nn := (Int32.ofNat (ex - bx))) (us := (List.range (ex - bx)).map fun i => (arl nn gg).getD (bx + i) (.int 0)) (d_jdk_65_method_133_27) (tw hw 118 rfl) (tw hw 121 rfl) (tw hw 119 rfl) (tw hw 120 rfl) f104 A102 (Or.inl ⟨rfl, rfl⟩) (own_nneg (by omega)) (by decide) (own_nneg (by omega)) (by rw [own_clamp (by omega), own_clamp (by omega), own_clamp (by omega)]; omega) (by rw [show (0 : Int32).toNatClampNeg = 0 from rfl, own_clamp (by omega)]; omega) (by rw [own_clamp (by omega), own_clamp (by omega)]) (by rw [show (0 : Int32).toNatClampNeg = 0 from rfl, own_clamp (by omega)]; show 0 + (ex - bx) ≤ (List.replicate 9 (Value.int 0)).length; rw [List.length_replicate]; omega) (by omega) #[.val (.ref t1), .val (.int (Int32.ofNat bx)), .val (.int (Int32.ofNat ex)), .val (.int (Int32.ofNat (ex - bx))), .val (.ref b102)] [] rfl 0 rfl (by decide) (by decide)
  refine st106 _ ?_
  have s107 := K106.1
  have B106 := own_copied (by omega) (by omega) (by omega) A106
  show Go p.tables e below _ T106 (mkF m 30 #[.val (.ref t1), .val (.int (Int32.ofNat bx)), .val (.int (Int32.ofNat ex)), .val (.int (Int32.ofNat (ex - bx))), .val (.ref b102)] [])
  refine g_aload B W106 (d_jdk_65_method_133_30) rfl rfl ?_
  exact r_a B W106 rfl rfl rfl (d_jdk_65_method_133_32) (by decide) (by decide) ⟨by omega, _, _, rfl, by omega, (((Keep.refl h0 []).trans K102 all0).trans K106 (allS (Or.inr (by omega)) all0)), B106⟩
theorem ef_cor (m : MethodId) (t1 : Addr) (kb : ClassId) (nn : Nat) (gg : Nat → Int32) (bx : Nat) (ex : Nat) : entryFrame m #[(.ref t1), (.int (Int32.ofNat bx)), (.int (Int32.ofNat ex))] 3 = mkF m 0 #[.val (.ref t1), .val (.int (Int32.ofNat bx)), .val (.int (Int32.ofNat ex))] [] := by first | (simp [entryFrame, mkF, argsToLocals, Value.category]; done) | rfl
def Q_cor (Z : State) (t1 : Addr) (kb : ClassId) (nn : Nat) (gg : Nat → Int32) (bx : Nat) (ex : Nat) (h0 : Heap) (v : Option Value) (h : Heap) : Prop := h0.size ≤ h.size ∧ ∃ (b : Addr) (kc : ClassId), v = some (.ref b) ∧ h0.size ≤ b ∧ Keep h0 h [] ∧ Arv Z h b kc .byte (Int32.ofNat (ex - bx)) (arl (ex - bx) fun i => gg (bx + i)) (.int 0)
set_option maxRecDepth 65536 in
set_option maxHeartbeats 40000000 in
theorem c_cor (l : Launch) (Z : State) (a0 : Array Value) (hw : ∀ d ∈ tables_1, d.before a0 Z = true) (t1 : Addr) (kb : ClassId) (nn : Nat) (gg : Nat → Int32) (bx : Nat) (ex : Nat) (h0 : Heap) (A1 : Arv Z h0 t1 kb .byte (Int32.ofNat nn) (arl nn gg) (.int 0)) (hn : nn ≤ 9) (h1 : bx < ex) (h2 : ex ≤ nn) (h3 : ¬ (bx = 0 ∧ ex = nn)) :
    Con l Z (⟨"java/util/Arrays", "copyOfRange", "([BII)[B"⟩ : MethodName) jdk_65_method_132_code 3 (Option.some (FieldType.array FieldType.byte)) [] ({ frames := 2, cells := 1, slots := 9, locals := 46 } : Room) #[(.ref t1), (.int (Int32.ofNat bx)), (.int (Int32.ofNat ex))] h0 (Q_cor Z t1 kb nn gg bx ex h0) := by
  refine Con.of (plainFor_of_name pn_java_util_Arrays) ?_
  intro p e s m below meth c T0 B W0
  refine Go.cast (ef_cor m t1 kb nn gg bx ex ) ?_
  refine g_iload_n B W0 (d_jdk_65_method_132_0) rfl ?_
  by_cases hc101 : (Int32.ofNat bx) = 0
  · skip
    refine g_if_n B W0 (d_jdk_65_method_132_1) (XT.i0_ne_f hc101) ?_
    show Go p.tables e below _ T0 (mkF m 4 #[.val (.ref t1), .val (.int (Int32.ofNat bx)), .val (.int (Int32.ofNat ex))] [])
    refine g_iload_n B W0 (d_jdk_65_method_132_4) rfl ?_
    refine g_aload_n B W0 (d_jdk_65_method_132_5) rfl rfl ?_
    refine g_aalen B W0 (d_jdk_65_method_132_6) A1 ?_
    refine g_icmp_n B W0 (d_jdk_65_method_132_7) (XT.ii_eq_f (fun q => h3 ⟨(own_inj (j := 0) (by omega) (by omega)).mp hc101, (own_inj (by omega) (by omega)).mp q⟩)) ?_
    show Go p.tables e below _ T0 (mkF m 10 #[.val (.ref t1), .val (.int (Int32.ofNat bx)), .val (.int (Int32.ofNat ex))] [])
    refine g_aload_n B W0 (d_jdk_65_method_132_10) rfl rfl ?_
    refine g_iload_n B W0 (d_jdk_65_method_132_11) rfl ?_
    refine g_iload_n B W0 (d_jdk_65_method_132_12) rfl ?_
    obtain ⟨T102, h102, v102, W102, Q102, st102⟩ := x_static B W0 [(.ref t1), (.int (Int32.ofNat bx)), (.int (Int32.ofNat ex))] (c_corb l Z a0 hw t1 kb nn gg bx ex h0 A1 hn h1 h2) (d_jdk_65_method_132_13) (tw hw 111 rfl) (tw hw 112 rfl) (tw hw 109 rfl) (tw hw 113 rfl) (by decide) (lenOf pd___BII__B rfl) #[.val (.ref t1), .val (.int (Int32.ofNat bx)), .val (.int (Int32.ofNat ex))] [] rfl 0 rfl (by decide) (by decide) (by decide) (by decide)
    obtain ⟨sz102, b102, kc102, rfl, g102, K102, A102⟩ := Q102
    have s103 := K102.1
    refine st102 _ ?_
    have l102 := nlt A102.lt
    exact r_a B W102 rfl rfl rfl (d_jdk_65_method_132_16) (by decide) (by decide) ⟨sz102, _, _, rfl, g102, ((Keep.refl h0 []).trans K102 all0), A102⟩
  · skip
    refine g_if_y B W0 (d_jdk_65_method_132_1) (XT.i0_ne_t hc101) (pc' := 10) (by decide) ?_
    show Go p.tables e below _ T0 (mkF m 10 #[.val (.ref t1), .val (.int (Int32.ofNat bx)), .val (.int (Int32.ofNat ex))] [])
    refine g_aload_n B W0 (d_jdk_65_method_132_10) rfl rfl ?_
    refine g_iload_n B W0 (d_jdk_65_method_132_11) rfl ?_
    refine g_iload_n B W0 (d_jdk_65_method_132_12) rfl ?_
    obtain ⟨T104, h104, v104, W104, Q104, st104⟩ := x_static B W0 [(.ref t1), (.int (Int32.ofNat bx)), (.int (Int32.ofNat ex))] (c_corb l Z a0 hw t1 kb nn gg bx ex h0 A1 hn h1 h2) (d_jdk_65_method_132_13) (tw hw 111 rfl) (tw hw 112 rfl) (tw hw 109 rfl) (tw hw 113 rfl) (by decide) (lenOf pd___BII__B rfl) #[.val (.ref t1), .val (.int (Int32.ofNat bx)), .val (.int (Int32.ofNat ex))] [] rfl 0 rfl (by decide) (by decide) (by decide) (by decide)
    obtain ⟨sz104, b104, kc104, rfl, g104, K104, A104⟩ := Q104
    have s105 := K104.1
    refine st104 _ ?_
    have l104 := nlt A104.lt
    exact r_a B W104 rfl rfl rfl (d_jdk_65_method_132_16) (by decide) (by decide) ⟨sz104, _, _, rfl, g104, ((Keep.refl h0 []).trans K104 all0), A104⟩
theorem ef_siB (m : MethodId) (a1 : Addr) (ar : Addr) : entryFrame m #[(.ref a1), (.ref ar), (.int 0)] 3 = mkF m 0 #[.val (.ref a1), .val (.ref ar), .val (.int 0)] [] := by first | (simp [entryFrame, mkF, argsToLocals, Value.category]; done) | rfl
def Q_siB (Z : State) (a1 : Addr) (ar : Addr) (h0 : Heap) (v : Option Value) (h : Heap) : Prop := v = none ∧ Keep h0 h [a1] ∧ Exa Z h a1 "java/lang/String" ∧ Fld Z h a1 "java/lang/String" "value" "[B" (.ref ar) ∧ Fld Z h a1 "java/lang/String" "coder" "B" (.int 0)
set_option maxRecDepth 65536 in
set_option maxHeartbeats 40000000 in
theorem c_siB (l : Launch) (Z : State) (a0 : Array Value) (hw : ∀ d ∈ tables_1, d.before a0 Z = true) (a1 : Addr) (ar : Addr) (h0 : Heap) (E1 : Exa Z h0 a1 "java/lang/String") (F1 : Fld Z h0 a1 "java/lang/String" "value" "[B" .null) (F2 : Fld Z h0 a1 "java/lang/String" "coder" "B" (.int 0)) (g1 : Z.heap.size ≤ a1) :
    Con l Z (⟨"java/lang/String", "<init>", "([BB)V"⟩ : MethodName) jdk_42_method_151_code 3 (Option.none : Option FieldType) [] ({ frames := 1, cells := 0, slots := 0, locals := 12 } : Room) #[(.ref a1), (.ref ar), (.int 0)] h0 (Q_siB Z a1 ar h0) := by
  refine Con.of (plainFor_of_name pn_java_lang_String) ?_
  intro p e s m below meth c T0 B W0
  refine Go.cast (ef_siB m a1 ar ) ?_
  have l_a1 := nlt E1.lt
  refine g_aload_n B W0 (d_jdk_42_method_151_0) rfl rfl ?_
  obtain ⟨T101, W101, st101⟩ := x_init B W0 (d_jdk_42_method_151_1) (tw hw 23 rfl) (tw hw 24 rfl) (tw hw 25 rfl) a1 #[.val (.ref a1), .val (.ref ar), .val (.int 0)] [] rfl 0 rfl (by decide) (by decide)
  refine st101 _ ?_
  refine g_aload_n B W101 (d_jdk_42_method_151_4) rfl rfl ?_
  refine g_aload_n B W101 (d_jdk_42_method_151_5) rfl rfl ?_
  obtain ⟨T102, h102, W102, K102, R102, F102, E102, st102⟩ := x_put B W101 (d_jdk_42_method_151_6) ((tw hw 40 rfl)) Via.refl F1 E1 (Or.inr ⟨ (tw hw 41 rfl), rfl, rfl⟩) (tw hw 14 rfl) (ty := (.array .byte)) (v := (.ref ar)) (v' := (.ref ar)) (by decide) rfl rfl (by omega) #[.val (.ref a1), .val (.ref ar), .val (.int 0)] []
  refine st102 _ ?_
  have f103 := F2.other R102 (Or.inr (slot_ne (Or.inr (tw hw 39 rfl)) (Or.inr (tw hw 41 rfl)) (by decide) (t := .byte) (t' := (.array .byte)) (by decide) (by decide)))
  have s104 := K102.1
  refine g_aload_n B W102 (d_jdk_42_method_151_9) rfl rfl ?_
  refine g_iload_n B W102 (d_jdk_42_method_151_10) rfl ?_
  obtain ⟨T105, h105, W105, K105, R105, F105, E105, st105⟩ := x_put B W102 (d_jdk_42_method_151_11) ((tw hw 38 rfl)) Via.refl f103 E102 (Or.inr ⟨ (tw hw 39 rfl), rfl, rfl⟩) (tw hw 14 rfl) (ty := .byte) (v := (.int 0)) (v' := (.int 0)) (by decide) rfl rfl (by omega) #[.val (.ref a1), .val (.ref ar), .val (.int 0)] []
  refine st105 _ ?_
  have f106 := F102.other R105 (Or.inr (slot_ne (Or.inr (tw hw 41 rfl)) (Or.inr (tw hw 39 rfl)) (by decide) (t := (.array .byte)) (t' := .byte) (by decide) (by decide)))
  have s107 := K105.1
  exact r_v B W105 (d_jdk_42_method_151_14) (by decide) (by decide) ⟨rfl, (((Keep.refl h0 [a1]).trans K102 (allS (Or.inl (by simp)) all0)).trans K105 (allS (Or.inl (by simp)) all0)), E105, f106, F105⟩
theorem ef_nstr (m : MethodId) (t1 : Addr) (kb : ClassId) (nn : Nat) (ff : Nat → Int32) (bx : Nat) (ex : Nat) : entryFrame m #[(.ref t1), (.int (Int32.ofNat bx)), (.int (Int32.ofNat (ex - bx)))] 3 = mkF m 0 #[.val (.ref t1), .val (.int (Int32.ofNat bx)), .val (.int (Int32.ofNat (ex - bx)))] [] := by first | (simp [entryFrame, mkF, argsToLocals, Value.category]; done) | rfl
def Q_nstr (Z : State) (t1 : Addr) (kb : ClassId) (nn : Nat) (ff : Nat → Int32) (bx : Nat) (ex : Nat) (h0 : Heap) (v : Option Value) (h : Heap) : Prop := ∃ b : Addr, v = some (.ref b) ∧ Keep h0 h [] ∧ StrIs Z h b (lst (ex - bx) fun i => ff (bx + i))
set_option maxRecDepth 65536 in
set_option maxHeartbeats 40000000 in
theorem c_nstr (l : Launch) (Z : State) (a0 : Array Value) (hw : ∀ d ∈ tables_1, d.before a0 Z = true) (t1 : Addr) (kb : ClassId) (nn : Nat) (ff : Nat → Int32) (bx : Nat) (ex : Nat) (h0 : Heap) (A1 : Arv Z h0 t1 kb .byte (Int32.ofNat nn) (arl nn fun i => (ff i).toInt8.toInt32) (.int 0)) (hn : nn ≤ 9) (h1 : bx < ex) (h2 : ex ≤ nn) (h3 : ¬ (bx = 0 ∧ ex = nn)) (rg : ∀ i, i < nn → ¬ ff i < 0 ∧ ¬ 255 < ff i) :
    Con l Z (⟨"java/lang/StringLatin1", "newString", "([BII)Ljava/lang/String;"⟩ : MethodName) jdk_43_method_47_code 3 (Option.some (FieldType.object "java/lang/String")) [] ({ frames := 3, cells := 2, slots := 13, locals := 63 } : Room) #[(.ref t1), (.int (Int32.ofNat bx)), (.int (Int32.ofNat (ex - bx)))] h0 (Q_nstr Z t1 kb nn ff bx ex h0) := by
  refine Con.of (plainFor_of_name pn_java_lang_StringLatin1) ?_
  intro p e s m below meth c T0 B W0
  refine Go.cast (ef_nstr m t1 kb nn ff bx ex ) ?_
  have l_t1 := nlt A1.lt
  refine g_iload_n B W0 (d_jdk_43_method_47_0) rfl ?_
  refine g_if_y B W0 (d_jdk_43_method_47_1) (XT.i0_ne_t (fun q => absurd ((own_inj (j := 0) (by omega) (by omega)).mp q) (by omega))) (pc' := 7) (by decide) ?_
  show Go p.tables e below _ T0 (mkF m 7 #[.val (.ref t1), .val (.int (Int32.ofNat bx)), .val (.int (Int32.ofNat (ex - bx)))] [])
  obtain ⟨T101, h101, b101, gb101, W101, K101, E101, D101, st101⟩ := x_new B W0 (d_jdk_43_method_47_7) (tw hw 106 rfl) (tw hw 14 rfl) (tw hw 15 rfl) (by decide) (by decide) #[.val (.ref t1), .val (.int (Int32.ofNat bx)), .val (.int (Int32.ofNat (ex - bx)))] []
  have l101 := nlt E101.lt
  have z101 := W0.size
  refine st101 _ ?_
  have s102 := K101.1
  have f103 : Fld Z h101 b101 "java/lang/String" "coder" "B" (.int 0) := D101 (Or.inr (tw hw 39 rfl)) (ty := .byte) (by decide)
  have f104 : Fld Z h101 b101 "java/lang/String" "value" "[B" .null := D101 (Or.inr (tw hw 41 rfl)) (ty := (.array .byte)) (by decide)
  refine g_dup B W101 (d_jdk_43_method_47_10) rfl ?_
  refine g_aload_n B W101 (d_jdk_43_method_47_11) rfl rfl ?_
  refine g_iload_n B W101 (d_jdk_43_method_47_12) rfl ?_
  refine g_iload_n B W101 (d_jdk_43_method_47_13) rfl ?_
  refine g_iload_n B W101 (d_jdk_43_method_47_14) rfl ?_
  refine g_iadd B W101 (d_jdk_43_method_47_15)  ?_
  rw [own_add, show bx + (ex - bx) = ex by omega]
  show Go p.tables e below _ T101 (mkF m 16 #[.val (.ref t1), .val (.int (Int32.ofNat bx)), .val (.int (Int32.ofNat (ex - bx)))] [(.int (Int32.ofNat ex)), (.int (Int32.ofNat bx)), (.ref t1), (.ref b101), (.ref b101)])
  have f105 := (A1.keep K101 nin0)
  obtain ⟨T106, h106, v106, W106, Q106, st106⟩ := x_static B W101 [(.ref t1), (.int (Int32.ofNat bx)), (.int (Int32.ofNat ex))] (c_cor l Z a0 hw t1 kb nn (fun i => (ff i).toInt8.toInt32) bx ex h101 f105 hn h1 h2 h3) (d_jdk_43_method_47_16) (tw hw 107 rfl) (tw hw 108 rfl) (tw hw 109 rfl) (tw hw 110 rfl) (by decide) (lenOf pd___BII__B rfl) #[.val (.ref t1), .val (.int (Int32.ofNat bx)), .val (.int (Int32.ofNat (ex - bx)))] [(.ref b101), (.ref b101)] rfl 2 rfl (by decide) (by decide) (by decide) (by decide)
  obtain ⟨sz106, b106, kc106, rfl, g106, K106, A106⟩ := Q106
  have s107 := K106.1
  refine st106 _ ?_
  have l106 := nlt A106.lt
  refine g_iconst B W106 (d_jdk_43_method_47_19) (v := 0) (by decide) ?_
  have f108 := (E101.keep K106)
  have f109 := (f104.keep K106 nin0)
  have f110 := (f103.keep K106 nin0)
  obtain ⟨T111, h111, v111, W111, Q111, st111⟩ := x_special B W106 (b := b101) [(.ref b106), (.int 0)] (c_siB l Z a0 hw b101 b106 h106 f108 f109 f110 (by omega)) (d_jdk_43_method_47_20) rfl (tw hw 122 rfl) (tw hw 123 rfl) (tw hw 15 rfl) (tw hw 124 rfl) (by decide) (lenOf pd___BB_V rfl) #[.val (.ref t1), .val (.int (Int32.ofNat bx)), .val (.int (Int32.ofNat (ex - bx)))] [(.ref b101)] rfl 1 rfl (by decide) (by decide) (by decide) (by decide)
  obtain ⟨rfl, K111, E111, Fv111, Fc111⟩ := Q111
  have s112 := K111.1
  refine st111 _ ?_
  have f113 := (A106.keep K111 (ninS (nne (by have q := nlt A106.lt; omega)) nin0))
  exact r_a B W111 rfl rfl rfl (d_jdk_43_method_47_23) (by decide) (by decide) ⟨_, rfl, ((((Keep.refl h0 []).trans K101 all0).trans K106 all0).trans K111 (allS (Or.inr (by omega)) all0)), StrIs.cl E111 Fc111 Fv111 f113 (fun i hi => rg (bx + i) (by omega)) (by omega)⟩
theorem ef_sub2 (m : MethodId) (a1 : Addr) (nn : Nat) (ff : Nat → Int32) (bx : Nat) (ex : Nat) (cz : Int32) (sf : Value) : entryFrame m #[(.ref a1), (.int (Int32.ofNat bx)), (.int (Int32.ofNat ex))] 5 = mkF m 0 #[.val (.ref a1), .val (.int (Int32.ofNat bx)), .val (.int (Int32.ofNat ex)), .unset, .unset] [] := by first | (simp [entryFrame, mkF, argsToLocals, Value.category]; done) | rfl
def Q_sub2 (Z : State) (a1 : Addr) (nn : Nat) (ff : Nat → Int32) (bx : Nat) (ex : Nat) (cz : Int32) (sf : Value) (h0 : Heap) (v : Option Value) (h : Heap) : Prop := ∃ b : Addr, v = some (.ref b) ∧ Keep h0 h [] ∧ StrIs Z h b (lst (ex - bx) fun i => ff (bx + i))
set_option maxRecDepth 65536 in
set_option maxHeartbeats 40000000 in
theorem c_sub2 (l : Launch) (Z : State) (a0 : Array Value) (hw : ∀ d ∈ tables_1, d.before a0 Z = true) (a1 : Addr) (nn : Nat) (ff : Nat → Int32) (bx : Nat) (ex : Nat) (cz : Int32) (sf : Value) (h0 : Heap) (Scs : Sta Z Z.heap "java/lang/String" "COMPACT_STRINGS" "Z" (.int cz)) (hcz : ¬ cz = 0) (Ssf : Sta Z Z.heap "jdk/internal/util/Preconditions" "SIOOBE_FORMATTER" "Ljava/util/function/BiFunction;" sf) (rsf : sf.isRef = true) (S1 : StrIs Z h0 a1 (lst nn ff)) (hn : nn ≤ 9) (h1 : bx < ex) (h2 : ex ≤ nn) (h3 : ¬ (bx = 0 ∧ ex = nn)) :
    Con l Z (⟨"java/lang/String", "substring", "(II)Ljava/lang/String;"⟩ : MethodName) jdk_42_method_92_code 5 (Option.some (FieldType.object "java/lang/String")) [] ({ frames := 4, cells := 2, slots := 13, locals := 77 } : Room) #[(.ref a1), (.int (Int32.ofNat bx)), (.int (Int32.ofNat ex))] h0 (Q_sub2 Z a1 nn ff bx ex cz sf h0) := by
  refine Con.of (plainFor_of_name pn_java_lang_String) ?_
  intro p e s m below meth c T0 B W0
  refine Go.cast (ef_sub2 m a1 nn ff bx ex cz sf ) ?_
  obtain ⟨t1, kb1, E_a1, Fc_a1, Fv_a1, A_t1, R_a1, L_a1⟩ := S1.op
  refine g_aload_n B W0 (d_jdk_42_method_92_0) rfl rfl ?_
  obtain ⟨T101, h101, v101, W101, Q101, st101⟩ := x_virtual B W0 (b := a1) [] (c_len l Z a0 hw a1 nn ff cz h0 Scs hcz S1) E_a1 (d_jdk_42_method_92_1) (tw hw 59 rfl) (tw hw 60 rfl) (tw hw 62 rfl) (tw hw 61 rfl) (tw hw 15 rfl) (tw hw 63 rfl) (by decide) (lenOf pd___I rfl) #[.val (.ref a1), .val (.int (Int32.ofNat bx)), .val (.int (Int32.ofNat ex)), .unset, .unset] [] rfl 0 rfl (by decide) (by decide) (by decide) (by decide)
  obtain ⟨rfl, rfl⟩ := Q101
  refine st101 _ ?_
  refine g_istore_n B W101 (d_jdk_42_method_92_4)  (l' := #[.val (.ref a1), .val (.int (Int32.ofNat bx)), .val (.int (Int32.ofNat ex)), .val (.int (Int32.ofNat nn)), .unset]) rfl ?_
  refine g_iload_n B W101 (d_jdk_42_method_92_5) rfl ?_
  refine g_iload_n B W101 (d_jdk_42_method_92_6) rfl ?_
  refine g_iload_n B W101 (d_jdk_42_method_92_7) rfl ?_
  obtain ⟨T102, h102, v102, W102, Q102, st102⟩ := x_static B W101 [(.int (Int32.ofNat bx)), (.int (Int32.ofNat ex)), (.int (Int32.ofNat nn))] (c_cbb l Z a0 hw bx ex nn sf h0 Ssf rsf (by omega) (by omega) (by omega)) (d_jdk_42_method_92_8) (tw hw 95 rfl) (tw hw 96 rfl) (tw hw 15 rfl) (tw hw 97 rfl) (by decide) (lenOf pd__III_V rfl) #[.val (.ref a1), .val (.int (Int32.ofNat bx)), .val (.int (Int32.ofNat ex)), .val (.int (Int32.ofNat nn)), .unset] [] rfl 0 rfl (by decide) (by decide) (by decide) (by decide)
  obtain ⟨rfl, rfl⟩ := Q102
  refine st102 _ ?_
  refine g_iload_n B W102 (d_jdk_42_method_92_11) rfl ?_
  by_cases hc103 : (Int32.ofNat bx) = 0
  · skip
    refine g_if_n B W102 (d_jdk_42_method_92_12) (XT.i0_ne_f hc103) ?_
    show Go p.tables e below _ T102 (mkF m 15 #[.val (.ref a1), .val (.int (Int32.ofNat bx)), .val (.int (Int32.ofNat ex)), .val (.int (Int32.ofNat nn)), .unset] [])
    refine g_iload_n B W102 (d_jdk_42_method_92_15) rfl ?_
    refine g_iload_n B W102 (d_jdk_42_method_92_16) rfl ?_
    refine g_icmp_y B W102 (d_jdk_42_method_92_17) (XT.ii_ne_t (fun q => h3 ⟨(own_inj (j := 0) (by omega) (by omega)).mp hc103, (own_inj (by omega) (by omega)).mp q⟩)) (pc' := 22) (by decide) ?_
    show Go p.tables e below _ T102 (mkF m 22 #[.val (.ref a1), .val (.int (Int32.ofNat bx)), .val (.int (Int32.ofNat ex)), .val (.int (Int32.ofNat nn)), .unset] [])
    refine g_iload_n B W102 (d_jdk_42_method_92_22) rfl ?_
    refine g_iload_n B W102 (d_jdk_42_method_92_23) rfl ?_
    refine g_isub B W102 (d_jdk_42_method_92_24)  ?_
    show Go p.tables e below _ T102 (mkF m 25 #[.val (.ref a1), .val (.int (Int32.ofNat bx)), .val (.int (Int32.ofNat ex)), .val (.int (Int32.ofNat nn)), .unset] [(.int (Int32.ofNat ex - Int32.ofNat bx))])
    rw [own_sub (i := ex) (j := bx) (by omega)]
    show Go p.tables e below _ T102 (mkF m 25 #[.val (.ref a1), .val (.int (Int32.ofNat bx)), .val (.int (Int32.ofNat ex)), .val (.int (Int32.ofNat nn)), .unset] [(.int (Int32.ofNat (ex - bx)))])
    refine g_istore B W102 (d_jdk_42_method_92_25)  (l' := #[.val (.ref a1), .val (.int (Int32.ofNat bx)), .val (.int (Int32.ofNat ex)), .val (.int (Int32.ofNat nn)), .val (.int (Int32.ofNat (ex - bx)))]) rfl ?_
    refine g_aload_n B W102 (d_jdk_42_method_92_27) rfl rfl ?_
    obtain ⟨T104, h104, v104, W104, Q104, st104⟩ := x_virtual B W102 (b := a1) [] (c_isLat l Z a0 hw a1 cz h0 Scs hcz Fc_a1) E_a1 (d_jdk_42_method_92_28) (tw hw 74 rfl) (tw hw 75 rfl) (tw hw 77 rfl) (tw hw 76 rfl) (tw hw 15 rfl) (tw hw 78 rfl) (by decide) (lenOf pd___Z rfl) #[.val (.ref a1), .val (.int (Int32.ofNat bx)), .val (.int (Int32.ofNat ex)), .val (.int (Int32.ofNat nn)), .val (.int (Int32.ofNat (ex - bx)))] [] rfl 0 rfl (by decide) (by decide) (by decide) (by decide)
    obtain ⟨rfl, rfl⟩ := Q104
    refine st104 _ ?_
    show Go p.tables e below _ T104 (mkF m 31 #[.val (.ref a1), .val (.int (Int32.ofNat bx)), .val (.int (Int32.ofNat ex)), .val (.int (Int32.ofNat nn)), .val (.int (Int32.ofNat (ex - bx)))] [(.int 1)])
    refine g_if_n B W104 (d_jdk_42_method_92_31) (XT.i0_eq_f (by decide)) ?_
    show Go p.tables e below _ T104 (mkF m 34 #[.val (.ref a1), .val (.int (Int32.ofNat bx)), .val (.int (Int32.ofNat ex)), .val (.int (Int32.ofNat nn)), .val (.int (Int32.ofNat (ex - bx)))] [])
    refine g_aload_n B W104 (d_jdk_42_method_92_34) rfl rfl ?_
    obtain ⟨T105, W105, st105⟩ := x_get B W104 (host := "") (d_jdk_42_method_92_35) (Or.inl (tw hw 40 rfl)) Via.refl Fv_a1 #[.val (.ref a1), .val (.int (Int32.ofNat bx)), .val (.int (Int32.ofNat ex)), .val (.int (Int32.ofNat nn)), .val (.int (Int32.ofNat (ex - bx)))] []
    refine st105 _ ?_
    refine g_iload_n B W105 (d_jdk_42_method_92_38) rfl ?_
    refine g_iload B W105 (d_jdk_42_method_92_39) rfl ?_
    obtain ⟨T106, h106, v106, W106, Q106, st106⟩ := x_static B W105 [(.ref t1), (.int (Int32.ofNat bx)), (.int (Int32.ofNat (ex - bx)))] (c_nstr l Z a0 hw t1 kb1 nn ff bx ex h0 A_t1 hn h1 h2 h3 R_a1) (d_jdk_42_method_92_41) (tw hw 103 rfl) (tw hw 104 rfl) (tw hw 81 rfl) (tw hw 105 rfl) (by decide) (lenOf pd___BII_Ljava_lang_String_ rfl) #[.val (.ref a1), .val (.int (Int32.ofNat bx)), .val (.int (Int32.ofNat ex)), .val (.int (Int32.ofNat nn)), .val (.int (Int32.ofNat (ex - bx)))] [] rfl 0 rfl (by decide) (by decide) (by decide) (by decide)
    obtain ⟨b106, rfl, K106, S106⟩ := Q106
    have s107 := K106.1
    refine st106 _ ?_
    have E106 := S106.exa
    have l106 := nlt E106.lt
    refine g_goto B W106 (d_jdk_42_method_92_44) (pc' := 57) (by decide) ?_
    show Go p.tables e below _ T106 (mkF m 57 #[.val (.ref a1), .val (.int (Int32.ofNat bx)), .val (.int (Int32.ofNat ex)), .val (.int (Int32.ofNat nn)), .val (.int (Int32.ofNat (ex - bx)))] [(.ref b106)])
    exact r_a B W106 rfl rfl rfl (d_jdk_42_method_92_57) (by decide) (by decide) ⟨_, rfl, ((Keep.refl h0 []).trans K106 all0), S106⟩
  · skip
    refine g_if_y B W102 (d_jdk_42_method_92_12) (XT.i0_ne_t hc103) (pc' := 22) (by decide) ?_
    show Go p.tables e below _ T102 (mkF m 22 #[.val (.ref a1), .val (.int (Int32.ofNat bx)), .val (.int (Int32.ofNat ex)), .val (.int (Int32.ofNat nn)), .unset] [])
    refine g_iload_n B W102 (d_jdk_42_method_92_22) rfl ?_
    refine g_iload_n B W102 (d_jdk_42_method_92_23) rfl ?_
    refine g_isub B W102 (d_jdk_42_method_92_24)  ?_
    show Go p.tables e below _ T102 (mkF m 25 #[.val (.ref a1), .val (.int (Int32.ofNat bx)), .val (.int (Int32.ofNat ex)), .val (.int (Int32.ofNat nn)), .unset] [(.int (Int32.ofNat ex - Int32.ofNat bx))])
    rw [own_sub (i := ex) (j := bx) (by omega)]
    show Go p.tables e below _ T102 (mkF m 25 #[.val (.ref a1), .val (.int (Int32.ofNat bx)), .val (.int (Int32.ofNat ex)), .val (.int (Int32.ofNat nn)), .unset] [(.int (Int32.ofNat (ex - bx)))])
    refine g_istore B W102 (d_jdk_42_method_92_25)  (l' := #[.val (.ref a1), .val (.int (Int32.ofNat bx)), .val (.int (Int32.ofNat ex)), .val (.int (Int32.ofNat nn)), .val (.int (Int32.ofNat (ex - bx)))]) rfl ?_
    refine g_aload_n B W102 (d_jdk_42_method_92_27) rfl rfl ?_
    obtain ⟨T108, h108, v108, W108, Q108, st108⟩ := x_virtual B W102 (b := a1) [] (c_isLat l Z a0 hw a1 cz h0 Scs hcz Fc_a1) E_a1 (d_jdk_42_method_92_28) (tw hw 74 rfl) (tw hw 75 rfl) (tw hw 77 rfl) (tw hw 76 rfl) (tw hw 15 rfl) (tw hw 78 rfl) (by decide) (lenOf pd___Z rfl) #[.val (.ref a1), .val (.int (Int32.ofNat bx)), .val (.int (Int32.ofNat ex)), .val (.int (Int32.ofNat nn)), .val (.int (Int32.ofNat (ex - bx)))] [] rfl 0 rfl (by decide) (by decide) (by decide) (by decide)
    obtain ⟨rfl, rfl⟩ := Q108
    refine st108 _ ?_
    show Go p.tables e below _ T108 (mkF m 31 #[.val (.ref a1), .val (.int (Int32.ofNat bx)), .val (.int (Int32.ofNat ex)), .val (.int (Int32.ofNat nn)), .val (.int (Int32.ofNat (ex - bx)))] [(.int 1)])
    refine g_if_n B W108 (d_jdk_42_method_92_31) (XT.i0_eq_f (by decide)) ?_
    show Go p.tables e below _ T108 (mkF m 34 #[.val (.ref a1), .val (.int (Int32.ofNat bx)), .val (.int (Int32.ofNat ex)), .val (.int (Int32.ofNat nn)), .val (.int (Int32.ofNat (ex - bx)))] [])
    refine g_aload_n B W108 (d_jdk_42_method_92_34) rfl rfl ?_
    obtain ⟨T109, W109, st109⟩ := x_get B W108 (host := "") (d_jdk_42_method_92_35) (Or.inl (tw hw 40 rfl)) Via.refl Fv_a1 #[.val (.ref a1), .val (.int (Int32.ofNat bx)), .val (.int (Int32.ofNat ex)), .val (.int (Int32.ofNat nn)), .val (.int (Int32.ofNat (ex - bx)))] []
    refine st109 _ ?_
    refine g_iload_n B W109 (d_jdk_42_method_92_38) rfl ?_
    refine g_iload B W109 (d_jdk_42_method_92_39) rfl ?_
    obtain ⟨T110, h110, v110, W110, Q110, st110⟩ := x_static B W109 [(.ref t1), (.int (Int32.ofNat bx)), (.int (Int32.ofNat (ex - bx)))] (c_nstr l Z a0 hw t1 kb1 nn ff bx ex h0 A_t1 hn h1 h2 h3 R_a1) (d_jdk_42_method_92_41) (tw hw 103 rfl) (tw hw 104 rfl) (tw hw 81 rfl) (tw hw 105 rfl) (by decide) (lenOf pd___BII_Ljava_lang_String_ rfl) #[.val (.ref a1), .val (.int (Int32.ofNat bx)), .val (.int (Int32.ofNat ex)), .val (.int (Int32.ofNat nn)), .val (.int (Int32.ofNat (ex - bx)))] [] rfl 0 rfl (by decide) (by decide) (by decide) (by decide)
    obtain ⟨b110, rfl, K110, S110⟩ := Q110
    have s111 := K110.1
    refine st110 _ ?_
    have E110 := S110.exa
    have l110 := nlt E110.lt
    refine g_goto B W110 (d_jdk_42_method_92_44) (pc' := 57) (by decide) ?_
    show Go p.tables e below _ T110 (mkF m 57 #[.val (.ref a1), .val (.int (Int32.ofNat bx)), .val (.int (Int32.ofNat ex)), .val (.int (Int32.ofNat nn)), .val (.int (Int32.ofNat (ex - bx)))] [(.ref b110)])
    exact r_a B W110 rfl rfl rfl (d_jdk_42_method_92_57) (by decide) (by decide) ⟨_, rfl, ((Keep.refl h0 []).trans K110 all0), S110⟩
theorem ef_sub1 (m : MethodId) (a1 : Addr) (nn : Nat) (ff : Nat → Int32) (bx : Nat) (cz : Int32) (sf : Value) : entryFrame m #[(.ref a1), (.int (Int32.ofNat bx))] 2 = mkF m 0 #[.val (.ref a1), .val (.int (Int32.ofNat bx))] [] := by first | (simp [entryFrame, mkF, argsToLocals, Value.category]; done) | rfl
def Q_sub1 (Z : State) (a1 : Addr) (nn : Nat) (ff : Nat → Int32) (bx : Nat) (cz : Int32) (sf : Value) (h0 : Heap) (v : Option Value) (h : Heap) : Prop := ∃ b : Addr, v = some (.ref b) ∧ Keep h0 h [] ∧ StrIs Z h b (lst (nn - bx) fun i => ff (bx + i))
set_option maxRecDepth 65536 in
set_option maxHeartbeats 40000000 in
theorem c_sub1 (l : Launch) (Z : State) (a0 : Array Value) (hw : ∀ d ∈ tables_1, d.before a0 Z = true) (a1 : Addr) (nn : Nat) (ff : Nat → Int32) (bx : Nat) (cz : Int32) (sf : Value) (h0 : Heap) (Scs : Sta Z Z.heap "java/lang/String" "COMPACT_STRINGS" "Z" (.int cz)) (hcz : ¬ cz = 0) (Ssf : Sta Z Z.heap "jdk/internal/util/Preconditions" "SIOOBE_FORMATTER" "Ljava/util/function/BiFunction;" sf) (rsf : sf.isRef = true) (S1 : StrIs Z h0 a1 (lst nn ff)) (hn : nn ≤ 9) (h0b : 0 < bx) (h1 : bx < nn) :
    Con l Z (⟨"java/lang/String", "substring", "(I)Ljava/lang/String;"⟩ : MethodName) jdk_42_method_91_code 2 (Option.some (FieldType.object "java/lang/String")) [] ({ frames := 5, cells := 2, slots := 13, locals := 93 } : Room) #[(.ref a1), (.int (Int32.ofNat bx))] h0 (Q_sub1 Z a1 nn ff bx cz sf h0) := by
  refine Con.of (plainFor_of_name pn_java_lang_String) ?_
  intro p e s m below meth c T0 B W0
  refine Go.cast (ef_sub1 m a1 nn ff bx cz sf ) ?_
  have E_a1 := S1.exa
  refine g_aload_n B W0 (d_jdk_42_method_91_0) rfl rfl ?_
  refine g_iload_n B W0 (d_jdk_42_method_91_1) rfl ?_
  refine g_aload_n B W0 (d_jdk_42_method_91_2) rfl rfl ?_
  obtain ⟨T101, h101, v101, W101, Q101, st101⟩ := x_virtual B W0 (b := a1) [] (c_len l Z a0 hw a1 nn ff cz h0 Scs hcz S1) E_a1 (d_jdk_42_method_91_3) (tw hw 59 rfl) (tw hw 60 rfl) (tw hw 62 rfl) (tw hw 61 rfl) (tw hw 15 rfl) (tw hw 63 rfl) (by decide) (lenOf pd___I rfl) #[.val (.ref a1), .val (.int (Int32.ofNat bx))] [(.int (Int32.ofNat bx)), (.ref a1)] rfl 2 rfl (by decide) (by decide) (by decide) (by decide)
  obtain ⟨rfl, rfl⟩ := Q101
  refine st101 _ ?_
  obtain ⟨T102, h102, v102, W102, Q102, st102⟩ := x_virtual B W101 (b := a1) [(.int (Int32.ofNat bx)), (.int (Int32.ofNat nn))] (c_sub2 l Z a0 hw a1 nn ff bx nn cz sf h0 Scs hcz Ssf rsf S1 (by omega) (by omega) (by omega) (by omega)) E_a1 (d_jdk_42_method_91_6) (tw hw 149 rfl) (tw hw 91 rfl) (tw hw 93 rfl) (tw hw 92 rfl) (tw hw 15 rfl) (tw hw 94 rfl) (by decide) (lenOf pd__II_Ljava_lang_String_ rfl) #[.val (.ref a1), .val (.int (Int32.ofNat bx))] [] rfl 0 rfl (by decide) (by decide) (by decide) (by decide)
  obtain ⟨b102, rfl, K102, S102⟩ := Q102
  have s103 := K102.1
  refine st102 _ ?_
  have E102 := S102.exa
  have l102 := nlt E102.lt
  exact r_a B W102 rfl rfl rfl (d_jdk_42_method_91_9) (by decide) (by decide) ⟨_, rfl, ((Keep.refl h0 []).trans K102 all0), S102⟩
def Ex (x : Int32) : Prop := (97 ≤ x.toInt ∧ x.toInt ≤ 122) ∨ (48 ≤ x.toInt ∧ x.toInt ≤ 57)
def Sg (x : Int32) : Prop := Ex x ∨ x.toInt = 45
theorem Sg.n47 {x : Int32} (h : Sg x) : ¬ x = 47 := by
  unfold Sg Ex at h; rintro rfl; simp only [Int32.reduceToInt] at h; omega
theorem Sg.n46 {x : Int32} (h : Sg x) : ¬ x = 46 := by
  unfold Sg Ex at h; rintro rfl; simp only [Int32.reduceToInt] at h; omega
theorem Sg.rg {x : Int32} (h : Sg x) : ¬ x < 0 ∧ ¬ 255 < x := by
  unfold Sg Ex at h; simp only [Int32.lt_iff_toInt_lt, Int32.reduceToInt]; omega
theorem Sg.ok {x : Int32} {P : Prop} (h : Sg x) (p : P) : Ex x ∨ x.toInt = 45 ∧ P := h.imp id fun q => ⟨q, p⟩
theorem own_ok46 {x : Int32} {P : Prop} (h : Ex x ∨ x.toInt = 45 ∧ P) : ¬ x = 46 := Sg.n46 (h.imp id And.left)
theorem own_seg1 {k x : Int32} (h0 : 0 ≤ k.toInt) (h1 : k < 26) (e : (97 + k).toUInt32.toUInt16.toUInt32.toInt32 = x) : Ex x := by
  have d := c_i2c (97 + k); have a := c_iadd 97 k; have r := rng32 (97 + k)
  rw [e] at d; simp only [Int32.lt_iff_toInt_lt, Int32.reduceToInt] at *; unfold Ex; omega
theorem own_seg2 {k x : Int32} (h0 : ¬ k < 26) (h1 : k.toInt < 36) (e : (48 + (k - 26)).toUInt32.toUInt16.toUInt32.toInt32 = x) : Ex x := by
  have d := c_i2c (48 + (k - 26)); have a := c_iadd 48 (k - 26); have b := c_isub k 26; have r := rng32 (48 + (k - 26)); have r2 := rng32 (k - 26)
  rw [e] at d; simp only [Int32.lt_iff_toInt_lt, Int32.reduceToInt] at *; unfold Ex; omega
theorem own_rem (a d : Int32) (hd : 0 < d.toInt) : 0 ≤ ((a &&& 2147483647) % d).toInt ∧ ((a &&& 2147483647) % d).toInt < d.toInt := by
  have q := c_and a 2147483647 (by decide); have r := (c_irem (a &&& 2147483647) d d.toInt rfl).1 q.1
  rw [r]; exact ⟨Int.emod_nonneg _ (by omega), Int.emod_lt_of_pos _ hd⟩
theorem own_c2 (a : Int32) : 1 + (a &&& 1) = 1 ∨ 1 + (a &&& 1) = 2 := by
  have q := c_and a 1 (by decide); have s := c_iadd 1 (a &&& 1); have r := rng32 (1 + (a &&& 1))
  simp only [← Int32.toInt_inj, Int32.reduceToInt] at *; omega
theorem own_c3 (a : Int32) : 1 + (a &&& 3) % 3 = 1 ∨ 1 + (a &&& 3) % 3 = 2 ∨ 1 + (a &&& 3) % 3 = 3 := by
  have q := c_and a 3 (by decide); have t := (c_irem (a &&& 3) 3 3 rfl).1 q.1; have s := c_iadd 1 ((a &&& 3) % 3); have r := rng32 (1 + (a &&& 3) % 3)
  simp only [← Int32.toInt_inj, Int32.reduceToInt] at *; omega
theorem ef_seg (m : MethodId) (q0 : Int32) : entryFrame m #[(.int q0)] 2 = mkF m 0 #[.val (.int q0), .unset] [] := by first | (simp [entryFrame, mkF, argsToLocals, Value.category]; done) | rfl
def Q_seg (Z : State) (q0 : Int32) (h0 : Heap) (v : Option Value) (h : Heap) : Prop := ∃ x : Int32, v = some (.int x) ∧ Sg x ∧ nar .char x = x ∧ h0 = h
set_option maxRecDepth 65536 in
set_option maxHeartbeats 40000000 in
theorem c_seg (l : Launch) (Z : State) (a0 : Array Value) (hw : ∀ d ∈ tables_1, d.before a0 Z = true) (q0 : Int32) (h0 : Heap) :
    Con l Z (⟨"com/example/presswright/presswright/publishing/FilePathExtensionPinLaw", "seg", "(I)C"⟩ : MethodName) method_2_code 2 (Option.some FieldType.char) [] ({ frames := 0, cells := 0, slots := 0, locals := 0 } : Room) #[(.int q0)] h0 (Q_seg Z q0 h0) := by
  refine Con.of (plainFor_of_name pn_com_example_presswright_presswright_publishing_FilePathExtensionPinLaw) ?_
  intro p e s m below meth c T0 B W0
  refine Go.cast (ef_seg m q0 ) ?_
  refine g_iload_n B W0 (d_method_2_0) rfl ?_
  refine g_ldcI B W0 (d_method_2_1) (tw hw 4 rfl) ?_
  refine g_iand B W0 (d_method_2_3)  ?_
  refine g_bipush B W0 (d_method_2_4) (v := 37) (by decide) ?_
  refine g_irem B W0 (d_method_2_6) (by decide) ?_
  generalize ey101 : ((q0 &&& 2147483647) % 37) = k101
  show Go p.tables e below _ T0 (mkF m 7 #[.val (.int q0), .unset] [(.int k101)])
  have hk := own_rem q0 37 (by decide)
  rw [ey101] at hk
  have hk : 0 ≤ k101.toInt ∧ k101.toInt < 37 := hk
  refine g_istore_n B W0 (d_method_2_7)  (l' := #[.val (.int q0), .val (.int k101)]) rfl ?_
  refine g_iload_n B W0 (d_method_2_8) rfl ?_
  refine g_bipush B W0 (d_method_2_9) (v := 26) (by decide) ?_
  by_cases hc102 : k101 < 26
  · skip
    refine g_icmp_n B W0 (d_method_2_11) (XT.ii_ge_f hc102) ?_
    show Go p.tables e below _ T0 (mkF m 14 #[.val (.int q0), .val (.int k101)] [])
    refine g_bipush B W0 (d_method_2_14) (v := 97) (by decide) ?_
    refine g_iload_n B W0 (d_method_2_16) rfl ?_
    refine g_iadd B W0 (d_method_2_17)  ?_
    refine g_i2c B W0 (d_method_2_18)  ?_
    obtain ⟨x103, ex103, nx103, rx103⟩ := own_i2c (97 + k101)
    rw [ex103]
    exact r_n B W0 (t := .char) rfl (by simp) (d_method_2_19) (by decide) (by decide) ⟨_, by rw [nx103], (Or.inl (own_seg1 hk.1 hc102 ex103)), nx103, rfl⟩
  · skip
    refine g_icmp_y B W0 (d_method_2_11) (XT.ii_ge_t hc102) (pc' := 20) (by decide) ?_
    show Go p.tables e below _ T0 (mkF m 20 #[.val (.int q0), .val (.int k101)] [])
    refine g_iload_n B W0 (d_method_2_20) rfl ?_
    refine g_bipush B W0 (d_method_2_21) (v := 36) (by decide) ?_
    by_cases hc104 : k101 < 36
    · skip
      refine g_icmp_n B W0 (d_method_2_23) (XT.ii_ge_f hc104) ?_
      show Go p.tables e below _ T0 (mkF m 26 #[.val (.int q0), .val (.int k101)] [])
      refine g_bipush B W0 (d_method_2_26) (v := 48) (by decide) ?_
      refine g_iload_n B W0 (d_method_2_28) rfl ?_
      refine g_bipush B W0 (d_method_2_29) (v := 26) (by decide) ?_
      refine g_isub B W0 (d_method_2_31)  ?_
      refine g_iadd B W0 (d_method_2_32)  ?_
      refine g_i2c B W0 (d_method_2_33)  ?_
      obtain ⟨x105, ex105, nx105, rx105⟩ := own_i2c (48 + (k101 - 26))
      rw [ex105]
      exact r_n B W0 (t := .char) rfl (by simp) (d_method_2_34) (by decide) (by decide) ⟨_, by rw [nx105], (Or.inl (own_seg2 hc102 (by have q := hc104; rw [Int32.lt_iff_toInt_lt] at q; exact q) ex105)), nx105, rfl⟩
    · skip
      refine g_icmp_y B W0 (d_method_2_23) (XT.ii_ge_t hc104) (pc' := 35) (by decide) ?_
      show Go p.tables e below _ T0 (mkF m 35 #[.val (.int q0), .val (.int k101)] [])
      refine g_bipush B W0 (d_method_2_35) (v := 45) (by decide) ?_
      exact r_n B W0 (t := .char) rfl (by simp) (d_method_2_37) (by decide) (by decide) ⟨45, congrArg (fun q => some (Value.int q)) (by decide), Or.inr rfl, by decide, rfl⟩
theorem ef_ext (m : MethodId) (q0 : Int32) : entryFrame m #[(.int q0)] 2 = mkF m 0 #[.val (.int q0), .unset] [] := by first | (simp [entryFrame, mkF, argsToLocals, Value.category]; done) | rfl
def Q_ext (Z : State) (q0 : Int32) (h0 : Heap) (v : Option Value) (h : Heap) : Prop := ∃ x : Int32, v = some (.int x) ∧ Ex x ∧ nar .char x = x ∧ h0 = h
set_option maxRecDepth 65536 in
set_option maxHeartbeats 40000000 in
theorem c_ext (l : Launch) (Z : State) (a0 : Array Value) (hw : ∀ d ∈ tables_1, d.before a0 Z = true) (q0 : Int32) (h0 : Heap) :
    Con l Z (⟨"com/example/presswright/presswright/publishing/FilePathExtensionPinLaw", "ext", "(I)C"⟩ : MethodName) method_3_code 2 (Option.some FieldType.char) [] ({ frames := 0, cells := 0, slots := 0, locals := 0 } : Room) #[(.int q0)] h0 (Q_ext Z q0 h0) := by
  refine Con.of (plainFor_of_name pn_com_example_presswright_presswright_publishing_FilePathExtensionPinLaw) ?_
  intro p e s m below meth c T0 B W0
  refine Go.cast (ef_ext m q0 ) ?_
  refine g_iload_n B W0 (d_method_3_0) rfl ?_
  refine g_ldcI B W0 (d_method_3_1) (tw hw 4 rfl) ?_
  refine g_iand B W0 (d_method_3_3)  ?_
  refine g_bipush B W0 (d_method_3_4) (v := 36) (by decide) ?_
  refine g_irem B W0 (d_method_3_6) (by decide) ?_
  generalize ey101 : ((q0 &&& 2147483647) % 36) = k101
  show Go p.tables e below _ T0 (mkF m 7 #[.val (.int q0), .unset] [(.int k101)])
  have hk := own_rem q0 36 (by decide)
  rw [ey101] at hk
  have hk : 0 ≤ k101.toInt ∧ k101.toInt < 36 := hk
  refine g_istore_n B W0 (d_method_3_7)  (l' := #[.val (.int q0), .val (.int k101)]) rfl ?_
  refine g_iload_n B W0 (d_method_3_8) rfl ?_
  refine g_bipush B W0 (d_method_3_9) (v := 26) (by decide) ?_
  by_cases hc102 : k101 < 26
  · skip
    refine g_icmp_n B W0 (d_method_3_11) (XT.ii_ge_f hc102) ?_
    show Go p.tables e below _ T0 (mkF m 14 #[.val (.int q0), .val (.int k101)] [])
    refine g_bipush B W0 (d_method_3_14) (v := 97) (by decide) ?_
    refine g_iload_n B W0 (d_method_3_16) rfl ?_
    refine g_iadd B W0 (d_method_3_17)  ?_
    refine g_i2c B W0 (d_method_3_18)  ?_
    obtain ⟨x103, ex103, nx103, rx103⟩ := own_i2c (97 + k101)
    rw [ex103]
    exact r_n B W0 (t := .char) rfl (by simp) (d_method_3_19) (by decide) (by decide) ⟨_, by rw [nx103], (own_seg1 hk.1 hc102 ex103), nx103, rfl⟩
  · skip
    refine g_icmp_y B W0 (d_method_3_11) (XT.ii_ge_t hc102) (pc' := 20) (by decide) ?_
    show Go p.tables e below _ T0 (mkF m 20 #[.val (.int q0), .val (.int k101)] [])
    refine g_bipush B W0 (d_method_3_20) (v := 48) (by decide) ?_
    refine g_iload_n B W0 (d_method_3_22) rfl ?_
    refine g_bipush B W0 (d_method_3_23) (v := 26) (by decide) ?_
    refine g_isub B W0 (d_method_3_25)  ?_
    refine g_iadd B W0 (d_method_3_26)  ?_
    refine g_i2c B W0 (d_method_3_27)  ?_
    obtain ⟨x104, ex104, nx104, rx104⟩ := own_i2c (48 + (k101 - 26))
    rw [ex104]
    exact r_n B W0 (t := .char) rfl (by simp) (d_method_3_28) (by decide) (by decide) ⟨_, by rw [nx104], (own_seg2 hc102 hk.2 ex104), nx104, rfl⟩
theorem ef_sz1 (m : MethodId)  : entryFrame m #[(.int 1)] 1 = mkF m 0 #[.val (.int 1)] [] := by first | (simp [entryFrame, mkF, argsToLocals, Value.category]; done) | rfl
def Q_sz1 (Z : State)  (h0 : Heap) (v : Option Value) (h : Heap) : Prop := ∃ (b : Addr) (kA : ClassId), v = some (.ref b) ∧ h0.size ≤ b ∧ Keep h0 h [] ∧ Arv Z h b kA .char 1 [.int 0] (.int 0)
set_option maxRecDepth 65536 in
set_option maxHeartbeats 40000000 in
theorem c_sz1 (l : Launch) (Z : State) (a0 : Array Value) (hw : ∀ d ∈ tables_1, d.before a0 Z = true)  (h0 : Heap) :
    Con l Z (⟨"com/example/presswright/presswright/publishing/FilePathExtensionPinLaw", "sized", "(I)[C"⟩ : MethodName) method_4_code 1 (Option.some (FieldType.array FieldType.char)) [] ({ frames := 0, cells := 1, slots := 1, locals := 0 } : Room) #[(.int 1)] h0 (Q_sz1 Z  h0) := by
  refine Con.of (plainFor_of_name pn_com_example_presswright_presswright_publishing_FilePathExtensionPinLaw) ?_
  intro p e s m below meth c T0 B W0
  refine Go.cast (ef_sz1 m  ) ?_
  refine g_iload_n B W0 (d_method_4_0) rfl ?_
  refine g_iconst B W0 (d_method_4_1) (v := 1) (by decide) ?_
  refine g_icmp_n B W0 (d_method_4_2) (XT.ii_ne_f (by decide)) ?_
  show Go p.tables e below _ T0 (mkF m 5 #[.val (.int 1)] [])
  refine g_iconst B W0 (d_method_4_5) (v := 1) (by decide) ?_
  obtain ⟨T101, h101, b101, cA101, gb101, W101, K101, A101, st101⟩ := x_newA B W0 (z := 1) 1 (d_method_4_6) (tw hw 12 rfl) (by decide) (by decide) (by decide) (by decide) (by decide) #[.val (.int 1)] []
  have l101 := nlt A101.lt
  have z101 := W0.size
  refine st101 _ ?_
  have s102 := K101.1
  exact r_a B W101 rfl rfl rfl (d_method_4_8) (by decide) (by decide) ⟨_, _, rfl, by omega, ((Keep.refl h0 []).trans K101 all0), A101⟩
theorem ef_sz2 (m : MethodId)  : entryFrame m #[(.int 2)] 1 = mkF m 0 #[.val (.int 2)] [] := by first | (simp [entryFrame, mkF, argsToLocals, Value.category]; done) | rfl
def Q_sz2 (Z : State)  (h0 : Heap) (v : Option Value) (h : Heap) : Prop := ∃ (b : Addr) (kA : ClassId), v = some (.ref b) ∧ h0.size ≤ b ∧ Keep h0 h [] ∧ Arv Z h b kA .char 2 [.int 0, .int 0] (.int 0)
set_option maxRecDepth 65536 in
set_option maxHeartbeats 40000000 in
theorem c_sz2 (l : Launch) (Z : State) (a0 : Array Value) (hw : ∀ d ∈ tables_1, d.before a0 Z = true)  (h0 : Heap) :
    Con l Z (⟨"com/example/presswright/presswright/publishing/FilePathExtensionPinLaw", "sized", "(I)[C"⟩ : MethodName) method_4_code 1 (Option.some (FieldType.array FieldType.char)) [] ({ frames := 0, cells := 1, slots := 2, locals := 0 } : Room) #[(.int 2)] h0 (Q_sz2 Z  h0) := by
  refine Con.of (plainFor_of_name pn_com_example_presswright_presswright_publishing_FilePathExtensionPinLaw) ?_
  intro p e s m below meth c T0 B W0
  refine Go.cast (ef_sz2 m  ) ?_
  refine g_iload_n B W0 (d_method_4_0) rfl ?_
  refine g_iconst B W0 (d_method_4_1) (v := 1) (by decide) ?_
  refine g_icmp_y B W0 (d_method_4_2) (XT.ii_ne_t (by decide)) (pc' := 9) (by decide) ?_
  show Go p.tables e below _ T0 (mkF m 9 #[.val (.int 2)] [])
  refine g_iload_n B W0 (d_method_4_9) rfl ?_
  refine g_iconst B W0 (d_method_4_10) (v := 2) (by decide) ?_
  refine g_icmp_n B W0 (d_method_4_11) (XT.ii_ne_f (by decide)) ?_
  show Go p.tables e below _ T0 (mkF m 14 #[.val (.int 2)] [])
  refine g_iconst B W0 (d_method_4_14) (v := 2) (by decide) ?_
  obtain ⟨T101, h101, b101, cA101, gb101, W101, K101, A101, st101⟩ := x_newA B W0 (z := 2) 2 (d_method_4_15) (tw hw 12 rfl) (by decide) (by decide) (by decide) (by decide) (by decide) #[.val (.int 2)] []
  have l101 := nlt A101.lt
  have z101 := W0.size
  refine st101 _ ?_
  have s102 := K101.1
  exact r_a B W101 rfl rfl rfl (d_method_4_17) (by decide) (by decide) ⟨_, _, rfl, by omega, ((Keep.refl h0 []).trans K101 all0), A101⟩
theorem ef_sz3 (m : MethodId)  : entryFrame m #[(.int 3)] 1 = mkF m 0 #[.val (.int 3)] [] := by first | (simp [entryFrame, mkF, argsToLocals, Value.category]; done) | rfl
def Q_sz3 (Z : State)  (h0 : Heap) (v : Option Value) (h : Heap) : Prop := ∃ (b : Addr) (kA : ClassId), v = some (.ref b) ∧ h0.size ≤ b ∧ Keep h0 h [] ∧ Arv Z h b kA .char 3 [.int 0, .int 0, .int 0] (.int 0)
set_option maxRecDepth 65536 in
set_option maxHeartbeats 40000000 in
theorem c_sz3 (l : Launch) (Z : State) (a0 : Array Value) (hw : ∀ d ∈ tables_1, d.before a0 Z = true)  (h0 : Heap) :
    Con l Z (⟨"com/example/presswright/presswright/publishing/FilePathExtensionPinLaw", "sized", "(I)[C"⟩ : MethodName) method_4_code 1 (Option.some (FieldType.array FieldType.char)) [] ({ frames := 0, cells := 1, slots := 3, locals := 0 } : Room) #[(.int 3)] h0 (Q_sz3 Z  h0) := by
  refine Con.of (plainFor_of_name pn_com_example_presswright_presswright_publishing_FilePathExtensionPinLaw) ?_
  intro p e s m below meth c T0 B W0
  refine Go.cast (ef_sz3 m  ) ?_
  refine g_iload_n B W0 (d_method_4_0) rfl ?_
  refine g_iconst B W0 (d_method_4_1) (v := 1) (by decide) ?_
  refine g_icmp_y B W0 (d_method_4_2) (XT.ii_ne_t (by decide)) (pc' := 9) (by decide) ?_
  show Go p.tables e below _ T0 (mkF m 9 #[.val (.int 3)] [])
  refine g_iload_n B W0 (d_method_4_9) rfl ?_
  refine g_iconst B W0 (d_method_4_10) (v := 2) (by decide) ?_
  refine g_icmp_y B W0 (d_method_4_11) (XT.ii_ne_t (by decide)) (pc' := 18) (by decide) ?_
  show Go p.tables e below _ T0 (mkF m 18 #[.val (.int 3)] [])
  refine g_iload_n B W0 (d_method_4_18) rfl ?_
  refine g_iconst B W0 (d_method_4_19) (v := 3) (by decide) ?_
  refine g_icmp_n B W0 (d_method_4_20) (XT.ii_ne_f (by decide)) ?_
  show Go p.tables e below _ T0 (mkF m 23 #[.val (.int 3)] [])
  refine g_iconst B W0 (d_method_4_23) (v := 3) (by decide) ?_
  obtain ⟨T101, h101, b101, cA101, gb101, W101, K101, A101, st101⟩ := x_newA B W0 (z := 3) 3 (d_method_4_24) (tw hw 12 rfl) (by decide) (by decide) (by decide) (by decide) (by decide) #[.val (.int 3)] []
  have l101 := nlt A101.lt
  have z101 := W0.size
  refine st101 _ ?_
  have s102 := K101.1
  exact r_a B W101 rfl rfl rfl (d_method_4_26) (by decide) (by decide) ⟨_, _, rfl, by omega, ((Keep.refl h0 []).trans K101 all0), A101⟩
theorem ef_sz4 (m : MethodId)  : entryFrame m #[(.int 4)] 1 = mkF m 0 #[.val (.int 4)] [] := by first | (simp [entryFrame, mkF, argsToLocals, Value.category]; done) | rfl
def Q_sz4 (Z : State)  (h0 : Heap) (v : Option Value) (h : Heap) : Prop := ∃ (b : Addr) (kA : ClassId), v = some (.ref b) ∧ h0.size ≤ b ∧ Keep h0 h [] ∧ Arv Z h b kA .char 4 [.int 0, .int 0, .int 0, .int 0] (.int 0)
set_option maxRecDepth 65536 in
set_option maxHeartbeats 40000000 in
theorem c_sz4 (l : Launch) (Z : State) (a0 : Array Value) (hw : ∀ d ∈ tables_1, d.before a0 Z = true)  (h0 : Heap) :
    Con l Z (⟨"com/example/presswright/presswright/publishing/FilePathExtensionPinLaw", "sized", "(I)[C"⟩ : MethodName) method_4_code 1 (Option.some (FieldType.array FieldType.char)) [] ({ frames := 0, cells := 1, slots := 4, locals := 0 } : Room) #[(.int 4)] h0 (Q_sz4 Z  h0) := by
  refine Con.of (plainFor_of_name pn_com_example_presswright_presswright_publishing_FilePathExtensionPinLaw) ?_
  intro p e s m below meth c T0 B W0
  refine Go.cast (ef_sz4 m  ) ?_
  refine g_iload_n B W0 (d_method_4_0) rfl ?_
  refine g_iconst B W0 (d_method_4_1) (v := 1) (by decide) ?_
  refine g_icmp_y B W0 (d_method_4_2) (XT.ii_ne_t (by decide)) (pc' := 9) (by decide) ?_
  show Go p.tables e below _ T0 (mkF m 9 #[.val (.int 4)] [])
  refine g_iload_n B W0 (d_method_4_9) rfl ?_
  refine g_iconst B W0 (d_method_4_10) (v := 2) (by decide) ?_
  refine g_icmp_y B W0 (d_method_4_11) (XT.ii_ne_t (by decide)) (pc' := 18) (by decide) ?_
  show Go p.tables e below _ T0 (mkF m 18 #[.val (.int 4)] [])
  refine g_iload_n B W0 (d_method_4_18) rfl ?_
  refine g_iconst B W0 (d_method_4_19) (v := 3) (by decide) ?_
  refine g_icmp_y B W0 (d_method_4_20) (XT.ii_ne_t (by decide)) (pc' := 27) (by decide) ?_
  show Go p.tables e below _ T0 (mkF m 27 #[.val (.int 4)] [])
  refine g_iload_n B W0 (d_method_4_27) rfl ?_
  refine g_iconst B W0 (d_method_4_28) (v := 4) (by decide) ?_
  refine g_icmp_n B W0 (d_method_4_29) (XT.ii_ne_f (by decide)) ?_
  show Go p.tables e below _ T0 (mkF m 32 #[.val (.int 4)] [])
  refine g_iconst B W0 (d_method_4_32) (v := 4) (by decide) ?_
  obtain ⟨T101, h101, b101, cA101, gb101, W101, K101, A101, st101⟩ := x_newA B W0 (z := 4) 4 (d_method_4_33) (tw hw 12 rfl) (by decide) (by decide) (by decide) (by decide) (by decide) #[.val (.int 4)] []
  have l101 := nlt A101.lt
  have z101 := W0.size
  refine st101 _ ?_
  have s102 := K101.1
  exact r_a B W101 rfl rfl rfl (d_method_4_35) (by decide) (by decide) ⟨_, _, rfl, by omega, ((Keep.refl h0 []).trans K101 all0), A101⟩
theorem ef_sz5 (m : MethodId)  : entryFrame m #[(.int 5)] 1 = mkF m 0 #[.val (.int 5)] [] := by first | (simp [entryFrame, mkF, argsToLocals, Value.category]; done) | rfl
def Q_sz5 (Z : State)  (h0 : Heap) (v : Option Value) (h : Heap) : Prop := ∃ (b : Addr) (kA : ClassId), v = some (.ref b) ∧ h0.size ≤ b ∧ Keep h0 h [] ∧ Arv Z h b kA .char 5 [.int 0, .int 0, .int 0, .int 0, .int 0] (.int 0)
set_option maxRecDepth 65536 in
set_option maxHeartbeats 40000000 in
theorem c_sz5 (l : Launch) (Z : State) (a0 : Array Value) (hw : ∀ d ∈ tables_1, d.before a0 Z = true)  (h0 : Heap) :
    Con l Z (⟨"com/example/presswright/presswright/publishing/FilePathExtensionPinLaw", "sized", "(I)[C"⟩ : MethodName) method_4_code 1 (Option.some (FieldType.array FieldType.char)) [] ({ frames := 0, cells := 1, slots := 5, locals := 0 } : Room) #[(.int 5)] h0 (Q_sz5 Z  h0) := by
  refine Con.of (plainFor_of_name pn_com_example_presswright_presswright_publishing_FilePathExtensionPinLaw) ?_
  intro p e s m below meth c T0 B W0
  refine Go.cast (ef_sz5 m  ) ?_
  refine g_iload_n B W0 (d_method_4_0) rfl ?_
  refine g_iconst B W0 (d_method_4_1) (v := 1) (by decide) ?_
  refine g_icmp_y B W0 (d_method_4_2) (XT.ii_ne_t (by decide)) (pc' := 9) (by decide) ?_
  show Go p.tables e below _ T0 (mkF m 9 #[.val (.int 5)] [])
  refine g_iload_n B W0 (d_method_4_9) rfl ?_
  refine g_iconst B W0 (d_method_4_10) (v := 2) (by decide) ?_
  refine g_icmp_y B W0 (d_method_4_11) (XT.ii_ne_t (by decide)) (pc' := 18) (by decide) ?_
  show Go p.tables e below _ T0 (mkF m 18 #[.val (.int 5)] [])
  refine g_iload_n B W0 (d_method_4_18) rfl ?_
  refine g_iconst B W0 (d_method_4_19) (v := 3) (by decide) ?_
  refine g_icmp_y B W0 (d_method_4_20) (XT.ii_ne_t (by decide)) (pc' := 27) (by decide) ?_
  show Go p.tables e below _ T0 (mkF m 27 #[.val (.int 5)] [])
  refine g_iload_n B W0 (d_method_4_27) rfl ?_
  refine g_iconst B W0 (d_method_4_28) (v := 4) (by decide) ?_
  refine g_icmp_y B W0 (d_method_4_29) (XT.ii_ne_t (by decide)) (pc' := 36) (by decide) ?_
  show Go p.tables e below _ T0 (mkF m 36 #[.val (.int 5)] [])
  refine g_iload_n B W0 (d_method_4_36) rfl ?_
  refine g_iconst B W0 (d_method_4_37) (v := 5) (by decide) ?_
  refine g_icmp_n B W0 (d_method_4_38) (XT.ii_ne_f (by decide)) ?_
  show Go p.tables e below _ T0 (mkF m 41 #[.val (.int 5)] [])
  refine g_iconst B W0 (d_method_4_41) (v := 5) (by decide) ?_
  obtain ⟨T101, h101, b101, cA101, gb101, W101, K101, A101, st101⟩ := x_newA B W0 (z := 5) 5 (d_method_4_42) (tw hw 12 rfl) (by decide) (by decide) (by decide) (by decide) (by decide) #[.val (.int 5)] []
  have l101 := nlt A101.lt
  have z101 := W0.size
  refine st101 _ ?_
  have s102 := K101.1
  exact r_a B W101 rfl rfl rfl (d_method_4_44) (by decide) (by decide) ⟨_, _, rfl, by omega, ((Keep.refl h0 []).trans K101 all0), A101⟩
theorem ef_sz6 (m : MethodId)  : entryFrame m #[(.int 6)] 1 = mkF m 0 #[.val (.int 6)] [] := by first | (simp [entryFrame, mkF, argsToLocals, Value.category]; done) | rfl
def Q_sz6 (Z : State)  (h0 : Heap) (v : Option Value) (h : Heap) : Prop := ∃ (b : Addr) (kA : ClassId), v = some (.ref b) ∧ h0.size ≤ b ∧ Keep h0 h [] ∧ Arv Z h b kA .char 6 [.int 0, .int 0, .int 0, .int 0, .int 0, .int 0] (.int 0)
set_option maxRecDepth 65536 in
set_option maxHeartbeats 40000000 in
theorem c_sz6 (l : Launch) (Z : State) (a0 : Array Value) (hw : ∀ d ∈ tables_1, d.before a0 Z = true)  (h0 : Heap) :
    Con l Z (⟨"com/example/presswright/presswright/publishing/FilePathExtensionPinLaw", "sized", "(I)[C"⟩ : MethodName) method_4_code 1 (Option.some (FieldType.array FieldType.char)) [] ({ frames := 0, cells := 1, slots := 6, locals := 0 } : Room) #[(.int 6)] h0 (Q_sz6 Z  h0) := by
  refine Con.of (plainFor_of_name pn_com_example_presswright_presswright_publishing_FilePathExtensionPinLaw) ?_
  intro p e s m below meth c T0 B W0
  refine Go.cast (ef_sz6 m  ) ?_
  refine g_iload_n B W0 (d_method_4_0) rfl ?_
  refine g_iconst B W0 (d_method_4_1) (v := 1) (by decide) ?_
  refine g_icmp_y B W0 (d_method_4_2) (XT.ii_ne_t (by decide)) (pc' := 9) (by decide) ?_
  show Go p.tables e below _ T0 (mkF m 9 #[.val (.int 6)] [])
  refine g_iload_n B W0 (d_method_4_9) rfl ?_
  refine g_iconst B W0 (d_method_4_10) (v := 2) (by decide) ?_
  refine g_icmp_y B W0 (d_method_4_11) (XT.ii_ne_t (by decide)) (pc' := 18) (by decide) ?_
  show Go p.tables e below _ T0 (mkF m 18 #[.val (.int 6)] [])
  refine g_iload_n B W0 (d_method_4_18) rfl ?_
  refine g_iconst B W0 (d_method_4_19) (v := 3) (by decide) ?_
  refine g_icmp_y B W0 (d_method_4_20) (XT.ii_ne_t (by decide)) (pc' := 27) (by decide) ?_
  show Go p.tables e below _ T0 (mkF m 27 #[.val (.int 6)] [])
  refine g_iload_n B W0 (d_method_4_27) rfl ?_
  refine g_iconst B W0 (d_method_4_28) (v := 4) (by decide) ?_
  refine g_icmp_y B W0 (d_method_4_29) (XT.ii_ne_t (by decide)) (pc' := 36) (by decide) ?_
  show Go p.tables e below _ T0 (mkF m 36 #[.val (.int 6)] [])
  refine g_iload_n B W0 (d_method_4_36) rfl ?_
  refine g_iconst B W0 (d_method_4_37) (v := 5) (by decide) ?_
  refine g_icmp_y B W0 (d_method_4_38) (XT.ii_ne_t (by decide)) (pc' := 45) (by decide) ?_
  show Go p.tables e below _ T0 (mkF m 45 #[.val (.int 6)] [])
  refine g_iload_n B W0 (d_method_4_45) rfl ?_
  refine g_bipush B W0 (d_method_4_46) (v := 6) (by decide) ?_
  refine g_icmp_n B W0 (d_method_4_48) (XT.ii_ne_f (by decide)) ?_
  show Go p.tables e below _ T0 (mkF m 51 #[.val (.int 6)] [])
  refine g_bipush B W0 (d_method_4_51) (v := 6) (by decide) ?_
  obtain ⟨T101, h101, b101, cA101, gb101, W101, K101, A101, st101⟩ := x_newA B W0 (z := 6) 6 (d_method_4_53) (tw hw 12 rfl) (by decide) (by decide) (by decide) (by decide) (by decide) #[.val (.int 6)] []
  have l101 := nlt A101.lt
  have z101 := W0.size
  refine st101 _ ?_
  have s102 := K101.1
  exact r_a B W101 rfl rfl rfl (d_method_4_55) (by decide) (by decide) ⟨_, _, rfl, by omega, ((Keep.refl h0 []).trans K101 all0), A101⟩
theorem ef_sz7 (m : MethodId)  : entryFrame m #[(.int 7)] 1 = mkF m 0 #[.val (.int 7)] [] := by first | (simp [entryFrame, mkF, argsToLocals, Value.category]; done) | rfl
def Q_sz7 (Z : State)  (h0 : Heap) (v : Option Value) (h : Heap) : Prop := ∃ (b : Addr) (kA : ClassId), v = some (.ref b) ∧ h0.size ≤ b ∧ Keep h0 h [] ∧ Arv Z h b kA .char 7 [.int 0, .int 0, .int 0, .int 0, .int 0, .int 0, .int 0] (.int 0)
set_option maxRecDepth 65536 in
set_option maxHeartbeats 40000000 in
theorem c_sz7 (l : Launch) (Z : State) (a0 : Array Value) (hw : ∀ d ∈ tables_1, d.before a0 Z = true)  (h0 : Heap) :
    Con l Z (⟨"com/example/presswright/presswright/publishing/FilePathExtensionPinLaw", "sized", "(I)[C"⟩ : MethodName) method_4_code 1 (Option.some (FieldType.array FieldType.char)) [] ({ frames := 0, cells := 1, slots := 7, locals := 0 } : Room) #[(.int 7)] h0 (Q_sz7 Z  h0) := by
  refine Con.of (plainFor_of_name pn_com_example_presswright_presswright_publishing_FilePathExtensionPinLaw) ?_
  intro p e s m below meth c T0 B W0
  refine Go.cast (ef_sz7 m  ) ?_
  refine g_iload_n B W0 (d_method_4_0) rfl ?_
  refine g_iconst B W0 (d_method_4_1) (v := 1) (by decide) ?_
  refine g_icmp_y B W0 (d_method_4_2) (XT.ii_ne_t (by decide)) (pc' := 9) (by decide) ?_
  show Go p.tables e below _ T0 (mkF m 9 #[.val (.int 7)] [])
  refine g_iload_n B W0 (d_method_4_9) rfl ?_
  refine g_iconst B W0 (d_method_4_10) (v := 2) (by decide) ?_
  refine g_icmp_y B W0 (d_method_4_11) (XT.ii_ne_t (by decide)) (pc' := 18) (by decide) ?_
  show Go p.tables e below _ T0 (mkF m 18 #[.val (.int 7)] [])
  refine g_iload_n B W0 (d_method_4_18) rfl ?_
  refine g_iconst B W0 (d_method_4_19) (v := 3) (by decide) ?_
  refine g_icmp_y B W0 (d_method_4_20) (XT.ii_ne_t (by decide)) (pc' := 27) (by decide) ?_
  show Go p.tables e below _ T0 (mkF m 27 #[.val (.int 7)] [])
  refine g_iload_n B W0 (d_method_4_27) rfl ?_
  refine g_iconst B W0 (d_method_4_28) (v := 4) (by decide) ?_
  refine g_icmp_y B W0 (d_method_4_29) (XT.ii_ne_t (by decide)) (pc' := 36) (by decide) ?_
  show Go p.tables e below _ T0 (mkF m 36 #[.val (.int 7)] [])
  refine g_iload_n B W0 (d_method_4_36) rfl ?_
  refine g_iconst B W0 (d_method_4_37) (v := 5) (by decide) ?_
  refine g_icmp_y B W0 (d_method_4_38) (XT.ii_ne_t (by decide)) (pc' := 45) (by decide) ?_
  show Go p.tables e below _ T0 (mkF m 45 #[.val (.int 7)] [])
  refine g_iload_n B W0 (d_method_4_45) rfl ?_
  refine g_bipush B W0 (d_method_4_46) (v := 6) (by decide) ?_
  refine g_icmp_y B W0 (d_method_4_48) (XT.ii_ne_t (by decide)) (pc' := 56) (by decide) ?_
  show Go p.tables e below _ T0 (mkF m 56 #[.val (.int 7)] [])
  refine g_iload_n B W0 (d_method_4_56) rfl ?_
  refine g_bipush B W0 (d_method_4_57) (v := 7) (by decide) ?_
  refine g_icmp_n B W0 (d_method_4_59) (XT.ii_ne_f (by decide)) ?_
  show Go p.tables e below _ T0 (mkF m 62 #[.val (.int 7)] [])
  refine g_bipush B W0 (d_method_4_62) (v := 7) (by decide) ?_
  obtain ⟨T101, h101, b101, cA101, gb101, W101, K101, A101, st101⟩ := x_newA B W0 (z := 7) 7 (d_method_4_64) (tw hw 12 rfl) (by decide) (by decide) (by decide) (by decide) (by decide) #[.val (.int 7)] []
  have l101 := nlt A101.lt
  have z101 := W0.size
  refine st101 _ ?_
  have s102 := K101.1
  exact r_a B W101 rfl rfl rfl (d_method_4_66) (by decide) (by decide) ⟨_, _, rfl, by omega, ((Keep.refl h0 []).trans K101 all0), A101⟩
theorem ef_sz8 (m : MethodId)  : entryFrame m #[(.int 8)] 1 = mkF m 0 #[.val (.int 8)] [] := by first | (simp [entryFrame, mkF, argsToLocals, Value.category]; done) | rfl
def Q_sz8 (Z : State)  (h0 : Heap) (v : Option Value) (h : Heap) : Prop := ∃ (b : Addr) (kA : ClassId), v = some (.ref b) ∧ h0.size ≤ b ∧ Keep h0 h [] ∧ Arv Z h b kA .char 8 [.int 0, .int 0, .int 0, .int 0, .int 0, .int 0, .int 0, .int 0] (.int 0)
set_option maxRecDepth 65536 in
set_option maxHeartbeats 40000000 in
theorem c_sz8 (l : Launch) (Z : State) (a0 : Array Value) (hw : ∀ d ∈ tables_1, d.before a0 Z = true)  (h0 : Heap) :
    Con l Z (⟨"com/example/presswright/presswright/publishing/FilePathExtensionPinLaw", "sized", "(I)[C"⟩ : MethodName) method_4_code 1 (Option.some (FieldType.array FieldType.char)) [] ({ frames := 0, cells := 1, slots := 8, locals := 0 } : Room) #[(.int 8)] h0 (Q_sz8 Z  h0) := by
  refine Con.of (plainFor_of_name pn_com_example_presswright_presswright_publishing_FilePathExtensionPinLaw) ?_
  intro p e s m below meth c T0 B W0
  refine Go.cast (ef_sz8 m  ) ?_
  refine g_iload_n B W0 (d_method_4_0) rfl ?_
  refine g_iconst B W0 (d_method_4_1) (v := 1) (by decide) ?_
  refine g_icmp_y B W0 (d_method_4_2) (XT.ii_ne_t (by decide)) (pc' := 9) (by decide) ?_
  show Go p.tables e below _ T0 (mkF m 9 #[.val (.int 8)] [])
  refine g_iload_n B W0 (d_method_4_9) rfl ?_
  refine g_iconst B W0 (d_method_4_10) (v := 2) (by decide) ?_
  refine g_icmp_y B W0 (d_method_4_11) (XT.ii_ne_t (by decide)) (pc' := 18) (by decide) ?_
  show Go p.tables e below _ T0 (mkF m 18 #[.val (.int 8)] [])
  refine g_iload_n B W0 (d_method_4_18) rfl ?_
  refine g_iconst B W0 (d_method_4_19) (v := 3) (by decide) ?_
  refine g_icmp_y B W0 (d_method_4_20) (XT.ii_ne_t (by decide)) (pc' := 27) (by decide) ?_
  show Go p.tables e below _ T0 (mkF m 27 #[.val (.int 8)] [])
  refine g_iload_n B W0 (d_method_4_27) rfl ?_
  refine g_iconst B W0 (d_method_4_28) (v := 4) (by decide) ?_
  refine g_icmp_y B W0 (d_method_4_29) (XT.ii_ne_t (by decide)) (pc' := 36) (by decide) ?_
  show Go p.tables e below _ T0 (mkF m 36 #[.val (.int 8)] [])
  refine g_iload_n B W0 (d_method_4_36) rfl ?_
  refine g_iconst B W0 (d_method_4_37) (v := 5) (by decide) ?_
  refine g_icmp_y B W0 (d_method_4_38) (XT.ii_ne_t (by decide)) (pc' := 45) (by decide) ?_
  show Go p.tables e below _ T0 (mkF m 45 #[.val (.int 8)] [])
  refine g_iload_n B W0 (d_method_4_45) rfl ?_
  refine g_bipush B W0 (d_method_4_46) (v := 6) (by decide) ?_
  refine g_icmp_y B W0 (d_method_4_48) (XT.ii_ne_t (by decide)) (pc' := 56) (by decide) ?_
  show Go p.tables e below _ T0 (mkF m 56 #[.val (.int 8)] [])
  refine g_iload_n B W0 (d_method_4_56) rfl ?_
  refine g_bipush B W0 (d_method_4_57) (v := 7) (by decide) ?_
  refine g_icmp_y B W0 (d_method_4_59) (XT.ii_ne_t (by decide)) (pc' := 67) (by decide) ?_
  show Go p.tables e below _ T0 (mkF m 67 #[.val (.int 8)] [])
  refine g_iload_n B W0 (d_method_4_67) rfl ?_
  refine g_bipush B W0 (d_method_4_68) (v := 8) (by decide) ?_
  refine g_icmp_n B W0 (d_method_4_70) (XT.ii_ne_f (by decide)) ?_
  show Go p.tables e below _ T0 (mkF m 73 #[.val (.int 8)] [])
  refine g_bipush B W0 (d_method_4_73) (v := 8) (by decide) ?_
  obtain ⟨T101, h101, b101, cA101, gb101, W101, K101, A101, st101⟩ := x_newA B W0 (z := 8) 8 (d_method_4_75) (tw hw 12 rfl) (by decide) (by decide) (by decide) (by decide) (by decide) #[.val (.int 8)] []
  have l101 := nlt A101.lt
  have z101 := W0.size
  refine st101 _ ?_
  have s102 := K101.1
  exact r_a B W101 rfl rfl rfl (d_method_4_77) (by decide) (by decide) ⟨_, _, rfl, by omega, ((Keep.refl h0 []).trans K101 all0), A101⟩
theorem ef_sz9 (m : MethodId)  : entryFrame m #[(.int 9)] 1 = mkF m 0 #[.val (.int 9)] [] := by first | (simp [entryFrame, mkF, argsToLocals, Value.category]; done) | rfl
def Q_sz9 (Z : State)  (h0 : Heap) (v : Option Value) (h : Heap) : Prop := ∃ (b : Addr) (kA : ClassId), v = some (.ref b) ∧ h0.size ≤ b ∧ Keep h0 h [] ∧ Arv Z h b kA .char 9 [.int 0, .int 0, .int 0, .int 0, .int 0, .int 0, .int 0, .int 0, .int 0] (.int 0)
set_option maxRecDepth 65536 in
set_option maxHeartbeats 40000000 in
theorem c_sz9 (l : Launch) (Z : State) (a0 : Array Value) (hw : ∀ d ∈ tables_1, d.before a0 Z = true)  (h0 : Heap) :
    Con l Z (⟨"com/example/presswright/presswright/publishing/FilePathExtensionPinLaw", "sized", "(I)[C"⟩ : MethodName) method_4_code 1 (Option.some (FieldType.array FieldType.char)) [] ({ frames := 0, cells := 1, slots := 9, locals := 0 } : Room) #[(.int 9)] h0 (Q_sz9 Z  h0) := by
  refine Con.of (plainFor_of_name pn_com_example_presswright_presswright_publishing_FilePathExtensionPinLaw) ?_
  intro p e s m below meth c T0 B W0
  refine Go.cast (ef_sz9 m  ) ?_
  refine g_iload_n B W0 (d_method_4_0) rfl ?_
  refine g_iconst B W0 (d_method_4_1) (v := 1) (by decide) ?_
  refine g_icmp_y B W0 (d_method_4_2) (XT.ii_ne_t (by decide)) (pc' := 9) (by decide) ?_
  show Go p.tables e below _ T0 (mkF m 9 #[.val (.int 9)] [])
  refine g_iload_n B W0 (d_method_4_9) rfl ?_
  refine g_iconst B W0 (d_method_4_10) (v := 2) (by decide) ?_
  refine g_icmp_y B W0 (d_method_4_11) (XT.ii_ne_t (by decide)) (pc' := 18) (by decide) ?_
  show Go p.tables e below _ T0 (mkF m 18 #[.val (.int 9)] [])
  refine g_iload_n B W0 (d_method_4_18) rfl ?_
  refine g_iconst B W0 (d_method_4_19) (v := 3) (by decide) ?_
  refine g_icmp_y B W0 (d_method_4_20) (XT.ii_ne_t (by decide)) (pc' := 27) (by decide) ?_
  show Go p.tables e below _ T0 (mkF m 27 #[.val (.int 9)] [])
  refine g_iload_n B W0 (d_method_4_27) rfl ?_
  refine g_iconst B W0 (d_method_4_28) (v := 4) (by decide) ?_
  refine g_icmp_y B W0 (d_method_4_29) (XT.ii_ne_t (by decide)) (pc' := 36) (by decide) ?_
  show Go p.tables e below _ T0 (mkF m 36 #[.val (.int 9)] [])
  refine g_iload_n B W0 (d_method_4_36) rfl ?_
  refine g_iconst B W0 (d_method_4_37) (v := 5) (by decide) ?_
  refine g_icmp_y B W0 (d_method_4_38) (XT.ii_ne_t (by decide)) (pc' := 45) (by decide) ?_
  show Go p.tables e below _ T0 (mkF m 45 #[.val (.int 9)] [])
  refine g_iload_n B W0 (d_method_4_45) rfl ?_
  refine g_bipush B W0 (d_method_4_46) (v := 6) (by decide) ?_
  refine g_icmp_y B W0 (d_method_4_48) (XT.ii_ne_t (by decide)) (pc' := 56) (by decide) ?_
  show Go p.tables e below _ T0 (mkF m 56 #[.val (.int 9)] [])
  refine g_iload_n B W0 (d_method_4_56) rfl ?_
  refine g_bipush B W0 (d_method_4_57) (v := 7) (by decide) ?_
  refine g_icmp_y B W0 (d_method_4_59) (XT.ii_ne_t (by decide)) (pc' := 67) (by decide) ?_
  show Go p.tables e below _ T0 (mkF m 67 #[.val (.int 9)] [])
  refine g_iload_n B W0 (d_method_4_67) rfl ?_
  refine g_bipush B W0 (d_method_4_68) (v := 8) (by decide) ?_
  refine g_icmp_y B W0 (d_method_4_70) (XT.ii_ne_t (by decide)) (pc' := 78) (by decide) ?_
  show Go p.tables e below _ T0 (mkF m 78 #[.val (.int 9)] [])
  refine g_bipush B W0 (d_method_4_78) (v := 9) (by decide) ?_
  obtain ⟨T101, h101, b101, cA101, gb101, W101, K101, A101, st101⟩ := x_newA B W0 (z := 9) 9 (d_method_4_80) (tw hw 12 rfl) (by decide) (by decide) (by decide) (by decide) (by decide) #[.val (.int 9)] []
  have l101 := nlt A101.lt
  have z101 := W0.size
  refine st101 _ ?_
  have s102 := K101.1
  exact r_a B W101 rfl rfl rfl (d_method_4_82) (by decide) (by decide) ⟨_, _, rfl, by omega, ((Keep.refl h0 []).trans K101 all0), A101⟩
theorem ef_pp1 (m : MethodId) (a1 : Addr) (ff : Nat → Int32) (cz : Int32) (sf : Value) : entryFrame m #[(.ref a1)] 6 = mkF m 0 #[.val (.ref a1), .unset, .unset, .unset, .unset, .unset] [] := by first | (simp [entryFrame, mkF, argsToLocals, Value.category]; done) | rfl
def Q_pp1 (Z : State) (a1 : Addr) (ff : Nat → Int32) (cz : Int32) (sf : Value) (h0 : Heap) (v : Option Value) (h : Heap) : Prop := v = some (.int 1) ∧ h0 = h
set_option maxRecDepth 65536 in
set_option maxHeartbeats 40000000 in
theorem c_pp1 (l : Launch) (Z : State) (a0 : Array Value) (hw : ∀ d ∈ tables_1, d.before a0 Z = true) (a1 : Addr) (ff : Nat → Int32) (cz : Int32) (sf : Value) (h0 : Heap) (Scs : Sta Z Z.heap "java/lang/String" "COMPACT_STRINGS" "Z" (.int cz)) (hcz : ¬ cz = 0) (Ssf : Sta Z Z.heap "jdk/internal/util/Preconditions" "SIOOBE_FORMATTER" "Ljava/util/function/BiFunction;" sf) (rsf : sf.isRef = true) (S1 : StrIs Z h0 a1 (lst 1 ff)) (e0 : ff 0 = 47) :
    Con l Z (⟨"com/example/presswright/presswright/publishing/PagePath", "isPagePath", "(Ljava/lang/String;)Z"⟩ : MethodName) prog_12_method_2_code 6 (Option.some FieldType.boolean) [] ({ frames := 4, cells := 0, slots := 0, locals := 53 } : Room) #[(.ref a1)] h0 (Q_pp1 Z a1 ff cz sf h0) := by
  refine Con.of (plainFor_of_name pn_com_example_presswright_presswright_publishing_PagePath) ?_
  intro p e s m below meth c T0 B W0
  refine Go.cast (ef_pp1 m a1 ff cz sf ) ?_
  have E_a1 := S1.exa
  refine g_aload_n B W0 (d_prog_12_method_2_0) rfl rfl ?_
  obtain ⟨T101, h101, v101, W101, Q101, st101⟩ := x_virtual B W0 (b := a1) [] (c_len l Z a0 hw a1 1 ff cz h0 Scs hcz S1) E_a1 (d_prog_12_method_2_1) (tw hw 129 rfl) (tw hw 60 rfl) (tw hw 62 rfl) (tw hw 61 rfl) (tw hw 15 rfl) (tw hw 63 rfl) (by decide) (lenOf pd___I rfl) #[.val (.ref a1), .unset, .unset, .unset, .unset, .unset] [] rfl 0 rfl (by decide) (by decide) (by decide) (by decide)
  obtain ⟨rfl, rfl⟩ := Q101
  refine st101 _ ?_
  show Go p.tables e below _ T101 (mkF m 4 #[.val (.ref a1), .unset, .unset, .unset, .unset, .unset] [(.int 1)])
  refine g_iconst B W101 (d_prog_12_method_2_4) (v := 1) (by decide) ?_
  refine g_isub B W101 (d_prog_12_method_2_5)  ?_
  rw [show (1 - 1 : Int32) = 0 by decide]
  refine g_istore_n B W101 (d_prog_12_method_2_6)  (l' := #[.val (.ref a1), .val (.int 0), .unset, .unset, .unset, .unset]) rfl ?_
  refine g_iload_n B W101 (d_prog_12_method_2_7) rfl ?_
  refine g_if_n B W101 (d_prog_12_method_2_8) (XT.i0_lt_f (by decide)) ?_
  show Go p.tables e below _ T101 (mkF m 11 #[.val (.ref a1), .val (.int 0), .unset, .unset, .unset, .unset] [])
  refine g_aload_n B W101 (d_prog_12_method_2_11) rfl rfl ?_
  refine g_iconst B W101 (d_prog_12_method_2_12) (v := 0) (by decide) ?_
  obtain ⟨T102, h102, v102, W102, Q102, st102⟩ := x_virtual B W101 (b := a1) [(.int 0)] (c_cat l Z a0 hw a1 1 ff 0 cz sf h0 Scs hcz Ssf rsf S1 (by omega)) E_a1 (d_prog_12_method_2_13) (tw hw 130 rfl) (tw hw 131 rfl) (tw hw 133 rfl) (tw hw 132 rfl) (tw hw 15 rfl) (tw hw 134 rfl) (by decide) (lenOf pd__I_C rfl) #[.val (.ref a1), .val (.int 0), .unset, .unset, .unset, .unset] [] rfl 0 rfl (by decide) (by decide) (by decide) (by decide)
  obtain ⟨rfl, rfl⟩ := Q102
  refine st102 _ ?_
  refine g_bipush B W102 (d_prog_12_method_2_16) (v := 47) (by decide) ?_
  refine g_icmp_n B W102 (d_prog_12_method_2_18) (XT.ii_ne_f e0) ?_
  show Go p.tables e below _ T102 (mkF m 21 #[.val (.ref a1), .val (.int 0), .unset, .unset, .unset, .unset] [])
  refine g_aload_n B W102 (d_prog_12_method_2_21) rfl rfl ?_
  refine g_iload_n B W102 (d_prog_12_method_2_22) rfl ?_
  obtain ⟨T103, h103, v103, W103, Q103, st103⟩ := x_virtual B W102 (b := a1) [(.int 0)] (c_cat l Z a0 hw a1 1 ff 0 cz sf h0 Scs hcz Ssf rsf S1 (by omega)) E_a1 (d_prog_12_method_2_23) (tw hw 130 rfl) (tw hw 131 rfl) (tw hw 133 rfl) (tw hw 132 rfl) (tw hw 15 rfl) (tw hw 134 rfl) (by decide) (lenOf pd__I_C rfl) #[.val (.ref a1), .val (.int 0), .unset, .unset, .unset, .unset] [] rfl 0 rfl (by decide) (by decide) (by decide) (by decide)
  obtain ⟨rfl, rfl⟩ := Q103
  refine st103 _ ?_
  refine g_bipush B W103 (d_prog_12_method_2_26) (v := 47) (by decide) ?_
  refine g_icmp_y B W103 (d_prog_12_method_2_28) (XT.ii_eq_t e0) (pc' := 33) (by decide) ?_
  show Go p.tables e below _ T103 (mkF m 33 #[.val (.ref a1), .val (.int 0), .unset, .unset, .unset, .unset] [])
  refine g_iconst B W103 (d_prog_12_method_2_33) (v := 1) (by decide) ?_
  refine g_istore_n B W103 (d_prog_12_method_2_34)  (l' := #[.val (.ref a1), .val (.int 0), .val (.int 1), .unset, .unset, .unset]) rfl ?_
  refine g_iconst B W103 (d_prog_12_method_2_35) (v := 1) (by decide) ?_
  refine g_istore_n B W103 (d_prog_12_method_2_36)  (l' := #[.val (.ref a1), .val (.int 0), .val (.int 1), .val (.int 1), .unset, .unset]) rfl ?_
  refine g_iload_n B W103 (d_prog_12_method_2_37) rfl ?_
  refine g_iload_n B W103 (d_prog_12_method_2_38) rfl ?_
  refine g_icmp_y B W103 (d_prog_12_method_2_39) (XT.ii_gt_t (by decide)) (pc' := 126) (by decide) ?_
  show Go p.tables e below _ T103 (mkF m 126 #[.val (.ref a1), .val (.int 0), .val (.int 1), .val (.int 1), .unset, .unset] [])
  refine g_iconst B W103 (d_prog_12_method_2_126) (v := 1) (by decide) ?_
  exact r_n B W103 (t := .boolean) rfl (by simp) (d_prog_12_method_2_127) (by decide) (by decide) ⟨by rw [nar_b1], rfl⟩
theorem ef_pp3 (m : MethodId) (a1 : Addr) (ff : Nat → Int32) (cz : Int32) (sf : Value) : entryFrame m #[(.ref a1)] 6 = mkF m 0 #[.val (.ref a1), .unset, .unset, .unset, .unset, .unset] [] := by first | (simp [entryFrame, mkF, argsToLocals, Value.category]; done) | rfl
def Q_pp3 (Z : State) (a1 : Addr) (ff : Nat → Int32) (cz : Int32) (sf : Value) (h0 : Heap) (v : Option Value) (h : Heap) : Prop := v = some (.int 1) ∧ h0 = h
set_option maxRecDepth 65536 in
set_option maxHeartbeats 40000000 in
theorem c_pp3 (l : Launch) (Z : State) (a0 : Array Value) (hw : ∀ d ∈ tables_1, d.before a0 Z = true) (a1 : Addr) (ff : Nat → Int32) (cz : Int32) (sf : Value) (h0 : Heap) (Scs : Sta Z Z.heap "java/lang/String" "COMPACT_STRINGS" "Z" (.int cz)) (hcz : ¬ cz = 0) (Ssf : Sta Z Z.heap "jdk/internal/util/Preconditions" "SIOOBE_FORMATTER" "Ljava/util/function/BiFunction;" sf) (rsf : sf.isRef = true) (S1 : StrIs Z h0 a1 (lst 3 ff)) (e0 : ff 0 = 47) (e1 : Sg (ff 1)) (e2 : ff 2 = 47) :
    Con l Z (⟨"com/example/presswright/presswright/publishing/PagePath", "isPagePath", "(Ljava/lang/String;)Z"⟩ : MethodName) prog_12_method_2_code 6 (Option.some FieldType.boolean) [] ({ frames := 4, cells := 0, slots := 0, locals := 53 } : Room) #[(.ref a1)] h0 (Q_pp3 Z a1 ff cz sf h0) := by
  refine Con.of (plainFor_of_name pn_com_example_presswright_presswright_publishing_PagePath) ?_
  intro p e s m below meth c T0 B W0
  refine Go.cast (ef_pp3 m a1 ff cz sf ) ?_
  have E_a1 := S1.exa
  refine g_aload_n B W0 (d_prog_12_method_2_0) rfl rfl ?_
  obtain ⟨T101, h101, v101, W101, Q101, st101⟩ := x_virtual B W0 (b := a1) [] (c_len l Z a0 hw a1 3 ff cz h0 Scs hcz S1) E_a1 (d_prog_12_method_2_1) (tw hw 129 rfl) (tw hw 60 rfl) (tw hw 62 rfl) (tw hw 61 rfl) (tw hw 15 rfl) (tw hw 63 rfl) (by decide) (lenOf pd___I rfl) #[.val (.ref a1), .unset, .unset, .unset, .unset, .unset] [] rfl 0 rfl (by decide) (by decide) (by decide) (by decide)
  obtain ⟨rfl, rfl⟩ := Q101
  refine st101 _ ?_
  show Go p.tables e below _ T101 (mkF m 4 #[.val (.ref a1), .unset, .unset, .unset, .unset, .unset] [(.int 3)])
  refine g_iconst B W101 (d_prog_12_method_2_4) (v := 1) (by decide) ?_
  refine g_isub B W101 (d_prog_12_method_2_5)  ?_
  rw [show (3 - 1 : Int32) = 2 by decide]
  refine g_istore_n B W101 (d_prog_12_method_2_6)  (l' := #[.val (.ref a1), .val (.int 2), .unset, .unset, .unset, .unset]) rfl ?_
  refine g_iload_n B W101 (d_prog_12_method_2_7) rfl ?_
  refine g_if_n B W101 (d_prog_12_method_2_8) (XT.i0_lt_f (by decide)) ?_
  show Go p.tables e below _ T101 (mkF m 11 #[.val (.ref a1), .val (.int 2), .unset, .unset, .unset, .unset] [])
  refine g_aload_n B W101 (d_prog_12_method_2_11) rfl rfl ?_
  refine g_iconst B W101 (d_prog_12_method_2_12) (v := 0) (by decide) ?_
  obtain ⟨T102, h102, v102, W102, Q102, st102⟩ := x_virtual B W101 (b := a1) [(.int 0)] (c_cat l Z a0 hw a1 3 ff 0 cz sf h0 Scs hcz Ssf rsf S1 (by omega)) E_a1 (d_prog_12_method_2_13) (tw hw 130 rfl) (tw hw 131 rfl) (tw hw 133 rfl) (tw hw 132 rfl) (tw hw 15 rfl) (tw hw 134 rfl) (by decide) (lenOf pd__I_C rfl) #[.val (.ref a1), .val (.int 2), .unset, .unset, .unset, .unset] [] rfl 0 rfl (by decide) (by decide) (by decide) (by decide)
  obtain ⟨rfl, rfl⟩ := Q102
  refine st102 _ ?_
  refine g_bipush B W102 (d_prog_12_method_2_16) (v := 47) (by decide) ?_
  refine g_icmp_n B W102 (d_prog_12_method_2_18) (XT.ii_ne_f e0) ?_
  show Go p.tables e below _ T102 (mkF m 21 #[.val (.ref a1), .val (.int 2), .unset, .unset, .unset, .unset] [])
  refine g_aload_n B W102 (d_prog_12_method_2_21) rfl rfl ?_
  refine g_iload_n B W102 (d_prog_12_method_2_22) rfl ?_
  obtain ⟨T103, h103, v103, W103, Q103, st103⟩ := x_virtual B W102 (b := a1) [(.int 2)] (c_cat l Z a0 hw a1 3 ff 2 cz sf h0 Scs hcz Ssf rsf S1 (by omega)) E_a1 (d_prog_12_method_2_23) (tw hw 130 rfl) (tw hw 131 rfl) (tw hw 133 rfl) (tw hw 132 rfl) (tw hw 15 rfl) (tw hw 134 rfl) (by decide) (lenOf pd__I_C rfl) #[.val (.ref a1), .val (.int 2), .unset, .unset, .unset, .unset] [] rfl 0 rfl (by decide) (by decide) (by decide) (by decide)
  obtain ⟨rfl, rfl⟩ := Q103
  refine st103 _ ?_
  refine g_bipush B W103 (d_prog_12_method_2_26) (v := 47) (by decide) ?_
  refine g_icmp_y B W103 (d_prog_12_method_2_28) (XT.ii_eq_t e2) (pc' := 33) (by decide) ?_
  show Go p.tables e below _ T103 (mkF m 33 #[.val (.ref a1), .val (.int 2), .unset, .unset, .unset, .unset] [])
  refine g_iconst B W103 (d_prog_12_method_2_33) (v := 1) (by decide) ?_
  refine g_istore_n B W103 (d_prog_12_method_2_34)  (l' := #[.val (.ref a1), .val (.int 2), .val (.int 1), .unset, .unset, .unset]) rfl ?_
  refine g_iconst B W103 (d_prog_12_method_2_35) (v := 1) (by decide) ?_
  refine g_istore_n B W103 (d_prog_12_method_2_36)  (l' := #[.val (.ref a1), .val (.int 2), .val (.int 1), .val (.int 1), .unset, .unset]) rfl ?_
  refine g_iload_n B W103 (d_prog_12_method_2_37) rfl ?_
  refine g_iload_n B W103 (d_prog_12_method_2_38) rfl ?_
  refine g_icmp_n B W103 (d_prog_12_method_2_39) (XT.ii_gt_f (by decide)) ?_
  show Go p.tables e below _ T103 (mkF m 42 #[.val (.ref a1), .val (.int 2), .val (.int 1), .val (.int 1), .unset, .unset] [])
  refine g_aload_n B W103 (d_prog_12_method_2_42) rfl rfl ?_
  refine g_iload_n B W103 (d_prog_12_method_2_43) rfl ?_
  obtain ⟨T104, h104, v104, W104, Q104, st104⟩ := x_virtual B W103 (b := a1) [(.int 1)] (c_cat l Z a0 hw a1 3 ff 1 cz sf h0 Scs hcz Ssf rsf S1 (by omega)) E_a1 (d_prog_12_method_2_44) (tw hw 130 rfl) (tw hw 131 rfl) (tw hw 133 rfl) (tw hw 132 rfl) (tw hw 15 rfl) (tw hw 134 rfl) (by decide) (lenOf pd__I_C rfl) #[.val (.ref a1), .val (.int 2), .val (.int 1), .val (.int 1), .unset, .unset] [] rfl 0 rfl (by decide) (by decide) (by decide) (by decide)
  obtain ⟨rfl, rfl⟩ := Q104
  refine st104 _ ?_
  refine g_istore B W104 (d_prog_12_method_2_47)  (l' := #[.val (.ref a1), .val (.int 2), .val (.int 1), .val (.int 1), .val (.int (ff 1)), .unset]) rfl ?_
  refine g_iload B W104 (d_prog_12_method_2_49) rfl ?_
  refine g_bipush B W104 (d_prog_12_method_2_51) (v := 47) (by decide) ?_
  refine g_icmp_y B W104 (d_prog_12_method_2_53) (XT.ii_ne_t (Sg.n47 e1)) (pc' := 83) (by decide) ?_
  show Go p.tables e below _ T104 (mkF m 83 #[.val (.ref a1), .val (.int 2), .val (.int 1), .val (.int 1), .val (.int (ff 1)), .unset] [])
  refine g_iload B W104 (d_prog_12_method_2_83) rfl ?_
  refine g_bipush B W104 (d_prog_12_method_2_85) (v := 97) (by decide) ?_
  by_cases hc105 : (ff 1) < 97
  · skip
    refine g_icmp_y B W104 (d_prog_12_method_2_87) (XT.ii_lt_t hc105) (pc' := 97) (by decide) ?_
    show Go p.tables e below _ T104 (mkF m 97 #[.val (.ref a1), .val (.int 2), .val (.int 1), .val (.int 1), .val (.int (ff 1)), .unset] [])
    refine g_iload B W104 (d_prog_12_method_2_97) rfl ?_
    refine g_bipush B W104 (d_prog_12_method_2_99) (v := 48) (by decide) ?_
    by_cases hc106 : (ff 1) < 48
    · skip
      refine g_icmp_y B W104 (d_prog_12_method_2_101) (XT.ii_lt_t hc106) (pc' := 111) (by decide) ?_
      show Go p.tables e below _ T104 (mkF m 111 #[.val (.ref a1), .val (.int 2), .val (.int 1), .val (.int 1), .val (.int (ff 1)), .unset] [])
      refine g_iload B W104 (d_prog_12_method_2_111) rfl ?_
      refine g_bipush B W104 (d_prog_12_method_2_113) (v := 45) (by decide) ?_
      by_cases hc107 : (ff 1) = 45
      · skip
        refine g_icmp_y B W104 (d_prog_12_method_2_115) (XT.ii_eq_t hc107) (pc' := 120) (by decide) ?_
        show Go p.tables e below _ T104 (mkF m 120 #[.val (.ref a1), .val (.int 2), .val (.int 1), .val (.int 1), .val (.int (ff 1)), .unset] [])
        refine g_iinc B W104 (d_prog_12_method_2_120) (v := 1) (l' := #[.val (.ref a1), .val (.int 2), .val (.int 1), .val (.int (1 + 1)), .val (.int (ff 1)), .unset]) (by decide) rfl rfl ?_
        rw [show (1 + 1 : Int32) = 2 by decide]
        refine g_goto B W104 (d_prog_12_method_2_123) (pc' := 37) (by decide) ?_
        show Go p.tables e below _ T104 (mkF m 37 #[.val (.ref a1), .val (.int 2), .val (.int 1), .val (.int 2), .val (.int (ff 1)), .unset] [])
        refine g_iload_n B W104 (d_prog_12_method_2_37) rfl ?_
        refine g_iload_n B W104 (d_prog_12_method_2_38) rfl ?_
        refine g_icmp_n B W104 (d_prog_12_method_2_39) (XT.ii_gt_f (by decide)) ?_
        show Go p.tables e below _ T104 (mkF m 42 #[.val (.ref a1), .val (.int 2), .val (.int 1), .val (.int 2), .val (.int (ff 1)), .unset] [])
        refine g_aload_n B W104 (d_prog_12_method_2_42) rfl rfl ?_
        refine g_iload_n B W104 (d_prog_12_method_2_43) rfl ?_
        obtain ⟨T108, h108, v108, W108, Q108, st108⟩ := x_virtual B W104 (b := a1) [(.int 2)] (c_cat l Z a0 hw a1 3 ff 2 cz sf h0 Scs hcz Ssf rsf S1 (by omega)) E_a1 (d_prog_12_method_2_44) (tw hw 130 rfl) (tw hw 131 rfl) (tw hw 133 rfl) (tw hw 132 rfl) (tw hw 15 rfl) (tw hw 134 rfl) (by decide) (lenOf pd__I_C rfl) #[.val (.ref a1), .val (.int 2), .val (.int 1), .val (.int 2), .val (.int (ff 1)), .unset] [] rfl 0 rfl (by decide) (by decide) (by decide) (by decide)
        obtain ⟨rfl, rfl⟩ := Q108
        refine st108 _ ?_
        refine g_istore B W108 (d_prog_12_method_2_47)  (l' := #[.val (.ref a1), .val (.int 2), .val (.int 1), .val (.int 2), .val (.int (ff 2)), .unset]) rfl ?_
        refine g_iload B W108 (d_prog_12_method_2_49) rfl ?_
        refine g_bipush B W108 (d_prog_12_method_2_51) (v := 47) (by decide) ?_
        refine g_icmp_n B W108 (d_prog_12_method_2_53) (XT.ii_ne_f e2) ?_
        show Go p.tables e below _ T108 (mkF m 56 #[.val (.ref a1), .val (.int 2), .val (.int 1), .val (.int 2), .val (.int (ff 2)), .unset] [])
        refine g_iload_n B W108 (d_prog_12_method_2_56) rfl ?_
        refine g_iload_n B W108 (d_prog_12_method_2_57) rfl ?_
        refine g_isub B W108 (d_prog_12_method_2_58)  ?_
        rw [show (2 - 1 : Int32) = 1 by decide]
        refine g_istore B W108 (d_prog_12_method_2_59)  (l' := #[.val (.ref a1), .val (.int 2), .val (.int 1), .val (.int 2), .val (.int (ff 2)), .val (.int 1)]) rfl ?_
        refine g_iload B W108 (d_prog_12_method_2_61) rfl ?_
        refine g_if_n B W108 (d_prog_12_method_2_63) (XT.i0_eq_f (by decide)) ?_
        show Go p.tables e below _ T108 (mkF m 66 #[.val (.ref a1), .val (.int 2), .val (.int 1), .val (.int 2), .val (.int (ff 2)), .val (.int 1)] [])
        refine g_iload B W108 (d_prog_12_method_2_66) rfl ?_
        refine g_sipush B W108 (d_prog_12_method_2_68) (v := 255) (by decide) ?_
        refine g_icmp_y B W108 (d_prog_12_method_2_71) (XT.ii_le_t (by decide)) (pc' := 76) (by decide) ?_
        show Go p.tables e below _ T108 (mkF m 76 #[.val (.ref a1), .val (.int 2), .val (.int 1), .val (.int 2), .val (.int (ff 2)), .val (.int 1)] [])
        refine g_iload_n B W108 (d_prog_12_method_2_76) rfl ?_
        refine g_iconst B W108 (d_prog_12_method_2_77) (v := 1) (by decide) ?_
        refine g_iadd B W108 (d_prog_12_method_2_78)  ?_
        rw [show (2 + 1 : Int32) = 3 by decide]
        refine g_istore_n B W108 (d_prog_12_method_2_79)  (l' := #[.val (.ref a1), .val (.int 2), .val (.int 3), .val (.int 2), .val (.int (ff 2)), .val (.int 1)]) rfl ?_
        refine g_goto B W108 (d_prog_12_method_2_80) (pc' := 120) (by decide) ?_
        show Go p.tables e below _ T108 (mkF m 120 #[.val (.ref a1), .val (.int 2), .val (.int 3), .val (.int 2), .val (.int (ff 2)), .val (.int 1)] [])
        refine g_iinc B W108 (d_prog_12_method_2_120) (v := 1) (l' := #[.val (.ref a1), .val (.int 2), .val (.int 3), .val (.int (2 + 1)), .val (.int (ff 2)), .val (.int 1)]) (by decide) rfl rfl ?_
        rw [show (2 + 1 : Int32) = 3 by decide]
        refine g_goto B W108 (d_prog_12_method_2_123) (pc' := 37) (by decide) ?_
        show Go p.tables e below _ T108 (mkF m 37 #[.val (.ref a1), .val (.int 2), .val (.int 3), .val (.int 3), .val (.int (ff 2)), .val (.int 1)] [])
        refine g_iload_n B W108 (d_prog_12_method_2_37) rfl ?_
        refine g_iload_n B W108 (d_prog_12_method_2_38) rfl ?_
        refine g_icmp_y B W108 (d_prog_12_method_2_39) (XT.ii_gt_t (by decide)) (pc' := 126) (by decide) ?_
        show Go p.tables e below _ T108 (mkF m 126 #[.val (.ref a1), .val (.int 2), .val (.int 3), .val (.int 3), .val (.int (ff 2)), .val (.int 1)] [])
        refine g_iconst B W108 (d_prog_12_method_2_126) (v := 1) (by decide) ?_
        exact r_n B W108 (t := .boolean) rfl (by simp) (d_prog_12_method_2_127) (by decide) (by decide) ⟨by rw [nar_b1], rfl⟩
      · skip
        refine g_icmp_n B W104 (d_prog_12_method_2_115) (XT.ii_eq_f hc107) ?_
        show Go p.tables e below _ T104 (mkF m 118 #[.val (.ref a1), .val (.int 2), .val (.int 1), .val (.int 1), .val (.int (ff 1)), .unset] [])
        exfalso; have q := e1; unfold Sg Ex at q
        simp only [Int32.lt_iff_toInt_lt, ← Int32.toInt_inj, Int32.reduceToInt] at hc105 hc106 hc107
        omega
    · skip
      refine g_icmp_n B W104 (d_prog_12_method_2_101) (XT.ii_lt_f hc106) ?_
      show Go p.tables e below _ T104 (mkF m 104 #[.val (.ref a1), .val (.int 2), .val (.int 1), .val (.int 1), .val (.int (ff 1)), .unset] [])
      refine g_iload B W104 (d_prog_12_method_2_104) rfl ?_
      refine g_bipush B W104 (d_prog_12_method_2_106) (v := 57) (by decide) ?_
      by_cases hc109 : 57 < (ff 1)
      · skip
        refine g_icmp_n B W104 (d_prog_12_method_2_108) (XT.ii_le_f hc109) ?_
        show Go p.tables e below _ T104 (mkF m 111 #[.val (.ref a1), .val (.int 2), .val (.int 1), .val (.int 1), .val (.int (ff 1)), .unset] [])
        refine g_iload B W104 (d_prog_12_method_2_111) rfl ?_
        refine g_bipush B W104 (d_prog_12_method_2_113) (v := 45) (by decide) ?_
        by_cases hc110 : (ff 1) = 45
        · skip
          refine g_icmp_y B W104 (d_prog_12_method_2_115) (XT.ii_eq_t hc110) (pc' := 120) (by decide) ?_
          show Go p.tables e below _ T104 (mkF m 120 #[.val (.ref a1), .val (.int 2), .val (.int 1), .val (.int 1), .val (.int (ff 1)), .unset] [])
          refine g_iinc B W104 (d_prog_12_method_2_120) (v := 1) (l' := #[.val (.ref a1), .val (.int 2), .val (.int 1), .val (.int (1 + 1)), .val (.int (ff 1)), .unset]) (by decide) rfl rfl ?_
          rw [show (1 + 1 : Int32) = 2 by decide]
          refine g_goto B W104 (d_prog_12_method_2_123) (pc' := 37) (by decide) ?_
          show Go p.tables e below _ T104 (mkF m 37 #[.val (.ref a1), .val (.int 2), .val (.int 1), .val (.int 2), .val (.int (ff 1)), .unset] [])
          refine g_iload_n B W104 (d_prog_12_method_2_37) rfl ?_
          refine g_iload_n B W104 (d_prog_12_method_2_38) rfl ?_
          refine g_icmp_n B W104 (d_prog_12_method_2_39) (XT.ii_gt_f (by decide)) ?_
          show Go p.tables e below _ T104 (mkF m 42 #[.val (.ref a1), .val (.int 2), .val (.int 1), .val (.int 2), .val (.int (ff 1)), .unset] [])
          refine g_aload_n B W104 (d_prog_12_method_2_42) rfl rfl ?_
          refine g_iload_n B W104 (d_prog_12_method_2_43) rfl ?_
          obtain ⟨T111, h111, v111, W111, Q111, st111⟩ := x_virtual B W104 (b := a1) [(.int 2)] (c_cat l Z a0 hw a1 3 ff 2 cz sf h0 Scs hcz Ssf rsf S1 (by omega)) E_a1 (d_prog_12_method_2_44) (tw hw 130 rfl) (tw hw 131 rfl) (tw hw 133 rfl) (tw hw 132 rfl) (tw hw 15 rfl) (tw hw 134 rfl) (by decide) (lenOf pd__I_C rfl) #[.val (.ref a1), .val (.int 2), .val (.int 1), .val (.int 2), .val (.int (ff 1)), .unset] [] rfl 0 rfl (by decide) (by decide) (by decide) (by decide)
          obtain ⟨rfl, rfl⟩ := Q111
          refine st111 _ ?_
          refine g_istore B W111 (d_prog_12_method_2_47)  (l' := #[.val (.ref a1), .val (.int 2), .val (.int 1), .val (.int 2), .val (.int (ff 2)), .unset]) rfl ?_
          refine g_iload B W111 (d_prog_12_method_2_49) rfl ?_
          refine g_bipush B W111 (d_prog_12_method_2_51) (v := 47) (by decide) ?_
          refine g_icmp_n B W111 (d_prog_12_method_2_53) (XT.ii_ne_f e2) ?_
          show Go p.tables e below _ T111 (mkF m 56 #[.val (.ref a1), .val (.int 2), .val (.int 1), .val (.int 2), .val (.int (ff 2)), .unset] [])
          refine g_iload_n B W111 (d_prog_12_method_2_56) rfl ?_
          refine g_iload_n B W111 (d_prog_12_method_2_57) rfl ?_
          refine g_isub B W111 (d_prog_12_method_2_58)  ?_
          rw [show (2 - 1 : Int32) = 1 by decide]
          refine g_istore B W111 (d_prog_12_method_2_59)  (l' := #[.val (.ref a1), .val (.int 2), .val (.int 1), .val (.int 2), .val (.int (ff 2)), .val (.int 1)]) rfl ?_
          refine g_iload B W111 (d_prog_12_method_2_61) rfl ?_
          refine g_if_n B W111 (d_prog_12_method_2_63) (XT.i0_eq_f (by decide)) ?_
          show Go p.tables e below _ T111 (mkF m 66 #[.val (.ref a1), .val (.int 2), .val (.int 1), .val (.int 2), .val (.int (ff 2)), .val (.int 1)] [])
          refine g_iload B W111 (d_prog_12_method_2_66) rfl ?_
          refine g_sipush B W111 (d_prog_12_method_2_68) (v := 255) (by decide) ?_
          refine g_icmp_y B W111 (d_prog_12_method_2_71) (XT.ii_le_t (by decide)) (pc' := 76) (by decide) ?_
          show Go p.tables e below _ T111 (mkF m 76 #[.val (.ref a1), .val (.int 2), .val (.int 1), .val (.int 2), .val (.int (ff 2)), .val (.int 1)] [])
          refine g_iload_n B W111 (d_prog_12_method_2_76) rfl ?_
          refine g_iconst B W111 (d_prog_12_method_2_77) (v := 1) (by decide) ?_
          refine g_iadd B W111 (d_prog_12_method_2_78)  ?_
          rw [show (2 + 1 : Int32) = 3 by decide]
          refine g_istore_n B W111 (d_prog_12_method_2_79)  (l' := #[.val (.ref a1), .val (.int 2), .val (.int 3), .val (.int 2), .val (.int (ff 2)), .val (.int 1)]) rfl ?_
          refine g_goto B W111 (d_prog_12_method_2_80) (pc' := 120) (by decide) ?_
          show Go p.tables e below _ T111 (mkF m 120 #[.val (.ref a1), .val (.int 2), .val (.int 3), .val (.int 2), .val (.int (ff 2)), .val (.int 1)] [])
          refine g_iinc B W111 (d_prog_12_method_2_120) (v := 1) (l' := #[.val (.ref a1), .val (.int 2), .val (.int 3), .val (.int (2 + 1)), .val (.int (ff 2)), .val (.int 1)]) (by decide) rfl rfl ?_
          rw [show (2 + 1 : Int32) = 3 by decide]
          refine g_goto B W111 (d_prog_12_method_2_123) (pc' := 37) (by decide) ?_
          show Go p.tables e below _ T111 (mkF m 37 #[.val (.ref a1), .val (.int 2), .val (.int 3), .val (.int 3), .val (.int (ff 2)), .val (.int 1)] [])
          refine g_iload_n B W111 (d_prog_12_method_2_37) rfl ?_
          refine g_iload_n B W111 (d_prog_12_method_2_38) rfl ?_
          refine g_icmp_y B W111 (d_prog_12_method_2_39) (XT.ii_gt_t (by decide)) (pc' := 126) (by decide) ?_
          show Go p.tables e below _ T111 (mkF m 126 #[.val (.ref a1), .val (.int 2), .val (.int 3), .val (.int 3), .val (.int (ff 2)), .val (.int 1)] [])
          refine g_iconst B W111 (d_prog_12_method_2_126) (v := 1) (by decide) ?_
          exact r_n B W111 (t := .boolean) rfl (by simp) (d_prog_12_method_2_127) (by decide) (by decide) ⟨by rw [nar_b1], rfl⟩
        · skip
          refine g_icmp_n B W104 (d_prog_12_method_2_115) (XT.ii_eq_f hc110) ?_
          show Go p.tables e below _ T104 (mkF m 118 #[.val (.ref a1), .val (.int 2), .val (.int 1), .val (.int 1), .val (.int (ff 1)), .unset] [])
          exfalso; have q := e1; unfold Sg Ex at q
          simp only [Int32.lt_iff_toInt_lt, ← Int32.toInt_inj, Int32.reduceToInt] at hc105 hc106 hc109 hc110
          omega
      · skip
        refine g_icmp_y B W104 (d_prog_12_method_2_108) (XT.ii_le_t hc109) (pc' := 120) (by decide) ?_
        show Go p.tables e below _ T104 (mkF m 120 #[.val (.ref a1), .val (.int 2), .val (.int 1), .val (.int 1), .val (.int (ff 1)), .unset] [])
        refine g_iinc B W104 (d_prog_12_method_2_120) (v := 1) (l' := #[.val (.ref a1), .val (.int 2), .val (.int 1), .val (.int (1 + 1)), .val (.int (ff 1)), .unset]) (by decide) rfl rfl ?_
        rw [show (1 + 1 : Int32) = 2 by decide]
        refine g_goto B W104 (d_prog_12_method_2_123) (pc' := 37) (by decide) ?_
        show Go p.tables e below _ T104 (mkF m 37 #[.val (.ref a1), .val (.int 2), .val (.int 1), .val (.int 2), .val (.int (ff 1)), .unset] [])
        refine g_iload_n B W104 (d_prog_12_method_2_37) rfl ?_
        refine g_iload_n B W104 (d_prog_12_method_2_38) rfl ?_
        refine g_icmp_n B W104 (d_prog_12_method_2_39) (XT.ii_gt_f (by decide)) ?_
        show Go p.tables e below _ T104 (mkF m 42 #[.val (.ref a1), .val (.int 2), .val (.int 1), .val (.int 2), .val (.int (ff 1)), .unset] [])
        refine g_aload_n B W104 (d_prog_12_method_2_42) rfl rfl ?_
        refine g_iload_n B W104 (d_prog_12_method_2_43) rfl ?_
        obtain ⟨T112, h112, v112, W112, Q112, st112⟩ := x_virtual B W104 (b := a1) [(.int 2)] (c_cat l Z a0 hw a1 3 ff 2 cz sf h0 Scs hcz Ssf rsf S1 (by omega)) E_a1 (d_prog_12_method_2_44) (tw hw 130 rfl) (tw hw 131 rfl) (tw hw 133 rfl) (tw hw 132 rfl) (tw hw 15 rfl) (tw hw 134 rfl) (by decide) (lenOf pd__I_C rfl) #[.val (.ref a1), .val (.int 2), .val (.int 1), .val (.int 2), .val (.int (ff 1)), .unset] [] rfl 0 rfl (by decide) (by decide) (by decide) (by decide)
        obtain ⟨rfl, rfl⟩ := Q112
        refine st112 _ ?_
        refine g_istore B W112 (d_prog_12_method_2_47)  (l' := #[.val (.ref a1), .val (.int 2), .val (.int 1), .val (.int 2), .val (.int (ff 2)), .unset]) rfl ?_
        refine g_iload B W112 (d_prog_12_method_2_49) rfl ?_
        refine g_bipush B W112 (d_prog_12_method_2_51) (v := 47) (by decide) ?_
        refine g_icmp_n B W112 (d_prog_12_method_2_53) (XT.ii_ne_f e2) ?_
        show Go p.tables e below _ T112 (mkF m 56 #[.val (.ref a1), .val (.int 2), .val (.int 1), .val (.int 2), .val (.int (ff 2)), .unset] [])
        refine g_iload_n B W112 (d_prog_12_method_2_56) rfl ?_
        refine g_iload_n B W112 (d_prog_12_method_2_57) rfl ?_
        refine g_isub B W112 (d_prog_12_method_2_58)  ?_
        rw [show (2 - 1 : Int32) = 1 by decide]
        refine g_istore B W112 (d_prog_12_method_2_59)  (l' := #[.val (.ref a1), .val (.int 2), .val (.int 1), .val (.int 2), .val (.int (ff 2)), .val (.int 1)]) rfl ?_
        refine g_iload B W112 (d_prog_12_method_2_61) rfl ?_
        refine g_if_n B W112 (d_prog_12_method_2_63) (XT.i0_eq_f (by decide)) ?_
        show Go p.tables e below _ T112 (mkF m 66 #[.val (.ref a1), .val (.int 2), .val (.int 1), .val (.int 2), .val (.int (ff 2)), .val (.int 1)] [])
        refine g_iload B W112 (d_prog_12_method_2_66) rfl ?_
        refine g_sipush B W112 (d_prog_12_method_2_68) (v := 255) (by decide) ?_
        refine g_icmp_y B W112 (d_prog_12_method_2_71) (XT.ii_le_t (by decide)) (pc' := 76) (by decide) ?_
        show Go p.tables e below _ T112 (mkF m 76 #[.val (.ref a1), .val (.int 2), .val (.int 1), .val (.int 2), .val (.int (ff 2)), .val (.int 1)] [])
        refine g_iload_n B W112 (d_prog_12_method_2_76) rfl ?_
        refine g_iconst B W112 (d_prog_12_method_2_77) (v := 1) (by decide) ?_
        refine g_iadd B W112 (d_prog_12_method_2_78)  ?_
        rw [show (2 + 1 : Int32) = 3 by decide]
        refine g_istore_n B W112 (d_prog_12_method_2_79)  (l' := #[.val (.ref a1), .val (.int 2), .val (.int 3), .val (.int 2), .val (.int (ff 2)), .val (.int 1)]) rfl ?_
        refine g_goto B W112 (d_prog_12_method_2_80) (pc' := 120) (by decide) ?_
        show Go p.tables e below _ T112 (mkF m 120 #[.val (.ref a1), .val (.int 2), .val (.int 3), .val (.int 2), .val (.int (ff 2)), .val (.int 1)] [])
        refine g_iinc B W112 (d_prog_12_method_2_120) (v := 1) (l' := #[.val (.ref a1), .val (.int 2), .val (.int 3), .val (.int (2 + 1)), .val (.int (ff 2)), .val (.int 1)]) (by decide) rfl rfl ?_
        rw [show (2 + 1 : Int32) = 3 by decide]
        refine g_goto B W112 (d_prog_12_method_2_123) (pc' := 37) (by decide) ?_
        show Go p.tables e below _ T112 (mkF m 37 #[.val (.ref a1), .val (.int 2), .val (.int 3), .val (.int 3), .val (.int (ff 2)), .val (.int 1)] [])
        refine g_iload_n B W112 (d_prog_12_method_2_37) rfl ?_
        refine g_iload_n B W112 (d_prog_12_method_2_38) rfl ?_
        refine g_icmp_y B W112 (d_prog_12_method_2_39) (XT.ii_gt_t (by decide)) (pc' := 126) (by decide) ?_
        show Go p.tables e below _ T112 (mkF m 126 #[.val (.ref a1), .val (.int 2), .val (.int 3), .val (.int 3), .val (.int (ff 2)), .val (.int 1)] [])
        refine g_iconst B W112 (d_prog_12_method_2_126) (v := 1) (by decide) ?_
        exact r_n B W112 (t := .boolean) rfl (by simp) (d_prog_12_method_2_127) (by decide) (by decide) ⟨by rw [nar_b1], rfl⟩
  · skip
    refine g_icmp_n B W104 (d_prog_12_method_2_87) (XT.ii_lt_f hc105) ?_
    show Go p.tables e below _ T104 (mkF m 90 #[.val (.ref a1), .val (.int 2), .val (.int 1), .val (.int 1), .val (.int (ff 1)), .unset] [])
    refine g_iload B W104 (d_prog_12_method_2_90) rfl ?_
    refine g_bipush B W104 (d_prog_12_method_2_92) (v := 122) (by decide) ?_
    by_cases hc113 : 122 < (ff 1)
    · skip
      refine g_icmp_n B W104 (d_prog_12_method_2_94) (XT.ii_le_f hc113) ?_
      show Go p.tables e below _ T104 (mkF m 97 #[.val (.ref a1), .val (.int 2), .val (.int 1), .val (.int 1), .val (.int (ff 1)), .unset] [])
      refine g_iload B W104 (d_prog_12_method_2_97) rfl ?_
      refine g_bipush B W104 (d_prog_12_method_2_99) (v := 48) (by decide) ?_
      by_cases hc114 : (ff 1) < 48
      · skip
        refine g_icmp_y B W104 (d_prog_12_method_2_101) (XT.ii_lt_t hc114) (pc' := 111) (by decide) ?_
        show Go p.tables e below _ T104 (mkF m 111 #[.val (.ref a1), .val (.int 2), .val (.int 1), .val (.int 1), .val (.int (ff 1)), .unset] [])
        refine g_iload B W104 (d_prog_12_method_2_111) rfl ?_
        refine g_bipush B W104 (d_prog_12_method_2_113) (v := 45) (by decide) ?_
        by_cases hc115 : (ff 1) = 45
        · skip
          refine g_icmp_y B W104 (d_prog_12_method_2_115) (XT.ii_eq_t hc115) (pc' := 120) (by decide) ?_
          show Go p.tables e below _ T104 (mkF m 120 #[.val (.ref a1), .val (.int 2), .val (.int 1), .val (.int 1), .val (.int (ff 1)), .unset] [])
          refine g_iinc B W104 (d_prog_12_method_2_120) (v := 1) (l' := #[.val (.ref a1), .val (.int 2), .val (.int 1), .val (.int (1 + 1)), .val (.int (ff 1)), .unset]) (by decide) rfl rfl ?_
          rw [show (1 + 1 : Int32) = 2 by decide]
          refine g_goto B W104 (d_prog_12_method_2_123) (pc' := 37) (by decide) ?_
          show Go p.tables e below _ T104 (mkF m 37 #[.val (.ref a1), .val (.int 2), .val (.int 1), .val (.int 2), .val (.int (ff 1)), .unset] [])
          refine g_iload_n B W104 (d_prog_12_method_2_37) rfl ?_
          refine g_iload_n B W104 (d_prog_12_method_2_38) rfl ?_
          refine g_icmp_n B W104 (d_prog_12_method_2_39) (XT.ii_gt_f (by decide)) ?_
          show Go p.tables e below _ T104 (mkF m 42 #[.val (.ref a1), .val (.int 2), .val (.int 1), .val (.int 2), .val (.int (ff 1)), .unset] [])
          refine g_aload_n B W104 (d_prog_12_method_2_42) rfl rfl ?_
          refine g_iload_n B W104 (d_prog_12_method_2_43) rfl ?_
          obtain ⟨T116, h116, v116, W116, Q116, st116⟩ := x_virtual B W104 (b := a1) [(.int 2)] (c_cat l Z a0 hw a1 3 ff 2 cz sf h0 Scs hcz Ssf rsf S1 (by omega)) E_a1 (d_prog_12_method_2_44) (tw hw 130 rfl) (tw hw 131 rfl) (tw hw 133 rfl) (tw hw 132 rfl) (tw hw 15 rfl) (tw hw 134 rfl) (by decide) (lenOf pd__I_C rfl) #[.val (.ref a1), .val (.int 2), .val (.int 1), .val (.int 2), .val (.int (ff 1)), .unset] [] rfl 0 rfl (by decide) (by decide) (by decide) (by decide)
          obtain ⟨rfl, rfl⟩ := Q116
          refine st116 _ ?_
          refine g_istore B W116 (d_prog_12_method_2_47)  (l' := #[.val (.ref a1), .val (.int 2), .val (.int 1), .val (.int 2), .val (.int (ff 2)), .unset]) rfl ?_
          refine g_iload B W116 (d_prog_12_method_2_49) rfl ?_
          refine g_bipush B W116 (d_prog_12_method_2_51) (v := 47) (by decide) ?_
          refine g_icmp_n B W116 (d_prog_12_method_2_53) (XT.ii_ne_f e2) ?_
          show Go p.tables e below _ T116 (mkF m 56 #[.val (.ref a1), .val (.int 2), .val (.int 1), .val (.int 2), .val (.int (ff 2)), .unset] [])
          refine g_iload_n B W116 (d_prog_12_method_2_56) rfl ?_
          refine g_iload_n B W116 (d_prog_12_method_2_57) rfl ?_
          refine g_isub B W116 (d_prog_12_method_2_58)  ?_
          rw [show (2 - 1 : Int32) = 1 by decide]
          refine g_istore B W116 (d_prog_12_method_2_59)  (l' := #[.val (.ref a1), .val (.int 2), .val (.int 1), .val (.int 2), .val (.int (ff 2)), .val (.int 1)]) rfl ?_
          refine g_iload B W116 (d_prog_12_method_2_61) rfl ?_
          refine g_if_n B W116 (d_prog_12_method_2_63) (XT.i0_eq_f (by decide)) ?_
          show Go p.tables e below _ T116 (mkF m 66 #[.val (.ref a1), .val (.int 2), .val (.int 1), .val (.int 2), .val (.int (ff 2)), .val (.int 1)] [])
          refine g_iload B W116 (d_prog_12_method_2_66) rfl ?_
          refine g_sipush B W116 (d_prog_12_method_2_68) (v := 255) (by decide) ?_
          refine g_icmp_y B W116 (d_prog_12_method_2_71) (XT.ii_le_t (by decide)) (pc' := 76) (by decide) ?_
          show Go p.tables e below _ T116 (mkF m 76 #[.val (.ref a1), .val (.int 2), .val (.int 1), .val (.int 2), .val (.int (ff 2)), .val (.int 1)] [])
          refine g_iload_n B W116 (d_prog_12_method_2_76) rfl ?_
          refine g_iconst B W116 (d_prog_12_method_2_77) (v := 1) (by decide) ?_
          refine g_iadd B W116 (d_prog_12_method_2_78)  ?_
          rw [show (2 + 1 : Int32) = 3 by decide]
          refine g_istore_n B W116 (d_prog_12_method_2_79)  (l' := #[.val (.ref a1), .val (.int 2), .val (.int 3), .val (.int 2), .val (.int (ff 2)), .val (.int 1)]) rfl ?_
          refine g_goto B W116 (d_prog_12_method_2_80) (pc' := 120) (by decide) ?_
          show Go p.tables e below _ T116 (mkF m 120 #[.val (.ref a1), .val (.int 2), .val (.int 3), .val (.int 2), .val (.int (ff 2)), .val (.int 1)] [])
          refine g_iinc B W116 (d_prog_12_method_2_120) (v := 1) (l' := #[.val (.ref a1), .val (.int 2), .val (.int 3), .val (.int (2 + 1)), .val (.int (ff 2)), .val (.int 1)]) (by decide) rfl rfl ?_
          rw [show (2 + 1 : Int32) = 3 by decide]
          refine g_goto B W116 (d_prog_12_method_2_123) (pc' := 37) (by decide) ?_
          show Go p.tables e below _ T116 (mkF m 37 #[.val (.ref a1), .val (.int 2), .val (.int 3), .val (.int 3), .val (.int (ff 2)), .val (.int 1)] [])
          refine g_iload_n B W116 (d_prog_12_method_2_37) rfl ?_
          refine g_iload_n B W116 (d_prog_12_method_2_38) rfl ?_
          refine g_icmp_y B W116 (d_prog_12_method_2_39) (XT.ii_gt_t (by decide)) (pc' := 126) (by decide) ?_
          show Go p.tables e below _ T116 (mkF m 126 #[.val (.ref a1), .val (.int 2), .val (.int 3), .val (.int 3), .val (.int (ff 2)), .val (.int 1)] [])
          refine g_iconst B W116 (d_prog_12_method_2_126) (v := 1) (by decide) ?_
          exact r_n B W116 (t := .boolean) rfl (by simp) (d_prog_12_method_2_127) (by decide) (by decide) ⟨by rw [nar_b1], rfl⟩
        · skip
          refine g_icmp_n B W104 (d_prog_12_method_2_115) (XT.ii_eq_f hc115) ?_
          show Go p.tables e below _ T104 (mkF m 118 #[.val (.ref a1), .val (.int 2), .val (.int 1), .val (.int 1), .val (.int (ff 1)), .unset] [])
          exfalso; have q := e1; unfold Sg Ex at q
          simp only [Int32.lt_iff_toInt_lt, ← Int32.toInt_inj, Int32.reduceToInt] at hc105 hc113 hc114 hc115
          omega
      · skip
        refine g_icmp_n B W104 (d_prog_12_method_2_101) (XT.ii_lt_f hc114) ?_
        show Go p.tables e below _ T104 (mkF m 104 #[.val (.ref a1), .val (.int 2), .val (.int 1), .val (.int 1), .val (.int (ff 1)), .unset] [])
        refine g_iload B W104 (d_prog_12_method_2_104) rfl ?_
        refine g_bipush B W104 (d_prog_12_method_2_106) (v := 57) (by decide) ?_
        by_cases hc117 : 57 < (ff 1)
        · skip
          refine g_icmp_n B W104 (d_prog_12_method_2_108) (XT.ii_le_f hc117) ?_
          show Go p.tables e below _ T104 (mkF m 111 #[.val (.ref a1), .val (.int 2), .val (.int 1), .val (.int 1), .val (.int (ff 1)), .unset] [])
          refine g_iload B W104 (d_prog_12_method_2_111) rfl ?_
          refine g_bipush B W104 (d_prog_12_method_2_113) (v := 45) (by decide) ?_
          by_cases hc118 : (ff 1) = 45
          · skip
            refine g_icmp_y B W104 (d_prog_12_method_2_115) (XT.ii_eq_t hc118) (pc' := 120) (by decide) ?_
            show Go p.tables e below _ T104 (mkF m 120 #[.val (.ref a1), .val (.int 2), .val (.int 1), .val (.int 1), .val (.int (ff 1)), .unset] [])
            refine g_iinc B W104 (d_prog_12_method_2_120) (v := 1) (l' := #[.val (.ref a1), .val (.int 2), .val (.int 1), .val (.int (1 + 1)), .val (.int (ff 1)), .unset]) (by decide) rfl rfl ?_
            rw [show (1 + 1 : Int32) = 2 by decide]
            refine g_goto B W104 (d_prog_12_method_2_123) (pc' := 37) (by decide) ?_
            show Go p.tables e below _ T104 (mkF m 37 #[.val (.ref a1), .val (.int 2), .val (.int 1), .val (.int 2), .val (.int (ff 1)), .unset] [])
            refine g_iload_n B W104 (d_prog_12_method_2_37) rfl ?_
            refine g_iload_n B W104 (d_prog_12_method_2_38) rfl ?_
            refine g_icmp_n B W104 (d_prog_12_method_2_39) (XT.ii_gt_f (by decide)) ?_
            show Go p.tables e below _ T104 (mkF m 42 #[.val (.ref a1), .val (.int 2), .val (.int 1), .val (.int 2), .val (.int (ff 1)), .unset] [])
            refine g_aload_n B W104 (d_prog_12_method_2_42) rfl rfl ?_
            refine g_iload_n B W104 (d_prog_12_method_2_43) rfl ?_
            obtain ⟨T119, h119, v119, W119, Q119, st119⟩ := x_virtual B W104 (b := a1) [(.int 2)] (c_cat l Z a0 hw a1 3 ff 2 cz sf h0 Scs hcz Ssf rsf S1 (by omega)) E_a1 (d_prog_12_method_2_44) (tw hw 130 rfl) (tw hw 131 rfl) (tw hw 133 rfl) (tw hw 132 rfl) (tw hw 15 rfl) (tw hw 134 rfl) (by decide) (lenOf pd__I_C rfl) #[.val (.ref a1), .val (.int 2), .val (.int 1), .val (.int 2), .val (.int (ff 1)), .unset] [] rfl 0 rfl (by decide) (by decide) (by decide) (by decide)
            obtain ⟨rfl, rfl⟩ := Q119
            refine st119 _ ?_
            refine g_istore B W119 (d_prog_12_method_2_47)  (l' := #[.val (.ref a1), .val (.int 2), .val (.int 1), .val (.int 2), .val (.int (ff 2)), .unset]) rfl ?_
            refine g_iload B W119 (d_prog_12_method_2_49) rfl ?_
            refine g_bipush B W119 (d_prog_12_method_2_51) (v := 47) (by decide) ?_
            refine g_icmp_n B W119 (d_prog_12_method_2_53) (XT.ii_ne_f e2) ?_
            show Go p.tables e below _ T119 (mkF m 56 #[.val (.ref a1), .val (.int 2), .val (.int 1), .val (.int 2), .val (.int (ff 2)), .unset] [])
            refine g_iload_n B W119 (d_prog_12_method_2_56) rfl ?_
            refine g_iload_n B W119 (d_prog_12_method_2_57) rfl ?_
            refine g_isub B W119 (d_prog_12_method_2_58)  ?_
            rw [show (2 - 1 : Int32) = 1 by decide]
            refine g_istore B W119 (d_prog_12_method_2_59)  (l' := #[.val (.ref a1), .val (.int 2), .val (.int 1), .val (.int 2), .val (.int (ff 2)), .val (.int 1)]) rfl ?_
            refine g_iload B W119 (d_prog_12_method_2_61) rfl ?_
            refine g_if_n B W119 (d_prog_12_method_2_63) (XT.i0_eq_f (by decide)) ?_
            show Go p.tables e below _ T119 (mkF m 66 #[.val (.ref a1), .val (.int 2), .val (.int 1), .val (.int 2), .val (.int (ff 2)), .val (.int 1)] [])
            refine g_iload B W119 (d_prog_12_method_2_66) rfl ?_
            refine g_sipush B W119 (d_prog_12_method_2_68) (v := 255) (by decide) ?_
            refine g_icmp_y B W119 (d_prog_12_method_2_71) (XT.ii_le_t (by decide)) (pc' := 76) (by decide) ?_
            show Go p.tables e below _ T119 (mkF m 76 #[.val (.ref a1), .val (.int 2), .val (.int 1), .val (.int 2), .val (.int (ff 2)), .val (.int 1)] [])
            refine g_iload_n B W119 (d_prog_12_method_2_76) rfl ?_
            refine g_iconst B W119 (d_prog_12_method_2_77) (v := 1) (by decide) ?_
            refine g_iadd B W119 (d_prog_12_method_2_78)  ?_
            rw [show (2 + 1 : Int32) = 3 by decide]
            refine g_istore_n B W119 (d_prog_12_method_2_79)  (l' := #[.val (.ref a1), .val (.int 2), .val (.int 3), .val (.int 2), .val (.int (ff 2)), .val (.int 1)]) rfl ?_
            refine g_goto B W119 (d_prog_12_method_2_80) (pc' := 120) (by decide) ?_
            show Go p.tables e below _ T119 (mkF m 120 #[.val (.ref a1), .val (.int 2), .val (.int 3), .val (.int 2), .val (.int (ff 2)), .val (.int 1)] [])
            refine g_iinc B W119 (d_prog_12_method_2_120) (v := 1) (l' := #[.val (.ref a1), .val (.int 2), .val (.int 3), .val (.int (2 + 1)), .val (.int (ff 2)), .val (.int 1)]) (by decide) rfl rfl ?_
            rw [show (2 + 1 : Int32) = 3 by decide]
            refine g_goto B W119 (d_prog_12_method_2_123) (pc' := 37) (by decide) ?_
            show Go p.tables e below _ T119 (mkF m 37 #[.val (.ref a1), .val (.int 2), .val (.int 3), .val (.int 3), .val (.int (ff 2)), .val (.int 1)] [])
            refine g_iload_n B W119 (d_prog_12_method_2_37) rfl ?_
            refine g_iload_n B W119 (d_prog_12_method_2_38) rfl ?_
            refine g_icmp_y B W119 (d_prog_12_method_2_39) (XT.ii_gt_t (by decide)) (pc' := 126) (by decide) ?_
            show Go p.tables e below _ T119 (mkF m 126 #[.val (.ref a1), .val (.int 2), .val (.int 3), .val (.int 3), .val (.int (ff 2)), .val (.int 1)] [])
            refine g_iconst B W119 (d_prog_12_method_2_126) (v := 1) (by decide) ?_
            exact r_n B W119 (t := .boolean) rfl (by simp) (d_prog_12_method_2_127) (by decide) (by decide) ⟨by rw [nar_b1], rfl⟩
          · skip
            refine g_icmp_n B W104 (d_prog_12_method_2_115) (XT.ii_eq_f hc118) ?_
            show Go p.tables e below _ T104 (mkF m 118 #[.val (.ref a1), .val (.int 2), .val (.int 1), .val (.int 1), .val (.int (ff 1)), .unset] [])
            exfalso; have q := e1; unfold Sg Ex at q
            simp only [Int32.lt_iff_toInt_lt, ← Int32.toInt_inj, Int32.reduceToInt] at hc105 hc113 hc114 hc117 hc118
            omega
        · skip
          refine g_icmp_y B W104 (d_prog_12_method_2_108) (XT.ii_le_t hc117) (pc' := 120) (by decide) ?_
          show Go p.tables e below _ T104 (mkF m 120 #[.val (.ref a1), .val (.int 2), .val (.int 1), .val (.int 1), .val (.int (ff 1)), .unset] [])
          refine g_iinc B W104 (d_prog_12_method_2_120) (v := 1) (l' := #[.val (.ref a1), .val (.int 2), .val (.int 1), .val (.int (1 + 1)), .val (.int (ff 1)), .unset]) (by decide) rfl rfl ?_
          rw [show (1 + 1 : Int32) = 2 by decide]
          refine g_goto B W104 (d_prog_12_method_2_123) (pc' := 37) (by decide) ?_
          show Go p.tables e below _ T104 (mkF m 37 #[.val (.ref a1), .val (.int 2), .val (.int 1), .val (.int 2), .val (.int (ff 1)), .unset] [])
          refine g_iload_n B W104 (d_prog_12_method_2_37) rfl ?_
          refine g_iload_n B W104 (d_prog_12_method_2_38) rfl ?_
          refine g_icmp_n B W104 (d_prog_12_method_2_39) (XT.ii_gt_f (by decide)) ?_
          show Go p.tables e below _ T104 (mkF m 42 #[.val (.ref a1), .val (.int 2), .val (.int 1), .val (.int 2), .val (.int (ff 1)), .unset] [])
          refine g_aload_n B W104 (d_prog_12_method_2_42) rfl rfl ?_
          refine g_iload_n B W104 (d_prog_12_method_2_43) rfl ?_
          obtain ⟨T120, h120, v120, W120, Q120, st120⟩ := x_virtual B W104 (b := a1) [(.int 2)] (c_cat l Z a0 hw a1 3 ff 2 cz sf h0 Scs hcz Ssf rsf S1 (by omega)) E_a1 (d_prog_12_method_2_44) (tw hw 130 rfl) (tw hw 131 rfl) (tw hw 133 rfl) (tw hw 132 rfl) (tw hw 15 rfl) (tw hw 134 rfl) (by decide) (lenOf pd__I_C rfl) #[.val (.ref a1), .val (.int 2), .val (.int 1), .val (.int 2), .val (.int (ff 1)), .unset] [] rfl 0 rfl (by decide) (by decide) (by decide) (by decide)
          obtain ⟨rfl, rfl⟩ := Q120
          refine st120 _ ?_
          refine g_istore B W120 (d_prog_12_method_2_47)  (l' := #[.val (.ref a1), .val (.int 2), .val (.int 1), .val (.int 2), .val (.int (ff 2)), .unset]) rfl ?_
          refine g_iload B W120 (d_prog_12_method_2_49) rfl ?_
          refine g_bipush B W120 (d_prog_12_method_2_51) (v := 47) (by decide) ?_
          refine g_icmp_n B W120 (d_prog_12_method_2_53) (XT.ii_ne_f e2) ?_
          show Go p.tables e below _ T120 (mkF m 56 #[.val (.ref a1), .val (.int 2), .val (.int 1), .val (.int 2), .val (.int (ff 2)), .unset] [])
          refine g_iload_n B W120 (d_prog_12_method_2_56) rfl ?_
          refine g_iload_n B W120 (d_prog_12_method_2_57) rfl ?_
          refine g_isub B W120 (d_prog_12_method_2_58)  ?_
          rw [show (2 - 1 : Int32) = 1 by decide]
          refine g_istore B W120 (d_prog_12_method_2_59)  (l' := #[.val (.ref a1), .val (.int 2), .val (.int 1), .val (.int 2), .val (.int (ff 2)), .val (.int 1)]) rfl ?_
          refine g_iload B W120 (d_prog_12_method_2_61) rfl ?_
          refine g_if_n B W120 (d_prog_12_method_2_63) (XT.i0_eq_f (by decide)) ?_
          show Go p.tables e below _ T120 (mkF m 66 #[.val (.ref a1), .val (.int 2), .val (.int 1), .val (.int 2), .val (.int (ff 2)), .val (.int 1)] [])
          refine g_iload B W120 (d_prog_12_method_2_66) rfl ?_
          refine g_sipush B W120 (d_prog_12_method_2_68) (v := 255) (by decide) ?_
          refine g_icmp_y B W120 (d_prog_12_method_2_71) (XT.ii_le_t (by decide)) (pc' := 76) (by decide) ?_
          show Go p.tables e below _ T120 (mkF m 76 #[.val (.ref a1), .val (.int 2), .val (.int 1), .val (.int 2), .val (.int (ff 2)), .val (.int 1)] [])
          refine g_iload_n B W120 (d_prog_12_method_2_76) rfl ?_
          refine g_iconst B W120 (d_prog_12_method_2_77) (v := 1) (by decide) ?_
          refine g_iadd B W120 (d_prog_12_method_2_78)  ?_
          rw [show (2 + 1 : Int32) = 3 by decide]
          refine g_istore_n B W120 (d_prog_12_method_2_79)  (l' := #[.val (.ref a1), .val (.int 2), .val (.int 3), .val (.int 2), .val (.int (ff 2)), .val (.int 1)]) rfl ?_
          refine g_goto B W120 (d_prog_12_method_2_80) (pc' := 120) (by decide) ?_
          show Go p.tables e below _ T120 (mkF m 120 #[.val (.ref a1), .val (.int 2), .val (.int 3), .val (.int 2), .val (.int (ff 2)), .val (.int 1)] [])
          refine g_iinc B W120 (d_prog_12_method_2_120) (v := 1) (l' := #[.val (.ref a1), .val (.int 2), .val (.int 3), .val (.int (2 + 1)), .val (.int (ff 2)), .val (.int 1)]) (by decide) rfl rfl ?_
          rw [show (2 + 1 : Int32) = 3 by decide]
          refine g_goto B W120 (d_prog_12_method_2_123) (pc' := 37) (by decide) ?_
          show Go p.tables e below _ T120 (mkF m 37 #[.val (.ref a1), .val (.int 2), .val (.int 3), .val (.int 3), .val (.int (ff 2)), .val (.int 1)] [])
          refine g_iload_n B W120 (d_prog_12_method_2_37) rfl ?_
          refine g_iload_n B W120 (d_prog_12_method_2_38) rfl ?_
          refine g_icmp_y B W120 (d_prog_12_method_2_39) (XT.ii_gt_t (by decide)) (pc' := 126) (by decide) ?_
          show Go p.tables e below _ T120 (mkF m 126 #[.val (.ref a1), .val (.int 2), .val (.int 3), .val (.int 3), .val (.int (ff 2)), .val (.int 1)] [])
          refine g_iconst B W120 (d_prog_12_method_2_126) (v := 1) (by decide) ?_
          exact r_n B W120 (t := .boolean) rfl (by simp) (d_prog_12_method_2_127) (by decide) (by decide) ⟨by rw [nar_b1], rfl⟩
    · skip
      refine g_icmp_y B W104 (d_prog_12_method_2_94) (XT.ii_le_t hc113) (pc' := 120) (by decide) ?_
      show Go p.tables e below _ T104 (mkF m 120 #[.val (.ref a1), .val (.int 2), .val (.int 1), .val (.int 1), .val (.int (ff 1)), .unset] [])
      refine g_iinc B W104 (d_prog_12_method_2_120) (v := 1) (l' := #[.val (.ref a1), .val (.int 2), .val (.int 1), .val (.int (1 + 1)), .val (.int (ff 1)), .unset]) (by decide) rfl rfl ?_
      rw [show (1 + 1 : Int32) = 2 by decide]
      refine g_goto B W104 (d_prog_12_method_2_123) (pc' := 37) (by decide) ?_
      show Go p.tables e below _ T104 (mkF m 37 #[.val (.ref a1), .val (.int 2), .val (.int 1), .val (.int 2), .val (.int (ff 1)), .unset] [])
      refine g_iload_n B W104 (d_prog_12_method_2_37) rfl ?_
      refine g_iload_n B W104 (d_prog_12_method_2_38) rfl ?_
      refine g_icmp_n B W104 (d_prog_12_method_2_39) (XT.ii_gt_f (by decide)) ?_
      show Go p.tables e below _ T104 (mkF m 42 #[.val (.ref a1), .val (.int 2), .val (.int 1), .val (.int 2), .val (.int (ff 1)), .unset] [])
      refine g_aload_n B W104 (d_prog_12_method_2_42) rfl rfl ?_
      refine g_iload_n B W104 (d_prog_12_method_2_43) rfl ?_
      obtain ⟨T121, h121, v121, W121, Q121, st121⟩ := x_virtual B W104 (b := a1) [(.int 2)] (c_cat l Z a0 hw a1 3 ff 2 cz sf h0 Scs hcz Ssf rsf S1 (by omega)) E_a1 (d_prog_12_method_2_44) (tw hw 130 rfl) (tw hw 131 rfl) (tw hw 133 rfl) (tw hw 132 rfl) (tw hw 15 rfl) (tw hw 134 rfl) (by decide) (lenOf pd__I_C rfl) #[.val (.ref a1), .val (.int 2), .val (.int 1), .val (.int 2), .val (.int (ff 1)), .unset] [] rfl 0 rfl (by decide) (by decide) (by decide) (by decide)
      obtain ⟨rfl, rfl⟩ := Q121
      refine st121 _ ?_
      refine g_istore B W121 (d_prog_12_method_2_47)  (l' := #[.val (.ref a1), .val (.int 2), .val (.int 1), .val (.int 2), .val (.int (ff 2)), .unset]) rfl ?_
      refine g_iload B W121 (d_prog_12_method_2_49) rfl ?_
      refine g_bipush B W121 (d_prog_12_method_2_51) (v := 47) (by decide) ?_
      refine g_icmp_n B W121 (d_prog_12_method_2_53) (XT.ii_ne_f e2) ?_
      show Go p.tables e below _ T121 (mkF m 56 #[.val (.ref a1), .val (.int 2), .val (.int 1), .val (.int 2), .val (.int (ff 2)), .unset] [])
      refine g_iload_n B W121 (d_prog_12_method_2_56) rfl ?_
      refine g_iload_n B W121 (d_prog_12_method_2_57) rfl ?_
      refine g_isub B W121 (d_prog_12_method_2_58)  ?_
      rw [show (2 - 1 : Int32) = 1 by decide]
      refine g_istore B W121 (d_prog_12_method_2_59)  (l' := #[.val (.ref a1), .val (.int 2), .val (.int 1), .val (.int 2), .val (.int (ff 2)), .val (.int 1)]) rfl ?_
      refine g_iload B W121 (d_prog_12_method_2_61) rfl ?_
      refine g_if_n B W121 (d_prog_12_method_2_63) (XT.i0_eq_f (by decide)) ?_
      show Go p.tables e below _ T121 (mkF m 66 #[.val (.ref a1), .val (.int 2), .val (.int 1), .val (.int 2), .val (.int (ff 2)), .val (.int 1)] [])
      refine g_iload B W121 (d_prog_12_method_2_66) rfl ?_
      refine g_sipush B W121 (d_prog_12_method_2_68) (v := 255) (by decide) ?_
      refine g_icmp_y B W121 (d_prog_12_method_2_71) (XT.ii_le_t (by decide)) (pc' := 76) (by decide) ?_
      show Go p.tables e below _ T121 (mkF m 76 #[.val (.ref a1), .val (.int 2), .val (.int 1), .val (.int 2), .val (.int (ff 2)), .val (.int 1)] [])
      refine g_iload_n B W121 (d_prog_12_method_2_76) rfl ?_
      refine g_iconst B W121 (d_prog_12_method_2_77) (v := 1) (by decide) ?_
      refine g_iadd B W121 (d_prog_12_method_2_78)  ?_
      rw [show (2 + 1 : Int32) = 3 by decide]
      refine g_istore_n B W121 (d_prog_12_method_2_79)  (l' := #[.val (.ref a1), .val (.int 2), .val (.int 3), .val (.int 2), .val (.int (ff 2)), .val (.int 1)]) rfl ?_
      refine g_goto B W121 (d_prog_12_method_2_80) (pc' := 120) (by decide) ?_
      show Go p.tables e below _ T121 (mkF m 120 #[.val (.ref a1), .val (.int 2), .val (.int 3), .val (.int 2), .val (.int (ff 2)), .val (.int 1)] [])
      refine g_iinc B W121 (d_prog_12_method_2_120) (v := 1) (l' := #[.val (.ref a1), .val (.int 2), .val (.int 3), .val (.int (2 + 1)), .val (.int (ff 2)), .val (.int 1)]) (by decide) rfl rfl ?_
      rw [show (2 + 1 : Int32) = 3 by decide]
      refine g_goto B W121 (d_prog_12_method_2_123) (pc' := 37) (by decide) ?_
      show Go p.tables e below _ T121 (mkF m 37 #[.val (.ref a1), .val (.int 2), .val (.int 3), .val (.int 3), .val (.int (ff 2)), .val (.int 1)] [])
      refine g_iload_n B W121 (d_prog_12_method_2_37) rfl ?_
      refine g_iload_n B W121 (d_prog_12_method_2_38) rfl ?_
      refine g_icmp_y B W121 (d_prog_12_method_2_39) (XT.ii_gt_t (by decide)) (pc' := 126) (by decide) ?_
      show Go p.tables e below _ T121 (mkF m 126 #[.val (.ref a1), .val (.int 2), .val (.int 3), .val (.int 3), .val (.int (ff 2)), .val (.int 1)] [])
      refine g_iconst B W121 (d_prog_12_method_2_126) (v := 1) (by decide) ?_
      exact r_n B W121 (t := .boolean) rfl (by simp) (d_prog_12_method_2_127) (by decide) (by decide) ⟨by rw [nar_b1], rfl⟩
theorem ef_ifn (m : MethodId) (a1 : Addr) (nn : Nat) (ff : Nat → Int32) (dd : Nat) (cz : Int32) (sf : Value) : entryFrame m #[(.ref a1)] 5 = mkF m 0 #[.val (.ref a1), .unset, .unset, .unset, .unset] [] := by first | (simp [entryFrame, mkF, argsToLocals, Value.category]; done) | rfl
def Q_ifn (Z : State) (a1 : Addr) (nn : Nat) (ff : Nat → Int32) (dd : Nat) (cz : Int32) (sf : Value) (h0 : Heap) (v : Option Value) (h : Heap) : Prop := v = some (.int 1) ∧ h0 = h
set_option maxRecDepth 65536 in
set_option maxHeartbeats 40000000 in
theorem c_ifn (l : Launch) (Z : State) (a0 : Array Value) (hw : ∀ d ∈ tables_1, d.before a0 Z = true) (a1 : Addr) (nn : Nat) (ff : Nat → Int32) (dd : Nat) (cz : Int32) (sf : Value) (h0 : Heap) (Scs : Sta Z Z.heap "java/lang/String" "COMPACT_STRINGS" "Z" (.int cz)) (hcz : ¬ cz = 0) (Ssf : Sta Z Z.heap "jdk/internal/util/Preconditions" "SIOOBE_FORMATTER" "Ljava/util/function/BiFunction;" sf) (rsf : sf.isRef = true) (S1 : StrIs Z h0 a1 (lst nn ff)) (hn : nn ≤ 9) (hd1 : 1 ≤ dd) (hd2 : dd + 1 < nn) (hdd : ff dd = 46) (hok : ∀ j, j < nn → ¬ j = dd → Ex (ff j) ∨ (ff j).toInt = 45 ∧ j < dd) :
    Con l Z (⟨"com/example/presswright/presswright/publishing/FilePath", "isFileName", "(Ljava/lang/String;)Z"⟩ : MethodName) prog_5_method_4_code 5 (Option.some FieldType.boolean) [] ({ frames := 4, cells := 0, slots := 0, locals := 62 } : Room) #[(.ref a1)] h0 (Q_ifn Z a1 nn ff dd cz sf h0) := by
  refine Con.of (plainFor_of_name pn_com_example_presswright_presswright_publishing_FilePath) ?_
  intro p e s m below meth c T0 B W0
  refine Go.cast (ef_ifn m a1 nn ff dd cz sf ) ?_
  have E_a1 := S1.exa
  refine g_aload_n B W0 (d_prog_5_method_4_0) rfl rfl ?_
  refine g_bipush B W0 (d_prog_5_method_4_1) (v := 46) (by decide) ?_
  obtain ⟨T101, h101, v101, W101, Q101, st101⟩ := x_virtual B W0 (b := a1) [(.int 46)] (c_sidx1 l Z a0 hw a1 nn ff 46 dd cz h0 Scs hcz S1 (by decide) (by omega) hdd (fun j h => own_ok46 (hok j (by omega) (by omega)))) E_a1 (d_prog_5_method_4_3) (tw hw 153 rfl) (tw hw 154 rfl) (tw hw 156 rfl) (tw hw 155 rfl) (tw hw 15 rfl) (tw hw 157 rfl) (by decide) (lenOf pd__I_I rfl) #[.val (.ref a1), .unset, .unset, .unset, .unset] [] rfl 0 rfl (by decide) (by decide) (by decide) (by decide)
  obtain ⟨rfl, rfl⟩ := Q101
  refine st101 _ ?_
  refine g_istore_n B W101 (d_prog_5_method_4_6)  (l' := #[.val (.ref a1), .val (.int (Int32.ofNat dd)), .unset, .unset, .unset]) rfl ?_
  refine g_iload_n B W101 (d_prog_5_method_4_7) rfl ?_
  refine g_iconst B W101 (d_prog_5_method_4_8) (v := 1) (by decide) ?_
  refine g_icmp_n B W101 (d_prog_5_method_4_9) (XT.ii_lt_f (by rw [show (1 : Int32) = Int32.ofNat 1 from rfl, own_lt (by omega) (by omega)]; omega)) ?_
  show Go p.tables e below _ T101 (mkF m 12 #[.val (.ref a1), .val (.int (Int32.ofNat dd)), .unset, .unset, .unset] [])
  refine g_iload_n B W101 (d_prog_5_method_4_12) rfl ?_
  refine g_aload_n B W101 (d_prog_5_method_4_13) rfl rfl ?_
  obtain ⟨T102, h102, v102, W102, Q102, st102⟩ := x_virtual B W101 (b := a1) [] (c_len l Z a0 hw a1 nn ff cz h0 Scs hcz S1) E_a1 (d_prog_5_method_4_14) (tw hw 172 rfl) (tw hw 60 rfl) (tw hw 62 rfl) (tw hw 61 rfl) (tw hw 15 rfl) (tw hw 63 rfl) (by decide) (lenOf pd___I rfl) #[.val (.ref a1), .val (.int (Int32.ofNat dd)), .unset, .unset, .unset] [(.int (Int32.ofNat dd))] rfl 1 rfl (by decide) (by decide) (by decide) (by decide)
  obtain ⟨rfl, rfl⟩ := Q102
  refine st102 _ ?_
  refine g_iconst B W102 (d_prog_5_method_4_17) (v := 1) (by decide) ?_
  refine g_isub B W102 (d_prog_5_method_4_18)  ?_
  rw [own_dec (i := nn) (by omega)]
  show Go p.tables e below _ T102 (mkF m 19 #[.val (.ref a1), .val (.int (Int32.ofNat dd)), .unset, .unset, .unset] [(.int (Int32.ofNat (nn - 1))), (.int (Int32.ofNat dd))])
  refine g_icmp_n B W102 (d_prog_5_method_4_19) (XT.ii_eq_f (by rw [own_inj (by omega) (by omega)]; omega)) ?_
  show Go p.tables e below _ T102 (mkF m 22 #[.val (.ref a1), .val (.int (Int32.ofNat dd)), .unset, .unset, .unset] [])
  refine g_aload_n B W102 (d_prog_5_method_4_22) rfl rfl ?_
  obtain ⟨T103, h103, v103, W103, Q103, st103⟩ := x_virtual B W102 (b := a1) [] (c_len l Z a0 hw a1 nn ff cz h0 Scs hcz S1) E_a1 (d_prog_5_method_4_23) (tw hw 172 rfl) (tw hw 60 rfl) (tw hw 62 rfl) (tw hw 61 rfl) (tw hw 15 rfl) (tw hw 63 rfl) (by decide) (lenOf pd___I rfl) #[.val (.ref a1), .val (.int (Int32.ofNat dd)), .unset, .unset, .unset] [] rfl 0 rfl (by decide) (by decide) (by decide) (by decide)
  obtain ⟨rfl, rfl⟩ := Q103
  refine st103 _ ?_
  refine g_sipush B W103 (d_prog_5_method_4_26) (v := 255) (by decide) ?_
  refine g_icmp_y B W103 (d_prog_5_method_4_29) (XT.ii_le_t (by rw [show (255 : Int32) = Int32.ofNat 255 from rfl, own_lt (by omega) (by omega)]; omega)) (pc' := 34) (by decide) ?_
  show Go p.tables e below _ T103 (mkF m 34 #[.val (.ref a1), .val (.int (Int32.ofNat dd)), .unset, .unset, .unset] [])
  refine g_iconst B W103 (d_prog_5_method_4_34) (v := 0) (by decide) ?_
  refine g_istore_n B W103 (d_prog_5_method_4_35)  (l' := #[.val (.ref a1), .val (.int (Int32.ofNat dd)), .val (.int 0), .unset, .unset]) rfl ?_
  have loop : ∀ (r : Nat) (i : Nat) (s3 : Slot) (s4 : Slot) (T : State), (s3 = .unset ∨ ∃ w, s3 = .val w ∧ w.category = 1) → (s4 = .unset ∨ ∃ w, s4 = .val w ∧ w.category = 1) → (i + r = nn) → Wk p l e ({ frames := 4, cells := 0, slots := 0, locals := 62 } : Room) s m #[(.ref a1)] below meth c Z T h0 0 0 → Go p.tables e below (Jvm.OwnK.Out Z s (Q_ifn Z a1 nn ff dd cz sf h0) ({ frames := 4, cells := 0, slots := 0, locals := 62 } : Room).cells ({ frames := 4, cells := 0, slots := 0, locals := 62 } : Room).slots) T (mkF m 36 #[.val (.ref a1), .val (.int (Int32.ofNat dd)), .val (.int (Int32.ofNat i)), s3, s4] []) := by
    intro r; induction r with
    | zero =>
      intro i s3 s4 T hx3 hx4 hr W
      refine g_iload_n B W (d_prog_5_method_4_36) rfl ?_
      refine g_aload_n B W (d_prog_5_method_4_37) rfl rfl ?_
      obtain ⟨T104, h104, v104, W104, Q104, st104⟩ := x_virtual B W (b := a1) [] (c_len l Z a0 hw a1 nn ff cz h0 Scs hcz S1) E_a1 (d_prog_5_method_4_38) (tw hw 172 rfl) (tw hw 60 rfl) (tw hw 62 rfl) (tw hw 61 rfl) (tw hw 15 rfl) (tw hw 63 rfl) (by decide) (lenOf pd___I rfl) #[.val (.ref a1), .val (.int (Int32.ofNat dd)), .val (.int (Int32.ofNat i)), s3, s4] [(.int (Int32.ofNat i))] rfl 1 rfl (by decide) (by decide) (by decide) (by decide)
      obtain ⟨rfl, rfl⟩ := Q104
      refine st104 _ ?_
      refine g_icmp_y B W104 (d_prog_5_method_4_41) (XT.ii_ge_t (by rw [own_lt (by omega) (by omega)]; omega)) (pc' := 110) (by decide) ?_
      show Go p.tables e below _ T104 (mkF m 110 #[.val (.ref a1), .val (.int (Int32.ofNat dd)), .val (.int (Int32.ofNat i)), s3, s4] [])
      refine g_iconst B W104 (d_prog_5_method_4_110) (v := 1) (by decide) ?_
      exact r_n B W104 (t := .boolean) rfl (by simp) (d_prog_5_method_4_111) (by decide) (by decide) ⟨by rw [nar_b1], rfl⟩
    | succ r ih =>
      intro i s3 s4 T hx3 hx4 hr W
      have hil : i < nn := by omega
      refine g_iload_n B W (d_prog_5_method_4_36) rfl ?_
      refine g_aload_n B W (d_prog_5_method_4_37) rfl rfl ?_
      obtain ⟨T105, h105, v105, W105, Q105, st105⟩ := x_virtual B W (b := a1) [] (c_len l Z a0 hw a1 nn ff cz h0 Scs hcz S1) E_a1 (d_prog_5_method_4_38) (tw hw 172 rfl) (tw hw 60 rfl) (tw hw 62 rfl) (tw hw 61 rfl) (tw hw 15 rfl) (tw hw 63 rfl) (by decide) (lenOf pd___I rfl) #[.val (.ref a1), .val (.int (Int32.ofNat dd)), .val (.int (Int32.ofNat i)), s3, s4] [(.int (Int32.ofNat i))] rfl 1 rfl (by decide) (by decide) (by decide) (by decide)
      obtain ⟨rfl, rfl⟩ := Q105
      refine st105 _ ?_
      refine g_icmp_n B W105 (d_prog_5_method_4_41) (XT.ii_ge_f ((own_lt (by omega) (by omega)).mpr hil)) ?_
      show Go p.tables e below _ T105 (mkF m 44 #[.val (.ref a1), .val (.int (Int32.ofNat dd)), .val (.int (Int32.ofNat i)), s3, s4] [])
      refine g_aload_n B W105 (d_prog_5_method_4_44) rfl rfl ?_
      refine g_iload_n B W105 (d_prog_5_method_4_45) rfl ?_
      obtain ⟨T106, h106, v106, W106, Q106, st106⟩ := x_virtual B W105 (b := a1) [(.int (Int32.ofNat i))] (c_cat l Z a0 hw a1 nn ff i cz sf h0 Scs hcz Ssf rsf S1 (by omega)) E_a1 (d_prog_5_method_4_46) (tw hw 173 rfl) (tw hw 131 rfl) (tw hw 133 rfl) (tw hw 132 rfl) (tw hw 15 rfl) (tw hw 134 rfl) (by decide) (lenOf pd__I_C rfl) #[.val (.ref a1), .val (.int (Int32.ofNat dd)), .val (.int (Int32.ofNat i)), s3, s4] [] rfl 0 rfl (by decide) (by decide) (by decide) (by decide)
      obtain ⟨rfl, rfl⟩ := Q106
      refine st106 _ ?_
      refine g_istore_n B W106 (d_prog_5_method_4_49)  (l' := #[.val (.ref a1), .val (.int (Int32.ofNat dd)), .val (.int (Int32.ofNat i)), .val (.int (ff i)), s4]) (XS.store1 rfl hx3 rfl) ?_
      refine g_iload_n B W106 (d_prog_5_method_4_50) rfl ?_
      refine g_bipush B W106 (d_prog_5_method_4_51) (v := 97) (by decide) ?_
      by_cases hc107 : (ff i) < 97
      · skip
        refine g_icmp_y B W106 (d_prog_5_method_4_53) (XT.ii_lt_t hc107) (pc' := 62) (by decide) ?_
        show Go p.tables e below _ T106 (mkF m 62 #[.val (.ref a1), .val (.int (Int32.ofNat dd)), .val (.int (Int32.ofNat i)), .val (.int (ff i)), s4] [])
        refine g_iload_n B W106 (d_prog_5_method_4_62) rfl ?_
        refine g_bipush B W106 (d_prog_5_method_4_63) (v := 48) (by decide) ?_
        by_cases hc108 : (ff i) < 48
        · skip
          refine g_icmp_y B W106 (d_prog_5_method_4_65) (XT.ii_lt_t hc108) (pc' := 78) (by decide) ?_
          show Go p.tables e below _ T106 (mkF m 78 #[.val (.ref a1), .val (.int (Int32.ofNat dd)), .val (.int (Int32.ofNat i)), .val (.int (ff i)), s4] [])
          refine g_iconst B W106 (d_prog_5_method_4_78) (v := 0) (by decide) ?_
          refine g_istore B W106 (d_prog_5_method_4_79)  (l' := #[.val (.ref a1), .val (.int (Int32.ofNat dd)), .val (.int (Int32.ofNat i)), .val (.int (ff i)), .val (.int 0)]) (XS.store1 rfl hx4 rfl) ?_
          refine g_iload_n B W106 (d_prog_5_method_4_81) rfl ?_
          refine g_iload_n B W106 (d_prog_5_method_4_82) rfl ?_
          by_cases hc109 : (Int32.ofNat i) = (Int32.ofNat dd)
          · skip
            refine g_icmp_y B W106 (d_prog_5_method_4_83) (XT.ii_eq_t hc109) (pc' := 104) (by decide) ?_
            show Go p.tables e below _ T106 (mkF m 104 #[.val (.ref a1), .val (.int (Int32.ofNat dd)), .val (.int (Int32.ofNat i)), .val (.int (ff i)), .val (.int 0)] [])
            refine g_iinc B W106 (d_prog_5_method_4_104) (v := 1) (l' := #[.val (.ref a1), .val (.int (Int32.ofNat dd)), .val (.int (Int32.ofNat i + 1)), .val (.int (ff i)), .val (.int 0)]) (by decide) rfl rfl ?_
            rw [own_inc]
            show Go p.tables e below _ T106 (mkF m 107 #[.val (.ref a1), .val (.int (Int32.ofNat dd)), .val (.int (Int32.ofNat (i + 1))), .val (.int (ff i)), .val (.int 0)] [])
            refine g_goto B W106 (d_prog_5_method_4_107) (pc' := 36) (by decide) ?_
            show Go p.tables e below _ T106 (mkF m 36 #[.val (.ref a1), .val (.int (Int32.ofNat dd)), .val (.int (Int32.ofNat (i + 1))), .val (.int (ff i)), .val (.int 0)] [])
            exact ih _ _ _ _ (Or.inr ⟨_, rfl, rfl⟩) (Or.inr ⟨_, rfl, rfl⟩) (by omega) W106
          · skip
            refine g_icmp_n B W106 (d_prog_5_method_4_83) (XT.ii_eq_f hc109) ?_
            show Go p.tables e below _ T106 (mkF m 86 #[.val (.ref a1), .val (.int (Int32.ofNat dd)), .val (.int (Int32.ofNat i)), .val (.int (ff i)), .val (.int 0)] [])
            refine g_iload B W106 (d_prog_5_method_4_86) rfl ?_
            refine g_if_n B W106 (d_prog_5_method_4_88) (XT.i0_ne_f (by decide)) ?_
            show Go p.tables e below _ T106 (mkF m 91 #[.val (.ref a1), .val (.int (Int32.ofNat dd)), .val (.int (Int32.ofNat i)), .val (.int (ff i)), .val (.int 0)] [])
            refine g_iload_n B W106 (d_prog_5_method_4_91) rfl ?_
            refine g_bipush B W106 (d_prog_5_method_4_92) (v := 45) (by decide) ?_
            by_cases hc110 : (ff i) = 45
            · skip
              refine g_icmp_n B W106 (d_prog_5_method_4_94) (XT.ii_ne_f hc110) ?_
              show Go p.tables e below _ T106 (mkF m 97 #[.val (.ref a1), .val (.int (Int32.ofNat dd)), .val (.int (Int32.ofNat i)), .val (.int (ff i)), .val (.int 0)] [])
              refine g_iload_n B W106 (d_prog_5_method_4_97) rfl ?_
              refine g_iload_n B W106 (d_prog_5_method_4_98) rfl ?_
              by_cases hc111 : (Int32.ofNat i) < (Int32.ofNat dd)
              · skip
                refine g_icmp_y B W106 (d_prog_5_method_4_99) (XT.ii_lt_t hc111) (pc' := 104) (by decide) ?_
                show Go p.tables e below _ T106 (mkF m 104 #[.val (.ref a1), .val (.int (Int32.ofNat dd)), .val (.int (Int32.ofNat i)), .val (.int (ff i)), .val (.int 0)] [])
                refine g_iinc B W106 (d_prog_5_method_4_104) (v := 1) (l' := #[.val (.ref a1), .val (.int (Int32.ofNat dd)), .val (.int (Int32.ofNat i + 1)), .val (.int (ff i)), .val (.int 0)]) (by decide) rfl rfl ?_
                rw [own_inc]
                show Go p.tables e below _ T106 (mkF m 107 #[.val (.ref a1), .val (.int (Int32.ofNat dd)), .val (.int (Int32.ofNat (i + 1))), .val (.int (ff i)), .val (.int 0)] [])
                refine g_goto B W106 (d_prog_5_method_4_107) (pc' := 36) (by decide) ?_
                show Go p.tables e below _ T106 (mkF m 36 #[.val (.ref a1), .val (.int (Int32.ofNat dd)), .val (.int (Int32.ofNat (i + 1))), .val (.int (ff i)), .val (.int 0)] [])
                exact ih _ _ _ _ (Or.inr ⟨_, rfl, rfl⟩) (Or.inr ⟨_, rfl, rfl⟩) (by omega) W106
              · skip
                refine g_icmp_n B W106 (d_prog_5_method_4_99) (XT.ii_lt_f hc111) ?_
                show Go p.tables e below _ T106 (mkF m 102 #[.val (.ref a1), .val (.int (Int32.ofNat dd)), .val (.int (Int32.ofNat i)), .val (.int (ff i)), .val (.int 0)] [])
                rw [own_lt (by omega) (by omega)] at hc111
                have q := hok i hil (fun q => hc109 (by rw [q]))
                exfalso; unfold Ex at q
                simp only [Int32.lt_iff_toInt_lt, ← Int32.toInt_inj, Int32.reduceToInt] at hc107 hc108 hc110
                omega
            · skip
              refine g_icmp_y B W106 (d_prog_5_method_4_94) (XT.ii_ne_t hc110) (pc' := 102) (by decide) ?_
              show Go p.tables e below _ T106 (mkF m 102 #[.val (.ref a1), .val (.int (Int32.ofNat dd)), .val (.int (Int32.ofNat i)), .val (.int (ff i)), .val (.int 0)] [])
              have q := hok i hil (fun q => hc109 (by rw [q]))
              exfalso; unfold Ex at q
              simp only [Int32.lt_iff_toInt_lt, ← Int32.toInt_inj, Int32.reduceToInt] at hc107 hc108 hc110
              omega
        · skip
          refine g_icmp_n B W106 (d_prog_5_method_4_65) (XT.ii_lt_f hc108) ?_
          show Go p.tables e below _ T106 (mkF m 68 #[.val (.ref a1), .val (.int (Int32.ofNat dd)), .val (.int (Int32.ofNat i)), .val (.int (ff i)), s4] [])
          refine g_iload_n B W106 (d_prog_5_method_4_68) rfl ?_
          refine g_bipush B W106 (d_prog_5_method_4_69) (v := 57) (by decide) ?_
          by_cases hc112 : 57 < (ff i)
          · skip
            refine g_icmp_y B W106 (d_prog_5_method_4_71) (XT.ii_gt_t hc112) (pc' := 78) (by decide) ?_
            show Go p.tables e below _ T106 (mkF m 78 #[.val (.ref a1), .val (.int (Int32.ofNat dd)), .val (.int (Int32.ofNat i)), .val (.int (ff i)), s4] [])
            refine g_iconst B W106 (d_prog_5_method_4_78) (v := 0) (by decide) ?_
            refine g_istore B W106 (d_prog_5_method_4_79)  (l' := #[.val (.ref a1), .val (.int (Int32.ofNat dd)), .val (.int (Int32.ofNat i)), .val (.int (ff i)), .val (.int 0)]) (XS.store1 rfl hx4 rfl) ?_
            refine g_iload_n B W106 (d_prog_5_method_4_81) rfl ?_
            refine g_iload_n B W106 (d_prog_5_method_4_82) rfl ?_
            by_cases hc113 : (Int32.ofNat i) = (Int32.ofNat dd)
            · skip
              refine g_icmp_y B W106 (d_prog_5_method_4_83) (XT.ii_eq_t hc113) (pc' := 104) (by decide) ?_
              show Go p.tables e below _ T106 (mkF m 104 #[.val (.ref a1), .val (.int (Int32.ofNat dd)), .val (.int (Int32.ofNat i)), .val (.int (ff i)), .val (.int 0)] [])
              refine g_iinc B W106 (d_prog_5_method_4_104) (v := 1) (l' := #[.val (.ref a1), .val (.int (Int32.ofNat dd)), .val (.int (Int32.ofNat i + 1)), .val (.int (ff i)), .val (.int 0)]) (by decide) rfl rfl ?_
              rw [own_inc]
              show Go p.tables e below _ T106 (mkF m 107 #[.val (.ref a1), .val (.int (Int32.ofNat dd)), .val (.int (Int32.ofNat (i + 1))), .val (.int (ff i)), .val (.int 0)] [])
              refine g_goto B W106 (d_prog_5_method_4_107) (pc' := 36) (by decide) ?_
              show Go p.tables e below _ T106 (mkF m 36 #[.val (.ref a1), .val (.int (Int32.ofNat dd)), .val (.int (Int32.ofNat (i + 1))), .val (.int (ff i)), .val (.int 0)] [])
              exact ih _ _ _ _ (Or.inr ⟨_, rfl, rfl⟩) (Or.inr ⟨_, rfl, rfl⟩) (by omega) W106
            · skip
              refine g_icmp_n B W106 (d_prog_5_method_4_83) (XT.ii_eq_f hc113) ?_
              show Go p.tables e below _ T106 (mkF m 86 #[.val (.ref a1), .val (.int (Int32.ofNat dd)), .val (.int (Int32.ofNat i)), .val (.int (ff i)), .val (.int 0)] [])
              refine g_iload B W106 (d_prog_5_method_4_86) rfl ?_
              refine g_if_n B W106 (d_prog_5_method_4_88) (XT.i0_ne_f (by decide)) ?_
              show Go p.tables e below _ T106 (mkF m 91 #[.val (.ref a1), .val (.int (Int32.ofNat dd)), .val (.int (Int32.ofNat i)), .val (.int (ff i)), .val (.int 0)] [])
              refine g_iload_n B W106 (d_prog_5_method_4_91) rfl ?_
              refine g_bipush B W106 (d_prog_5_method_4_92) (v := 45) (by decide) ?_
              by_cases hc114 : (ff i) = 45
              · skip
                refine g_icmp_n B W106 (d_prog_5_method_4_94) (XT.ii_ne_f hc114) ?_
                show Go p.tables e below _ T106 (mkF m 97 #[.val (.ref a1), .val (.int (Int32.ofNat dd)), .val (.int (Int32.ofNat i)), .val (.int (ff i)), .val (.int 0)] [])
                refine g_iload_n B W106 (d_prog_5_method_4_97) rfl ?_
                refine g_iload_n B W106 (d_prog_5_method_4_98) rfl ?_
                by_cases hc115 : (Int32.ofNat i) < (Int32.ofNat dd)
                · skip
                  refine g_icmp_y B W106 (d_prog_5_method_4_99) (XT.ii_lt_t hc115) (pc' := 104) (by decide) ?_
                  show Go p.tables e below _ T106 (mkF m 104 #[.val (.ref a1), .val (.int (Int32.ofNat dd)), .val (.int (Int32.ofNat i)), .val (.int (ff i)), .val (.int 0)] [])
                  refine g_iinc B W106 (d_prog_5_method_4_104) (v := 1) (l' := #[.val (.ref a1), .val (.int (Int32.ofNat dd)), .val (.int (Int32.ofNat i + 1)), .val (.int (ff i)), .val (.int 0)]) (by decide) rfl rfl ?_
                  rw [own_inc]
                  show Go p.tables e below _ T106 (mkF m 107 #[.val (.ref a1), .val (.int (Int32.ofNat dd)), .val (.int (Int32.ofNat (i + 1))), .val (.int (ff i)), .val (.int 0)] [])
                  refine g_goto B W106 (d_prog_5_method_4_107) (pc' := 36) (by decide) ?_
                  show Go p.tables e below _ T106 (mkF m 36 #[.val (.ref a1), .val (.int (Int32.ofNat dd)), .val (.int (Int32.ofNat (i + 1))), .val (.int (ff i)), .val (.int 0)] [])
                  exact ih _ _ _ _ (Or.inr ⟨_, rfl, rfl⟩) (Or.inr ⟨_, rfl, rfl⟩) (by omega) W106
                · skip
                  refine g_icmp_n B W106 (d_prog_5_method_4_99) (XT.ii_lt_f hc115) ?_
                  show Go p.tables e below _ T106 (mkF m 102 #[.val (.ref a1), .val (.int (Int32.ofNat dd)), .val (.int (Int32.ofNat i)), .val (.int (ff i)), .val (.int 0)] [])
                  rw [own_lt (by omega) (by omega)] at hc115
                  have q := hok i hil (fun q => hc113 (by rw [q]))
                  exfalso; unfold Ex at q
                  simp only [Int32.lt_iff_toInt_lt, ← Int32.toInt_inj, Int32.reduceToInt] at hc107 hc108 hc112 hc114
                  omega
              · skip
                refine g_icmp_y B W106 (d_prog_5_method_4_94) (XT.ii_ne_t hc114) (pc' := 102) (by decide) ?_
                show Go p.tables e below _ T106 (mkF m 102 #[.val (.ref a1), .val (.int (Int32.ofNat dd)), .val (.int (Int32.ofNat i)), .val (.int (ff i)), .val (.int 0)] [])
                have q := hok i hil (fun q => hc113 (by rw [q]))
                exfalso; unfold Ex at q
                simp only [Int32.lt_iff_toInt_lt, ← Int32.toInt_inj, Int32.reduceToInt] at hc107 hc108 hc112 hc114
                omega
          · skip
            refine g_icmp_n B W106 (d_prog_5_method_4_71) (XT.ii_gt_f hc112) ?_
            show Go p.tables e below _ T106 (mkF m 74 #[.val (.ref a1), .val (.int (Int32.ofNat dd)), .val (.int (Int32.ofNat i)), .val (.int (ff i)), s4] [])
            refine g_iconst B W106 (d_prog_5_method_4_74) (v := 1) (by decide) ?_
            refine g_goto B W106 (d_prog_5_method_4_75) (pc' := 79) (by decide) ?_
            show Go p.tables e below _ T106 (mkF m 79 #[.val (.ref a1), .val (.int (Int32.ofNat dd)), .val (.int (Int32.ofNat i)), .val (.int (ff i)), s4] [(.int 1)])
            refine g_istore B W106 (d_prog_5_method_4_79)  (l' := #[.val (.ref a1), .val (.int (Int32.ofNat dd)), .val (.int (Int32.ofNat i)), .val (.int (ff i)), .val (.int 1)]) (XS.store1 rfl hx4 rfl) ?_
            refine g_iload_n B W106 (d_prog_5_method_4_81) rfl ?_
            refine g_iload_n B W106 (d_prog_5_method_4_82) rfl ?_
            by_cases hc116 : (Int32.ofNat i) = (Int32.ofNat dd)
            · skip
              refine g_icmp_y B W106 (d_prog_5_method_4_83) (XT.ii_eq_t hc116) (pc' := 104) (by decide) ?_
              show Go p.tables e below _ T106 (mkF m 104 #[.val (.ref a1), .val (.int (Int32.ofNat dd)), .val (.int (Int32.ofNat i)), .val (.int (ff i)), .val (.int 1)] [])
              refine g_iinc B W106 (d_prog_5_method_4_104) (v := 1) (l' := #[.val (.ref a1), .val (.int (Int32.ofNat dd)), .val (.int (Int32.ofNat i + 1)), .val (.int (ff i)), .val (.int 1)]) (by decide) rfl rfl ?_
              rw [own_inc]
              show Go p.tables e below _ T106 (mkF m 107 #[.val (.ref a1), .val (.int (Int32.ofNat dd)), .val (.int (Int32.ofNat (i + 1))), .val (.int (ff i)), .val (.int 1)] [])
              refine g_goto B W106 (d_prog_5_method_4_107) (pc' := 36) (by decide) ?_
              show Go p.tables e below _ T106 (mkF m 36 #[.val (.ref a1), .val (.int (Int32.ofNat dd)), .val (.int (Int32.ofNat (i + 1))), .val (.int (ff i)), .val (.int 1)] [])
              exact ih _ _ _ _ (Or.inr ⟨_, rfl, rfl⟩) (Or.inr ⟨_, rfl, rfl⟩) (by omega) W106
            · skip
              refine g_icmp_n B W106 (d_prog_5_method_4_83) (XT.ii_eq_f hc116) ?_
              show Go p.tables e below _ T106 (mkF m 86 #[.val (.ref a1), .val (.int (Int32.ofNat dd)), .val (.int (Int32.ofNat i)), .val (.int (ff i)), .val (.int 1)] [])
              refine g_iload B W106 (d_prog_5_method_4_86) rfl ?_
              refine g_if_y B W106 (d_prog_5_method_4_88) (XT.i0_ne_t (by decide)) (pc' := 104) (by decide) ?_
              show Go p.tables e below _ T106 (mkF m 104 #[.val (.ref a1), .val (.int (Int32.ofNat dd)), .val (.int (Int32.ofNat i)), .val (.int (ff i)), .val (.int 1)] [])
              refine g_iinc B W106 (d_prog_5_method_4_104) (v := 1) (l' := #[.val (.ref a1), .val (.int (Int32.ofNat dd)), .val (.int (Int32.ofNat i + 1)), .val (.int (ff i)), .val (.int 1)]) (by decide) rfl rfl ?_
              rw [own_inc]
              show Go p.tables e below _ T106 (mkF m 107 #[.val (.ref a1), .val (.int (Int32.ofNat dd)), .val (.int (Int32.ofNat (i + 1))), .val (.int (ff i)), .val (.int 1)] [])
              refine g_goto B W106 (d_prog_5_method_4_107) (pc' := 36) (by decide) ?_
              show Go p.tables e below _ T106 (mkF m 36 #[.val (.ref a1), .val (.int (Int32.ofNat dd)), .val (.int (Int32.ofNat (i + 1))), .val (.int (ff i)), .val (.int 1)] [])
              exact ih _ _ _ _ (Or.inr ⟨_, rfl, rfl⟩) (Or.inr ⟨_, rfl, rfl⟩) (by omega) W106
      · skip
        refine g_icmp_n B W106 (d_prog_5_method_4_53) (XT.ii_lt_f hc107) ?_
        show Go p.tables e below _ T106 (mkF m 56 #[.val (.ref a1), .val (.int (Int32.ofNat dd)), .val (.int (Int32.ofNat i)), .val (.int (ff i)), s4] [])
        refine g_iload_n B W106 (d_prog_5_method_4_56) rfl ?_
        refine g_bipush B W106 (d_prog_5_method_4_57) (v := 122) (by decide) ?_
        by_cases hc117 : 122 < (ff i)
        · skip
          refine g_icmp_n B W106 (d_prog_5_method_4_59) (XT.ii_le_f hc117) ?_
          show Go p.tables e below _ T106 (mkF m 62 #[.val (.ref a1), .val (.int (Int32.ofNat dd)), .val (.int (Int32.ofNat i)), .val (.int (ff i)), s4] [])
          refine g_iload_n B W106 (d_prog_5_method_4_62) rfl ?_
          refine g_bipush B W106 (d_prog_5_method_4_63) (v := 48) (by decide) ?_
          by_cases hc118 : (ff i) < 48
          · skip
            refine g_icmp_y B W106 (d_prog_5_method_4_65) (XT.ii_lt_t hc118) (pc' := 78) (by decide) ?_
            show Go p.tables e below _ T106 (mkF m 78 #[.val (.ref a1), .val (.int (Int32.ofNat dd)), .val (.int (Int32.ofNat i)), .val (.int (ff i)), s4] [])
            refine g_iconst B W106 (d_prog_5_method_4_78) (v := 0) (by decide) ?_
            refine g_istore B W106 (d_prog_5_method_4_79)  (l' := #[.val (.ref a1), .val (.int (Int32.ofNat dd)), .val (.int (Int32.ofNat i)), .val (.int (ff i)), .val (.int 0)]) (XS.store1 rfl hx4 rfl) ?_
            refine g_iload_n B W106 (d_prog_5_method_4_81) rfl ?_
            refine g_iload_n B W106 (d_prog_5_method_4_82) rfl ?_
            by_cases hc119 : (Int32.ofNat i) = (Int32.ofNat dd)
            · skip
              refine g_icmp_y B W106 (d_prog_5_method_4_83) (XT.ii_eq_t hc119) (pc' := 104) (by decide) ?_
              show Go p.tables e below _ T106 (mkF m 104 #[.val (.ref a1), .val (.int (Int32.ofNat dd)), .val (.int (Int32.ofNat i)), .val (.int (ff i)), .val (.int 0)] [])
              refine g_iinc B W106 (d_prog_5_method_4_104) (v := 1) (l' := #[.val (.ref a1), .val (.int (Int32.ofNat dd)), .val (.int (Int32.ofNat i + 1)), .val (.int (ff i)), .val (.int 0)]) (by decide) rfl rfl ?_
              rw [own_inc]
              show Go p.tables e below _ T106 (mkF m 107 #[.val (.ref a1), .val (.int (Int32.ofNat dd)), .val (.int (Int32.ofNat (i + 1))), .val (.int (ff i)), .val (.int 0)] [])
              refine g_goto B W106 (d_prog_5_method_4_107) (pc' := 36) (by decide) ?_
              show Go p.tables e below _ T106 (mkF m 36 #[.val (.ref a1), .val (.int (Int32.ofNat dd)), .val (.int (Int32.ofNat (i + 1))), .val (.int (ff i)), .val (.int 0)] [])
              exact ih _ _ _ _ (Or.inr ⟨_, rfl, rfl⟩) (Or.inr ⟨_, rfl, rfl⟩) (by omega) W106
            · skip
              refine g_icmp_n B W106 (d_prog_5_method_4_83) (XT.ii_eq_f hc119) ?_
              show Go p.tables e below _ T106 (mkF m 86 #[.val (.ref a1), .val (.int (Int32.ofNat dd)), .val (.int (Int32.ofNat i)), .val (.int (ff i)), .val (.int 0)] [])
              refine g_iload B W106 (d_prog_5_method_4_86) rfl ?_
              refine g_if_n B W106 (d_prog_5_method_4_88) (XT.i0_ne_f (by decide)) ?_
              show Go p.tables e below _ T106 (mkF m 91 #[.val (.ref a1), .val (.int (Int32.ofNat dd)), .val (.int (Int32.ofNat i)), .val (.int (ff i)), .val (.int 0)] [])
              refine g_iload_n B W106 (d_prog_5_method_4_91) rfl ?_
              refine g_bipush B W106 (d_prog_5_method_4_92) (v := 45) (by decide) ?_
              by_cases hc120 : (ff i) = 45
              · skip
                refine g_icmp_n B W106 (d_prog_5_method_4_94) (XT.ii_ne_f hc120) ?_
                show Go p.tables e below _ T106 (mkF m 97 #[.val (.ref a1), .val (.int (Int32.ofNat dd)), .val (.int (Int32.ofNat i)), .val (.int (ff i)), .val (.int 0)] [])
                refine g_iload_n B W106 (d_prog_5_method_4_97) rfl ?_
                refine g_iload_n B W106 (d_prog_5_method_4_98) rfl ?_
                by_cases hc121 : (Int32.ofNat i) < (Int32.ofNat dd)
                · skip
                  refine g_icmp_y B W106 (d_prog_5_method_4_99) (XT.ii_lt_t hc121) (pc' := 104) (by decide) ?_
                  show Go p.tables e below _ T106 (mkF m 104 #[.val (.ref a1), .val (.int (Int32.ofNat dd)), .val (.int (Int32.ofNat i)), .val (.int (ff i)), .val (.int 0)] [])
                  refine g_iinc B W106 (d_prog_5_method_4_104) (v := 1) (l' := #[.val (.ref a1), .val (.int (Int32.ofNat dd)), .val (.int (Int32.ofNat i + 1)), .val (.int (ff i)), .val (.int 0)]) (by decide) rfl rfl ?_
                  rw [own_inc]
                  show Go p.tables e below _ T106 (mkF m 107 #[.val (.ref a1), .val (.int (Int32.ofNat dd)), .val (.int (Int32.ofNat (i + 1))), .val (.int (ff i)), .val (.int 0)] [])
                  refine g_goto B W106 (d_prog_5_method_4_107) (pc' := 36) (by decide) ?_
                  show Go p.tables e below _ T106 (mkF m 36 #[.val (.ref a1), .val (.int (Int32.ofNat dd)), .val (.int (Int32.ofNat (i + 1))), .val (.int (ff i)), .val (.int 0)] [])
                  exact ih _ _ _ _ (Or.inr ⟨_, rfl, rfl⟩) (Or.inr ⟨_, rfl, rfl⟩) (by omega) W106
                · skip
                  refine g_icmp_n B W106 (d_prog_5_method_4_99) (XT.ii_lt_f hc121) ?_
                  show Go p.tables e below _ T106 (mkF m 102 #[.val (.ref a1), .val (.int (Int32.ofNat dd)), .val (.int (Int32.ofNat i)), .val (.int (ff i)), .val (.int 0)] [])
                  rw [own_lt (by omega) (by omega)] at hc121
                  have q := hok i hil (fun q => hc119 (by rw [q]))
                  exfalso; unfold Ex at q
                  simp only [Int32.lt_iff_toInt_lt, ← Int32.toInt_inj, Int32.reduceToInt] at hc107 hc117 hc118 hc120
                  omega
              · skip
                refine g_icmp_y B W106 (d_prog_5_method_4_94) (XT.ii_ne_t hc120) (pc' := 102) (by decide) ?_
                show Go p.tables e below _ T106 (mkF m 102 #[.val (.ref a1), .val (.int (Int32.ofNat dd)), .val (.int (Int32.ofNat i)), .val (.int (ff i)), .val (.int 0)] [])
                have q := hok i hil (fun q => hc119 (by rw [q]))
                exfalso; unfold Ex at q
                simp only [Int32.lt_iff_toInt_lt, ← Int32.toInt_inj, Int32.reduceToInt] at hc107 hc117 hc118 hc120
                omega
          · skip
            refine g_icmp_n B W106 (d_prog_5_method_4_65) (XT.ii_lt_f hc118) ?_
            show Go p.tables e below _ T106 (mkF m 68 #[.val (.ref a1), .val (.int (Int32.ofNat dd)), .val (.int (Int32.ofNat i)), .val (.int (ff i)), s4] [])
            refine g_iload_n B W106 (d_prog_5_method_4_68) rfl ?_
            refine g_bipush B W106 (d_prog_5_method_4_69) (v := 57) (by decide) ?_
            by_cases hc122 : 57 < (ff i)
            · skip
              refine g_icmp_y B W106 (d_prog_5_method_4_71) (XT.ii_gt_t hc122) (pc' := 78) (by decide) ?_
              show Go p.tables e below _ T106 (mkF m 78 #[.val (.ref a1), .val (.int (Int32.ofNat dd)), .val (.int (Int32.ofNat i)), .val (.int (ff i)), s4] [])
              refine g_iconst B W106 (d_prog_5_method_4_78) (v := 0) (by decide) ?_
              refine g_istore B W106 (d_prog_5_method_4_79)  (l' := #[.val (.ref a1), .val (.int (Int32.ofNat dd)), .val (.int (Int32.ofNat i)), .val (.int (ff i)), .val (.int 0)]) (XS.store1 rfl hx4 rfl) ?_
              refine g_iload_n B W106 (d_prog_5_method_4_81) rfl ?_
              refine g_iload_n B W106 (d_prog_5_method_4_82) rfl ?_
              by_cases hc123 : (Int32.ofNat i) = (Int32.ofNat dd)
              · skip
                refine g_icmp_y B W106 (d_prog_5_method_4_83) (XT.ii_eq_t hc123) (pc' := 104) (by decide) ?_
                show Go p.tables e below _ T106 (mkF m 104 #[.val (.ref a1), .val (.int (Int32.ofNat dd)), .val (.int (Int32.ofNat i)), .val (.int (ff i)), .val (.int 0)] [])
                refine g_iinc B W106 (d_prog_5_method_4_104) (v := 1) (l' := #[.val (.ref a1), .val (.int (Int32.ofNat dd)), .val (.int (Int32.ofNat i + 1)), .val (.int (ff i)), .val (.int 0)]) (by decide) rfl rfl ?_
                rw [own_inc]
                show Go p.tables e below _ T106 (mkF m 107 #[.val (.ref a1), .val (.int (Int32.ofNat dd)), .val (.int (Int32.ofNat (i + 1))), .val (.int (ff i)), .val (.int 0)] [])
                refine g_goto B W106 (d_prog_5_method_4_107) (pc' := 36) (by decide) ?_
                show Go p.tables e below _ T106 (mkF m 36 #[.val (.ref a1), .val (.int (Int32.ofNat dd)), .val (.int (Int32.ofNat (i + 1))), .val (.int (ff i)), .val (.int 0)] [])
                exact ih _ _ _ _ (Or.inr ⟨_, rfl, rfl⟩) (Or.inr ⟨_, rfl, rfl⟩) (by omega) W106
              · skip
                refine g_icmp_n B W106 (d_prog_5_method_4_83) (XT.ii_eq_f hc123) ?_
                show Go p.tables e below _ T106 (mkF m 86 #[.val (.ref a1), .val (.int (Int32.ofNat dd)), .val (.int (Int32.ofNat i)), .val (.int (ff i)), .val (.int 0)] [])
                refine g_iload B W106 (d_prog_5_method_4_86) rfl ?_
                refine g_if_n B W106 (d_prog_5_method_4_88) (XT.i0_ne_f (by decide)) ?_
                show Go p.tables e below _ T106 (mkF m 91 #[.val (.ref a1), .val (.int (Int32.ofNat dd)), .val (.int (Int32.ofNat i)), .val (.int (ff i)), .val (.int 0)] [])
                refine g_iload_n B W106 (d_prog_5_method_4_91) rfl ?_
                refine g_bipush B W106 (d_prog_5_method_4_92) (v := 45) (by decide) ?_
                by_cases hc124 : (ff i) = 45
                · skip
                  refine g_icmp_n B W106 (d_prog_5_method_4_94) (XT.ii_ne_f hc124) ?_
                  show Go p.tables e below _ T106 (mkF m 97 #[.val (.ref a1), .val (.int (Int32.ofNat dd)), .val (.int (Int32.ofNat i)), .val (.int (ff i)), .val (.int 0)] [])
                  refine g_iload_n B W106 (d_prog_5_method_4_97) rfl ?_
                  refine g_iload_n B W106 (d_prog_5_method_4_98) rfl ?_
                  by_cases hc125 : (Int32.ofNat i) < (Int32.ofNat dd)
                  · skip
                    refine g_icmp_y B W106 (d_prog_5_method_4_99) (XT.ii_lt_t hc125) (pc' := 104) (by decide) ?_
                    show Go p.tables e below _ T106 (mkF m 104 #[.val (.ref a1), .val (.int (Int32.ofNat dd)), .val (.int (Int32.ofNat i)), .val (.int (ff i)), .val (.int 0)] [])
                    refine g_iinc B W106 (d_prog_5_method_4_104) (v := 1) (l' := #[.val (.ref a1), .val (.int (Int32.ofNat dd)), .val (.int (Int32.ofNat i + 1)), .val (.int (ff i)), .val (.int 0)]) (by decide) rfl rfl ?_
                    rw [own_inc]
                    show Go p.tables e below _ T106 (mkF m 107 #[.val (.ref a1), .val (.int (Int32.ofNat dd)), .val (.int (Int32.ofNat (i + 1))), .val (.int (ff i)), .val (.int 0)] [])
                    refine g_goto B W106 (d_prog_5_method_4_107) (pc' := 36) (by decide) ?_
                    show Go p.tables e below _ T106 (mkF m 36 #[.val (.ref a1), .val (.int (Int32.ofNat dd)), .val (.int (Int32.ofNat (i + 1))), .val (.int (ff i)), .val (.int 0)] [])
                    exact ih _ _ _ _ (Or.inr ⟨_, rfl, rfl⟩) (Or.inr ⟨_, rfl, rfl⟩) (by omega) W106
                  · skip
                    refine g_icmp_n B W106 (d_prog_5_method_4_99) (XT.ii_lt_f hc125) ?_
                    show Go p.tables e below _ T106 (mkF m 102 #[.val (.ref a1), .val (.int (Int32.ofNat dd)), .val (.int (Int32.ofNat i)), .val (.int (ff i)), .val (.int 0)] [])
                    rw [own_lt (by omega) (by omega)] at hc125
                    have q := hok i hil (fun q => hc123 (by rw [q]))
                    exfalso; unfold Ex at q
                    simp only [Int32.lt_iff_toInt_lt, ← Int32.toInt_inj, Int32.reduceToInt] at hc107 hc117 hc118 hc122 hc124
                    omega
                · skip
                  refine g_icmp_y B W106 (d_prog_5_method_4_94) (XT.ii_ne_t hc124) (pc' := 102) (by decide) ?_
                  show Go p.tables e below _ T106 (mkF m 102 #[.val (.ref a1), .val (.int (Int32.ofNat dd)), .val (.int (Int32.ofNat i)), .val (.int (ff i)), .val (.int 0)] [])
                  have q := hok i hil (fun q => hc123 (by rw [q]))
                  exfalso; unfold Ex at q
                  simp only [Int32.lt_iff_toInt_lt, ← Int32.toInt_inj, Int32.reduceToInt] at hc107 hc117 hc118 hc122 hc124
                  omega
            · skip
              refine g_icmp_n B W106 (d_prog_5_method_4_71) (XT.ii_gt_f hc122) ?_
              show Go p.tables e below _ T106 (mkF m 74 #[.val (.ref a1), .val (.int (Int32.ofNat dd)), .val (.int (Int32.ofNat i)), .val (.int (ff i)), s4] [])
              refine g_iconst B W106 (d_prog_5_method_4_74) (v := 1) (by decide) ?_
              refine g_goto B W106 (d_prog_5_method_4_75) (pc' := 79) (by decide) ?_
              show Go p.tables e below _ T106 (mkF m 79 #[.val (.ref a1), .val (.int (Int32.ofNat dd)), .val (.int (Int32.ofNat i)), .val (.int (ff i)), s4] [(.int 1)])
              refine g_istore B W106 (d_prog_5_method_4_79)  (l' := #[.val (.ref a1), .val (.int (Int32.ofNat dd)), .val (.int (Int32.ofNat i)), .val (.int (ff i)), .val (.int 1)]) (XS.store1 rfl hx4 rfl) ?_
              refine g_iload_n B W106 (d_prog_5_method_4_81) rfl ?_
              refine g_iload_n B W106 (d_prog_5_method_4_82) rfl ?_
              by_cases hc126 : (Int32.ofNat i) = (Int32.ofNat dd)
              · skip
                refine g_icmp_y B W106 (d_prog_5_method_4_83) (XT.ii_eq_t hc126) (pc' := 104) (by decide) ?_
                show Go p.tables e below _ T106 (mkF m 104 #[.val (.ref a1), .val (.int (Int32.ofNat dd)), .val (.int (Int32.ofNat i)), .val (.int (ff i)), .val (.int 1)] [])
                refine g_iinc B W106 (d_prog_5_method_4_104) (v := 1) (l' := #[.val (.ref a1), .val (.int (Int32.ofNat dd)), .val (.int (Int32.ofNat i + 1)), .val (.int (ff i)), .val (.int 1)]) (by decide) rfl rfl ?_
                rw [own_inc]
                show Go p.tables e below _ T106 (mkF m 107 #[.val (.ref a1), .val (.int (Int32.ofNat dd)), .val (.int (Int32.ofNat (i + 1))), .val (.int (ff i)), .val (.int 1)] [])
                refine g_goto B W106 (d_prog_5_method_4_107) (pc' := 36) (by decide) ?_
                show Go p.tables e below _ T106 (mkF m 36 #[.val (.ref a1), .val (.int (Int32.ofNat dd)), .val (.int (Int32.ofNat (i + 1))), .val (.int (ff i)), .val (.int 1)] [])
                exact ih _ _ _ _ (Or.inr ⟨_, rfl, rfl⟩) (Or.inr ⟨_, rfl, rfl⟩) (by omega) W106
              · skip
                refine g_icmp_n B W106 (d_prog_5_method_4_83) (XT.ii_eq_f hc126) ?_
                show Go p.tables e below _ T106 (mkF m 86 #[.val (.ref a1), .val (.int (Int32.ofNat dd)), .val (.int (Int32.ofNat i)), .val (.int (ff i)), .val (.int 1)] [])
                refine g_iload B W106 (d_prog_5_method_4_86) rfl ?_
                refine g_if_y B W106 (d_prog_5_method_4_88) (XT.i0_ne_t (by decide)) (pc' := 104) (by decide) ?_
                show Go p.tables e below _ T106 (mkF m 104 #[.val (.ref a1), .val (.int (Int32.ofNat dd)), .val (.int (Int32.ofNat i)), .val (.int (ff i)), .val (.int 1)] [])
                refine g_iinc B W106 (d_prog_5_method_4_104) (v := 1) (l' := #[.val (.ref a1), .val (.int (Int32.ofNat dd)), .val (.int (Int32.ofNat i + 1)), .val (.int (ff i)), .val (.int 1)]) (by decide) rfl rfl ?_
                rw [own_inc]
                show Go p.tables e below _ T106 (mkF m 107 #[.val (.ref a1), .val (.int (Int32.ofNat dd)), .val (.int (Int32.ofNat (i + 1))), .val (.int (ff i)), .val (.int 1)] [])
                refine g_goto B W106 (d_prog_5_method_4_107) (pc' := 36) (by decide) ?_
                show Go p.tables e below _ T106 (mkF m 36 #[.val (.ref a1), .val (.int (Int32.ofNat dd)), .val (.int (Int32.ofNat (i + 1))), .val (.int (ff i)), .val (.int 1)] [])
                exact ih _ _ _ _ (Or.inr ⟨_, rfl, rfl⟩) (Or.inr ⟨_, rfl, rfl⟩) (by omega) W106
        · skip
          refine g_icmp_y B W106 (d_prog_5_method_4_59) (XT.ii_le_t hc117) (pc' := 74) (by decide) ?_
          show Go p.tables e below _ T106 (mkF m 74 #[.val (.ref a1), .val (.int (Int32.ofNat dd)), .val (.int (Int32.ofNat i)), .val (.int (ff i)), s4] [])
          refine g_iconst B W106 (d_prog_5_method_4_74) (v := 1) (by decide) ?_
          refine g_goto B W106 (d_prog_5_method_4_75) (pc' := 79) (by decide) ?_
          show Go p.tables e below _ T106 (mkF m 79 #[.val (.ref a1), .val (.int (Int32.ofNat dd)), .val (.int (Int32.ofNat i)), .val (.int (ff i)), s4] [(.int 1)])
          refine g_istore B W106 (d_prog_5_method_4_79)  (l' := #[.val (.ref a1), .val (.int (Int32.ofNat dd)), .val (.int (Int32.ofNat i)), .val (.int (ff i)), .val (.int 1)]) (XS.store1 rfl hx4 rfl) ?_
          refine g_iload_n B W106 (d_prog_5_method_4_81) rfl ?_
          refine g_iload_n B W106 (d_prog_5_method_4_82) rfl ?_
          by_cases hc127 : (Int32.ofNat i) = (Int32.ofNat dd)
          · skip
            refine g_icmp_y B W106 (d_prog_5_method_4_83) (XT.ii_eq_t hc127) (pc' := 104) (by decide) ?_
            show Go p.tables e below _ T106 (mkF m 104 #[.val (.ref a1), .val (.int (Int32.ofNat dd)), .val (.int (Int32.ofNat i)), .val (.int (ff i)), .val (.int 1)] [])
            refine g_iinc B W106 (d_prog_5_method_4_104) (v := 1) (l' := #[.val (.ref a1), .val (.int (Int32.ofNat dd)), .val (.int (Int32.ofNat i + 1)), .val (.int (ff i)), .val (.int 1)]) (by decide) rfl rfl ?_
            rw [own_inc]
            show Go p.tables e below _ T106 (mkF m 107 #[.val (.ref a1), .val (.int (Int32.ofNat dd)), .val (.int (Int32.ofNat (i + 1))), .val (.int (ff i)), .val (.int 1)] [])
            refine g_goto B W106 (d_prog_5_method_4_107) (pc' := 36) (by decide) ?_
            show Go p.tables e below _ T106 (mkF m 36 #[.val (.ref a1), .val (.int (Int32.ofNat dd)), .val (.int (Int32.ofNat (i + 1))), .val (.int (ff i)), .val (.int 1)] [])
            exact ih _ _ _ _ (Or.inr ⟨_, rfl, rfl⟩) (Or.inr ⟨_, rfl, rfl⟩) (by omega) W106
          · skip
            refine g_icmp_n B W106 (d_prog_5_method_4_83) (XT.ii_eq_f hc127) ?_
            show Go p.tables e below _ T106 (mkF m 86 #[.val (.ref a1), .val (.int (Int32.ofNat dd)), .val (.int (Int32.ofNat i)), .val (.int (ff i)), .val (.int 1)] [])
            refine g_iload B W106 (d_prog_5_method_4_86) rfl ?_
            refine g_if_y B W106 (d_prog_5_method_4_88) (XT.i0_ne_t (by decide)) (pc' := 104) (by decide) ?_
            show Go p.tables e below _ T106 (mkF m 104 #[.val (.ref a1), .val (.int (Int32.ofNat dd)), .val (.int (Int32.ofNat i)), .val (.int (ff i)), .val (.int 1)] [])
            refine g_iinc B W106 (d_prog_5_method_4_104) (v := 1) (l' := #[.val (.ref a1), .val (.int (Int32.ofNat dd)), .val (.int (Int32.ofNat i + 1)), .val (.int (ff i)), .val (.int 1)]) (by decide) rfl rfl ?_
            rw [own_inc]
            show Go p.tables e below _ T106 (mkF m 107 #[.val (.ref a1), .val (.int (Int32.ofNat dd)), .val (.int (Int32.ofNat (i + 1))), .val (.int (ff i)), .val (.int 1)] [])
            refine g_goto B W106 (d_prog_5_method_4_107) (pc' := 36) (by decide) ?_
            show Go p.tables e below _ T106 (mkF m 36 #[.val (.ref a1), .val (.int (Int32.ofNat dd)), .val (.int (Int32.ofNat (i + 1))), .val (.int (ff i)), .val (.int 1)] [])
            exact ih _ _ _ _ (Or.inr ⟨_, rfl, rfl⟩) (Or.inr ⟨_, rfl, rfl⟩) (by omega) W106
  exact loop nn 0 .unset .unset _ (Or.inl rfl) (Or.inl rfl) (by omega) W103
theorem ef_rec (m : MethodId) (a1 : Addr) : entryFrame m #[(.ref a1)] 1 = mkF m 0 #[.val (.ref a1)] [] := by first | (simp [entryFrame, mkF, argsToLocals, Value.category]; done) | rfl
def Q_rec (Z : State) (a1 : Addr) (h0 : Heap) (v : Option Value) (h : Heap) : Prop := v = none ∧ h0 = h
set_option maxRecDepth 65536 in
set_option maxHeartbeats 40000000 in
theorem c_rec (l : Launch) (Z : State) (a0 : Array Value) (hw : ∀ d ∈ tables_1, d.before a0 Z = true) (a1 : Addr) (h0 : Heap) :
    Con l Z (⟨"java/lang/Record", "<init>", "()V"⟩ : MethodName) jdk_30_method_1_code 1 (Option.none : Option FieldType) [] ({ frames := 1, cells := 0, slots := 0, locals := 12 } : Room) #[(.ref a1)] h0 (Q_rec Z a1 h0) := by
  refine Con.of (plainFor_of_name pn_java_lang_Record) ?_
  intro p e s m below meth c T0 B W0
  refine Go.cast (ef_rec m a1 ) ?_
  refine g_aload_n B W0 (d_jdk_30_method_1_0) rfl rfl ?_
  obtain ⟨T101, W101, st101⟩ := x_init B W0 (d_jdk_30_method_1_1) (tw hw 53 rfl) (tw hw 24 rfl) (tw hw 25 rfl) a1 #[.val (.ref a1)] [] rfl 0 rfl (by decide) (by decide)
  refine st101 _ ?_
  exact r_v B W101 (d_jdk_30_method_1_4) (by decide) (by decide) ⟨rfl, rfl⟩
theorem ef_fp0 (m : MethodId) (a1 : Addr) (s1 : Addr) (nn : Nat) (ff : Nat → Int32) (dd : Nat) (cz : Int32) (sf : Value) : entryFrame m #[(.ref a1), (.ref s1)] 3 = mkF m 0 #[.val (.ref a1), .val (.ref s1), .unset] [] := by first | (simp [entryFrame, mkF, argsToLocals, Value.category]; done) | rfl
def Q_fp0 (Z : State) (a1 : Addr) (s1 : Addr) (nn : Nat) (ff : Nat → Int32) (dd : Nat) (cz : Int32) (sf : Value) (h0 : Heap) (v : Option Value) (h : Heap) : Prop := v = none ∧ Keep h0 h [a1] ∧ Exa Z h a1 "com/example/presswright/presswright/publishing/FilePath" ∧ Fld Z h a1 "com/example/presswright/presswright/publishing/FilePath" "path" "Ljava/lang/String;" (.ref s1)
set_option maxRecDepth 65536 in
set_option maxHeartbeats 40000000 in
theorem c_fp0 (l : Launch) (Z : State) (a0 : Array Value) (hw : ∀ d ∈ tables_1, d.before a0 Z = true) (a1 : Addr) (s1 : Addr) (nn : Nat) (ff : Nat → Int32) (dd : Nat) (cz : Int32) (sf : Value) (h0 : Heap) (Scs : Sta Z Z.heap "java/lang/String" "COMPACT_STRINGS" "Z" (.int cz)) (hcz : ¬ cz = 0) (Ssf : Sta Z Z.heap "jdk/internal/util/Preconditions" "SIOOBE_FORMATTER" "Ljava/util/function/BiFunction;" sf) (rsf : sf.isRef = true) (E1 : Exa Z h0 a1 "com/example/presswright/presswright/publishing/FilePath") (F1 : Fld Z h0 a1 "com/example/presswright/presswright/publishing/FilePath" "path" "Ljava/lang/String;" .null) (g1 : Z.heap.size ≤ a1) (S1 : StrIs Z h0 s1 (lst nn ff)) (hn : nn ≤ 9) (e0 : ff 0 = 47) (hgt : ∀ j, 0 < j → j < nn → ¬ ff j = 47) (hd1 : 2 ≤ dd) (hd2 : dd + 1 < nn) (hdd : ff dd = 46) (hok : ∀ j, 0 < j → j < nn → ¬ j = dd → Ex (ff j) ∨ (ff j).toInt = 45 ∧ j < dd) :
    Con l Z (⟨"com/example/presswright/presswright/publishing/FilePath", "<init>", "(Ljava/lang/String;)V"⟩ : MethodName) prog_5_method_1_code 3 (Option.none : Option FieldType) [] ({ frames := 6, cells := 4, slots := 26, locals := 106 } : Room) #[(.ref a1), (.ref s1)] h0 (Q_fp0 Z a1 s1 nn ff dd cz sf h0) := by
  refine Con.of (plainFor_of_name pn_com_example_presswright_presswright_publishing_FilePath) ?_
  intro p e s m below meth c T0 B W0
  refine Go.cast (ef_fp0 m a1 s1 nn ff dd cz sf ) ?_
  have E_s1 := S1.exa
  have l_a1 := nlt E1.lt
  refine g_aload_n B W0 (d_prog_5_method_1_0) rfl rfl ?_
  obtain ⟨T101, h101, v101, W101, Q101, st101⟩ := x_special B W0 (b := a1) [] (c_rec l Z a0 hw a1 h0) (d_prog_5_method_1_1) rfl (tw hw 48 rfl) (tw hw 49 rfl) (tw hw 51 rfl) (tw hw 52 rfl) (by decide) (lenOf pd___V rfl) #[.val (.ref a1), .val (.ref s1), .unset] [] rfl 0 rfl (by decide) (by decide) (by decide) (by decide)
  obtain ⟨rfl, rfl⟩ := Q101
  refine st101 _ ?_
  refine g_aload_n B W101 (d_prog_5_method_1_4) rfl rfl ?_
  refine g_bipush B W101 (d_prog_5_method_1_5) (v := 47) (by decide) ?_
  obtain ⟨T102, h102, v102, W102, Q102, st102⟩ := x_virtual B W101 (b := s1) [(.int 47)] (c_slast1 l Z a0 hw s1 nn ff 47 0 cz h0 Scs hcz S1 (by decide) (by omega) e0 hgt) E_s1 (d_prog_5_method_1_7) (tw hw 54 rfl) (tw hw 55 rfl) (tw hw 57 rfl) (tw hw 56 rfl) (tw hw 15 rfl) (tw hw 58 rfl) (by decide) (lenOf pd__I_I rfl) #[.val (.ref a1), .val (.ref s1), .unset] [] rfl 0 rfl (by decide) (by decide) (by decide) (by decide)
  obtain ⟨rfl, rfl⟩ := Q102
  refine st102 _ ?_
  show Go p.tables e below _ T102 (mkF m 10 #[.val (.ref a1), .val (.ref s1), .unset] [(.int 0)])
  refine g_istore_n B W102 (d_prog_5_method_1_10)  (l' := #[.val (.ref a1), .val (.ref s1), .val (.int 0)]) rfl ?_
  refine g_aload_n B W102 (d_prog_5_method_1_11) rfl rfl ?_
  refine g_iconst B W102 (d_prog_5_method_1_12) (v := 0) (by decide) ?_
  refine g_iload_n B W102 (d_prog_5_method_1_13) rfl ?_
  refine g_iconst B W102 (d_prog_5_method_1_14) (v := 1) (by decide) ?_
  refine g_iadd B W102 (d_prog_5_method_1_15)  ?_
  rw [show (0 + 1 : Int32) = 1 by decide]
  obtain ⟨T103, h103, v103, W103, Q103, st103⟩ := x_virtual B W102 (b := s1) [(.int 0), (.int 1)] (c_sub2 l Z a0 hw s1 nn ff 0 1 cz sf h0 Scs hcz Ssf rsf S1 (by omega) (by omega) (by omega) (by omega)) E_s1 (d_prog_5_method_1_16) (tw hw 90 rfl) (tw hw 91 rfl) (tw hw 93 rfl) (tw hw 92 rfl) (tw hw 15 rfl) (tw hw 94 rfl) (by decide) (lenOf pd__II_Ljava_lang_String_ rfl) #[.val (.ref a1), .val (.ref s1), .val (.int 0)] [] rfl 0 rfl (by decide) (by decide) (by decide) (by decide)
  obtain ⟨b103, rfl, K103, S103⟩ := Q103
  have s104 := K103.1
  refine st103 _ ?_
  have E103 := S103.exa
  have l103 := nlt E103.lt
  obtain ⟨T105, h105, v105, W105, Q105, st105⟩ := x_static B W103 [(.ref b103)] (c_pp1 l Z a0 hw b103 (fun i => ff (0 + i)) cz sf h103 Scs hcz Ssf rsf S103 e0) (d_prog_5_method_1_19) (tw hw 125 rfl) (tw hw 126 rfl) (tw hw 127 rfl) (tw hw 128 rfl) (by decide) (lenOf pd__Ljava_lang_String__Z rfl) #[.val (.ref a1), .val (.ref s1), .val (.int 0)] [] rfl 0 rfl (by decide) (by decide) (by decide) (by decide)
  obtain ⟨rfl, rfl⟩ := Q105
  refine st105 _ ?_
  show Go p.tables e below _ T105 (mkF m 22 #[.val (.ref a1), .val (.ref s1), .val (.int 0)] [(.int 1)])
  refine g_if_n B W105 (d_prog_5_method_1_22) (XT.i0_eq_f (by decide)) ?_
  show Go p.tables e below _ T105 (mkF m 25 #[.val (.ref a1), .val (.ref s1), .val (.int 0)] [])
  refine g_aload_n B W105 (d_prog_5_method_1_25) rfl rfl ?_
  refine g_iload_n B W105 (d_prog_5_method_1_26) rfl ?_
  refine g_iconst B W105 (d_prog_5_method_1_27) (v := 1) (by decide) ?_
  refine g_iadd B W105 (d_prog_5_method_1_28)  ?_
  rw [show (0 + 1 : Int32) = 1 by decide]
  have f106 := (S1.keep ((Keep.refl h0 []).trans K103 all0))
  have f108 := (E_s1.keep K103)
  obtain ⟨T107, h107, v107, W107, Q107, st107⟩ := x_virtual B W105 (b := s1) [(.int 1)] (c_sub1 l Z a0 hw s1 nn ff 1 cz sf h103 Scs hcz Ssf rsf f106 (by omega) (by omega) (by omega)) f108 (d_prog_5_method_1_29) (tw hw 144 rfl) (tw hw 145 rfl) (tw hw 147 rfl) (tw hw 146 rfl) (tw hw 15 rfl) (tw hw 148 rfl) (by decide) (lenOf pd__I_Ljava_lang_String_ rfl) #[.val (.ref a1), .val (.ref s1), .val (.int 0)] [] rfl 0 rfl (by decide) (by decide) (by decide) (by decide)
  obtain ⟨b107, rfl, K107, S107⟩ := Q107
  have s109 := K107.1
  refine st107 _ ?_
  have E107 := S107.exa
  have l107 := nlt E107.lt
  obtain ⟨T110, h110, v110, W110, Q110, st110⟩ := x_static B W107 [(.ref b107)] (c_ifn l Z a0 hw b107 (nn - 1) (fun i => ff (1 + i)) (dd - 1) cz sf h107 Scs hcz Ssf rsf S107 (by omega) (by omega) (by omega) (by show ff (1 + (dd - 1)) = 46; rw [show 1 + (dd - 1) = dd by omega]; exact hdd) (fun j h1 h2 => (hok (1 + j) (by omega) (by omega) (by omega)).imp id (fun q => ⟨q.1, by omega⟩))) (d_prog_5_method_1_32) (tw hw 150 rfl) (tw hw 151 rfl) (tw hw 44 rfl) (tw hw 152 rfl) (by decide) (lenOf pd__Ljava_lang_String__Z rfl) #[.val (.ref a1), .val (.ref s1), .val (.int 0)] [] rfl 0 rfl (by decide) (by decide) (by decide) (by decide)
  obtain ⟨rfl, rfl⟩ := Q110
  refine st110 _ ?_
  show Go p.tables e below _ T110 (mkF m 35 #[.val (.ref a1), .val (.ref s1), .val (.int 0)] [(.int 1)])
  refine g_if_y B W110 (d_prog_5_method_1_35) (XT.i0_ne_t (by decide)) (pc' := 52) (by decide) ?_
  show Go p.tables e below _ T110 (mkF m 52 #[.val (.ref a1), .val (.ref s1), .val (.int 0)] [])
  refine g_aload_n B W110 (d_prog_5_method_1_52) rfl rfl ?_
  refine g_aload_n B W110 (d_prog_5_method_1_53) rfl rfl ?_
  have f111 := ((F1.keep K103 nin0).keep K107 nin0)
  have f112 := ((E1.keep K103).keep K107)
  obtain ⟨T113, h113, W113, K113, R113, F113, E113, st113⟩ := x_put B W110 (d_prog_5_method_1_54) ((tw hw 174 rfl)) Via.refl f111 f112 (Or.inr ⟨ (tw hw 175 rfl), rfl, rfl⟩) (tw hw 43 rfl) (ty := (.object "java/lang/String")) (v := (.ref s1)) (v' := (.ref s1)) (by decide) rfl rfl (by omega) #[.val (.ref a1), .val (.ref s1), .val (.int 0)] []
  refine st113 _ ?_
  have s114 := K113.1
  exact r_v B W113 (d_prog_5_method_1_57) (by decide) (by decide) ⟨rfl, ((((Keep.refl h0 [a1]).trans K103 all0).trans K107 all0).trans K113 (allS (Or.inl (by simp)) all0)), E113, F113⟩
theorem ef_fp2 (m : MethodId) (a1 : Addr) (s1 : Addr) (nn : Nat) (ff : Nat → Int32) (dd : Nat) (cz : Int32) (sf : Value) : entryFrame m #[(.ref a1), (.ref s1)] 3 = mkF m 0 #[.val (.ref a1), .val (.ref s1), .unset] [] := by first | (simp [entryFrame, mkF, argsToLocals, Value.category]; done) | rfl
def Q_fp2 (Z : State) (a1 : Addr) (s1 : Addr) (nn : Nat) (ff : Nat → Int32) (dd : Nat) (cz : Int32) (sf : Value) (h0 : Heap) (v : Option Value) (h : Heap) : Prop := v = none ∧ Keep h0 h [a1] ∧ Exa Z h a1 "com/example/presswright/presswright/publishing/FilePath" ∧ Fld Z h a1 "com/example/presswright/presswright/publishing/FilePath" "path" "Ljava/lang/String;" (.ref s1)
set_option maxRecDepth 65536 in
set_option maxHeartbeats 40000000 in
theorem c_fp2 (l : Launch) (Z : State) (a0 : Array Value) (hw : ∀ d ∈ tables_1, d.before a0 Z = true) (a1 : Addr) (s1 : Addr) (nn : Nat) (ff : Nat → Int32) (dd : Nat) (cz : Int32) (sf : Value) (h0 : Heap) (Scs : Sta Z Z.heap "java/lang/String" "COMPACT_STRINGS" "Z" (.int cz)) (hcz : ¬ cz = 0) (Ssf : Sta Z Z.heap "jdk/internal/util/Preconditions" "SIOOBE_FORMATTER" "Ljava/util/function/BiFunction;" sf) (rsf : sf.isRef = true) (E1 : Exa Z h0 a1 "com/example/presswright/presswright/publishing/FilePath") (F1 : Fld Z h0 a1 "com/example/presswright/presswright/publishing/FilePath" "path" "Ljava/lang/String;" .null) (g1 : Z.heap.size ≤ a1) (S1 : StrIs Z h0 s1 (lst nn ff)) (hn : nn ≤ 9) (e0 : ff 0 = 47) (e1 : Sg (ff 1)) (e2 : ff 2 = 47) (hgt : ∀ j, 2 < j → j < nn → ¬ ff j = 47) (hd1 : 4 ≤ dd) (hd2 : dd + 1 < nn) (hdd : ff dd = 46) (hok : ∀ j, 2 < j → j < nn → ¬ j = dd → Ex (ff j) ∨ (ff j).toInt = 45 ∧ j < dd) :
    Con l Z (⟨"com/example/presswright/presswright/publishing/FilePath", "<init>", "(Ljava/lang/String;)V"⟩ : MethodName) prog_5_method_1_code 3 (Option.none : Option FieldType) [] ({ frames := 6, cells := 4, slots := 26, locals := 106 } : Room) #[(.ref a1), (.ref s1)] h0 (Q_fp2 Z a1 s1 nn ff dd cz sf h0) := by
  refine Con.of (plainFor_of_name pn_com_example_presswright_presswright_publishing_FilePath) ?_
  intro p e s m below meth c T0 B W0
  refine Go.cast (ef_fp2 m a1 s1 nn ff dd cz sf ) ?_
  have E_s1 := S1.exa
  have l_a1 := nlt E1.lt
  refine g_aload_n B W0 (d_prog_5_method_1_0) rfl rfl ?_
  obtain ⟨T101, h101, v101, W101, Q101, st101⟩ := x_special B W0 (b := a1) [] (c_rec l Z a0 hw a1 h0) (d_prog_5_method_1_1) rfl (tw hw 48 rfl) (tw hw 49 rfl) (tw hw 51 rfl) (tw hw 52 rfl) (by decide) (lenOf pd___V rfl) #[.val (.ref a1), .val (.ref s1), .unset] [] rfl 0 rfl (by decide) (by decide) (by decide) (by decide)
  obtain ⟨rfl, rfl⟩ := Q101
  refine st101 _ ?_
  refine g_aload_n B W101 (d_prog_5_method_1_4) rfl rfl ?_
  refine g_bipush B W101 (d_prog_5_method_1_5) (v := 47) (by decide) ?_
  obtain ⟨T102, h102, v102, W102, Q102, st102⟩ := x_virtual B W101 (b := s1) [(.int 47)] (c_slast1 l Z a0 hw s1 nn ff 47 2 cz h0 Scs hcz S1 (by decide) (by omega) e2 hgt) E_s1 (d_prog_5_method_1_7) (tw hw 54 rfl) (tw hw 55 rfl) (tw hw 57 rfl) (tw hw 56 rfl) (tw hw 15 rfl) (tw hw 58 rfl) (by decide) (lenOf pd__I_I rfl) #[.val (.ref a1), .val (.ref s1), .unset] [] rfl 0 rfl (by decide) (by decide) (by decide) (by decide)
  obtain ⟨rfl, rfl⟩ := Q102
  refine st102 _ ?_
  show Go p.tables e below _ T102 (mkF m 10 #[.val (.ref a1), .val (.ref s1), .unset] [(.int 2)])
  refine g_istore_n B W102 (d_prog_5_method_1_10)  (l' := #[.val (.ref a1), .val (.ref s1), .val (.int 2)]) rfl ?_
  refine g_aload_n B W102 (d_prog_5_method_1_11) rfl rfl ?_
  refine g_iconst B W102 (d_prog_5_method_1_12) (v := 0) (by decide) ?_
  refine g_iload_n B W102 (d_prog_5_method_1_13) rfl ?_
  refine g_iconst B W102 (d_prog_5_method_1_14) (v := 1) (by decide) ?_
  refine g_iadd B W102 (d_prog_5_method_1_15)  ?_
  rw [show (2 + 1 : Int32) = 3 by decide]
  obtain ⟨T103, h103, v103, W103, Q103, st103⟩ := x_virtual B W102 (b := s1) [(.int 0), (.int 3)] (c_sub2 l Z a0 hw s1 nn ff 0 3 cz sf h0 Scs hcz Ssf rsf S1 (by omega) (by omega) (by omega) (by omega)) E_s1 (d_prog_5_method_1_16) (tw hw 90 rfl) (tw hw 91 rfl) (tw hw 93 rfl) (tw hw 92 rfl) (tw hw 15 rfl) (tw hw 94 rfl) (by decide) (lenOf pd__II_Ljava_lang_String_ rfl) #[.val (.ref a1), .val (.ref s1), .val (.int 2)] [] rfl 0 rfl (by decide) (by decide) (by decide) (by decide)
  obtain ⟨b103, rfl, K103, S103⟩ := Q103
  have s104 := K103.1
  refine st103 _ ?_
  have E103 := S103.exa
  have l103 := nlt E103.lt
  obtain ⟨T105, h105, v105, W105, Q105, st105⟩ := x_static B W103 [(.ref b103)] (c_pp3 l Z a0 hw b103 (fun i => ff (0 + i)) cz sf h103 Scs hcz Ssf rsf S103 e0 e1 e2) (d_prog_5_method_1_19) (tw hw 125 rfl) (tw hw 126 rfl) (tw hw 127 rfl) (tw hw 128 rfl) (by decide) (lenOf pd__Ljava_lang_String__Z rfl) #[.val (.ref a1), .val (.ref s1), .val (.int 2)] [] rfl 0 rfl (by decide) (by decide) (by decide) (by decide)
  obtain ⟨rfl, rfl⟩ := Q105
  refine st105 _ ?_
  show Go p.tables e below _ T105 (mkF m 22 #[.val (.ref a1), .val (.ref s1), .val (.int 2)] [(.int 1)])
  refine g_if_n B W105 (d_prog_5_method_1_22) (XT.i0_eq_f (by decide)) ?_
  show Go p.tables e below _ T105 (mkF m 25 #[.val (.ref a1), .val (.ref s1), .val (.int 2)] [])
  refine g_aload_n B W105 (d_prog_5_method_1_25) rfl rfl ?_
  refine g_iload_n B W105 (d_prog_5_method_1_26) rfl ?_
  refine g_iconst B W105 (d_prog_5_method_1_27) (v := 1) (by decide) ?_
  refine g_iadd B W105 (d_prog_5_method_1_28)  ?_
  rw [show (2 + 1 : Int32) = 3 by decide]
  have f106 := (S1.keep ((Keep.refl h0 []).trans K103 all0))
  have f108 := (E_s1.keep K103)
  obtain ⟨T107, h107, v107, W107, Q107, st107⟩ := x_virtual B W105 (b := s1) [(.int 3)] (c_sub1 l Z a0 hw s1 nn ff 3 cz sf h103 Scs hcz Ssf rsf f106 (by omega) (by omega) (by omega)) f108 (d_prog_5_method_1_29) (tw hw 144 rfl) (tw hw 145 rfl) (tw hw 147 rfl) (tw hw 146 rfl) (tw hw 15 rfl) (tw hw 148 rfl) (by decide) (lenOf pd__I_Ljava_lang_String_ rfl) #[.val (.ref a1), .val (.ref s1), .val (.int 2)] [] rfl 0 rfl (by decide) (by decide) (by decide) (by decide)
  obtain ⟨b107, rfl, K107, S107⟩ := Q107
  have s109 := K107.1
  refine st107 _ ?_
  have E107 := S107.exa
  have l107 := nlt E107.lt
  obtain ⟨T110, h110, v110, W110, Q110, st110⟩ := x_static B W107 [(.ref b107)] (c_ifn l Z a0 hw b107 (nn - 3) (fun i => ff (3 + i)) (dd - 3) cz sf h107 Scs hcz Ssf rsf S107 (by omega) (by omega) (by omega) (by show ff (3 + (dd - 3)) = 46; rw [show 3 + (dd - 3) = dd by omega]; exact hdd) (fun j h1 h2 => (hok (3 + j) (by omega) (by omega) (by omega)).imp id (fun q => ⟨q.1, by omega⟩))) (d_prog_5_method_1_32) (tw hw 150 rfl) (tw hw 151 rfl) (tw hw 44 rfl) (tw hw 152 rfl) (by decide) (lenOf pd__Ljava_lang_String__Z rfl) #[.val (.ref a1), .val (.ref s1), .val (.int 2)] [] rfl 0 rfl (by decide) (by decide) (by decide) (by decide)
  obtain ⟨rfl, rfl⟩ := Q110
  refine st110 _ ?_
  show Go p.tables e below _ T110 (mkF m 35 #[.val (.ref a1), .val (.ref s1), .val (.int 2)] [(.int 1)])
  refine g_if_y B W110 (d_prog_5_method_1_35) (XT.i0_ne_t (by decide)) (pc' := 52) (by decide) ?_
  show Go p.tables e below _ T110 (mkF m 52 #[.val (.ref a1), .val (.ref s1), .val (.int 2)] [])
  refine g_aload_n B W110 (d_prog_5_method_1_52) rfl rfl ?_
  refine g_aload_n B W110 (d_prog_5_method_1_53) rfl rfl ?_
  have f111 := ((F1.keep K103 nin0).keep K107 nin0)
  have f112 := ((E1.keep K103).keep K107)
  obtain ⟨T113, h113, W113, K113, R113, F113, E113, st113⟩ := x_put B W110 (d_prog_5_method_1_54) ((tw hw 174 rfl)) Via.refl f111 f112 (Or.inr ⟨ (tw hw 175 rfl), rfl, rfl⟩) (tw hw 43 rfl) (ty := (.object "java/lang/String")) (v := (.ref s1)) (v' := (.ref s1)) (by decide) rfl rfl (by omega) #[.val (.ref a1), .val (.ref s1), .val (.int 2)] []
  refine st113 _ ?_
  have s114 := K113.1
  exact r_v B W113 (d_prog_5_method_1_57) (by decide) (by decide) ⟨rfl, ((((Keep.refl h0 [a1]).trans K103 all0).trans K107 all0).trans K113 (allS (Or.inl (by simp)) all0)), E113, F113⟩
theorem ef_extn (m : MethodId) (a1 : Addr) (s1 : Addr) (nn : Nat) (ff : Nat → Int32) (dd : Nat) (cz : Int32) (sf : Value) : entryFrame m #[(.ref a1)] 1 = mkF m 0 #[.val (.ref a1)] [] := by first | (simp [entryFrame, mkF, argsToLocals, Value.category]; done) | rfl
def Q_extn (Z : State) (a1 : Addr) (s1 : Addr) (nn : Nat) (ff : Nat → Int32) (dd : Nat) (cz : Int32) (sf : Value) (h0 : Heap) (v : Option Value) (h : Heap) : Prop := ∃ b : Addr, v = some (.ref b) ∧ Keep h0 h [] ∧ StrIs Z h b (lst (nn - (dd + 1)) fun i => ff (dd + 1 + i))
set_option maxRecDepth 65536 in
set_option maxHeartbeats 40000000 in
theorem c_extn (l : Launch) (Z : State) (a0 : Array Value) (hw : ∀ d ∈ tables_1, d.before a0 Z = true) (a1 : Addr) (s1 : Addr) (nn : Nat) (ff : Nat → Int32) (dd : Nat) (cz : Int32) (sf : Value) (h0 : Heap) (Scs : Sta Z Z.heap "java/lang/String" "COMPACT_STRINGS" "Z" (.int cz)) (hcz : ¬ cz = 0) (Ssf : Sta Z Z.heap "jdk/internal/util/Preconditions" "SIOOBE_FORMATTER" "Ljava/util/function/BiFunction;" sf) (rsf : sf.isRef = true) (F1 : Fld Z h0 a1 "com/example/presswright/presswright/publishing/FilePath" "path" "Ljava/lang/String;" (.ref s1)) (S1 : StrIs Z h0 s1 (lst nn ff)) (hn : nn ≤ 9) (hd2 : dd + 1 < nn) (hdd : ff dd = 46) (hgt : ∀ j, dd < j → j < nn → ¬ ff j = 46) :
    Con l Z (⟨"com/example/presswright/presswright/publishing/FilePath", "extension", "()Ljava/lang/String;"⟩ : MethodName) prog_5_method_3_code 1 (Option.some (FieldType.object "java/lang/String")) [] ({ frames := 6, cells := 2, slots := 13, locals := 107 } : Room) #[(.ref a1)] h0 (Q_extn Z a1 s1 nn ff dd cz sf h0) := by
  refine Con.of (plainFor_of_name pn_com_example_presswright_presswright_publishing_FilePath) ?_
  intro p e s m below meth c T0 B W0
  refine Go.cast (ef_extn m a1 s1 nn ff dd cz sf ) ?_
  have E_s1 := S1.exa
  refine g_aload_n B W0 (d_prog_5_method_3_0) rfl rfl ?_
  obtain ⟨T101, W101, st101⟩ := x_get B W0 (host := "") (d_prog_5_method_3_1) (Or.inl (tw hw 174 rfl)) Via.refl F1 #[.val (.ref a1)] []
  refine st101 _ ?_
  refine g_aload_n B W101 (d_prog_5_method_3_4) rfl rfl ?_
  obtain ⟨T102, W102, st102⟩ := x_get B W101 (host := "") (d_prog_5_method_3_5) (Or.inl (tw hw 174 rfl)) Via.refl F1 #[.val (.ref a1)] [(.ref s1)]
  refine st102 _ ?_
  refine g_bipush B W102 (d_prog_5_method_3_8) (v := 46) (by decide) ?_
  obtain ⟨T103, h103, v103, W103, Q103, st103⟩ := x_virtual B W102 (b := s1) [(.int 46)] (c_slast1 l Z a0 hw s1 nn ff 46 dd cz h0 Scs hcz S1 (by decide) (by omega) hdd hgt) E_s1 (d_prog_5_method_3_10) (tw hw 54 rfl) (tw hw 55 rfl) (tw hw 57 rfl) (tw hw 56 rfl) (tw hw 15 rfl) (tw hw 58 rfl) (by decide) (lenOf pd__I_I rfl) #[.val (.ref a1)] [(.ref s1)] rfl 1 rfl (by decide) (by decide) (by decide) (by decide)
  obtain ⟨rfl, rfl⟩ := Q103
  refine st103 _ ?_
  refine g_iconst B W103 (d_prog_5_method_3_13) (v := 1) (by decide) ?_
  refine g_iadd B W103 (d_prog_5_method_3_14)  ?_
  rw [own_inc]
  show Go p.tables e below _ T103 (mkF m 15 #[.val (.ref a1)] [(.int (Int32.ofNat (dd + 1))), (.ref s1)])
  obtain ⟨T104, h104, v104, W104, Q104, st104⟩ := x_virtual B W103 (b := s1) [(.int (Int32.ofNat (dd + 1)))] (c_sub1 l Z a0 hw s1 nn ff ((dd + 1)) cz sf h0 Scs hcz Ssf rsf S1 (by omega) (by omega) (by omega)) E_s1 (d_prog_5_method_3_15) (tw hw 144 rfl) (tw hw 145 rfl) (tw hw 147 rfl) (tw hw 146 rfl) (tw hw 15 rfl) (tw hw 148 rfl) (by decide) (lenOf pd__I_Ljava_lang_String_ rfl) #[.val (.ref a1)] [] rfl 0 rfl (by decide) (by decide) (by decide) (by decide)
  obtain ⟨b104, rfl, K104, S104⟩ := Q104
  have s105 := K104.1
  refine st104 _ ?_
  have E104 := S104.exa
  have l104 := nlt E104.lt
  exact r_a B W104 rfl rfl rfl (d_prog_5_method_3_18) (by decide) (by decide) ⟨_, rfl, ((Keep.refl h0 []).trans K104 all0), S104⟩
theorem ef_law (m : MethodId) (p1 : Int32) (p2 : Int32) (p3 : Int32) (p4 : Int32) (p5 : Int64) (cz : Int32) (sf : Value) : entryFrame m #[(.int p1), (.int p2), (.int p3), (.int p4), (.long p5)] maxLocals = mkF m 0 #[.val (.int p1), .val (.int p2), .val (.int p3), .val (.int p4), .val (.long p5), .second, .unset, .unset, .unset, .unset, .unset, .unset, .unset, .unset, .unset, .unset, .unset, .unset, .unset, .unset, .unset] [] := by first | (simp [entryFrame, mkF, argsToLocals, Value.category, maxLocals]; done) | rfl
def Q_law (Z : State) (p1 : Int32) (p2 : Int32) (p3 : Int32) (p4 : Int32) (p5 : Int64) (cz : Int32) (sf : Value) (h0 : Heap) (v : Option Value) (h : Heap) : Prop := v = some (.int 1)
set_option maxRecDepth 65536 in
set_option maxHeartbeats 40000000 in
theorem c_law (l : Launch) (Z : State) (a0 : Array Value) (hw : ∀ d ∈ tables_1, d.before a0 Z = true) (ws : List Jvm.Cond) (p1 : Int32) (p2 : Int32) (p3 : Int32) (p4 : Int32) (p5 : Int64) (cz : Int32) (sf : Value) (h0 : Heap) (Scs : Sta Z Z.heap "java/lang/String" "COMPACT_STRINGS" "Z" (.int cz)) (hcz : ¬ cz = 0) (Ssf : Sta Z Z.heap "jdk/internal/util/Preconditions" "SIOOBE_FORMATTER" "Ljava/util/function/BiFunction;" sf) (rsf : sf.isRef = true) :
    Con l Z x code maxLocals ret ws room_1 #[(.int p1), (.int p2), (.int p3), (.int p4), (.long p5)] h0 (Q_law Z p1 p2 p3 p4 p5 cz sf h0) := by
  refine Con.of (plainFor_of_name pn_com_example_presswright_presswright_publishing_FilePathExtensionPinLaw) ?_
  intro p e s m below meth c T0 B W0
  refine Go.cast (ef_law m p1 p2 p3 p4 p5 cz sf ) ?_
  refine g_iload_n B W0 at_0 rfl ?_
  refine g_iconst B W0 at_1 (v := 1) (by decide) ?_
  refine g_iand B W0 at_2  ?_
  refine g_diab (!decide ((p1 &&& 1) = 0)) (m := m) (ls := #[.val (.int p1), .val (.int p2), .val (.int p3), .val (.int p4), .val (.long p5), .second, .unset, .unset, .unset, .unset, .unset, .unset, .unset, .unset, .unset, .unset, .unset, .unset, .unset, .unset, .unset]) (st := []) (pc' := 11) (fun hd1 q => ?_) (fun hd1 q => ?_) ?_
  · refine g_if_n B W0 at_3 (XT.i0_eq_f (by simpa using hd1)) ?_
    refine g_iconst B W0 at_6 (v := 1) (by decide) ?_
    exact g_goto B W0 at_7 (pc' := 11) (by decide) q
  · refine g_if_y B W0 at_3 (XT.i0_eq_t (by simpa using hd1)) (pc' := 10) (by decide) ?_
    exact g_iconst B W0 at_10 (v := 0) (by decide) q
  show Go p.tables e below _ T0 (mkF m 11 #[.val (.int p1), .val (.int p2), .val (.int p3), .val (.int p4), .val (.long p5), .second, .unset, .unset, .unset, .unset, .unset, .unset, .unset, .unset, .unset, .unset, .unset, .unset, .unset, .unset, .unset] [(.int (bi (!decide ((p1 &&& 1) = 0))))])
  generalize (!decide ((p1 &&& 1) = 0)) = bd
  show Go p.tables e below _ T0 (mkF m 11 #[.val (.int p1), .val (.int p2), .val (.int p3), .val (.int p4), .val (.long p5), .second, .unset, .unset, .unset, .unset, .unset, .unset, .unset, .unset, .unset, .unset, .unset, .unset, .unset, .unset, .unset] [(.int (bi bd))])
  refine g_istore B W0 at_11  (l' := #[.val (.int p1), .val (.int p2), .val (.int p3), .val (.int p4), .val (.long p5), .second, .val (.int (bi bd)), .unset, .unset, .unset, .unset, .unset, .unset, .unset, .unset, .unset, .unset, .unset, .unset, .unset, .unset]) rfl ?_
  refine g_iconst B W0 at_13 (v := 1) (by decide) ?_
  refine g_iload_n B W0 at_14 rfl ?_
  refine g_iconst B W0 at_15 (v := 1) (by decide) ?_
  refine g_iushr B W0 at_16  ?_
  refine g_iconst B W0 at_17 (v := 1) (by decide) ?_
  refine g_iand B W0 at_18  ?_
  refine g_iadd B W0 at_19  ?_
  obtain hqn7 := own_c2 (XT.ushr p1 1)
  generalize (1 + ((XT.ushr p1 1) &&& 1)) = n7 at hqn7 ⊢
  show Go p.tables e below _ T0 (mkF m 20 #[.val (.int p1), .val (.int p2), .val (.int p3), .val (.int p4), .val (.long p5), .second, .val (.int (bi bd)), .unset, .unset, .unset, .unset, .unset, .unset, .unset, .unset, .unset, .unset, .unset, .unset, .unset, .unset] [(.int n7)])
  refine g_istore B W0 at_20  (l' := #[.val (.int p1), .val (.int p2), .val (.int p3), .val (.int p4), .val (.long p5), .second, .val (.int (bi bd)), .val (.int n7), .unset, .unset, .unset, .unset, .unset, .unset, .unset, .unset, .unset, .unset, .unset, .unset, .unset]) rfl ?_
  refine g_iconst B W0 at_22 (v := 1) (by decide) ?_
  refine g_iload_n B W0 at_23 rfl ?_
  refine g_iconst B W0 at_24 (v := 2) (by decide) ?_
  refine g_iushr B W0 at_25  ?_
  refine g_iconst B W0 at_26 (v := 3) (by decide) ?_
  refine g_iand B W0 at_27  ?_
  refine g_iconst B W0 at_28 (v := 3) (by decide) ?_
  refine g_irem B W0 at_29 (by decide) ?_
  refine g_iadd B W0 at_30  ?_
  obtain hqn8 := own_c3 (XT.ushr p1 2)
  generalize (1 + (((XT.ushr p1 2) &&& 3) % 3)) = n8 at hqn8 ⊢
  show Go p.tables e below _ T0 (mkF m 31 #[.val (.int p1), .val (.int p2), .val (.int p3), .val (.int p4), .val (.long p5), .second, .val (.int (bi bd)), .val (.int n7), .unset, .unset, .unset, .unset, .unset, .unset, .unset, .unset, .unset, .unset, .unset, .unset, .unset] [(.int n8)])
  refine g_istore B W0 at_31  (l' := #[.val (.int p1), .val (.int p2), .val (.int p3), .val (.int p4), .val (.long p5), .second, .val (.int (bi bd)), .val (.int n7), .val (.int n8), .unset, .unset, .unset, .unset, .unset, .unset, .unset, .unset, .unset, .unset, .unset, .unset]) rfl ?_
  refine g_iload_n B W0 at_33 rfl ?_
  obtain ⟨T101, h101, v101, W101, Q101, st101⟩ := x_static B W0 [(.int p2)] (c_seg l Z a0 hw p2 h0) at_34 (tw hw 0 rfl) (tw hw 1 rfl) (tw hw 2 rfl) (tw hw 3 rfl) (by decide) (lenOf pd__I_C rfl) #[.val (.int p1), .val (.int p2), .val (.int p3), .val (.int p4), .val (.long p5), .second, .val (.int (bi bd)), .val (.int n7), .val (.int n8), .unset, .unset, .unset, .unset, .unset, .unset, .unset, .unset, .unset, .unset, .unset, .unset] [] rfl 0 rfl (by decide) (by decide) (by decide) (by decide)
  obtain ⟨x101, rfl, q101, nx101, rfl⟩ := Q101
  refine st101 _ ?_
  have g101 : Sg x101 := q101
  have rx101 := g101.rg
  refine g_istore B W101 at_37  (l' := #[.val (.int p1), .val (.int p2), .val (.int p3), .val (.int p4), .val (.long p5), .second, .val (.int (bi bd)), .val (.int n7), .val (.int n8), .val (.int x101), .unset, .unset, .unset, .unset, .unset, .unset, .unset, .unset, .unset, .unset, .unset]) rfl ?_
  refine g_iload_n B W101 at_39 rfl ?_
  obtain ⟨T102, h102, v102, W102, Q102, st102⟩ := x_static B W101 [(.int p3)] (c_seg l Z a0 hw p3 h0) at_40 (tw hw 0 rfl) (tw hw 1 rfl) (tw hw 2 rfl) (tw hw 3 rfl) (by decide) (lenOf pd__I_C rfl) #[.val (.int p1), .val (.int p2), .val (.int p3), .val (.int p4), .val (.long p5), .second, .val (.int (bi bd)), .val (.int n7), .val (.int n8), .val (.int x101), .unset, .unset, .unset, .unset, .unset, .unset, .unset, .unset, .unset, .unset, .unset] [] rfl 0 rfl (by decide) (by decide) (by decide) (by decide)
  obtain ⟨x102, rfl, q102, nx102, rfl⟩ := Q102
  refine st102 _ ?_
  have g102 : Sg x102 := q102
  have rx102 := g102.rg
  refine g_istore B W102 at_43  (l' := #[.val (.int p1), .val (.int p2), .val (.int p3), .val (.int p4), .val (.long p5), .second, .val (.int (bi bd)), .val (.int n7), .val (.int n8), .val (.int x101), .val (.int x102), .unset, .unset, .unset, .unset, .unset, .unset, .unset, .unset, .unset, .unset]) rfl ?_
  refine g_iload_n B W102 at_45 rfl ?_
  obtain ⟨T103, h103, v103, W103, Q103, st103⟩ := x_static B W102 [(.int p4)] (c_seg l Z a0 hw p4 h0) at_46 (tw hw 0 rfl) (tw hw 1 rfl) (tw hw 2 rfl) (tw hw 3 rfl) (by decide) (lenOf pd__I_C rfl) #[.val (.int p1), .val (.int p2), .val (.int p3), .val (.int p4), .val (.long p5), .second, .val (.int (bi bd)), .val (.int n7), .val (.int n8), .val (.int x101), .val (.int x102), .unset, .unset, .unset, .unset, .unset, .unset, .unset, .unset, .unset, .unset] [] rfl 0 rfl (by decide) (by decide) (by decide) (by decide)
  obtain ⟨x103, rfl, q103, nx103, rfl⟩ := Q103
  refine st103 _ ?_
  have g103 : Sg x103 := q103
  have rx103 := g103.rg
  refine g_istore B W103 at_49  (l' := #[.val (.int p1), .val (.int p2), .val (.int p3), .val (.int p4), .val (.long p5), .second, .val (.int (bi bd)), .val (.int n7), .val (.int n8), .val (.int x101), .val (.int x102), .val (.int x103), .unset, .unset, .unset, .unset, .unset, .unset, .unset, .unset, .unset]) rfl ?_
  refine g_lload B W103 at_51 rfl ?_
  refine g_ldcL B W103 at_53 (tw hw 5 rfl) ?_
  refine g_land B W103 at_56  ?_
  refine g_l2i B W103 at_57  ?_
  obtain ⟨T104, h104, v104, W104, Q104, st104⟩ := x_static B W103 [(.int ((p5 &&& 65535)).toInt32)] (c_ext l Z a0 hw ((p5 &&& 65535)).toInt32 h0) at_58 (tw hw 6 rfl) (tw hw 7 rfl) (tw hw 2 rfl) (tw hw 8 rfl) (by decide) (lenOf pd__I_C rfl) #[.val (.int p1), .val (.int p2), .val (.int p3), .val (.int p4), .val (.long p5), .second, .val (.int (bi bd)), .val (.int n7), .val (.int n8), .val (.int x101), .val (.int x102), .val (.int x103), .unset, .unset, .unset, .unset, .unset, .unset, .unset, .unset, .unset] [] rfl 0 rfl (by decide) (by decide) (by decide) (by decide)
  obtain ⟨x104, rfl, q104, nx104, rfl⟩ := Q104
  refine st104 _ ?_
  have g104 : Sg x104 := Or.inl q104
  have rx104 := g104.rg
  refine g_istore B W104 at_61  (l' := #[.val (.int p1), .val (.int p2), .val (.int p3), .val (.int p4), .val (.long p5), .second, .val (.int (bi bd)), .val (.int n7), .val (.int n8), .val (.int x101), .val (.int x102), .val (.int x103), .val (.int x104), .unset, .unset, .unset, .unset, .unset, .unset, .unset, .unset]) rfl ?_
  refine g_lload B W104 at_63 rfl ?_
  refine g_bipush B W104 at_65 (v := 16) (by decide) ?_
  refine g_lushr B W104 at_67  ?_
  refine g_ldcL B W104 at_68 (tw hw 5 rfl) ?_
  refine g_land B W104 at_71  ?_
  refine g_l2i B W104 at_72  ?_
  obtain ⟨T105, h105, v105, W105, Q105, st105⟩ := x_static B W104 [(.int (((XT.ushrL p5 16) &&& 65535)).toInt32)] (c_ext l Z a0 hw (((XT.ushrL p5 16) &&& 65535)).toInt32 h0) at_73 (tw hw 6 rfl) (tw hw 7 rfl) (tw hw 2 rfl) (tw hw 8 rfl) (by decide) (lenOf pd__I_C rfl) #[.val (.int p1), .val (.int p2), .val (.int p3), .val (.int p4), .val (.long p5), .second, .val (.int (bi bd)), .val (.int n7), .val (.int n8), .val (.int x101), .val (.int x102), .val (.int x103), .val (.int x104), .unset, .unset, .unset, .unset, .unset, .unset, .unset, .unset] [] rfl 0 rfl (by decide) (by decide) (by decide) (by decide)
  obtain ⟨x105, rfl, q105, nx105, rfl⟩ := Q105
  refine st105 _ ?_
  have g105 : Sg x105 := Or.inl q105
  have rx105 := g105.rg
  refine g_istore B W105 at_76  (l' := #[.val (.int p1), .val (.int p2), .val (.int p3), .val (.int p4), .val (.long p5), .second, .val (.int (bi bd)), .val (.int n7), .val (.int n8), .val (.int x101), .val (.int x102), .val (.int x103), .val (.int x104), .val (.int x105), .unset, .unset, .unset, .unset, .unset, .unset, .unset]) rfl ?_
  refine g_lload B W105 at_78 rfl ?_
  refine g_bipush B W105 at_80 (v := 32) (by decide) ?_
  refine g_lushr B W105 at_82  ?_
  refine g_ldcL B W105 at_83 (tw hw 5 rfl) ?_
  refine g_land B W105 at_86  ?_
  refine g_l2i B W105 at_87  ?_
  obtain ⟨T106, h106, v106, W106, Q106, st106⟩ := x_static B W105 [(.int (((XT.ushrL p5 32) &&& 65535)).toInt32)] (c_ext l Z a0 hw (((XT.ushrL p5 32) &&& 65535)).toInt32 h0) at_88 (tw hw 6 rfl) (tw hw 7 rfl) (tw hw 2 rfl) (tw hw 8 rfl) (by decide) (lenOf pd__I_C rfl) #[.val (.int p1), .val (.int p2), .val (.int p3), .val (.int p4), .val (.long p5), .second, .val (.int (bi bd)), .val (.int n7), .val (.int n8), .val (.int x101), .val (.int x102), .val (.int x103), .val (.int x104), .val (.int x105), .unset, .unset, .unset, .unset, .unset, .unset, .unset] [] rfl 0 rfl (by decide) (by decide) (by decide) (by decide)
  obtain ⟨x106, rfl, q106, nx106, rfl⟩ := Q106
  refine st106 _ ?_
  have g106 : Sg x106 := Or.inl q106
  have rx106 := g106.rg
  refine g_istore B W106 at_91  (l' := #[.val (.int p1), .val (.int p2), .val (.int p3), .val (.int p4), .val (.long p5), .second, .val (.int (bi bd)), .val (.int n7), .val (.int n8), .val (.int x101), .val (.int x102), .val (.int x103), .val (.int x104), .val (.int x105), .val (.int x106), .unset, .unset, .unset, .unset, .unset, .unset]) rfl ?_
  cases bd
  · skip
    rcases hqn7 with rfl | rfl
    · skip
      rcases hqn8 with rfl | rfl | rfl
      · skip
        show Go p.tables e below _ T106 (mkF m 93 #[.val (.int p1), .val (.int p2), .val (.int p3), .val (.int p4), .val (.long p5), .second, .val (.int 0), .val (.int 1), .val (.int 1), .val (.int x101), .val (.int x102), .val (.int x103), .val (.int x104), .val (.int x105), .val (.int x106), .unset, .unset, .unset, .unset, .unset, .unset] [])
        refine g_iconst B W106 at_93 (v := 1) (by decide) ?_
        refine g_iload B W106 at_94 rfl ?_
        refine g_if_y B W106 at_96 (XT.i0_eq_t (by decide)) (pc' := 103) (by decide) ?_
        show Go p.tables e below _ T106 (mkF m 103 #[.val (.int p1), .val (.int p2), .val (.int p3), .val (.int p4), .val (.long p5), .second, .val (.int 0), .val (.int 1), .val (.int 1), .val (.int x101), .val (.int x102), .val (.int x103), .val (.int x104), .val (.int x105), .val (.int x106), .unset, .unset, .unset, .unset, .unset, .unset] [(.int 1)])
        refine g_iconst B W106 at_103 (v := 0) (by decide) ?_
        refine g_iadd B W106 at_104  ?_
        rw [show (1 + 0 : Int32) = 1 by decide]
        refine g_iload B W106 at_105 rfl ?_
        refine g_iadd B W106 at_107  ?_
        rw [show (1 + 1 : Int32) = 2 by decide]
        refine g_iconst B W106 at_108 (v := 1) (by decide) ?_
        refine g_iadd B W106 at_109  ?_
        rw [show (2 + 1 : Int32) = 3 by decide]
        refine g_iload B W106 at_110 rfl ?_
        refine g_iadd B W106 at_112  ?_
        rw [show (3 + 1 : Int32) = 4 by decide]
        refine g_istore B W106 at_113  (l' := #[.val (.int p1), .val (.int p2), .val (.int p3), .val (.int p4), .val (.long p5), .second, .val (.int 0), .val (.int 1), .val (.int 1), .val (.int x101), .val (.int x102), .val (.int x103), .val (.int x104), .val (.int x105), .val (.int x106), .val (.int 4), .unset, .unset, .unset, .unset, .unset]) rfl ?_
        refine g_iload B W106 at_115 rfl ?_
        have zs107 := W106.size
        obtain ⟨T108, h108, v108, W108, Q108, st108⟩ := x_static B W106 [(.int 4)] (c_sz4 l Z a0 hw h0) at_117 (tw hw 9 rfl) (tw hw 10 rfl) (tw hw 2 rfl) (tw hw 11 rfl) (by decide) (lenOf pd__I__C rfl) #[.val (.int p1), .val (.int p2), .val (.int p3), .val (.int p4), .val (.long p5), .second, .val (.int 0), .val (.int 1), .val (.int 1), .val (.int x101), .val (.int x102), .val (.int x103), .val (.int x104), .val (.int x105), .val (.int x106), .val (.int 4), .unset, .unset, .unset, .unset, .unset] [] rfl 0 rfl (by decide) (by decide) (by decide) (by decide)
        obtain ⟨b108, kA108, rfl, g108, K108, A108⟩ := Q108
        have s109 := K108.1
        refine st108 _ ?_
        have l108 := nlt A108.lt
        have z108 := W108.size
        refine g_astore B W108 at_120 rfl (l' := #[.val (.int p1), .val (.int p2), .val (.int p3), .val (.int p4), .val (.long p5), .second, .val (.int 0), .val (.int 1), .val (.int 1), .val (.int x101), .val (.int x102), .val (.int x103), .val (.int x104), .val (.int x105), .val (.int x106), .val (.int 4), .val (.ref b108), .unset, .unset, .unset, .unset]) rfl ?_
        refine g_iconst B W108 at_122 (v := 0) (by decide) ?_
        refine g_istore B W108 at_123  (l' := #[.val (.int p1), .val (.int p2), .val (.int p3), .val (.int p4), .val (.long p5), .second, .val (.int 0), .val (.int 1), .val (.int 1), .val (.int x101), .val (.int x102), .val (.int x103), .val (.int x104), .val (.int x105), .val (.int x106), .val (.int 4), .val (.ref b108), .val (.int 0), .unset, .unset, .unset]) rfl ?_
        refine g_aload B W108 at_125 rfl rfl ?_
        refine g_iload B W108 at_127 rfl ?_
        refine g_bipush B W108 at_129 (v := 47) (by decide) ?_
        obtain ⟨T110, h110, W110, K110, A110, st110⟩ := x_castore B W108 (j := 0) (x := 47) at_131 A108 (by decide) (Nat.lt_of_lt_of_eq (show Int32.toNatClampNeg 0 < 4 by decide) rfl) (by omega) #[.val (.int p1), .val (.int p2), .val (.int p3), .val (.int p4), .val (.long p5), .second, .val (.int 0), .val (.int 1), .val (.int 1), .val (.int x101), .val (.int x102), .val (.int x103), .val (.int x104), .val (.int x105), .val (.int x106), .val (.int 4), .val (.ref b108), .val (.int 0), .unset, .unset, .unset] []
        refine st110 _ ?_
        rw [show nar .char 47 = 47 by decide] at A110
        have A110 : Arv Z h110 b108 kA108 .char 4 [(.int 47), (.int 0), (.int 0), (.int 0)] (.int 0) := A110
        have s111 := K110.1
        refine g_iinc B W110 at_132 (v := 1) (l' := #[.val (.int p1), .val (.int p2), .val (.int p3), .val (.int p4), .val (.long p5), .second, .val (.int 0), .val (.int 1), .val (.int 1), .val (.int x101), .val (.int x102), .val (.int x103), .val (.int x104), .val (.int x105), .val (.int x106), .val (.int 4), .val (.ref b108), .val (.int (0 + 1)), .unset, .unset, .unset]) (by decide) rfl rfl ?_
        rw [show (0 + 1 : Int32) = 1 by decide]
        refine g_iload B W110 at_135 rfl ?_
        refine g_if_y B W110 at_137 (XT.i0_eq_t (by decide)) (pc' := 160) (by decide) ?_
        show Go p.tables e below _ T110 (mkF m 160 #[.val (.int p1), .val (.int p2), .val (.int p3), .val (.int p4), .val (.long p5), .second, .val (.int 0), .val (.int 1), .val (.int 1), .val (.int x101), .val (.int x102), .val (.int x103), .val (.int x104), .val (.int x105), .val (.int x106), .val (.int 4), .val (.ref b108), .val (.int 1), .unset, .unset, .unset] [])
        refine g_aload B W110 at_160 rfl rfl ?_
        refine g_iload B W110 at_162 rfl ?_
        refine g_iload B W110 at_164 rfl ?_
        obtain ⟨T112, h112, W112, K112, A112, st112⟩ := x_castore B W110 (j := 1) (x := x102) at_166 A110 (by decide) (Nat.lt_of_lt_of_eq (show Int32.toNatClampNeg 1 < 4 by decide) rfl) (by omega) #[.val (.int p1), .val (.int p2), .val (.int p3), .val (.int p4), .val (.long p5), .second, .val (.int 0), .val (.int 1), .val (.int 1), .val (.int x101), .val (.int x102), .val (.int x103), .val (.int x104), .val (.int x105), .val (.int x106), .val (.int 4), .val (.ref b108), .val (.int 1), .unset, .unset, .unset] []
        refine st112 _ ?_
        rw [nx102] at A112
        have A112 : Arv Z h112 b108 kA108 .char 4 [(.int 47), (.int x102), (.int 0), (.int 0)] (.int 0) := A112
        have s113 := K112.1
        refine g_iinc B W112 at_167 (v := 1) (l' := #[.val (.int p1), .val (.int p2), .val (.int p3), .val (.int p4), .val (.long p5), .second, .val (.int 0), .val (.int 1), .val (.int 1), .val (.int x101), .val (.int x102), .val (.int x103), .val (.int x104), .val (.int x105), .val (.int x106), .val (.int 4), .val (.ref b108), .val (.int (1 + 1)), .unset, .unset, .unset]) (by decide) rfl rfl ?_
        rw [show (1 + 1 : Int32) = 2 by decide]
        refine g_iload B W112 at_170 rfl ?_
        refine g_iconst B W112 at_172 (v := 2) (by decide) ?_
        refine g_icmp_y B W112 at_173 (XT.ii_ne_t (by decide)) (pc' := 186) (by decide) ?_
        show Go p.tables e below _ T112 (mkF m 186 #[.val (.int p1), .val (.int p2), .val (.int p3), .val (.int p4), .val (.long p5), .second, .val (.int 0), .val (.int 1), .val (.int 1), .val (.int x101), .val (.int x102), .val (.int x103), .val (.int x104), .val (.int x105), .val (.int x106), .val (.int 4), .val (.ref b108), .val (.int 2), .unset, .unset, .unset] [])
        refine g_aload B W112 at_186 rfl rfl ?_
        refine g_iload B W112 at_188 rfl ?_
        refine g_bipush B W112 at_190 (v := 46) (by decide) ?_
        obtain ⟨T114, h114, W114, K114, A114, st114⟩ := x_castore B W112 (j := 2) (x := 46) at_192 A112 (by decide) (Nat.lt_of_lt_of_eq (show Int32.toNatClampNeg 2 < 4 by decide) rfl) (by omega) #[.val (.int p1), .val (.int p2), .val (.int p3), .val (.int p4), .val (.long p5), .second, .val (.int 0), .val (.int 1), .val (.int 1), .val (.int x101), .val (.int x102), .val (.int x103), .val (.int x104), .val (.int x105), .val (.int x106), .val (.int 4), .val (.ref b108), .val (.int 2), .unset, .unset, .unset] []
        refine st114 _ ?_
        rw [show nar .char 46 = 46 by decide] at A114
        have A114 : Arv Z h114 b108 kA108 .char 4 [(.int 47), (.int x102), (.int 46), (.int 0)] (.int 0) := A114
        have s115 := K114.1
        refine g_iinc B W114 at_193 (v := 1) (l' := #[.val (.int p1), .val (.int p2), .val (.int p3), .val (.int p4), .val (.long p5), .second, .val (.int 0), .val (.int 1), .val (.int 1), .val (.int x101), .val (.int x102), .val (.int x103), .val (.int x104), .val (.int x105), .val (.int x106), .val (.int 4), .val (.ref b108), .val (.int (2 + 1)), .unset, .unset, .unset]) (by decide) rfl rfl ?_
        rw [show (2 + 1 : Int32) = 3 by decide]
        refine g_aload B W114 at_196 rfl rfl ?_
        refine g_iload B W114 at_198 rfl ?_
        refine g_iload B W114 at_200 rfl ?_
        obtain ⟨T116, h116, W116, K116, A116, st116⟩ := x_castore B W114 (j := 3) (x := x104) at_202 A114 (by decide) (Nat.lt_of_lt_of_eq (show Int32.toNatClampNeg 3 < 4 by decide) rfl) (by omega) #[.val (.int p1), .val (.int p2), .val (.int p3), .val (.int p4), .val (.long p5), .second, .val (.int 0), .val (.int 1), .val (.int 1), .val (.int x101), .val (.int x102), .val (.int x103), .val (.int x104), .val (.int x105), .val (.int x106), .val (.int 4), .val (.ref b108), .val (.int 3), .unset, .unset, .unset] []
        refine st116 _ ?_
        rw [nx104] at A116
        have A116 : Arv Z h116 b108 kA108 .char 4 [(.int 47), (.int x102), (.int 46), (.int x104)] (.int 0) := A116
        have s117 := K116.1
        refine g_iinc B W116 at_203 (v := 1) (l' := #[.val (.int p1), .val (.int p2), .val (.int p3), .val (.int p4), .val (.long p5), .second, .val (.int 0), .val (.int 1), .val (.int 1), .val (.int x101), .val (.int x102), .val (.int x103), .val (.int x104), .val (.int x105), .val (.int x106), .val (.int 4), .val (.ref b108), .val (.int (3 + 1)), .unset, .unset, .unset]) (by decide) rfl rfl ?_
        rw [show (3 + 1 : Int32) = 4 by decide]
        refine g_iload B W116 at_206 rfl ?_
        refine g_iconst B W116 at_208 (v := 2) (by decide) ?_
        refine g_icmp_y B W116 at_209 (XT.ii_lt_t (by decide)) (pc' := 222) (by decide) ?_
        show Go p.tables e below _ T116 (mkF m 222 #[.val (.int p1), .val (.int p2), .val (.int p3), .val (.int p4), .val (.long p5), .second, .val (.int 0), .val (.int 1), .val (.int 1), .val (.int x101), .val (.int x102), .val (.int x103), .val (.int x104), .val (.int x105), .val (.int x106), .val (.int 4), .val (.ref b108), .val (.int 4), .unset, .unset, .unset] [])
        refine g_iload B W116 at_222 rfl ?_
        refine g_iconst B W116 at_224 (v := 3) (by decide) ?_
        refine g_icmp_y B W116 at_225 (XT.ii_ne_t (by decide)) (pc' := 238) (by decide) ?_
        show Go p.tables e below _ T116 (mkF m 238 #[.val (.int p1), .val (.int p2), .val (.int p3), .val (.int p4), .val (.long p5), .second, .val (.int 0), .val (.int 1), .val (.int 1), .val (.int x101), .val (.int x102), .val (.int x103), .val (.int x104), .val (.int x105), .val (.int x106), .val (.int 4), .val (.ref b108), .val (.int 4), .unset, .unset, .unset] [])
        refine g_iload B W116 at_238 rfl ?_
        have zs118 := W116.size
        obtain ⟨T119, h119, v119, W119, Q119, st119⟩ := x_static B W116 [(.int 1)] (c_sz1 l Z a0 hw h116) at_240 (tw hw 9 rfl) (tw hw 10 rfl) (tw hw 2 rfl) (tw hw 11 rfl) (by decide) (lenOf pd__I__C rfl) #[.val (.int p1), .val (.int p2), .val (.int p3), .val (.int p4), .val (.long p5), .second, .val (.int 0), .val (.int 1), .val (.int 1), .val (.int x101), .val (.int x102), .val (.int x103), .val (.int x104), .val (.int x105), .val (.int x106), .val (.int 4), .val (.ref b108), .val (.int 4), .unset, .unset, .unset] [] rfl 0 rfl (by decide) (by decide) (by decide) (by decide)
        obtain ⟨b119, kA119, rfl, g119, K119, A119⟩ := Q119
        have s120 := K119.1
        refine st119 _ ?_
        have l119 := nlt A119.lt
        have z119 := W119.size
        refine g_astore B W119 at_243 rfl (l' := #[.val (.int p1), .val (.int p2), .val (.int p3), .val (.int p4), .val (.long p5), .second, .val (.int 0), .val (.int 1), .val (.int 1), .val (.int x101), .val (.int x102), .val (.int x103), .val (.int x104), .val (.int x105), .val (.int x106), .val (.int 4), .val (.ref b108), .val (.int 4), .val (.ref b119), .unset, .unset]) rfl ?_
        refine g_aload B W119 at_245 rfl rfl ?_
        refine g_iconst B W119 at_247 (v := 0) (by decide) ?_
        refine g_iload B W119 at_248 rfl ?_
        obtain ⟨T121, h121, W121, K121, A121, st121⟩ := x_castore B W119 (j := 0) (x := x104) at_250 A119 (by decide) (Nat.lt_of_lt_of_eq (show Int32.toNatClampNeg 0 < 1 by decide) rfl) (by omega) #[.val (.int p1), .val (.int p2), .val (.int p3), .val (.int p4), .val (.long p5), .second, .val (.int 0), .val (.int 1), .val (.int 1), .val (.int x101), .val (.int x102), .val (.int x103), .val (.int x104), .val (.int x105), .val (.int x106), .val (.int 4), .val (.ref b108), .val (.int 4), .val (.ref b119), .unset, .unset] []
        refine st121 _ ?_
        rw [nx104] at A121
        have A121 : Arv Z h121 b119 kA119 .char 1 [(.int x104)] (.int 0) := A121
        have s122 := K121.1
        refine g_iload B W121 at_251 rfl ?_
        refine g_iconst B W121 at_253 (v := 2) (by decide) ?_
        refine g_icmp_y B W121 at_254 (XT.ii_lt_t (by decide)) (pc' := 263) (by decide) ?_
        show Go p.tables e below _ T121 (mkF m 263 #[.val (.int p1), .val (.int p2), .val (.int p3), .val (.int p4), .val (.long p5), .second, .val (.int 0), .val (.int 1), .val (.int 1), .val (.int x101), .val (.int x102), .val (.int x103), .val (.int x104), .val (.int x105), .val (.int x106), .val (.int 4), .val (.ref b108), .val (.int 4), .val (.ref b119), .unset, .unset] [])
        refine g_iload B W121 at_263 rfl ?_
        refine g_iconst B W121 at_265 (v := 3) (by decide) ?_
        refine g_icmp_y B W121 at_266 (XT.ii_ne_t (by decide)) (pc' := 275) (by decide) ?_
        show Go p.tables e below _ T121 (mkF m 275 #[.val (.int p1), .val (.int p2), .val (.int p3), .val (.int p4), .val (.long p5), .second, .val (.int 0), .val (.int 1), .val (.int 1), .val (.int x101), .val (.int x102), .val (.int x103), .val (.int x104), .val (.int x105), .val (.int x106), .val (.int 4), .val (.ref b108), .val (.int 4), .val (.ref b119), .unset, .unset] [])
        obtain ⟨T123, h123, b123, gb123, W123, K123, E123, D123, st123⟩ := x_new B W121 at_275 (tw hw 13 rfl) (tw hw 14 rfl) (tw hw 15 rfl) (by decide) (by decide) #[.val (.int p1), .val (.int p2), .val (.int p3), .val (.int p4), .val (.long p5), .second, .val (.int 0), .val (.int 1), .val (.int 1), .val (.int x101), .val (.int x102), .val (.int x103), .val (.int x104), .val (.int x105), .val (.int x106), .val (.int 4), .val (.ref b108), .val (.int 4), .val (.ref b119), .unset, .unset] []
        have l123 := nlt E123.lt
        have z123 := W121.size
        refine st123 _ ?_
        have s124 := K123.1
        have f125 : Fld Z h123 b123 "java/lang/String" "coder" "B" (.int 0) := D123 (Or.inr (tw hw 39 rfl)) (ty := .byte) (by decide)
        have f126 : Fld Z h123 b123 "java/lang/String" "value" "[B" .null := D123 (Or.inr (tw hw 41 rfl)) (ty := (.array .byte)) (by decide)
        refine g_dup B W123 at_278 rfl ?_
        refine g_aload B W123 at_279 rfl rfl ?_
        have f128 := (A121.keep K123 nin0)
        obtain ⟨T127, h127, v127, L127, W127, Q127, st127⟩ := x_specialB B W123 (b := b123) (rc := 1) (rs := 1) [(.ref b119)] (fun s' hZ' => StrChars.Road.backV (W := 1) hZ' (fun d hd => hw d (own_words d hd)) (kI := 4) (tw hw 14 rfl) (cs := ([x104] : List Int32)) (bs := ([x104] : List Int32).map (fun c => c.toInt8.toInt32)) (n := 1) (n0 := Z.heap.size) (by omega) W123.size E123 f126 f125 f128 (Scs.ext W123.old.2) hcz rfl (by decide) (by decide) (by decide) (by simp only [List.mem_cons, List.not_mem_nil, or_false]; rintro c rfl <;> first | assumption | decide) rfl (by decide) (by decide)) at_281 rfl (tw hw 16 rfl) (tw hw 17 rfl) (tw hw 18 rfl) (by decide) (lenOf pd___C_V rfl) #[.val (.int p1), .val (.int p2), .val (.int p3), .val (.int p4), .val (.long p5), .second, .val (.int 0), .val (.int 1), .val (.int 1), .val (.int x101), .val (.int x102), .val (.int x103), .val (.int x104), .val (.int x105), .val (.int x106), .val (.int 4), .val (.ref b108), .val (.int 4), .val (.ref b119), .unset, .unset] [(.ref b123)] rfl rfl (by decide) (by decide) [b123] (allS (by omega) all0) (fun _ _ _ q => ⟨q.2.1, q.2.2.1⟩)
        obtain ⟨rfl, -, K127, E127, Fc127, t127, kb127, gt127, gu127, -, Fv127, A127⟩ := Q127
        refine st127 _ ?_
        have s129 := K127.1
        have lt127 := nlt A127.lt
        have S130 : StrIs Z h127 b123 [x104] := ⟨t127, kb127, E127, Fc127, Fv127, A127, (by simp only [List.mem_cons, List.not_mem_nil, or_false]; rintro c rfl <;> first | assumption | decide), by simp⟩
        refine g_astore B W127 at_284 rfl (l' := #[.val (.int p1), .val (.int p2), .val (.int p3), .val (.int p4), .val (.long p5), .second, .val (.int 0), .val (.int 1), .val (.int 1), .val (.int x101), .val (.int x102), .val (.int x103), .val (.int x104), .val (.int x105), .val (.int x106), .val (.int 4), .val (.ref b108), .val (.int 4), .val (.ref b119), .val (.ref b123), .unset]) rfl ?_
        obtain ⟨T131, h131, b131, gb131, W131, K131, E131, D131, st131⟩ := x_new B W127 at_286 (tw hw 42 rfl) (tw hw 43 rfl) (tw hw 44 rfl) (by decide) (by decide) #[.val (.int p1), .val (.int p2), .val (.int p3), .val (.int p4), .val (.long p5), .second, .val (.int 0), .val (.int 1), .val (.int 1), .val (.int x101), .val (.int x102), .val (.int x103), .val (.int x104), .val (.int x105), .val (.int x106), .val (.int 4), .val (.ref b108), .val (.int 4), .val (.ref b119), .val (.ref b123), .unset] []
        have l131 := nlt E131.lt
        have z131 := W127.size
        refine st131 _ ?_
        have s132 := K131.1
        have f133 : Fld Z h131 b131 "com/example/presswright/presswright/publishing/FilePath" "path" "Ljava/lang/String;" .null := D131 (Or.inr (tw hw 175 rfl)) (ty := (.object "java/lang/String")) (by decide)
        refine g_dup B W131 at_289 rfl ?_
        obtain ⟨T134, h134, b134, gb134, W134, K134, E134, D134, st134⟩ := x_new B W131 at_290 (tw hw 13 rfl) (tw hw 14 rfl) (tw hw 15 rfl) (by decide) (by decide) #[.val (.int p1), .val (.int p2), .val (.int p3), .val (.int p4), .val (.long p5), .second, .val (.int 0), .val (.int 1), .val (.int 1), .val (.int x101), .val (.int x102), .val (.int x103), .val (.int x104), .val (.int x105), .val (.int x106), .val (.int 4), .val (.ref b108), .val (.int 4), .val (.ref b119), .val (.ref b123), .unset] [(.ref b131), (.ref b131)]
        have l134 := nlt E134.lt
        have z134 := W131.size
        refine st134 _ ?_
        have s135 := K134.1
        have f136 : Fld Z h134 b134 "java/lang/String" "coder" "B" (.int 0) := D134 (Or.inr (tw hw 39 rfl)) (ty := .byte) (by decide)
        have f137 : Fld Z h134 b134 "java/lang/String" "value" "[B" .null := D134 (Or.inr (tw hw 41 rfl)) (ty := (.array .byte)) (by decide)
        refine g_dup B W134 at_293 rfl ?_
        refine g_aload B W134 at_294 rfl rfl ?_
        have f139 := (A116.keep K119 nin0)
        have f140 := ((f139.keep K121 (ninS (nne (by have q := nlt f139.lt; omega)) nin0)).keep K123 nin0)
        have f141 := (((f140.keep K127 (ninS (nne (by have q := nlt f140.lt; omega)) nin0)).keep K131 nin0).keep K134 nin0)
        obtain ⟨T138, h138, v138, L138, W138, Q138, st138⟩ := x_specialB B W134 (b := b134) (rc := 1) (rs := 4) [(.ref b108)] (fun s' hZ' => StrChars.Road.backV (W := 3) hZ' (fun d hd => hw d (own_words d hd)) (kI := 4) (tw hw 14 rfl) (cs := ([47, x102, 46, x104] : List Int32)) (bs := ([47, x102, 46, x104] : List Int32).map (fun c => c.toInt8.toInt32)) (n := 4) (n0 := Z.heap.size) (by omega) W134.size E134 f137 f136 f141 (Scs.ext W134.old.2) hcz rfl (by decide) (by decide) (by decide) (by simp only [List.mem_cons, List.not_mem_nil, or_false]; rintro c (rfl | rfl | rfl | rfl) <;> first | assumption | decide) rfl (by decide) (by decide)) at_296 rfl (tw hw 16 rfl) (tw hw 17 rfl) (tw hw 18 rfl) (by decide) (lenOf pd___C_V rfl) #[.val (.int p1), .val (.int p2), .val (.int p3), .val (.int p4), .val (.long p5), .second, .val (.int 0), .val (.int 1), .val (.int 1), .val (.int x101), .val (.int x102), .val (.int x103), .val (.int x104), .val (.int x105), .val (.int x106), .val (.int 4), .val (.ref b108), .val (.int 4), .val (.ref b119), .val (.ref b123), .unset] [(.ref b134), (.ref b131), (.ref b131)] rfl rfl (by decide) (by decide) [b134] (allS (by omega) all0) (fun _ _ _ q => ⟨q.2.1, q.2.2.1⟩)
        obtain ⟨rfl, -, K138, E138, Fc138, t138, kb138, gt138, gu138, -, Fv138, A138⟩ := Q138
        refine st138 _ ?_
        have s142 := K138.1
        have lt138 := nlt A138.lt
        have S143 : StrIs Z h138 b134 [47, x102, 46, x104] := ⟨t138, kb138, E138, Fc138, Fv138, A138, (by simp only [List.mem_cons, List.not_mem_nil, or_false]; rintro c (rfl | rfl | rfl | rfl) <;> first | assumption | decide), by simp⟩
        obtain ⟨fp, hfp⟩ : ∃ f : Nat → Int32, f = fun i => ([47, x102, 46, x104] : List Int32).getD i 0 := ⟨_, rfl⟩
        have ep0 : fp 0 = 47 := by rw [hfp]; rfl
        have ep1 : fp 1 = x102 := by rw [hfp]; rfl
        have ep2 : fp 2 = 46 := by rw [hfp]; rfl
        have ep3 : fp 3 = x104 := by rw [hfp]; rfl
        have Sfp : StrIs Z h138 b134 (lst 4 fp) := by rw [show lst 4 fp = [47, x102, 46, x104] by rw [hfp]; rfl]; exact S143
        have f144 := ((E131.keep K134).keep K138)
        have f145 := (f133.keep K134 nin0)
        have f146 := (f145.keep K138 (ninS (nne (by have q := nlt f145.lt; omega)) nin0))
        obtain ⟨T147, h147, v147, W147, Q147, st147⟩ := x_special B W138 (b := b131) [(.ref b134)] (c_fp0 l Z a0 hw b131 b134 4 fp 2 cz sf h138 Scs hcz Ssf rsf f144 f146 (by omega) Sfp (by omega) ep0 (by intro j h1 h2; obtain rfl | rfl | rfl : j = 1 ∨ j = 2 ∨ j = 3 := (by omega); (· exact (by rw [ep1]; exact g102.n47)); (· exact (by rw [ep2]; exact (by decide))); (· exact (by rw [ep3]; exact g104.n47))) (by omega) (by omega) ep2 (by intro j h1 h2 h3; obtain rfl | rfl : j = 1 ∨ j = 3 := (by omega); (· exact (by rw [ep1]; exact g102.ok (by omega))); (· exact (by rw [ep3]; exact Or.inl q104)))) at_299 rfl (tw hw 45 rfl) (tw hw 46 rfl) (tw hw 44 rfl) (tw hw 47 rfl) (by decide) (lenOf pd__Ljava_lang_String__V rfl) #[.val (.int p1), .val (.int p2), .val (.int p3), .val (.int p4), .val (.long p5), .second, .val (.int 0), .val (.int 1), .val (.int 1), .val (.int x101), .val (.int x102), .val (.int x103), .val (.int x104), .val (.int x105), .val (.int x106), .val (.int 4), .val (.ref b108), .val (.int 4), .val (.ref b119), .val (.ref b123), .unset] [(.ref b131)] rfl 1 rfl (by decide) (by decide) (by decide) (by decide)
        obtain ⟨rfl, K147, E147, F147⟩ := Q147
        have s148 := K147.1
        refine st147 _ ?_
        have f150 := (E138.keep K147)
        have f151 := (Fc138.keep K147 (ninS (nne (by have q := nlt Fc138.lt; omega)) nin0))
        have f152 := (Fv138.keep K147 (ninS (nne (by have q := nlt Fv138.lt; omega)) nin0))
        have f153 := (A138.keep K147 (ninS (nne (by have q := nlt A138.lt; omega)) nin0))
        have S149 : StrIs Z h147 b134 (lst 4 fp) := by rw [show lst 4 fp = [47, x102, 46, x104] by rw [hfp]; rfl]; exact ⟨t138, kb138, f150, f151, f152, f153, (by simp only [List.mem_cons, List.not_mem_nil, or_false]; rintro c (rfl | rfl | rfl | rfl) <;> first | assumption | decide), by simp⟩
        obtain ⟨T154, h154, v154, W154, Q154, st154⟩ := x_virtual B W147 (b := b131) [] (c_extn l Z a0 hw b131 b134 4 fp 2 cz sf h147 Scs hcz Ssf rsf F147 S149 (by omega) (by omega) ep2 (by intro j h1 h2; obtain rfl : j = 3 := (by omega); (· exact (by rw [ep3]; exact g104.n46)))) E147 at_302 (tw hw 176 rfl) (tw hw 177 rfl) (tw hw 179 rfl) (tw hw 178 rfl) (tw hw 44 rfl) (tw hw 180 rfl) (by decide) (lenOf pd___Ljava_lang_String_ rfl) #[.val (.int p1), .val (.int p2), .val (.int p3), .val (.int p4), .val (.long p5), .second, .val (.int 0), .val (.int 1), .val (.int 1), .val (.int x101), .val (.int x102), .val (.int x103), .val (.int x104), .val (.int x105), .val (.int x106), .val (.int 4), .val (.ref b108), .val (.int 4), .val (.ref b119), .val (.ref b123), .unset] [] rfl 0 rfl (by decide) (by decide) (by decide) (by decide)
        obtain ⟨b154, rfl, K154, S154⟩ := Q154
        have s155 := K154.1
        refine st154 _ ?_
        have S154 : StrIs Z h154 b154 (lst 1 fun i => fp (3 + i)) := S154
        refine g_astore B W154 at_305 rfl (l' := #[.val (.int p1), .val (.int p2), .val (.int p3), .val (.int p4), .val (.long p5), .second, .val (.int 0), .val (.int 1), .val (.int 1), .val (.int x101), .val (.int x102), .val (.int x103), .val (.int x104), .val (.int x105), .val (.int x106), .val (.int 4), .val (.ref b108), .val (.int 4), .val (.ref b119), .val (.ref b123), .val (.ref b154)]) rfl ?_
        refine g_aload B W154 at_307 rfl rfl ?_
        refine g_aload B W154 at_309 rfl rfl ?_
        have f157 := (S130.keep ((((((Keep.refl h127 []).trans K131 all0).trans K134 all0).trans K138 (allS (Or.inr (by omega)) all0)).trans K147 (allS (Or.inr (by omega)) all0)).trans K154 all0))
        obtain ⟨T156, h156, v156, L156, W156, Q156, st156⟩ := x_virtualB B W154 (b := b154) (V := 0) (rc := 0) (rs := 0) (QL := fun v h' L => v = some (.int (bi (decide ((lst 1 fun i => fp (3 + i)) = [x104])))) ∧ L = [] ∧ h154 = h') [(.ref b123)] (fun s' hZ' => own_eqB hw S154 f157 (Scs.ext W154.old.2) hcz (tw hw 14 rfl) (by decide) (by decide) hZ') S154.exa at_311 (tw hw 181 rfl) (tw hw 182 rfl) (tw hw 184 rfl) (tw hw 183 rfl) (by decide) (lenOf pd__Ljava_lang_Object__Z rfl) #[.val (.int p1), .val (.int p2), .val (.int p3), .val (.int p4), .val (.long p5), .second, .val (.int 0), .val (.int 1), .val (.int 1), .val (.int x101), .val (.int x102), .val (.int x103), .val (.int x104), .val (.int x105), .val (.int x106), .val (.int 4), .val (.ref b108), .val (.int 4), .val (.ref b119), .val (.ref b123), .val (.ref b154)] [] rfl rfl (by decide) (by decide) [] all0 (fun _ _ _ q => ⟨q.2.1 ▸ Fr.nil _, q.2.2 ▸ Keep.refl _ _⟩)
        obtain ⟨rfl, -, rfl⟩ := Q156
        refine st156 _ ?_
        exact r_b B W156 at_314 (by decide) (by decide) (by show some (Value.int (bi (decide ((lst 1 fun i => fp (3 + i)) = [x104])))) = some (.int 1); rw [show (decide ((lst 1 fun i => fp (3 + i)) = [x104])) = true from decide_eq_true (by show ([fp 3] : List Int32) = _; rw [ep3])]; rfl)
      · skip
        show Go p.tables e below _ T106 (mkF m 93 #[.val (.int p1), .val (.int p2), .val (.int p3), .val (.int p4), .val (.long p5), .second, .val (.int 0), .val (.int 1), .val (.int 2), .val (.int x101), .val (.int x102), .val (.int x103), .val (.int x104), .val (.int x105), .val (.int x106), .unset, .unset, .unset, .unset, .unset, .unset] [])
        refine g_iconst B W106 at_93 (v := 1) (by decide) ?_
        refine g_iload B W106 at_94 rfl ?_
        refine g_if_y B W106 at_96 (XT.i0_eq_t (by decide)) (pc' := 103) (by decide) ?_
        show Go p.tables e below _ T106 (mkF m 103 #[.val (.int p1), .val (.int p2), .val (.int p3), .val (.int p4), .val (.long p5), .second, .val (.int 0), .val (.int 1), .val (.int 2), .val (.int x101), .val (.int x102), .val (.int x103), .val (.int x104), .val (.int x105), .val (.int x106), .unset, .unset, .unset, .unset, .unset, .unset] [(.int 1)])
        refine g_iconst B W106 at_103 (v := 0) (by decide) ?_
        refine g_iadd B W106 at_104  ?_
        rw [show (1 + 0 : Int32) = 1 by decide]
        refine g_iload B W106 at_105 rfl ?_
        refine g_iadd B W106 at_107  ?_
        rw [show (1 + 1 : Int32) = 2 by decide]
        refine g_iconst B W106 at_108 (v := 1) (by decide) ?_
        refine g_iadd B W106 at_109  ?_
        rw [show (2 + 1 : Int32) = 3 by decide]
        refine g_iload B W106 at_110 rfl ?_
        refine g_iadd B W106 at_112  ?_
        rw [show (3 + 2 : Int32) = 5 by decide]
        refine g_istore B W106 at_113  (l' := #[.val (.int p1), .val (.int p2), .val (.int p3), .val (.int p4), .val (.long p5), .second, .val (.int 0), .val (.int 1), .val (.int 2), .val (.int x101), .val (.int x102), .val (.int x103), .val (.int x104), .val (.int x105), .val (.int x106), .val (.int 5), .unset, .unset, .unset, .unset, .unset]) rfl ?_
        refine g_iload B W106 at_115 rfl ?_
        have zs158 := W106.size
        obtain ⟨T159, h159, v159, W159, Q159, st159⟩ := x_static B W106 [(.int 5)] (c_sz5 l Z a0 hw h0) at_117 (tw hw 9 rfl) (tw hw 10 rfl) (tw hw 2 rfl) (tw hw 11 rfl) (by decide) (lenOf pd__I__C rfl) #[.val (.int p1), .val (.int p2), .val (.int p3), .val (.int p4), .val (.long p5), .second, .val (.int 0), .val (.int 1), .val (.int 2), .val (.int x101), .val (.int x102), .val (.int x103), .val (.int x104), .val (.int x105), .val (.int x106), .val (.int 5), .unset, .unset, .unset, .unset, .unset] [] rfl 0 rfl (by decide) (by decide) (by decide) (by decide)
        obtain ⟨b159, kA159, rfl, g159, K159, A159⟩ := Q159
        have s160 := K159.1
        refine st159 _ ?_
        have l159 := nlt A159.lt
        have z159 := W159.size
        refine g_astore B W159 at_120 rfl (l' := #[.val (.int p1), .val (.int p2), .val (.int p3), .val (.int p4), .val (.long p5), .second, .val (.int 0), .val (.int 1), .val (.int 2), .val (.int x101), .val (.int x102), .val (.int x103), .val (.int x104), .val (.int x105), .val (.int x106), .val (.int 5), .val (.ref b159), .unset, .unset, .unset, .unset]) rfl ?_
        refine g_iconst B W159 at_122 (v := 0) (by decide) ?_
        refine g_istore B W159 at_123  (l' := #[.val (.int p1), .val (.int p2), .val (.int p3), .val (.int p4), .val (.long p5), .second, .val (.int 0), .val (.int 1), .val (.int 2), .val (.int x101), .val (.int x102), .val (.int x103), .val (.int x104), .val (.int x105), .val (.int x106), .val (.int 5), .val (.ref b159), .val (.int 0), .unset, .unset, .unset]) rfl ?_
        refine g_aload B W159 at_125 rfl rfl ?_
        refine g_iload B W159 at_127 rfl ?_
        refine g_bipush B W159 at_129 (v := 47) (by decide) ?_
        obtain ⟨T161, h161, W161, K161, A161, st161⟩ := x_castore B W159 (j := 0) (x := 47) at_131 A159 (by decide) (Nat.lt_of_lt_of_eq (show Int32.toNatClampNeg 0 < 5 by decide) rfl) (by omega) #[.val (.int p1), .val (.int p2), .val (.int p3), .val (.int p4), .val (.long p5), .second, .val (.int 0), .val (.int 1), .val (.int 2), .val (.int x101), .val (.int x102), .val (.int x103), .val (.int x104), .val (.int x105), .val (.int x106), .val (.int 5), .val (.ref b159), .val (.int 0), .unset, .unset, .unset] []
        refine st161 _ ?_
        rw [show nar .char 47 = 47 by decide] at A161
        have A161 : Arv Z h161 b159 kA159 .char 5 [(.int 47), (.int 0), (.int 0), (.int 0), (.int 0)] (.int 0) := A161
        have s162 := K161.1
        refine g_iinc B W161 at_132 (v := 1) (l' := #[.val (.int p1), .val (.int p2), .val (.int p3), .val (.int p4), .val (.long p5), .second, .val (.int 0), .val (.int 1), .val (.int 2), .val (.int x101), .val (.int x102), .val (.int x103), .val (.int x104), .val (.int x105), .val (.int x106), .val (.int 5), .val (.ref b159), .val (.int (0 + 1)), .unset, .unset, .unset]) (by decide) rfl rfl ?_
        rw [show (0 + 1 : Int32) = 1 by decide]
        refine g_iload B W161 at_135 rfl ?_
        refine g_if_y B W161 at_137 (XT.i0_eq_t (by decide)) (pc' := 160) (by decide) ?_
        show Go p.tables e below _ T161 (mkF m 160 #[.val (.int p1), .val (.int p2), .val (.int p3), .val (.int p4), .val (.long p5), .second, .val (.int 0), .val (.int 1), .val (.int 2), .val (.int x101), .val (.int x102), .val (.int x103), .val (.int x104), .val (.int x105), .val (.int x106), .val (.int 5), .val (.ref b159), .val (.int 1), .unset, .unset, .unset] [])
        refine g_aload B W161 at_160 rfl rfl ?_
        refine g_iload B W161 at_162 rfl ?_
        refine g_iload B W161 at_164 rfl ?_
        obtain ⟨T163, h163, W163, K163, A163, st163⟩ := x_castore B W161 (j := 1) (x := x102) at_166 A161 (by decide) (Nat.lt_of_lt_of_eq (show Int32.toNatClampNeg 1 < 5 by decide) rfl) (by omega) #[.val (.int p1), .val (.int p2), .val (.int p3), .val (.int p4), .val (.long p5), .second, .val (.int 0), .val (.int 1), .val (.int 2), .val (.int x101), .val (.int x102), .val (.int x103), .val (.int x104), .val (.int x105), .val (.int x106), .val (.int 5), .val (.ref b159), .val (.int 1), .unset, .unset, .unset] []
        refine st163 _ ?_
        rw [nx102] at A163
        have A163 : Arv Z h163 b159 kA159 .char 5 [(.int 47), (.int x102), (.int 0), (.int 0), (.int 0)] (.int 0) := A163
        have s164 := K163.1
        refine g_iinc B W163 at_167 (v := 1) (l' := #[.val (.int p1), .val (.int p2), .val (.int p3), .val (.int p4), .val (.long p5), .second, .val (.int 0), .val (.int 1), .val (.int 2), .val (.int x101), .val (.int x102), .val (.int x103), .val (.int x104), .val (.int x105), .val (.int x106), .val (.int 5), .val (.ref b159), .val (.int (1 + 1)), .unset, .unset, .unset]) (by decide) rfl rfl ?_
        rw [show (1 + 1 : Int32) = 2 by decide]
        refine g_iload B W163 at_170 rfl ?_
        refine g_iconst B W163 at_172 (v := 2) (by decide) ?_
        refine g_icmp_y B W163 at_173 (XT.ii_ne_t (by decide)) (pc' := 186) (by decide) ?_
        show Go p.tables e below _ T163 (mkF m 186 #[.val (.int p1), .val (.int p2), .val (.int p3), .val (.int p4), .val (.long p5), .second, .val (.int 0), .val (.int 1), .val (.int 2), .val (.int x101), .val (.int x102), .val (.int x103), .val (.int x104), .val (.int x105), .val (.int x106), .val (.int 5), .val (.ref b159), .val (.int 2), .unset, .unset, .unset] [])
        refine g_aload B W163 at_186 rfl rfl ?_
        refine g_iload B W163 at_188 rfl ?_
        refine g_bipush B W163 at_190 (v := 46) (by decide) ?_
        obtain ⟨T165, h165, W165, K165, A165, st165⟩ := x_castore B W163 (j := 2) (x := 46) at_192 A163 (by decide) (Nat.lt_of_lt_of_eq (show Int32.toNatClampNeg 2 < 5 by decide) rfl) (by omega) #[.val (.int p1), .val (.int p2), .val (.int p3), .val (.int p4), .val (.long p5), .second, .val (.int 0), .val (.int 1), .val (.int 2), .val (.int x101), .val (.int x102), .val (.int x103), .val (.int x104), .val (.int x105), .val (.int x106), .val (.int 5), .val (.ref b159), .val (.int 2), .unset, .unset, .unset] []
        refine st165 _ ?_
        rw [show nar .char 46 = 46 by decide] at A165
        have A165 : Arv Z h165 b159 kA159 .char 5 [(.int 47), (.int x102), (.int 46), (.int 0), (.int 0)] (.int 0) := A165
        have s166 := K165.1
        refine g_iinc B W165 at_193 (v := 1) (l' := #[.val (.int p1), .val (.int p2), .val (.int p3), .val (.int p4), .val (.long p5), .second, .val (.int 0), .val (.int 1), .val (.int 2), .val (.int x101), .val (.int x102), .val (.int x103), .val (.int x104), .val (.int x105), .val (.int x106), .val (.int 5), .val (.ref b159), .val (.int (2 + 1)), .unset, .unset, .unset]) (by decide) rfl rfl ?_
        rw [show (2 + 1 : Int32) = 3 by decide]
        refine g_aload B W165 at_196 rfl rfl ?_
        refine g_iload B W165 at_198 rfl ?_
        refine g_iload B W165 at_200 rfl ?_
        obtain ⟨T167, h167, W167, K167, A167, st167⟩ := x_castore B W165 (j := 3) (x := x104) at_202 A165 (by decide) (Nat.lt_of_lt_of_eq (show Int32.toNatClampNeg 3 < 5 by decide) rfl) (by omega) #[.val (.int p1), .val (.int p2), .val (.int p3), .val (.int p4), .val (.long p5), .second, .val (.int 0), .val (.int 1), .val (.int 2), .val (.int x101), .val (.int x102), .val (.int x103), .val (.int x104), .val (.int x105), .val (.int x106), .val (.int 5), .val (.ref b159), .val (.int 3), .unset, .unset, .unset] []
        refine st167 _ ?_
        rw [nx104] at A167
        have A167 : Arv Z h167 b159 kA159 .char 5 [(.int 47), (.int x102), (.int 46), (.int x104), (.int 0)] (.int 0) := A167
        have s168 := K167.1
        refine g_iinc B W167 at_203 (v := 1) (l' := #[.val (.int p1), .val (.int p2), .val (.int p3), .val (.int p4), .val (.long p5), .second, .val (.int 0), .val (.int 1), .val (.int 2), .val (.int x101), .val (.int x102), .val (.int x103), .val (.int x104), .val (.int x105), .val (.int x106), .val (.int 5), .val (.ref b159), .val (.int (3 + 1)), .unset, .unset, .unset]) (by decide) rfl rfl ?_
        rw [show (3 + 1 : Int32) = 4 by decide]
        refine g_iload B W167 at_206 rfl ?_
        refine g_iconst B W167 at_208 (v := 2) (by decide) ?_
        refine g_icmp_n B W167 at_209 (XT.ii_lt_f (by decide)) ?_
        show Go p.tables e below _ T167 (mkF m 212 #[.val (.int p1), .val (.int p2), .val (.int p3), .val (.int p4), .val (.long p5), .second, .val (.int 0), .val (.int 1), .val (.int 2), .val (.int x101), .val (.int x102), .val (.int x103), .val (.int x104), .val (.int x105), .val (.int x106), .val (.int 5), .val (.ref b159), .val (.int 4), .unset, .unset, .unset] [])
        refine g_aload B W167 at_212 rfl rfl ?_
        refine g_iload B W167 at_214 rfl ?_
        refine g_iload B W167 at_216 rfl ?_
        obtain ⟨T169, h169, W169, K169, A169, st169⟩ := x_castore B W167 (j := 4) (x := x105) at_218 A167 (by decide) (Nat.lt_of_lt_of_eq (show Int32.toNatClampNeg 4 < 5 by decide) rfl) (by omega) #[.val (.int p1), .val (.int p2), .val (.int p3), .val (.int p4), .val (.long p5), .second, .val (.int 0), .val (.int 1), .val (.int 2), .val (.int x101), .val (.int x102), .val (.int x103), .val (.int x104), .val (.int x105), .val (.int x106), .val (.int 5), .val (.ref b159), .val (.int 4), .unset, .unset, .unset] []
        refine st169 _ ?_
        rw [nx105] at A169
        have A169 : Arv Z h169 b159 kA159 .char 5 [(.int 47), (.int x102), (.int 46), (.int x104), (.int x105)] (.int 0) := A169
        have s170 := K169.1
        refine g_iinc B W169 at_219 (v := 1) (l' := #[.val (.int p1), .val (.int p2), .val (.int p3), .val (.int p4), .val (.long p5), .second, .val (.int 0), .val (.int 1), .val (.int 2), .val (.int x101), .val (.int x102), .val (.int x103), .val (.int x104), .val (.int x105), .val (.int x106), .val (.int 5), .val (.ref b159), .val (.int (4 + 1)), .unset, .unset, .unset]) (by decide) rfl rfl ?_
        rw [show (4 + 1 : Int32) = 5 by decide]
        refine g_iload B W169 at_222 rfl ?_
        refine g_iconst B W169 at_224 (v := 3) (by decide) ?_
        refine g_icmp_y B W169 at_225 (XT.ii_ne_t (by decide)) (pc' := 238) (by decide) ?_
        show Go p.tables e below _ T169 (mkF m 238 #[.val (.int p1), .val (.int p2), .val (.int p3), .val (.int p4), .val (.long p5), .second, .val (.int 0), .val (.int 1), .val (.int 2), .val (.int x101), .val (.int x102), .val (.int x103), .val (.int x104), .val (.int x105), .val (.int x106), .val (.int 5), .val (.ref b159), .val (.int 5), .unset, .unset, .unset] [])
        refine g_iload B W169 at_238 rfl ?_
        have zs171 := W169.size
        obtain ⟨T172, h172, v172, W172, Q172, st172⟩ := x_static B W169 [(.int 2)] (c_sz2 l Z a0 hw h169) at_240 (tw hw 9 rfl) (tw hw 10 rfl) (tw hw 2 rfl) (tw hw 11 rfl) (by decide) (lenOf pd__I__C rfl) #[.val (.int p1), .val (.int p2), .val (.int p3), .val (.int p4), .val (.long p5), .second, .val (.int 0), .val (.int 1), .val (.int 2), .val (.int x101), .val (.int x102), .val (.int x103), .val (.int x104), .val (.int x105), .val (.int x106), .val (.int 5), .val (.ref b159), .val (.int 5), .unset, .unset, .unset] [] rfl 0 rfl (by decide) (by decide) (by decide) (by decide)
        obtain ⟨b172, kA172, rfl, g172, K172, A172⟩ := Q172
        have s173 := K172.1
        refine st172 _ ?_
        have l172 := nlt A172.lt
        have z172 := W172.size
        refine g_astore B W172 at_243 rfl (l' := #[.val (.int p1), .val (.int p2), .val (.int p3), .val (.int p4), .val (.long p5), .second, .val (.int 0), .val (.int 1), .val (.int 2), .val (.int x101), .val (.int x102), .val (.int x103), .val (.int x104), .val (.int x105), .val (.int x106), .val (.int 5), .val (.ref b159), .val (.int 5), .val (.ref b172), .unset, .unset]) rfl ?_
        refine g_aload B W172 at_245 rfl rfl ?_
        refine g_iconst B W172 at_247 (v := 0) (by decide) ?_
        refine g_iload B W172 at_248 rfl ?_
        obtain ⟨T174, h174, W174, K174, A174, st174⟩ := x_castore B W172 (j := 0) (x := x104) at_250 A172 (by decide) (Nat.lt_of_lt_of_eq (show Int32.toNatClampNeg 0 < 2 by decide) rfl) (by omega) #[.val (.int p1), .val (.int p2), .val (.int p3), .val (.int p4), .val (.long p5), .second, .val (.int 0), .val (.int 1), .val (.int 2), .val (.int x101), .val (.int x102), .val (.int x103), .val (.int x104), .val (.int x105), .val (.int x106), .val (.int 5), .val (.ref b159), .val (.int 5), .val (.ref b172), .unset, .unset] []
        refine st174 _ ?_
        rw [nx104] at A174
        have A174 : Arv Z h174 b172 kA172 .char 2 [(.int x104), (.int 0)] (.int 0) := A174
        have s175 := K174.1
        refine g_iload B W174 at_251 rfl ?_
        refine g_iconst B W174 at_253 (v := 2) (by decide) ?_
        refine g_icmp_n B W174 at_254 (XT.ii_lt_f (by decide)) ?_
        show Go p.tables e below _ T174 (mkF m 257 #[.val (.int p1), .val (.int p2), .val (.int p3), .val (.int p4), .val (.long p5), .second, .val (.int 0), .val (.int 1), .val (.int 2), .val (.int x101), .val (.int x102), .val (.int x103), .val (.int x104), .val (.int x105), .val (.int x106), .val (.int 5), .val (.ref b159), .val (.int 5), .val (.ref b172), .unset, .unset] [])
        refine g_aload B W174 at_257 rfl rfl ?_
        refine g_iconst B W174 at_259 (v := 1) (by decide) ?_
        refine g_iload B W174 at_260 rfl ?_
        obtain ⟨T176, h176, W176, K176, A176, st176⟩ := x_castore B W174 (j := 1) (x := x105) at_262 A174 (by decide) (Nat.lt_of_lt_of_eq (show Int32.toNatClampNeg 1 < 2 by decide) rfl) (by omega) #[.val (.int p1), .val (.int p2), .val (.int p3), .val (.int p4), .val (.long p5), .second, .val (.int 0), .val (.int 1), .val (.int 2), .val (.int x101), .val (.int x102), .val (.int x103), .val (.int x104), .val (.int x105), .val (.int x106), .val (.int 5), .val (.ref b159), .val (.int 5), .val (.ref b172), .unset, .unset] []
        refine st176 _ ?_
        rw [nx105] at A176
        have A176 : Arv Z h176 b172 kA172 .char 2 [(.int x104), (.int x105)] (.int 0) := A176
        have s177 := K176.1
        refine g_iload B W176 at_263 rfl ?_
        refine g_iconst B W176 at_265 (v := 3) (by decide) ?_
        refine g_icmp_y B W176 at_266 (XT.ii_ne_t (by decide)) (pc' := 275) (by decide) ?_
        show Go p.tables e below _ T176 (mkF m 275 #[.val (.int p1), .val (.int p2), .val (.int p3), .val (.int p4), .val (.long p5), .second, .val (.int 0), .val (.int 1), .val (.int 2), .val (.int x101), .val (.int x102), .val (.int x103), .val (.int x104), .val (.int x105), .val (.int x106), .val (.int 5), .val (.ref b159), .val (.int 5), .val (.ref b172), .unset, .unset] [])
        obtain ⟨T178, h178, b178, gb178, W178, K178, E178, D178, st178⟩ := x_new B W176 at_275 (tw hw 13 rfl) (tw hw 14 rfl) (tw hw 15 rfl) (by decide) (by decide) #[.val (.int p1), .val (.int p2), .val (.int p3), .val (.int p4), .val (.long p5), .second, .val (.int 0), .val (.int 1), .val (.int 2), .val (.int x101), .val (.int x102), .val (.int x103), .val (.int x104), .val (.int x105), .val (.int x106), .val (.int 5), .val (.ref b159), .val (.int 5), .val (.ref b172), .unset, .unset] []
        have l178 := nlt E178.lt
        have z178 := W176.size
        refine st178 _ ?_
        have s179 := K178.1
        have f180 : Fld Z h178 b178 "java/lang/String" "coder" "B" (.int 0) := D178 (Or.inr (tw hw 39 rfl)) (ty := .byte) (by decide)
        have f181 : Fld Z h178 b178 "java/lang/String" "value" "[B" .null := D178 (Or.inr (tw hw 41 rfl)) (ty := (.array .byte)) (by decide)
        refine g_dup B W178 at_278 rfl ?_
        refine g_aload B W178 at_279 rfl rfl ?_
        have f183 := (A176.keep K178 nin0)
        obtain ⟨T182, h182, v182, L182, W182, Q182, st182⟩ := x_specialB B W178 (b := b178) (rc := 1) (rs := 2) [(.ref b172)] (fun s' hZ' => StrChars.Road.backV (W := 1) hZ' (fun d hd => hw d (own_words d hd)) (kI := 4) (tw hw 14 rfl) (cs := ([x104, x105] : List Int32)) (bs := ([x104, x105] : List Int32).map (fun c => c.toInt8.toInt32)) (n := 2) (n0 := Z.heap.size) (by omega) W178.size E178 f181 f180 f183 (Scs.ext W178.old.2) hcz rfl (by decide) (by decide) (by decide) (by simp only [List.mem_cons, List.not_mem_nil, or_false]; rintro c (rfl | rfl) <;> first | assumption | decide) rfl (by decide) (by decide)) at_281 rfl (tw hw 16 rfl) (tw hw 17 rfl) (tw hw 18 rfl) (by decide) (lenOf pd___C_V rfl) #[.val (.int p1), .val (.int p2), .val (.int p3), .val (.int p4), .val (.long p5), .second, .val (.int 0), .val (.int 1), .val (.int 2), .val (.int x101), .val (.int x102), .val (.int x103), .val (.int x104), .val (.int x105), .val (.int x106), .val (.int 5), .val (.ref b159), .val (.int 5), .val (.ref b172), .unset, .unset] [(.ref b178)] rfl rfl (by decide) (by decide) [b178] (allS (by omega) all0) (fun _ _ _ q => ⟨q.2.1, q.2.2.1⟩)
        obtain ⟨rfl, -, K182, E182, Fc182, t182, kb182, gt182, gu182, -, Fv182, A182⟩ := Q182
        refine st182 _ ?_
        have s184 := K182.1
        have lt182 := nlt A182.lt
        have S185 : StrIs Z h182 b178 [x104, x105] := ⟨t182, kb182, E182, Fc182, Fv182, A182, (by simp only [List.mem_cons, List.not_mem_nil, or_false]; rintro c (rfl | rfl) <;> first | assumption | decide), by simp⟩
        refine g_astore B W182 at_284 rfl (l' := #[.val (.int p1), .val (.int p2), .val (.int p3), .val (.int p4), .val (.long p5), .second, .val (.int 0), .val (.int 1), .val (.int 2), .val (.int x101), .val (.int x102), .val (.int x103), .val (.int x104), .val (.int x105), .val (.int x106), .val (.int 5), .val (.ref b159), .val (.int 5), .val (.ref b172), .val (.ref b178), .unset]) rfl ?_
        obtain ⟨T186, h186, b186, gb186, W186, K186, E186, D186, st186⟩ := x_new B W182 at_286 (tw hw 42 rfl) (tw hw 43 rfl) (tw hw 44 rfl) (by decide) (by decide) #[.val (.int p1), .val (.int p2), .val (.int p3), .val (.int p4), .val (.long p5), .second, .val (.int 0), .val (.int 1), .val (.int 2), .val (.int x101), .val (.int x102), .val (.int x103), .val (.int x104), .val (.int x105), .val (.int x106), .val (.int 5), .val (.ref b159), .val (.int 5), .val (.ref b172), .val (.ref b178), .unset] []
        have l186 := nlt E186.lt
        have z186 := W182.size
        refine st186 _ ?_
        have s187 := K186.1
        have f188 : Fld Z h186 b186 "com/example/presswright/presswright/publishing/FilePath" "path" "Ljava/lang/String;" .null := D186 (Or.inr (tw hw 175 rfl)) (ty := (.object "java/lang/String")) (by decide)
        refine g_dup B W186 at_289 rfl ?_
        obtain ⟨T189, h189, b189, gb189, W189, K189, E189, D189, st189⟩ := x_new B W186 at_290 (tw hw 13 rfl) (tw hw 14 rfl) (tw hw 15 rfl) (by decide) (by decide) #[.val (.int p1), .val (.int p2), .val (.int p3), .val (.int p4), .val (.long p5), .second, .val (.int 0), .val (.int 1), .val (.int 2), .val (.int x101), .val (.int x102), .val (.int x103), .val (.int x104), .val (.int x105), .val (.int x106), .val (.int 5), .val (.ref b159), .val (.int 5), .val (.ref b172), .val (.ref b178), .unset] [(.ref b186), (.ref b186)]
        have l189 := nlt E189.lt
        have z189 := W186.size
        refine st189 _ ?_
        have s190 := K189.1
        have f191 : Fld Z h189 b189 "java/lang/String" "coder" "B" (.int 0) := D189 (Or.inr (tw hw 39 rfl)) (ty := .byte) (by decide)
        have f192 : Fld Z h189 b189 "java/lang/String" "value" "[B" .null := D189 (Or.inr (tw hw 41 rfl)) (ty := (.array .byte)) (by decide)
        refine g_dup B W189 at_293 rfl ?_
        refine g_aload B W189 at_294 rfl rfl ?_
        have f194 := (A169.keep K172 nin0)
        have f195 := (f194.keep K174 (ninS (nne (by have q := nlt f194.lt; omega)) nin0))
        have f196 := ((f195.keep K176 (ninS (nne (by have q := nlt f195.lt; omega)) nin0)).keep K178 nin0)
        have f197 := (((f196.keep K182 (ninS (nne (by have q := nlt f196.lt; omega)) nin0)).keep K186 nin0).keep K189 nin0)
        obtain ⟨T193, h193, v193, L193, W193, Q193, st193⟩ := x_specialB B W189 (b := b189) (rc := 1) (rs := 5) [(.ref b159)] (fun s' hZ' => StrChars.Road.backV (W := 3) hZ' (fun d hd => hw d (own_words d hd)) (kI := 4) (tw hw 14 rfl) (cs := ([47, x102, 46, x104, x105] : List Int32)) (bs := ([47, x102, 46, x104, x105] : List Int32).map (fun c => c.toInt8.toInt32)) (n := 5) (n0 := Z.heap.size) (by omega) W189.size E189 f192 f191 f197 (Scs.ext W189.old.2) hcz rfl (by decide) (by decide) (by decide) (by simp only [List.mem_cons, List.not_mem_nil, or_false]; rintro c (rfl | rfl | rfl | rfl | rfl) <;> first | assumption | decide) rfl (by decide) (by decide)) at_296 rfl (tw hw 16 rfl) (tw hw 17 rfl) (tw hw 18 rfl) (by decide) (lenOf pd___C_V rfl) #[.val (.int p1), .val (.int p2), .val (.int p3), .val (.int p4), .val (.long p5), .second, .val (.int 0), .val (.int 1), .val (.int 2), .val (.int x101), .val (.int x102), .val (.int x103), .val (.int x104), .val (.int x105), .val (.int x106), .val (.int 5), .val (.ref b159), .val (.int 5), .val (.ref b172), .val (.ref b178), .unset] [(.ref b189), (.ref b186), (.ref b186)] rfl rfl (by decide) (by decide) [b189] (allS (by omega) all0) (fun _ _ _ q => ⟨q.2.1, q.2.2.1⟩)
        obtain ⟨rfl, -, K193, E193, Fc193, t193, kb193, gt193, gu193, -, Fv193, A193⟩ := Q193
        refine st193 _ ?_
        have s198 := K193.1
        have lt193 := nlt A193.lt
        have S199 : StrIs Z h193 b189 [47, x102, 46, x104, x105] := ⟨t193, kb193, E193, Fc193, Fv193, A193, (by simp only [List.mem_cons, List.not_mem_nil, or_false]; rintro c (rfl | rfl | rfl | rfl | rfl) <;> first | assumption | decide), by simp⟩
        obtain ⟨fp, hfp⟩ : ∃ f : Nat → Int32, f = fun i => ([47, x102, 46, x104, x105] : List Int32).getD i 0 := ⟨_, rfl⟩
        have ep0 : fp 0 = 47 := by rw [hfp]; rfl
        have ep1 : fp 1 = x102 := by rw [hfp]; rfl
        have ep2 : fp 2 = 46 := by rw [hfp]; rfl
        have ep3 : fp 3 = x104 := by rw [hfp]; rfl
        have ep4 : fp 4 = x105 := by rw [hfp]; rfl
        have Sfp : StrIs Z h193 b189 (lst 5 fp) := by rw [show lst 5 fp = [47, x102, 46, x104, x105] by rw [hfp]; rfl]; exact S199
        have f200 := ((E186.keep K189).keep K193)
        have f201 := (f188.keep K189 nin0)
        have f202 := (f201.keep K193 (ninS (nne (by have q := nlt f201.lt; omega)) nin0))
        obtain ⟨T203, h203, v203, W203, Q203, st203⟩ := x_special B W193 (b := b186) [(.ref b189)] (c_fp0 l Z a0 hw b186 b189 5 fp 2 cz sf h193 Scs hcz Ssf rsf f200 f202 (by omega) Sfp (by omega) ep0 (by intro j h1 h2; obtain rfl | rfl | rfl | rfl : j = 1 ∨ j = 2 ∨ j = 3 ∨ j = 4 := (by omega); (· exact (by rw [ep1]; exact g102.n47)); (· exact (by rw [ep2]; exact (by decide))); (· exact (by rw [ep3]; exact g104.n47)); (· exact (by rw [ep4]; exact g105.n47))) (by omega) (by omega) ep2 (by intro j h1 h2 h3; obtain rfl | rfl | rfl : j = 1 ∨ j = 3 ∨ j = 4 := (by omega); (· exact (by rw [ep1]; exact g102.ok (by omega))); (· exact (by rw [ep3]; exact Or.inl q104)); (· exact (by rw [ep4]; exact Or.inl q105)))) at_299 rfl (tw hw 45 rfl) (tw hw 46 rfl) (tw hw 44 rfl) (tw hw 47 rfl) (by decide) (lenOf pd__Ljava_lang_String__V rfl) #[.val (.int p1), .val (.int p2), .val (.int p3), .val (.int p4), .val (.long p5), .second, .val (.int 0), .val (.int 1), .val (.int 2), .val (.int x101), .val (.int x102), .val (.int x103), .val (.int x104), .val (.int x105), .val (.int x106), .val (.int 5), .val (.ref b159), .val (.int 5), .val (.ref b172), .val (.ref b178), .unset] [(.ref b186)] rfl 1 rfl (by decide) (by decide) (by decide) (by decide)
        obtain ⟨rfl, K203, E203, F203⟩ := Q203
        have s204 := K203.1
        refine st203 _ ?_
        have f206 := (E193.keep K203)
        have f207 := (Fc193.keep K203 (ninS (nne (by have q := nlt Fc193.lt; omega)) nin0))
        have f208 := (Fv193.keep K203 (ninS (nne (by have q := nlt Fv193.lt; omega)) nin0))
        have f209 := (A193.keep K203 (ninS (nne (by have q := nlt A193.lt; omega)) nin0))
        have S205 : StrIs Z h203 b189 (lst 5 fp) := by rw [show lst 5 fp = [47, x102, 46, x104, x105] by rw [hfp]; rfl]; exact ⟨t193, kb193, f206, f207, f208, f209, (by simp only [List.mem_cons, List.not_mem_nil, or_false]; rintro c (rfl | rfl | rfl | rfl | rfl) <;> first | assumption | decide), by simp⟩
        obtain ⟨T210, h210, v210, W210, Q210, st210⟩ := x_virtual B W203 (b := b186) [] (c_extn l Z a0 hw b186 b189 5 fp 2 cz sf h203 Scs hcz Ssf rsf F203 S205 (by omega) (by omega) ep2 (by intro j h1 h2; obtain rfl | rfl : j = 3 ∨ j = 4 := (by omega); (· exact (by rw [ep3]; exact g104.n46)); (· exact (by rw [ep4]; exact g105.n46)))) E203 at_302 (tw hw 176 rfl) (tw hw 177 rfl) (tw hw 179 rfl) (tw hw 178 rfl) (tw hw 44 rfl) (tw hw 180 rfl) (by decide) (lenOf pd___Ljava_lang_String_ rfl) #[.val (.int p1), .val (.int p2), .val (.int p3), .val (.int p4), .val (.long p5), .second, .val (.int 0), .val (.int 1), .val (.int 2), .val (.int x101), .val (.int x102), .val (.int x103), .val (.int x104), .val (.int x105), .val (.int x106), .val (.int 5), .val (.ref b159), .val (.int 5), .val (.ref b172), .val (.ref b178), .unset] [] rfl 0 rfl (by decide) (by decide) (by decide) (by decide)
        obtain ⟨b210, rfl, K210, S210⟩ := Q210
        have s211 := K210.1
        refine st210 _ ?_
        have S210 : StrIs Z h210 b210 (lst 2 fun i => fp (3 + i)) := S210
        refine g_astore B W210 at_305 rfl (l' := #[.val (.int p1), .val (.int p2), .val (.int p3), .val (.int p4), .val (.long p5), .second, .val (.int 0), .val (.int 1), .val (.int 2), .val (.int x101), .val (.int x102), .val (.int x103), .val (.int x104), .val (.int x105), .val (.int x106), .val (.int 5), .val (.ref b159), .val (.int 5), .val (.ref b172), .val (.ref b178), .val (.ref b210)]) rfl ?_
        refine g_aload B W210 at_307 rfl rfl ?_
        refine g_aload B W210 at_309 rfl rfl ?_
        have f213 := (S185.keep ((((((Keep.refl h182 []).trans K186 all0).trans K189 all0).trans K193 (allS (Or.inr (by omega)) all0)).trans K203 (allS (Or.inr (by omega)) all0)).trans K210 all0))
        obtain ⟨T212, h212, v212, L212, W212, Q212, st212⟩ := x_virtualB B W210 (b := b210) (V := 0) (rc := 0) (rs := 0) (QL := fun v h' L => v = some (.int (bi (decide ((lst 2 fun i => fp (3 + i)) = [x104, x105])))) ∧ L = [] ∧ h210 = h') [(.ref b178)] (fun s' hZ' => own_eqB hw S210 f213 (Scs.ext W210.old.2) hcz (tw hw 14 rfl) (by decide) (by decide) hZ') S210.exa at_311 (tw hw 181 rfl) (tw hw 182 rfl) (tw hw 184 rfl) (tw hw 183 rfl) (by decide) (lenOf pd__Ljava_lang_Object__Z rfl) #[.val (.int p1), .val (.int p2), .val (.int p3), .val (.int p4), .val (.long p5), .second, .val (.int 0), .val (.int 1), .val (.int 2), .val (.int x101), .val (.int x102), .val (.int x103), .val (.int x104), .val (.int x105), .val (.int x106), .val (.int 5), .val (.ref b159), .val (.int 5), .val (.ref b172), .val (.ref b178), .val (.ref b210)] [] rfl rfl (by decide) (by decide) [] all0 (fun _ _ _ q => ⟨q.2.1 ▸ Fr.nil _, q.2.2 ▸ Keep.refl _ _⟩)
        obtain ⟨rfl, -, rfl⟩ := Q212
        refine st212 _ ?_
        exact r_b B W212 at_314 (by decide) (by decide) (by show some (Value.int (bi (decide ((lst 2 fun i => fp (3 + i)) = [x104, x105])))) = some (.int 1); rw [show (decide ((lst 2 fun i => fp (3 + i)) = [x104, x105])) = true from decide_eq_true (by show ([fp 3, fp 4] : List Int32) = _; rw [ep3, ep4])]; rfl)
      · skip
        show Go p.tables e below _ T106 (mkF m 93 #[.val (.int p1), .val (.int p2), .val (.int p3), .val (.int p4), .val (.long p5), .second, .val (.int 0), .val (.int 1), .val (.int 3), .val (.int x101), .val (.int x102), .val (.int x103), .val (.int x104), .val (.int x105), .val (.int x106), .unset, .unset, .unset, .unset, .unset, .unset] [])
        refine g_iconst B W106 at_93 (v := 1) (by decide) ?_
        refine g_iload B W106 at_94 rfl ?_
        refine g_if_y B W106 at_96 (XT.i0_eq_t (by decide)) (pc' := 103) (by decide) ?_
        show Go p.tables e below _ T106 (mkF m 103 #[.val (.int p1), .val (.int p2), .val (.int p3), .val (.int p4), .val (.long p5), .second, .val (.int 0), .val (.int 1), .val (.int 3), .val (.int x101), .val (.int x102), .val (.int x103), .val (.int x104), .val (.int x105), .val (.int x106), .unset, .unset, .unset, .unset, .unset, .unset] [(.int 1)])
        refine g_iconst B W106 at_103 (v := 0) (by decide) ?_
        refine g_iadd B W106 at_104  ?_
        rw [show (1 + 0 : Int32) = 1 by decide]
        refine g_iload B W106 at_105 rfl ?_
        refine g_iadd B W106 at_107  ?_
        rw [show (1 + 1 : Int32) = 2 by decide]
        refine g_iconst B W106 at_108 (v := 1) (by decide) ?_
        refine g_iadd B W106 at_109  ?_
        rw [show (2 + 1 : Int32) = 3 by decide]
        refine g_iload B W106 at_110 rfl ?_
        refine g_iadd B W106 at_112  ?_
        rw [show (3 + 3 : Int32) = 6 by decide]
        refine g_istore B W106 at_113  (l' := #[.val (.int p1), .val (.int p2), .val (.int p3), .val (.int p4), .val (.long p5), .second, .val (.int 0), .val (.int 1), .val (.int 3), .val (.int x101), .val (.int x102), .val (.int x103), .val (.int x104), .val (.int x105), .val (.int x106), .val (.int 6), .unset, .unset, .unset, .unset, .unset]) rfl ?_
        refine g_iload B W106 at_115 rfl ?_
        have zs214 := W106.size
        obtain ⟨T215, h215, v215, W215, Q215, st215⟩ := x_static B W106 [(.int 6)] (c_sz6 l Z a0 hw h0) at_117 (tw hw 9 rfl) (tw hw 10 rfl) (tw hw 2 rfl) (tw hw 11 rfl) (by decide) (lenOf pd__I__C rfl) #[.val (.int p1), .val (.int p2), .val (.int p3), .val (.int p4), .val (.long p5), .second, .val (.int 0), .val (.int 1), .val (.int 3), .val (.int x101), .val (.int x102), .val (.int x103), .val (.int x104), .val (.int x105), .val (.int x106), .val (.int 6), .unset, .unset, .unset, .unset, .unset] [] rfl 0 rfl (by decide) (by decide) (by decide) (by decide)
        obtain ⟨b215, kA215, rfl, g215, K215, A215⟩ := Q215
        have s216 := K215.1
        refine st215 _ ?_
        have l215 := nlt A215.lt
        have z215 := W215.size
        refine g_astore B W215 at_120 rfl (l' := #[.val (.int p1), .val (.int p2), .val (.int p3), .val (.int p4), .val (.long p5), .second, .val (.int 0), .val (.int 1), .val (.int 3), .val (.int x101), .val (.int x102), .val (.int x103), .val (.int x104), .val (.int x105), .val (.int x106), .val (.int 6), .val (.ref b215), .unset, .unset, .unset, .unset]) rfl ?_
        refine g_iconst B W215 at_122 (v := 0) (by decide) ?_
        refine g_istore B W215 at_123  (l' := #[.val (.int p1), .val (.int p2), .val (.int p3), .val (.int p4), .val (.long p5), .second, .val (.int 0), .val (.int 1), .val (.int 3), .val (.int x101), .val (.int x102), .val (.int x103), .val (.int x104), .val (.int x105), .val (.int x106), .val (.int 6), .val (.ref b215), .val (.int 0), .unset, .unset, .unset]) rfl ?_
        refine g_aload B W215 at_125 rfl rfl ?_
        refine g_iload B W215 at_127 rfl ?_
        refine g_bipush B W215 at_129 (v := 47) (by decide) ?_
        obtain ⟨T217, h217, W217, K217, A217, st217⟩ := x_castore B W215 (j := 0) (x := 47) at_131 A215 (by decide) (Nat.lt_of_lt_of_eq (show Int32.toNatClampNeg 0 < 6 by decide) rfl) (by omega) #[.val (.int p1), .val (.int p2), .val (.int p3), .val (.int p4), .val (.long p5), .second, .val (.int 0), .val (.int 1), .val (.int 3), .val (.int x101), .val (.int x102), .val (.int x103), .val (.int x104), .val (.int x105), .val (.int x106), .val (.int 6), .val (.ref b215), .val (.int 0), .unset, .unset, .unset] []
        refine st217 _ ?_
        rw [show nar .char 47 = 47 by decide] at A217
        have A217 : Arv Z h217 b215 kA215 .char 6 [(.int 47), (.int 0), (.int 0), (.int 0), (.int 0), (.int 0)] (.int 0) := A217
        have s218 := K217.1
        refine g_iinc B W217 at_132 (v := 1) (l' := #[.val (.int p1), .val (.int p2), .val (.int p3), .val (.int p4), .val (.long p5), .second, .val (.int 0), .val (.int 1), .val (.int 3), .val (.int x101), .val (.int x102), .val (.int x103), .val (.int x104), .val (.int x105), .val (.int x106), .val (.int 6), .val (.ref b215), .val (.int (0 + 1)), .unset, .unset, .unset]) (by decide) rfl rfl ?_
        rw [show (0 + 1 : Int32) = 1 by decide]
        refine g_iload B W217 at_135 rfl ?_
        refine g_if_y B W217 at_137 (XT.i0_eq_t (by decide)) (pc' := 160) (by decide) ?_
        show Go p.tables e below _ T217 (mkF m 160 #[.val (.int p1), .val (.int p2), .val (.int p3), .val (.int p4), .val (.long p5), .second, .val (.int 0), .val (.int 1), .val (.int 3), .val (.int x101), .val (.int x102), .val (.int x103), .val (.int x104), .val (.int x105), .val (.int x106), .val (.int 6), .val (.ref b215), .val (.int 1), .unset, .unset, .unset] [])
        refine g_aload B W217 at_160 rfl rfl ?_
        refine g_iload B W217 at_162 rfl ?_
        refine g_iload B W217 at_164 rfl ?_
        obtain ⟨T219, h219, W219, K219, A219, st219⟩ := x_castore B W217 (j := 1) (x := x102) at_166 A217 (by decide) (Nat.lt_of_lt_of_eq (show Int32.toNatClampNeg 1 < 6 by decide) rfl) (by omega) #[.val (.int p1), .val (.int p2), .val (.int p3), .val (.int p4), .val (.long p5), .second, .val (.int 0), .val (.int 1), .val (.int 3), .val (.int x101), .val (.int x102), .val (.int x103), .val (.int x104), .val (.int x105), .val (.int x106), .val (.int 6), .val (.ref b215), .val (.int 1), .unset, .unset, .unset] []
        refine st219 _ ?_
        rw [nx102] at A219
        have A219 : Arv Z h219 b215 kA215 .char 6 [(.int 47), (.int x102), (.int 0), (.int 0), (.int 0), (.int 0)] (.int 0) := A219
        have s220 := K219.1
        refine g_iinc B W219 at_167 (v := 1) (l' := #[.val (.int p1), .val (.int p2), .val (.int p3), .val (.int p4), .val (.long p5), .second, .val (.int 0), .val (.int 1), .val (.int 3), .val (.int x101), .val (.int x102), .val (.int x103), .val (.int x104), .val (.int x105), .val (.int x106), .val (.int 6), .val (.ref b215), .val (.int (1 + 1)), .unset, .unset, .unset]) (by decide) rfl rfl ?_
        rw [show (1 + 1 : Int32) = 2 by decide]
        refine g_iload B W219 at_170 rfl ?_
        refine g_iconst B W219 at_172 (v := 2) (by decide) ?_
        refine g_icmp_y B W219 at_173 (XT.ii_ne_t (by decide)) (pc' := 186) (by decide) ?_
        show Go p.tables e below _ T219 (mkF m 186 #[.val (.int p1), .val (.int p2), .val (.int p3), .val (.int p4), .val (.long p5), .second, .val (.int 0), .val (.int 1), .val (.int 3), .val (.int x101), .val (.int x102), .val (.int x103), .val (.int x104), .val (.int x105), .val (.int x106), .val (.int 6), .val (.ref b215), .val (.int 2), .unset, .unset, .unset] [])
        refine g_aload B W219 at_186 rfl rfl ?_
        refine g_iload B W219 at_188 rfl ?_
        refine g_bipush B W219 at_190 (v := 46) (by decide) ?_
        obtain ⟨T221, h221, W221, K221, A221, st221⟩ := x_castore B W219 (j := 2) (x := 46) at_192 A219 (by decide) (Nat.lt_of_lt_of_eq (show Int32.toNatClampNeg 2 < 6 by decide) rfl) (by omega) #[.val (.int p1), .val (.int p2), .val (.int p3), .val (.int p4), .val (.long p5), .second, .val (.int 0), .val (.int 1), .val (.int 3), .val (.int x101), .val (.int x102), .val (.int x103), .val (.int x104), .val (.int x105), .val (.int x106), .val (.int 6), .val (.ref b215), .val (.int 2), .unset, .unset, .unset] []
        refine st221 _ ?_
        rw [show nar .char 46 = 46 by decide] at A221
        have A221 : Arv Z h221 b215 kA215 .char 6 [(.int 47), (.int x102), (.int 46), (.int 0), (.int 0), (.int 0)] (.int 0) := A221
        have s222 := K221.1
        refine g_iinc B W221 at_193 (v := 1) (l' := #[.val (.int p1), .val (.int p2), .val (.int p3), .val (.int p4), .val (.long p5), .second, .val (.int 0), .val (.int 1), .val (.int 3), .val (.int x101), .val (.int x102), .val (.int x103), .val (.int x104), .val (.int x105), .val (.int x106), .val (.int 6), .val (.ref b215), .val (.int (2 + 1)), .unset, .unset, .unset]) (by decide) rfl rfl ?_
        rw [show (2 + 1 : Int32) = 3 by decide]
        refine g_aload B W221 at_196 rfl rfl ?_
        refine g_iload B W221 at_198 rfl ?_
        refine g_iload B W221 at_200 rfl ?_
        obtain ⟨T223, h223, W223, K223, A223, st223⟩ := x_castore B W221 (j := 3) (x := x104) at_202 A221 (by decide) (Nat.lt_of_lt_of_eq (show Int32.toNatClampNeg 3 < 6 by decide) rfl) (by omega) #[.val (.int p1), .val (.int p2), .val (.int p3), .val (.int p4), .val (.long p5), .second, .val (.int 0), .val (.int 1), .val (.int 3), .val (.int x101), .val (.int x102), .val (.int x103), .val (.int x104), .val (.int x105), .val (.int x106), .val (.int 6), .val (.ref b215), .val (.int 3), .unset, .unset, .unset] []
        refine st223 _ ?_
        rw [nx104] at A223
        have A223 : Arv Z h223 b215 kA215 .char 6 [(.int 47), (.int x102), (.int 46), (.int x104), (.int 0), (.int 0)] (.int 0) := A223
        have s224 := K223.1
        refine g_iinc B W223 at_203 (v := 1) (l' := #[.val (.int p1), .val (.int p2), .val (.int p3), .val (.int p4), .val (.long p5), .second, .val (.int 0), .val (.int 1), .val (.int 3), .val (.int x101), .val (.int x102), .val (.int x103), .val (.int x104), .val (.int x105), .val (.int x106), .val (.int 6), .val (.ref b215), .val (.int (3 + 1)), .unset, .unset, .unset]) (by decide) rfl rfl ?_
        rw [show (3 + 1 : Int32) = 4 by decide]
        refine g_iload B W223 at_206 rfl ?_
        refine g_iconst B W223 at_208 (v := 2) (by decide) ?_
        refine g_icmp_n B W223 at_209 (XT.ii_lt_f (by decide)) ?_
        show Go p.tables e below _ T223 (mkF m 212 #[.val (.int p1), .val (.int p2), .val (.int p3), .val (.int p4), .val (.long p5), .second, .val (.int 0), .val (.int 1), .val (.int 3), .val (.int x101), .val (.int x102), .val (.int x103), .val (.int x104), .val (.int x105), .val (.int x106), .val (.int 6), .val (.ref b215), .val (.int 4), .unset, .unset, .unset] [])
        refine g_aload B W223 at_212 rfl rfl ?_
        refine g_iload B W223 at_214 rfl ?_
        refine g_iload B W223 at_216 rfl ?_
        obtain ⟨T225, h225, W225, K225, A225, st225⟩ := x_castore B W223 (j := 4) (x := x105) at_218 A223 (by decide) (Nat.lt_of_lt_of_eq (show Int32.toNatClampNeg 4 < 6 by decide) rfl) (by omega) #[.val (.int p1), .val (.int p2), .val (.int p3), .val (.int p4), .val (.long p5), .second, .val (.int 0), .val (.int 1), .val (.int 3), .val (.int x101), .val (.int x102), .val (.int x103), .val (.int x104), .val (.int x105), .val (.int x106), .val (.int 6), .val (.ref b215), .val (.int 4), .unset, .unset, .unset] []
        refine st225 _ ?_
        rw [nx105] at A225
        have A225 : Arv Z h225 b215 kA215 .char 6 [(.int 47), (.int x102), (.int 46), (.int x104), (.int x105), (.int 0)] (.int 0) := A225
        have s226 := K225.1
        refine g_iinc B W225 at_219 (v := 1) (l' := #[.val (.int p1), .val (.int p2), .val (.int p3), .val (.int p4), .val (.long p5), .second, .val (.int 0), .val (.int 1), .val (.int 3), .val (.int x101), .val (.int x102), .val (.int x103), .val (.int x104), .val (.int x105), .val (.int x106), .val (.int 6), .val (.ref b215), .val (.int (4 + 1)), .unset, .unset, .unset]) (by decide) rfl rfl ?_
        rw [show (4 + 1 : Int32) = 5 by decide]
        refine g_iload B W225 at_222 rfl ?_
        refine g_iconst B W225 at_224 (v := 3) (by decide) ?_
        refine g_icmp_n B W225 at_225 (XT.ii_ne_f (by decide)) ?_
        show Go p.tables e below _ T225 (mkF m 228 #[.val (.int p1), .val (.int p2), .val (.int p3), .val (.int p4), .val (.long p5), .second, .val (.int 0), .val (.int 1), .val (.int 3), .val (.int x101), .val (.int x102), .val (.int x103), .val (.int x104), .val (.int x105), .val (.int x106), .val (.int 6), .val (.ref b215), .val (.int 5), .unset, .unset, .unset] [])
        refine g_aload B W225 at_228 rfl rfl ?_
        refine g_iload B W225 at_230 rfl ?_
        refine g_iload B W225 at_232 rfl ?_
        obtain ⟨T227, h227, W227, K227, A227, st227⟩ := x_castore B W225 (j := 5) (x := x106) at_234 A225 (by decide) (Nat.lt_of_lt_of_eq (show Int32.toNatClampNeg 5 < 6 by decide) rfl) (by omega) #[.val (.int p1), .val (.int p2), .val (.int p3), .val (.int p4), .val (.long p5), .second, .val (.int 0), .val (.int 1), .val (.int 3), .val (.int x101), .val (.int x102), .val (.int x103), .val (.int x104), .val (.int x105), .val (.int x106), .val (.int 6), .val (.ref b215), .val (.int 5), .unset, .unset, .unset] []
        refine st227 _ ?_
        rw [nx106] at A227
        have A227 : Arv Z h227 b215 kA215 .char 6 [(.int 47), (.int x102), (.int 46), (.int x104), (.int x105), (.int x106)] (.int 0) := A227
        have s228 := K227.1
        refine g_iinc B W227 at_235 (v := 1) (l' := #[.val (.int p1), .val (.int p2), .val (.int p3), .val (.int p4), .val (.long p5), .second, .val (.int 0), .val (.int 1), .val (.int 3), .val (.int x101), .val (.int x102), .val (.int x103), .val (.int x104), .val (.int x105), .val (.int x106), .val (.int 6), .val (.ref b215), .val (.int (5 + 1)), .unset, .unset, .unset]) (by decide) rfl rfl ?_
        rw [show (5 + 1 : Int32) = 6 by decide]
        refine g_iload B W227 at_238 rfl ?_
        have zs229 := W227.size
        obtain ⟨T230, h230, v230, W230, Q230, st230⟩ := x_static B W227 [(.int 3)] (c_sz3 l Z a0 hw h227) at_240 (tw hw 9 rfl) (tw hw 10 rfl) (tw hw 2 rfl) (tw hw 11 rfl) (by decide) (lenOf pd__I__C rfl) #[.val (.int p1), .val (.int p2), .val (.int p3), .val (.int p4), .val (.long p5), .second, .val (.int 0), .val (.int 1), .val (.int 3), .val (.int x101), .val (.int x102), .val (.int x103), .val (.int x104), .val (.int x105), .val (.int x106), .val (.int 6), .val (.ref b215), .val (.int 6), .unset, .unset, .unset] [] rfl 0 rfl (by decide) (by decide) (by decide) (by decide)
        obtain ⟨b230, kA230, rfl, g230, K230, A230⟩ := Q230
        have s231 := K230.1
        refine st230 _ ?_
        have l230 := nlt A230.lt
        have z230 := W230.size
        refine g_astore B W230 at_243 rfl (l' := #[.val (.int p1), .val (.int p2), .val (.int p3), .val (.int p4), .val (.long p5), .second, .val (.int 0), .val (.int 1), .val (.int 3), .val (.int x101), .val (.int x102), .val (.int x103), .val (.int x104), .val (.int x105), .val (.int x106), .val (.int 6), .val (.ref b215), .val (.int 6), .val (.ref b230), .unset, .unset]) rfl ?_
        refine g_aload B W230 at_245 rfl rfl ?_
        refine g_iconst B W230 at_247 (v := 0) (by decide) ?_
        refine g_iload B W230 at_248 rfl ?_
        obtain ⟨T232, h232, W232, K232, A232, st232⟩ := x_castore B W230 (j := 0) (x := x104) at_250 A230 (by decide) (Nat.lt_of_lt_of_eq (show Int32.toNatClampNeg 0 < 3 by decide) rfl) (by omega) #[.val (.int p1), .val (.int p2), .val (.int p3), .val (.int p4), .val (.long p5), .second, .val (.int 0), .val (.int 1), .val (.int 3), .val (.int x101), .val (.int x102), .val (.int x103), .val (.int x104), .val (.int x105), .val (.int x106), .val (.int 6), .val (.ref b215), .val (.int 6), .val (.ref b230), .unset, .unset] []
        refine st232 _ ?_
        rw [nx104] at A232
        have A232 : Arv Z h232 b230 kA230 .char 3 [(.int x104), (.int 0), (.int 0)] (.int 0) := A232
        have s233 := K232.1
        refine g_iload B W232 at_251 rfl ?_
        refine g_iconst B W232 at_253 (v := 2) (by decide) ?_
        refine g_icmp_n B W232 at_254 (XT.ii_lt_f (by decide)) ?_
        show Go p.tables e below _ T232 (mkF m 257 #[.val (.int p1), .val (.int p2), .val (.int p3), .val (.int p4), .val (.long p5), .second, .val (.int 0), .val (.int 1), .val (.int 3), .val (.int x101), .val (.int x102), .val (.int x103), .val (.int x104), .val (.int x105), .val (.int x106), .val (.int 6), .val (.ref b215), .val (.int 6), .val (.ref b230), .unset, .unset] [])
        refine g_aload B W232 at_257 rfl rfl ?_
        refine g_iconst B W232 at_259 (v := 1) (by decide) ?_
        refine g_iload B W232 at_260 rfl ?_
        obtain ⟨T234, h234, W234, K234, A234, st234⟩ := x_castore B W232 (j := 1) (x := x105) at_262 A232 (by decide) (Nat.lt_of_lt_of_eq (show Int32.toNatClampNeg 1 < 3 by decide) rfl) (by omega) #[.val (.int p1), .val (.int p2), .val (.int p3), .val (.int p4), .val (.long p5), .second, .val (.int 0), .val (.int 1), .val (.int 3), .val (.int x101), .val (.int x102), .val (.int x103), .val (.int x104), .val (.int x105), .val (.int x106), .val (.int 6), .val (.ref b215), .val (.int 6), .val (.ref b230), .unset, .unset] []
        refine st234 _ ?_
        rw [nx105] at A234
        have A234 : Arv Z h234 b230 kA230 .char 3 [(.int x104), (.int x105), (.int 0)] (.int 0) := A234
        have s235 := K234.1
        refine g_iload B W234 at_263 rfl ?_
        refine g_iconst B W234 at_265 (v := 3) (by decide) ?_
        refine g_icmp_n B W234 at_266 (XT.ii_ne_f (by decide)) ?_
        show Go p.tables e below _ T234 (mkF m 269 #[.val (.int p1), .val (.int p2), .val (.int p3), .val (.int p4), .val (.long p5), .second, .val (.int 0), .val (.int 1), .val (.int 3), .val (.int x101), .val (.int x102), .val (.int x103), .val (.int x104), .val (.int x105), .val (.int x106), .val (.int 6), .val (.ref b215), .val (.int 6), .val (.ref b230), .unset, .unset] [])
        refine g_aload B W234 at_269 rfl rfl ?_
        refine g_iconst B W234 at_271 (v := 2) (by decide) ?_
        refine g_iload B W234 at_272 rfl ?_
        obtain ⟨T236, h236, W236, K236, A236, st236⟩ := x_castore B W234 (j := 2) (x := x106) at_274 A234 (by decide) (Nat.lt_of_lt_of_eq (show Int32.toNatClampNeg 2 < 3 by decide) rfl) (by omega) #[.val (.int p1), .val (.int p2), .val (.int p3), .val (.int p4), .val (.long p5), .second, .val (.int 0), .val (.int 1), .val (.int 3), .val (.int x101), .val (.int x102), .val (.int x103), .val (.int x104), .val (.int x105), .val (.int x106), .val (.int 6), .val (.ref b215), .val (.int 6), .val (.ref b230), .unset, .unset] []
        refine st236 _ ?_
        rw [nx106] at A236
        have A236 : Arv Z h236 b230 kA230 .char 3 [(.int x104), (.int x105), (.int x106)] (.int 0) := A236
        have s237 := K236.1
        obtain ⟨T238, h238, b238, gb238, W238, K238, E238, D238, st238⟩ := x_new B W236 at_275 (tw hw 13 rfl) (tw hw 14 rfl) (tw hw 15 rfl) (by decide) (by decide) #[.val (.int p1), .val (.int p2), .val (.int p3), .val (.int p4), .val (.long p5), .second, .val (.int 0), .val (.int 1), .val (.int 3), .val (.int x101), .val (.int x102), .val (.int x103), .val (.int x104), .val (.int x105), .val (.int x106), .val (.int 6), .val (.ref b215), .val (.int 6), .val (.ref b230), .unset, .unset] []
        have l238 := nlt E238.lt
        have z238 := W236.size
        refine st238 _ ?_
        have s239 := K238.1
        have f240 : Fld Z h238 b238 "java/lang/String" "coder" "B" (.int 0) := D238 (Or.inr (tw hw 39 rfl)) (ty := .byte) (by decide)
        have f241 : Fld Z h238 b238 "java/lang/String" "value" "[B" .null := D238 (Or.inr (tw hw 41 rfl)) (ty := (.array .byte)) (by decide)
        refine g_dup B W238 at_278 rfl ?_
        refine g_aload B W238 at_279 rfl rfl ?_
        have f243 := (A236.keep K238 nin0)
        obtain ⟨T242, h242, v242, L242, W242, Q242, st242⟩ := x_specialB B W238 (b := b238) (rc := 1) (rs := 3) [(.ref b230)] (fun s' hZ' => StrChars.Road.backV (W := 1) hZ' (fun d hd => hw d (own_words d hd)) (kI := 4) (tw hw 14 rfl) (cs := ([x104, x105, x106] : List Int32)) (bs := ([x104, x105, x106] : List Int32).map (fun c => c.toInt8.toInt32)) (n := 3) (n0 := Z.heap.size) (by omega) W238.size E238 f241 f240 f243 (Scs.ext W238.old.2) hcz rfl (by decide) (by decide) (by decide) (by simp only [List.mem_cons, List.not_mem_nil, or_false]; rintro c (rfl | rfl | rfl) <;> first | assumption | decide) rfl (by decide) (by decide)) at_281 rfl (tw hw 16 rfl) (tw hw 17 rfl) (tw hw 18 rfl) (by decide) (lenOf pd___C_V rfl) #[.val (.int p1), .val (.int p2), .val (.int p3), .val (.int p4), .val (.long p5), .second, .val (.int 0), .val (.int 1), .val (.int 3), .val (.int x101), .val (.int x102), .val (.int x103), .val (.int x104), .val (.int x105), .val (.int x106), .val (.int 6), .val (.ref b215), .val (.int 6), .val (.ref b230), .unset, .unset] [(.ref b238)] rfl rfl (by decide) (by decide) [b238] (allS (by omega) all0) (fun _ _ _ q => ⟨q.2.1, q.2.2.1⟩)
        obtain ⟨rfl, -, K242, E242, Fc242, t242, kb242, gt242, gu242, -, Fv242, A242⟩ := Q242
        refine st242 _ ?_
        have s244 := K242.1
        have lt242 := nlt A242.lt
        have S245 : StrIs Z h242 b238 [x104, x105, x106] := ⟨t242, kb242, E242, Fc242, Fv242, A242, (by simp only [List.mem_cons, List.not_mem_nil, or_false]; rintro c (rfl | rfl | rfl) <;> first | assumption | decide), by simp⟩
        refine g_astore B W242 at_284 rfl (l' := #[.val (.int p1), .val (.int p2), .val (.int p3), .val (.int p4), .val (.long p5), .second, .val (.int 0), .val (.int 1), .val (.int 3), .val (.int x101), .val (.int x102), .val (.int x103), .val (.int x104), .val (.int x105), .val (.int x106), .val (.int 6), .val (.ref b215), .val (.int 6), .val (.ref b230), .val (.ref b238), .unset]) rfl ?_
        obtain ⟨T246, h246, b246, gb246, W246, K246, E246, D246, st246⟩ := x_new B W242 at_286 (tw hw 42 rfl) (tw hw 43 rfl) (tw hw 44 rfl) (by decide) (by decide) #[.val (.int p1), .val (.int p2), .val (.int p3), .val (.int p4), .val (.long p5), .second, .val (.int 0), .val (.int 1), .val (.int 3), .val (.int x101), .val (.int x102), .val (.int x103), .val (.int x104), .val (.int x105), .val (.int x106), .val (.int 6), .val (.ref b215), .val (.int 6), .val (.ref b230), .val (.ref b238), .unset] []
        have l246 := nlt E246.lt
        have z246 := W242.size
        refine st246 _ ?_
        have s247 := K246.1
        have f248 : Fld Z h246 b246 "com/example/presswright/presswright/publishing/FilePath" "path" "Ljava/lang/String;" .null := D246 (Or.inr (tw hw 175 rfl)) (ty := (.object "java/lang/String")) (by decide)
        refine g_dup B W246 at_289 rfl ?_
        obtain ⟨T249, h249, b249, gb249, W249, K249, E249, D249, st249⟩ := x_new B W246 at_290 (tw hw 13 rfl) (tw hw 14 rfl) (tw hw 15 rfl) (by decide) (by decide) #[.val (.int p1), .val (.int p2), .val (.int p3), .val (.int p4), .val (.long p5), .second, .val (.int 0), .val (.int 1), .val (.int 3), .val (.int x101), .val (.int x102), .val (.int x103), .val (.int x104), .val (.int x105), .val (.int x106), .val (.int 6), .val (.ref b215), .val (.int 6), .val (.ref b230), .val (.ref b238), .unset] [(.ref b246), (.ref b246)]
        have l249 := nlt E249.lt
        have z249 := W246.size
        refine st249 _ ?_
        have s250 := K249.1
        have f251 : Fld Z h249 b249 "java/lang/String" "coder" "B" (.int 0) := D249 (Or.inr (tw hw 39 rfl)) (ty := .byte) (by decide)
        have f252 : Fld Z h249 b249 "java/lang/String" "value" "[B" .null := D249 (Or.inr (tw hw 41 rfl)) (ty := (.array .byte)) (by decide)
        refine g_dup B W249 at_293 rfl ?_
        refine g_aload B W249 at_294 rfl rfl ?_
        have f254 := (A227.keep K230 nin0)
        have f255 := (f254.keep K232 (ninS (nne (by have q := nlt f254.lt; omega)) nin0))
        have f256 := (f255.keep K234 (ninS (nne (by have q := nlt f255.lt; omega)) nin0))
        have f257 := ((f256.keep K236 (ninS (nne (by have q := nlt f256.lt; omega)) nin0)).keep K238 nin0)
        have f258 := (((f257.keep K242 (ninS (nne (by have q := nlt f257.lt; omega)) nin0)).keep K246 nin0).keep K249 nin0)
        obtain ⟨T253, h253, v253, L253, W253, Q253, st253⟩ := x_specialB B W249 (b := b249) (rc := 1) (rs := 6) [(.ref b215)] (fun s' hZ' => StrChars.Road.backV (W := 3) hZ' (fun d hd => hw d (own_words d hd)) (kI := 4) (tw hw 14 rfl) (cs := ([47, x102, 46, x104, x105, x106] : List Int32)) (bs := ([47, x102, 46, x104, x105, x106] : List Int32).map (fun c => c.toInt8.toInt32)) (n := 6) (n0 := Z.heap.size) (by omega) W249.size E249 f252 f251 f258 (Scs.ext W249.old.2) hcz rfl (by decide) (by decide) (by decide) (by simp only [List.mem_cons, List.not_mem_nil, or_false]; rintro c (rfl | rfl | rfl | rfl | rfl | rfl) <;> first | assumption | decide) rfl (by decide) (by decide)) at_296 rfl (tw hw 16 rfl) (tw hw 17 rfl) (tw hw 18 rfl) (by decide) (lenOf pd___C_V rfl) #[.val (.int p1), .val (.int p2), .val (.int p3), .val (.int p4), .val (.long p5), .second, .val (.int 0), .val (.int 1), .val (.int 3), .val (.int x101), .val (.int x102), .val (.int x103), .val (.int x104), .val (.int x105), .val (.int x106), .val (.int 6), .val (.ref b215), .val (.int 6), .val (.ref b230), .val (.ref b238), .unset] [(.ref b249), (.ref b246), (.ref b246)] rfl rfl (by decide) (by decide) [b249] (allS (by omega) all0) (fun _ _ _ q => ⟨q.2.1, q.2.2.1⟩)
        obtain ⟨rfl, -, K253, E253, Fc253, t253, kb253, gt253, gu253, -, Fv253, A253⟩ := Q253
        refine st253 _ ?_
        have s259 := K253.1
        have lt253 := nlt A253.lt
        have S260 : StrIs Z h253 b249 [47, x102, 46, x104, x105, x106] := ⟨t253, kb253, E253, Fc253, Fv253, A253, (by simp only [List.mem_cons, List.not_mem_nil, or_false]; rintro c (rfl | rfl | rfl | rfl | rfl | rfl) <;> first | assumption | decide), by simp⟩
        obtain ⟨fp, hfp⟩ : ∃ f : Nat → Int32, f = fun i => ([47, x102, 46, x104, x105, x106] : List Int32).getD i 0 := ⟨_, rfl⟩
        have ep0 : fp 0 = 47 := by rw [hfp]; rfl
        have ep1 : fp 1 = x102 := by rw [hfp]; rfl
        have ep2 : fp 2 = 46 := by rw [hfp]; rfl
        have ep3 : fp 3 = x104 := by rw [hfp]; rfl
        have ep4 : fp 4 = x105 := by rw [hfp]; rfl
        have ep5 : fp 5 = x106 := by rw [hfp]; rfl
        have Sfp : StrIs Z h253 b249 (lst 6 fp) := by rw [show lst 6 fp = [47, x102, 46, x104, x105, x106] by rw [hfp]; rfl]; exact S260
        have f261 := ((E246.keep K249).keep K253)
        have f262 := (f248.keep K249 nin0)
        have f263 := (f262.keep K253 (ninS (nne (by have q := nlt f262.lt; omega)) nin0))
        obtain ⟨T264, h264, v264, W264, Q264, st264⟩ := x_special B W253 (b := b246) [(.ref b249)] (c_fp0 l Z a0 hw b246 b249 6 fp 2 cz sf h253 Scs hcz Ssf rsf f261 f263 (by omega) Sfp (by omega) ep0 (by intro j h1 h2; obtain rfl | rfl | rfl | rfl | rfl : j = 1 ∨ j = 2 ∨ j = 3 ∨ j = 4 ∨ j = 5 := (by omega); (· exact (by rw [ep1]; exact g102.n47)); (· exact (by rw [ep2]; exact (by decide))); (· exact (by rw [ep3]; exact g104.n47)); (· exact (by rw [ep4]; exact g105.n47)); (· exact (by rw [ep5]; exact g106.n47))) (by omega) (by omega) ep2 (by intro j h1 h2 h3; obtain rfl | rfl | rfl | rfl : j = 1 ∨ j = 3 ∨ j = 4 ∨ j = 5 := (by omega); (· exact (by rw [ep1]; exact g102.ok (by omega))); (· exact (by rw [ep3]; exact Or.inl q104)); (· exact (by rw [ep4]; exact Or.inl q105)); (· exact (by rw [ep5]; exact Or.inl q106)))) at_299 rfl (tw hw 45 rfl) (tw hw 46 rfl) (tw hw 44 rfl) (tw hw 47 rfl) (by decide) (lenOf pd__Ljava_lang_String__V rfl) #[.val (.int p1), .val (.int p2), .val (.int p3), .val (.int p4), .val (.long p5), .second, .val (.int 0), .val (.int 1), .val (.int 3), .val (.int x101), .val (.int x102), .val (.int x103), .val (.int x104), .val (.int x105), .val (.int x106), .val (.int 6), .val (.ref b215), .val (.int 6), .val (.ref b230), .val (.ref b238), .unset] [(.ref b246)] rfl 1 rfl (by decide) (by decide) (by decide) (by decide)
        obtain ⟨rfl, K264, E264, F264⟩ := Q264
        have s265 := K264.1
        refine st264 _ ?_
        have f267 := (E253.keep K264)
        have f268 := (Fc253.keep K264 (ninS (nne (by have q := nlt Fc253.lt; omega)) nin0))
        have f269 := (Fv253.keep K264 (ninS (nne (by have q := nlt Fv253.lt; omega)) nin0))
        have f270 := (A253.keep K264 (ninS (nne (by have q := nlt A253.lt; omega)) nin0))
        have S266 : StrIs Z h264 b249 (lst 6 fp) := by rw [show lst 6 fp = [47, x102, 46, x104, x105, x106] by rw [hfp]; rfl]; exact ⟨t253, kb253, f267, f268, f269, f270, (by simp only [List.mem_cons, List.not_mem_nil, or_false]; rintro c (rfl | rfl | rfl | rfl | rfl | rfl) <;> first | assumption | decide), by simp⟩
        obtain ⟨T271, h271, v271, W271, Q271, st271⟩ := x_virtual B W264 (b := b246) [] (c_extn l Z a0 hw b246 b249 6 fp 2 cz sf h264 Scs hcz Ssf rsf F264 S266 (by omega) (by omega) ep2 (by intro j h1 h2; obtain rfl | rfl | rfl : j = 3 ∨ j = 4 ∨ j = 5 := (by omega); (· exact (by rw [ep3]; exact g104.n46)); (· exact (by rw [ep4]; exact g105.n46)); (· exact (by rw [ep5]; exact g106.n46)))) E264 at_302 (tw hw 176 rfl) (tw hw 177 rfl) (tw hw 179 rfl) (tw hw 178 rfl) (tw hw 44 rfl) (tw hw 180 rfl) (by decide) (lenOf pd___Ljava_lang_String_ rfl) #[.val (.int p1), .val (.int p2), .val (.int p3), .val (.int p4), .val (.long p5), .second, .val (.int 0), .val (.int 1), .val (.int 3), .val (.int x101), .val (.int x102), .val (.int x103), .val (.int x104), .val (.int x105), .val (.int x106), .val (.int 6), .val (.ref b215), .val (.int 6), .val (.ref b230), .val (.ref b238), .unset] [] rfl 0 rfl (by decide) (by decide) (by decide) (by decide)
        obtain ⟨b271, rfl, K271, S271⟩ := Q271
        have s272 := K271.1
        refine st271 _ ?_
        have S271 : StrIs Z h271 b271 (lst 3 fun i => fp (3 + i)) := S271
        refine g_astore B W271 at_305 rfl (l' := #[.val (.int p1), .val (.int p2), .val (.int p3), .val (.int p4), .val (.long p5), .second, .val (.int 0), .val (.int 1), .val (.int 3), .val (.int x101), .val (.int x102), .val (.int x103), .val (.int x104), .val (.int x105), .val (.int x106), .val (.int 6), .val (.ref b215), .val (.int 6), .val (.ref b230), .val (.ref b238), .val (.ref b271)]) rfl ?_
        refine g_aload B W271 at_307 rfl rfl ?_
        refine g_aload B W271 at_309 rfl rfl ?_
        have f274 := (S245.keep ((((((Keep.refl h242 []).trans K246 all0).trans K249 all0).trans K253 (allS (Or.inr (by omega)) all0)).trans K264 (allS (Or.inr (by omega)) all0)).trans K271 all0))
        obtain ⟨T273, h273, v273, L273, W273, Q273, st273⟩ := x_virtualB B W271 (b := b271) (V := 0) (rc := 0) (rs := 0) (QL := fun v h' L => v = some (.int (bi (decide ((lst 3 fun i => fp (3 + i)) = [x104, x105, x106])))) ∧ L = [] ∧ h271 = h') [(.ref b238)] (fun s' hZ' => own_eqB hw S271 f274 (Scs.ext W271.old.2) hcz (tw hw 14 rfl) (by decide) (by decide) hZ') S271.exa at_311 (tw hw 181 rfl) (tw hw 182 rfl) (tw hw 184 rfl) (tw hw 183 rfl) (by decide) (lenOf pd__Ljava_lang_Object__Z rfl) #[.val (.int p1), .val (.int p2), .val (.int p3), .val (.int p4), .val (.long p5), .second, .val (.int 0), .val (.int 1), .val (.int 3), .val (.int x101), .val (.int x102), .val (.int x103), .val (.int x104), .val (.int x105), .val (.int x106), .val (.int 6), .val (.ref b215), .val (.int 6), .val (.ref b230), .val (.ref b238), .val (.ref b271)] [] rfl rfl (by decide) (by decide) [] all0 (fun _ _ _ q => ⟨q.2.1 ▸ Fr.nil _, q.2.2 ▸ Keep.refl _ _⟩)
        obtain ⟨rfl, -, rfl⟩ := Q273
        refine st273 _ ?_
        exact r_b B W273 at_314 (by decide) (by decide) (by show some (Value.int (bi (decide ((lst 3 fun i => fp (3 + i)) = [x104, x105, x106])))) = some (.int 1); rw [show (decide ((lst 3 fun i => fp (3 + i)) = [x104, x105, x106])) = true from decide_eq_true (by show ([fp 3, fp 4, fp 5] : List Int32) = _; rw [ep3, ep4, ep5])]; rfl)
    · skip
      rcases hqn8 with rfl | rfl | rfl
      · skip
        show Go p.tables e below _ T106 (mkF m 93 #[.val (.int p1), .val (.int p2), .val (.int p3), .val (.int p4), .val (.long p5), .second, .val (.int 0), .val (.int 2), .val (.int 1), .val (.int x101), .val (.int x102), .val (.int x103), .val (.int x104), .val (.int x105), .val (.int x106), .unset, .unset, .unset, .unset, .unset, .unset] [])
        refine g_iconst B W106 at_93 (v := 1) (by decide) ?_
        refine g_iload B W106 at_94 rfl ?_
        refine g_if_y B W106 at_96 (XT.i0_eq_t (by decide)) (pc' := 103) (by decide) ?_
        show Go p.tables e below _ T106 (mkF m 103 #[.val (.int p1), .val (.int p2), .val (.int p3), .val (.int p4), .val (.long p5), .second, .val (.int 0), .val (.int 2), .val (.int 1), .val (.int x101), .val (.int x102), .val (.int x103), .val (.int x104), .val (.int x105), .val (.int x106), .unset, .unset, .unset, .unset, .unset, .unset] [(.int 1)])
        refine g_iconst B W106 at_103 (v := 0) (by decide) ?_
        refine g_iadd B W106 at_104  ?_
        rw [show (1 + 0 : Int32) = 1 by decide]
        refine g_iload B W106 at_105 rfl ?_
        refine g_iadd B W106 at_107  ?_
        rw [show (1 + 2 : Int32) = 3 by decide]
        refine g_iconst B W106 at_108 (v := 1) (by decide) ?_
        refine g_iadd B W106 at_109  ?_
        rw [show (3 + 1 : Int32) = 4 by decide]
        refine g_iload B W106 at_110 rfl ?_
        refine g_iadd B W106 at_112  ?_
        rw [show (4 + 1 : Int32) = 5 by decide]
        refine g_istore B W106 at_113  (l' := #[.val (.int p1), .val (.int p2), .val (.int p3), .val (.int p4), .val (.long p5), .second, .val (.int 0), .val (.int 2), .val (.int 1), .val (.int x101), .val (.int x102), .val (.int x103), .val (.int x104), .val (.int x105), .val (.int x106), .val (.int 5), .unset, .unset, .unset, .unset, .unset]) rfl ?_
        refine g_iload B W106 at_115 rfl ?_
        have zs275 := W106.size
        obtain ⟨T276, h276, v276, W276, Q276, st276⟩ := x_static B W106 [(.int 5)] (c_sz5 l Z a0 hw h0) at_117 (tw hw 9 rfl) (tw hw 10 rfl) (tw hw 2 rfl) (tw hw 11 rfl) (by decide) (lenOf pd__I__C rfl) #[.val (.int p1), .val (.int p2), .val (.int p3), .val (.int p4), .val (.long p5), .second, .val (.int 0), .val (.int 2), .val (.int 1), .val (.int x101), .val (.int x102), .val (.int x103), .val (.int x104), .val (.int x105), .val (.int x106), .val (.int 5), .unset, .unset, .unset, .unset, .unset] [] rfl 0 rfl (by decide) (by decide) (by decide) (by decide)
        obtain ⟨b276, kA276, rfl, g276, K276, A276⟩ := Q276
        have s277 := K276.1
        refine st276 _ ?_
        have l276 := nlt A276.lt
        have z276 := W276.size
        refine g_astore B W276 at_120 rfl (l' := #[.val (.int p1), .val (.int p2), .val (.int p3), .val (.int p4), .val (.long p5), .second, .val (.int 0), .val (.int 2), .val (.int 1), .val (.int x101), .val (.int x102), .val (.int x103), .val (.int x104), .val (.int x105), .val (.int x106), .val (.int 5), .val (.ref b276), .unset, .unset, .unset, .unset]) rfl ?_
        refine g_iconst B W276 at_122 (v := 0) (by decide) ?_
        refine g_istore B W276 at_123  (l' := #[.val (.int p1), .val (.int p2), .val (.int p3), .val (.int p4), .val (.long p5), .second, .val (.int 0), .val (.int 2), .val (.int 1), .val (.int x101), .val (.int x102), .val (.int x103), .val (.int x104), .val (.int x105), .val (.int x106), .val (.int 5), .val (.ref b276), .val (.int 0), .unset, .unset, .unset]) rfl ?_
        refine g_aload B W276 at_125 rfl rfl ?_
        refine g_iload B W276 at_127 rfl ?_
        refine g_bipush B W276 at_129 (v := 47) (by decide) ?_
        obtain ⟨T278, h278, W278, K278, A278, st278⟩ := x_castore B W276 (j := 0) (x := 47) at_131 A276 (by decide) (Nat.lt_of_lt_of_eq (show Int32.toNatClampNeg 0 < 5 by decide) rfl) (by omega) #[.val (.int p1), .val (.int p2), .val (.int p3), .val (.int p4), .val (.long p5), .second, .val (.int 0), .val (.int 2), .val (.int 1), .val (.int x101), .val (.int x102), .val (.int x103), .val (.int x104), .val (.int x105), .val (.int x106), .val (.int 5), .val (.ref b276), .val (.int 0), .unset, .unset, .unset] []
        refine st278 _ ?_
        rw [show nar .char 47 = 47 by decide] at A278
        have A278 : Arv Z h278 b276 kA276 .char 5 [(.int 47), (.int 0), (.int 0), (.int 0), (.int 0)] (.int 0) := A278
        have s279 := K278.1
        refine g_iinc B W278 at_132 (v := 1) (l' := #[.val (.int p1), .val (.int p2), .val (.int p3), .val (.int p4), .val (.long p5), .second, .val (.int 0), .val (.int 2), .val (.int 1), .val (.int x101), .val (.int x102), .val (.int x103), .val (.int x104), .val (.int x105), .val (.int x106), .val (.int 5), .val (.ref b276), .val (.int (0 + 1)), .unset, .unset, .unset]) (by decide) rfl rfl ?_
        rw [show (0 + 1 : Int32) = 1 by decide]
        refine g_iload B W278 at_135 rfl ?_
        refine g_if_y B W278 at_137 (XT.i0_eq_t (by decide)) (pc' := 160) (by decide) ?_
        show Go p.tables e below _ T278 (mkF m 160 #[.val (.int p1), .val (.int p2), .val (.int p3), .val (.int p4), .val (.long p5), .second, .val (.int 0), .val (.int 2), .val (.int 1), .val (.int x101), .val (.int x102), .val (.int x103), .val (.int x104), .val (.int x105), .val (.int x106), .val (.int 5), .val (.ref b276), .val (.int 1), .unset, .unset, .unset] [])
        refine g_aload B W278 at_160 rfl rfl ?_
        refine g_iload B W278 at_162 rfl ?_
        refine g_iload B W278 at_164 rfl ?_
        obtain ⟨T280, h280, W280, K280, A280, st280⟩ := x_castore B W278 (j := 1) (x := x102) at_166 A278 (by decide) (Nat.lt_of_lt_of_eq (show Int32.toNatClampNeg 1 < 5 by decide) rfl) (by omega) #[.val (.int p1), .val (.int p2), .val (.int p3), .val (.int p4), .val (.long p5), .second, .val (.int 0), .val (.int 2), .val (.int 1), .val (.int x101), .val (.int x102), .val (.int x103), .val (.int x104), .val (.int x105), .val (.int x106), .val (.int 5), .val (.ref b276), .val (.int 1), .unset, .unset, .unset] []
        refine st280 _ ?_
        rw [nx102] at A280
        have A280 : Arv Z h280 b276 kA276 .char 5 [(.int 47), (.int x102), (.int 0), (.int 0), (.int 0)] (.int 0) := A280
        have s281 := K280.1
        refine g_iinc B W280 at_167 (v := 1) (l' := #[.val (.int p1), .val (.int p2), .val (.int p3), .val (.int p4), .val (.long p5), .second, .val (.int 0), .val (.int 2), .val (.int 1), .val (.int x101), .val (.int x102), .val (.int x103), .val (.int x104), .val (.int x105), .val (.int x106), .val (.int 5), .val (.ref b276), .val (.int (1 + 1)), .unset, .unset, .unset]) (by decide) rfl rfl ?_
        rw [show (1 + 1 : Int32) = 2 by decide]
        refine g_iload B W280 at_170 rfl ?_
        refine g_iconst B W280 at_172 (v := 2) (by decide) ?_
        refine g_icmp_n B W280 at_173 (XT.ii_ne_f (by decide)) ?_
        show Go p.tables e below _ T280 (mkF m 176 #[.val (.int p1), .val (.int p2), .val (.int p3), .val (.int p4), .val (.long p5), .second, .val (.int 0), .val (.int 2), .val (.int 1), .val (.int x101), .val (.int x102), .val (.int x103), .val (.int x104), .val (.int x105), .val (.int x106), .val (.int 5), .val (.ref b276), .val (.int 2), .unset, .unset, .unset] [])
        refine g_aload B W280 at_176 rfl rfl ?_
        refine g_iload B W280 at_178 rfl ?_
        refine g_iload B W280 at_180 rfl ?_
        obtain ⟨T282, h282, W282, K282, A282, st282⟩ := x_castore B W280 (j := 2) (x := x103) at_182 A280 (by decide) (Nat.lt_of_lt_of_eq (show Int32.toNatClampNeg 2 < 5 by decide) rfl) (by omega) #[.val (.int p1), .val (.int p2), .val (.int p3), .val (.int p4), .val (.long p5), .second, .val (.int 0), .val (.int 2), .val (.int 1), .val (.int x101), .val (.int x102), .val (.int x103), .val (.int x104), .val (.int x105), .val (.int x106), .val (.int 5), .val (.ref b276), .val (.int 2), .unset, .unset, .unset] []
        refine st282 _ ?_
        rw [nx103] at A282
        have A282 : Arv Z h282 b276 kA276 .char 5 [(.int 47), (.int x102), (.int x103), (.int 0), (.int 0)] (.int 0) := A282
        have s283 := K282.1
        refine g_iinc B W282 at_183 (v := 1) (l' := #[.val (.int p1), .val (.int p2), .val (.int p3), .val (.int p4), .val (.long p5), .second, .val (.int 0), .val (.int 2), .val (.int 1), .val (.int x101), .val (.int x102), .val (.int x103), .val (.int x104), .val (.int x105), .val (.int x106), .val (.int 5), .val (.ref b276), .val (.int (2 + 1)), .unset, .unset, .unset]) (by decide) rfl rfl ?_
        rw [show (2 + 1 : Int32) = 3 by decide]
        refine g_aload B W282 at_186 rfl rfl ?_
        refine g_iload B W282 at_188 rfl ?_
        refine g_bipush B W282 at_190 (v := 46) (by decide) ?_
        obtain ⟨T284, h284, W284, K284, A284, st284⟩ := x_castore B W282 (j := 3) (x := 46) at_192 A282 (by decide) (Nat.lt_of_lt_of_eq (show Int32.toNatClampNeg 3 < 5 by decide) rfl) (by omega) #[.val (.int p1), .val (.int p2), .val (.int p3), .val (.int p4), .val (.long p5), .second, .val (.int 0), .val (.int 2), .val (.int 1), .val (.int x101), .val (.int x102), .val (.int x103), .val (.int x104), .val (.int x105), .val (.int x106), .val (.int 5), .val (.ref b276), .val (.int 3), .unset, .unset, .unset] []
        refine st284 _ ?_
        rw [show nar .char 46 = 46 by decide] at A284
        have A284 : Arv Z h284 b276 kA276 .char 5 [(.int 47), (.int x102), (.int x103), (.int 46), (.int 0)] (.int 0) := A284
        have s285 := K284.1
        refine g_iinc B W284 at_193 (v := 1) (l' := #[.val (.int p1), .val (.int p2), .val (.int p3), .val (.int p4), .val (.long p5), .second, .val (.int 0), .val (.int 2), .val (.int 1), .val (.int x101), .val (.int x102), .val (.int x103), .val (.int x104), .val (.int x105), .val (.int x106), .val (.int 5), .val (.ref b276), .val (.int (3 + 1)), .unset, .unset, .unset]) (by decide) rfl rfl ?_
        rw [show (3 + 1 : Int32) = 4 by decide]
        refine g_aload B W284 at_196 rfl rfl ?_
        refine g_iload B W284 at_198 rfl ?_
        refine g_iload B W284 at_200 rfl ?_
        obtain ⟨T286, h286, W286, K286, A286, st286⟩ := x_castore B W284 (j := 4) (x := x104) at_202 A284 (by decide) (Nat.lt_of_lt_of_eq (show Int32.toNatClampNeg 4 < 5 by decide) rfl) (by omega) #[.val (.int p1), .val (.int p2), .val (.int p3), .val (.int p4), .val (.long p5), .second, .val (.int 0), .val (.int 2), .val (.int 1), .val (.int x101), .val (.int x102), .val (.int x103), .val (.int x104), .val (.int x105), .val (.int x106), .val (.int 5), .val (.ref b276), .val (.int 4), .unset, .unset, .unset] []
        refine st286 _ ?_
        rw [nx104] at A286
        have A286 : Arv Z h286 b276 kA276 .char 5 [(.int 47), (.int x102), (.int x103), (.int 46), (.int x104)] (.int 0) := A286
        have s287 := K286.1
        refine g_iinc B W286 at_203 (v := 1) (l' := #[.val (.int p1), .val (.int p2), .val (.int p3), .val (.int p4), .val (.long p5), .second, .val (.int 0), .val (.int 2), .val (.int 1), .val (.int x101), .val (.int x102), .val (.int x103), .val (.int x104), .val (.int x105), .val (.int x106), .val (.int 5), .val (.ref b276), .val (.int (4 + 1)), .unset, .unset, .unset]) (by decide) rfl rfl ?_
        rw [show (4 + 1 : Int32) = 5 by decide]
        refine g_iload B W286 at_206 rfl ?_
        refine g_iconst B W286 at_208 (v := 2) (by decide) ?_
        refine g_icmp_y B W286 at_209 (XT.ii_lt_t (by decide)) (pc' := 222) (by decide) ?_
        show Go p.tables e below _ T286 (mkF m 222 #[.val (.int p1), .val (.int p2), .val (.int p3), .val (.int p4), .val (.long p5), .second, .val (.int 0), .val (.int 2), .val (.int 1), .val (.int x101), .val (.int x102), .val (.int x103), .val (.int x104), .val (.int x105), .val (.int x106), .val (.int 5), .val (.ref b276), .val (.int 5), .unset, .unset, .unset] [])
        refine g_iload B W286 at_222 rfl ?_
        refine g_iconst B W286 at_224 (v := 3) (by decide) ?_
        refine g_icmp_y B W286 at_225 (XT.ii_ne_t (by decide)) (pc' := 238) (by decide) ?_
        show Go p.tables e below _ T286 (mkF m 238 #[.val (.int p1), .val (.int p2), .val (.int p3), .val (.int p4), .val (.long p5), .second, .val (.int 0), .val (.int 2), .val (.int 1), .val (.int x101), .val (.int x102), .val (.int x103), .val (.int x104), .val (.int x105), .val (.int x106), .val (.int 5), .val (.ref b276), .val (.int 5), .unset, .unset, .unset] [])
        refine g_iload B W286 at_238 rfl ?_
        have zs288 := W286.size
        obtain ⟨T289, h289, v289, W289, Q289, st289⟩ := x_static B W286 [(.int 1)] (c_sz1 l Z a0 hw h286) at_240 (tw hw 9 rfl) (tw hw 10 rfl) (tw hw 2 rfl) (tw hw 11 rfl) (by decide) (lenOf pd__I__C rfl) #[.val (.int p1), .val (.int p2), .val (.int p3), .val (.int p4), .val (.long p5), .second, .val (.int 0), .val (.int 2), .val (.int 1), .val (.int x101), .val (.int x102), .val (.int x103), .val (.int x104), .val (.int x105), .val (.int x106), .val (.int 5), .val (.ref b276), .val (.int 5), .unset, .unset, .unset] [] rfl 0 rfl (by decide) (by decide) (by decide) (by decide)
        obtain ⟨b289, kA289, rfl, g289, K289, A289⟩ := Q289
        have s290 := K289.1
        refine st289 _ ?_
        have l289 := nlt A289.lt
        have z289 := W289.size
        refine g_astore B W289 at_243 rfl (l' := #[.val (.int p1), .val (.int p2), .val (.int p3), .val (.int p4), .val (.long p5), .second, .val (.int 0), .val (.int 2), .val (.int 1), .val (.int x101), .val (.int x102), .val (.int x103), .val (.int x104), .val (.int x105), .val (.int x106), .val (.int 5), .val (.ref b276), .val (.int 5), .val (.ref b289), .unset, .unset]) rfl ?_
        refine g_aload B W289 at_245 rfl rfl ?_
        refine g_iconst B W289 at_247 (v := 0) (by decide) ?_
        refine g_iload B W289 at_248 rfl ?_
        obtain ⟨T291, h291, W291, K291, A291, st291⟩ := x_castore B W289 (j := 0) (x := x104) at_250 A289 (by decide) (Nat.lt_of_lt_of_eq (show Int32.toNatClampNeg 0 < 1 by decide) rfl) (by omega) #[.val (.int p1), .val (.int p2), .val (.int p3), .val (.int p4), .val (.long p5), .second, .val (.int 0), .val (.int 2), .val (.int 1), .val (.int x101), .val (.int x102), .val (.int x103), .val (.int x104), .val (.int x105), .val (.int x106), .val (.int 5), .val (.ref b276), .val (.int 5), .val (.ref b289), .unset, .unset] []
        refine st291 _ ?_
        rw [nx104] at A291
        have A291 : Arv Z h291 b289 kA289 .char 1 [(.int x104)] (.int 0) := A291
        have s292 := K291.1
        refine g_iload B W291 at_251 rfl ?_
        refine g_iconst B W291 at_253 (v := 2) (by decide) ?_
        refine g_icmp_y B W291 at_254 (XT.ii_lt_t (by decide)) (pc' := 263) (by decide) ?_
        show Go p.tables e below _ T291 (mkF m 263 #[.val (.int p1), .val (.int p2), .val (.int p3), .val (.int p4), .val (.long p5), .second, .val (.int 0), .val (.int 2), .val (.int 1), .val (.int x101), .val (.int x102), .val (.int x103), .val (.int x104), .val (.int x105), .val (.int x106), .val (.int 5), .val (.ref b276), .val (.int 5), .val (.ref b289), .unset, .unset] [])
        refine g_iload B W291 at_263 rfl ?_
        refine g_iconst B W291 at_265 (v := 3) (by decide) ?_
        refine g_icmp_y B W291 at_266 (XT.ii_ne_t (by decide)) (pc' := 275) (by decide) ?_
        show Go p.tables e below _ T291 (mkF m 275 #[.val (.int p1), .val (.int p2), .val (.int p3), .val (.int p4), .val (.long p5), .second, .val (.int 0), .val (.int 2), .val (.int 1), .val (.int x101), .val (.int x102), .val (.int x103), .val (.int x104), .val (.int x105), .val (.int x106), .val (.int 5), .val (.ref b276), .val (.int 5), .val (.ref b289), .unset, .unset] [])
        obtain ⟨T293, h293, b293, gb293, W293, K293, E293, D293, st293⟩ := x_new B W291 at_275 (tw hw 13 rfl) (tw hw 14 rfl) (tw hw 15 rfl) (by decide) (by decide) #[.val (.int p1), .val (.int p2), .val (.int p3), .val (.int p4), .val (.long p5), .second, .val (.int 0), .val (.int 2), .val (.int 1), .val (.int x101), .val (.int x102), .val (.int x103), .val (.int x104), .val (.int x105), .val (.int x106), .val (.int 5), .val (.ref b276), .val (.int 5), .val (.ref b289), .unset, .unset] []
        have l293 := nlt E293.lt
        have z293 := W291.size
        refine st293 _ ?_
        have s294 := K293.1
        have f295 : Fld Z h293 b293 "java/lang/String" "coder" "B" (.int 0) := D293 (Or.inr (tw hw 39 rfl)) (ty := .byte) (by decide)
        have f296 : Fld Z h293 b293 "java/lang/String" "value" "[B" .null := D293 (Or.inr (tw hw 41 rfl)) (ty := (.array .byte)) (by decide)
        refine g_dup B W293 at_278 rfl ?_
        refine g_aload B W293 at_279 rfl rfl ?_
        have f298 := (A291.keep K293 nin0)
        obtain ⟨T297, h297, v297, L297, W297, Q297, st297⟩ := x_specialB B W293 (b := b293) (rc := 1) (rs := 1) [(.ref b289)] (fun s' hZ' => StrChars.Road.backV (W := 1) hZ' (fun d hd => hw d (own_words d hd)) (kI := 4) (tw hw 14 rfl) (cs := ([x104] : List Int32)) (bs := ([x104] : List Int32).map (fun c => c.toInt8.toInt32)) (n := 1) (n0 := Z.heap.size) (by omega) W293.size E293 f296 f295 f298 (Scs.ext W293.old.2) hcz rfl (by decide) (by decide) (by decide) (by simp only [List.mem_cons, List.not_mem_nil, or_false]; rintro c rfl <;> first | assumption | decide) rfl (by decide) (by decide)) at_281 rfl (tw hw 16 rfl) (tw hw 17 rfl) (tw hw 18 rfl) (by decide) (lenOf pd___C_V rfl) #[.val (.int p1), .val (.int p2), .val (.int p3), .val (.int p4), .val (.long p5), .second, .val (.int 0), .val (.int 2), .val (.int 1), .val (.int x101), .val (.int x102), .val (.int x103), .val (.int x104), .val (.int x105), .val (.int x106), .val (.int 5), .val (.ref b276), .val (.int 5), .val (.ref b289), .unset, .unset] [(.ref b293)] rfl rfl (by decide) (by decide) [b293] (allS (by omega) all0) (fun _ _ _ q => ⟨q.2.1, q.2.2.1⟩)
        obtain ⟨rfl, -, K297, E297, Fc297, t297, kb297, gt297, gu297, -, Fv297, A297⟩ := Q297
        refine st297 _ ?_
        have s299 := K297.1
        have lt297 := nlt A297.lt
        have S300 : StrIs Z h297 b293 [x104] := ⟨t297, kb297, E297, Fc297, Fv297, A297, (by simp only [List.mem_cons, List.not_mem_nil, or_false]; rintro c rfl <;> first | assumption | decide), by simp⟩
        refine g_astore B W297 at_284 rfl (l' := #[.val (.int p1), .val (.int p2), .val (.int p3), .val (.int p4), .val (.long p5), .second, .val (.int 0), .val (.int 2), .val (.int 1), .val (.int x101), .val (.int x102), .val (.int x103), .val (.int x104), .val (.int x105), .val (.int x106), .val (.int 5), .val (.ref b276), .val (.int 5), .val (.ref b289), .val (.ref b293), .unset]) rfl ?_
        obtain ⟨T301, h301, b301, gb301, W301, K301, E301, D301, st301⟩ := x_new B W297 at_286 (tw hw 42 rfl) (tw hw 43 rfl) (tw hw 44 rfl) (by decide) (by decide) #[.val (.int p1), .val (.int p2), .val (.int p3), .val (.int p4), .val (.long p5), .second, .val (.int 0), .val (.int 2), .val (.int 1), .val (.int x101), .val (.int x102), .val (.int x103), .val (.int x104), .val (.int x105), .val (.int x106), .val (.int 5), .val (.ref b276), .val (.int 5), .val (.ref b289), .val (.ref b293), .unset] []
        have l301 := nlt E301.lt
        have z301 := W297.size
        refine st301 _ ?_
        have s302 := K301.1
        have f303 : Fld Z h301 b301 "com/example/presswright/presswright/publishing/FilePath" "path" "Ljava/lang/String;" .null := D301 (Or.inr (tw hw 175 rfl)) (ty := (.object "java/lang/String")) (by decide)
        refine g_dup B W301 at_289 rfl ?_
        obtain ⟨T304, h304, b304, gb304, W304, K304, E304, D304, st304⟩ := x_new B W301 at_290 (tw hw 13 rfl) (tw hw 14 rfl) (tw hw 15 rfl) (by decide) (by decide) #[.val (.int p1), .val (.int p2), .val (.int p3), .val (.int p4), .val (.long p5), .second, .val (.int 0), .val (.int 2), .val (.int 1), .val (.int x101), .val (.int x102), .val (.int x103), .val (.int x104), .val (.int x105), .val (.int x106), .val (.int 5), .val (.ref b276), .val (.int 5), .val (.ref b289), .val (.ref b293), .unset] [(.ref b301), (.ref b301)]
        have l304 := nlt E304.lt
        have z304 := W301.size
        refine st304 _ ?_
        have s305 := K304.1
        have f306 : Fld Z h304 b304 "java/lang/String" "coder" "B" (.int 0) := D304 (Or.inr (tw hw 39 rfl)) (ty := .byte) (by decide)
        have f307 : Fld Z h304 b304 "java/lang/String" "value" "[B" .null := D304 (Or.inr (tw hw 41 rfl)) (ty := (.array .byte)) (by decide)
        refine g_dup B W304 at_293 rfl ?_
        refine g_aload B W304 at_294 rfl rfl ?_
        have f309 := (A286.keep K289 nin0)
        have f310 := ((f309.keep K291 (ninS (nne (by have q := nlt f309.lt; omega)) nin0)).keep K293 nin0)
        have f311 := (((f310.keep K297 (ninS (nne (by have q := nlt f310.lt; omega)) nin0)).keep K301 nin0).keep K304 nin0)
        obtain ⟨T308, h308, v308, L308, W308, Q308, st308⟩ := x_specialB B W304 (b := b304) (rc := 1) (rs := 5) [(.ref b276)] (fun s' hZ' => StrChars.Road.backV (W := 3) hZ' (fun d hd => hw d (own_words d hd)) (kI := 4) (tw hw 14 rfl) (cs := ([47, x102, x103, 46, x104] : List Int32)) (bs := ([47, x102, x103, 46, x104] : List Int32).map (fun c => c.toInt8.toInt32)) (n := 5) (n0 := Z.heap.size) (by omega) W304.size E304 f307 f306 f311 (Scs.ext W304.old.2) hcz rfl (by decide) (by decide) (by decide) (by simp only [List.mem_cons, List.not_mem_nil, or_false]; rintro c (rfl | rfl | rfl | rfl | rfl) <;> first | assumption | decide) rfl (by decide) (by decide)) at_296 rfl (tw hw 16 rfl) (tw hw 17 rfl) (tw hw 18 rfl) (by decide) (lenOf pd___C_V rfl) #[.val (.int p1), .val (.int p2), .val (.int p3), .val (.int p4), .val (.long p5), .second, .val (.int 0), .val (.int 2), .val (.int 1), .val (.int x101), .val (.int x102), .val (.int x103), .val (.int x104), .val (.int x105), .val (.int x106), .val (.int 5), .val (.ref b276), .val (.int 5), .val (.ref b289), .val (.ref b293), .unset] [(.ref b304), (.ref b301), (.ref b301)] rfl rfl (by decide) (by decide) [b304] (allS (by omega) all0) (fun _ _ _ q => ⟨q.2.1, q.2.2.1⟩)
        obtain ⟨rfl, -, K308, E308, Fc308, t308, kb308, gt308, gu308, -, Fv308, A308⟩ := Q308
        refine st308 _ ?_
        have s312 := K308.1
        have lt308 := nlt A308.lt
        have S313 : StrIs Z h308 b304 [47, x102, x103, 46, x104] := ⟨t308, kb308, E308, Fc308, Fv308, A308, (by simp only [List.mem_cons, List.not_mem_nil, or_false]; rintro c (rfl | rfl | rfl | rfl | rfl) <;> first | assumption | decide), by simp⟩
        obtain ⟨fp, hfp⟩ : ∃ f : Nat → Int32, f = fun i => ([47, x102, x103, 46, x104] : List Int32).getD i 0 := ⟨_, rfl⟩
        have ep0 : fp 0 = 47 := by rw [hfp]; rfl
        have ep1 : fp 1 = x102 := by rw [hfp]; rfl
        have ep2 : fp 2 = x103 := by rw [hfp]; rfl
        have ep3 : fp 3 = 46 := by rw [hfp]; rfl
        have ep4 : fp 4 = x104 := by rw [hfp]; rfl
        have Sfp : StrIs Z h308 b304 (lst 5 fp) := by rw [show lst 5 fp = [47, x102, x103, 46, x104] by rw [hfp]; rfl]; exact S313
        have f314 := ((E301.keep K304).keep K308)
        have f315 := (f303.keep K304 nin0)
        have f316 := (f315.keep K308 (ninS (nne (by have q := nlt f315.lt; omega)) nin0))
        obtain ⟨T317, h317, v317, W317, Q317, st317⟩ := x_special B W308 (b := b301) [(.ref b304)] (c_fp0 l Z a0 hw b301 b304 5 fp 3 cz sf h308 Scs hcz Ssf rsf f314 f316 (by omega) Sfp (by omega) ep0 (by intro j h1 h2; obtain rfl | rfl | rfl | rfl : j = 1 ∨ j = 2 ∨ j = 3 ∨ j = 4 := (by omega); (· exact (by rw [ep1]; exact g102.n47)); (· exact (by rw [ep2]; exact g103.n47)); (· exact (by rw [ep3]; exact (by decide))); (· exact (by rw [ep4]; exact g104.n47))) (by omega) (by omega) ep3 (by intro j h1 h2 h3; obtain rfl | rfl | rfl : j = 1 ∨ j = 2 ∨ j = 4 := (by omega); (· exact (by rw [ep1]; exact g102.ok (by omega))); (· exact (by rw [ep2]; exact g103.ok (by omega))); (· exact (by rw [ep4]; exact Or.inl q104)))) at_299 rfl (tw hw 45 rfl) (tw hw 46 rfl) (tw hw 44 rfl) (tw hw 47 rfl) (by decide) (lenOf pd__Ljava_lang_String__V rfl) #[.val (.int p1), .val (.int p2), .val (.int p3), .val (.int p4), .val (.long p5), .second, .val (.int 0), .val (.int 2), .val (.int 1), .val (.int x101), .val (.int x102), .val (.int x103), .val (.int x104), .val (.int x105), .val (.int x106), .val (.int 5), .val (.ref b276), .val (.int 5), .val (.ref b289), .val (.ref b293), .unset] [(.ref b301)] rfl 1 rfl (by decide) (by decide) (by decide) (by decide)
        obtain ⟨rfl, K317, E317, F317⟩ := Q317
        have s318 := K317.1
        refine st317 _ ?_
        have f320 := (E308.keep K317)
        have f321 := (Fc308.keep K317 (ninS (nne (by have q := nlt Fc308.lt; omega)) nin0))
        have f322 := (Fv308.keep K317 (ninS (nne (by have q := nlt Fv308.lt; omega)) nin0))
        have f323 := (A308.keep K317 (ninS (nne (by have q := nlt A308.lt; omega)) nin0))
        have S319 : StrIs Z h317 b304 (lst 5 fp) := by rw [show lst 5 fp = [47, x102, x103, 46, x104] by rw [hfp]; rfl]; exact ⟨t308, kb308, f320, f321, f322, f323, (by simp only [List.mem_cons, List.not_mem_nil, or_false]; rintro c (rfl | rfl | rfl | rfl | rfl) <;> first | assumption | decide), by simp⟩
        obtain ⟨T324, h324, v324, W324, Q324, st324⟩ := x_virtual B W317 (b := b301) [] (c_extn l Z a0 hw b301 b304 5 fp 3 cz sf h317 Scs hcz Ssf rsf F317 S319 (by omega) (by omega) ep3 (by intro j h1 h2; obtain rfl : j = 4 := (by omega); (· exact (by rw [ep4]; exact g104.n46)))) E317 at_302 (tw hw 176 rfl) (tw hw 177 rfl) (tw hw 179 rfl) (tw hw 178 rfl) (tw hw 44 rfl) (tw hw 180 rfl) (by decide) (lenOf pd___Ljava_lang_String_ rfl) #[.val (.int p1), .val (.int p2), .val (.int p3), .val (.int p4), .val (.long p5), .second, .val (.int 0), .val (.int 2), .val (.int 1), .val (.int x101), .val (.int x102), .val (.int x103), .val (.int x104), .val (.int x105), .val (.int x106), .val (.int 5), .val (.ref b276), .val (.int 5), .val (.ref b289), .val (.ref b293), .unset] [] rfl 0 rfl (by decide) (by decide) (by decide) (by decide)
        obtain ⟨b324, rfl, K324, S324⟩ := Q324
        have s325 := K324.1
        refine st324 _ ?_
        have S324 : StrIs Z h324 b324 (lst 1 fun i => fp (4 + i)) := S324
        refine g_astore B W324 at_305 rfl (l' := #[.val (.int p1), .val (.int p2), .val (.int p3), .val (.int p4), .val (.long p5), .second, .val (.int 0), .val (.int 2), .val (.int 1), .val (.int x101), .val (.int x102), .val (.int x103), .val (.int x104), .val (.int x105), .val (.int x106), .val (.int 5), .val (.ref b276), .val (.int 5), .val (.ref b289), .val (.ref b293), .val (.ref b324)]) rfl ?_
        refine g_aload B W324 at_307 rfl rfl ?_
        refine g_aload B W324 at_309 rfl rfl ?_
        have f327 := (S300.keep ((((((Keep.refl h297 []).trans K301 all0).trans K304 all0).trans K308 (allS (Or.inr (by omega)) all0)).trans K317 (allS (Or.inr (by omega)) all0)).trans K324 all0))
        obtain ⟨T326, h326, v326, L326, W326, Q326, st326⟩ := x_virtualB B W324 (b := b324) (V := 0) (rc := 0) (rs := 0) (QL := fun v h' L => v = some (.int (bi (decide ((lst 1 fun i => fp (4 + i)) = [x104])))) ∧ L = [] ∧ h324 = h') [(.ref b293)] (fun s' hZ' => own_eqB hw S324 f327 (Scs.ext W324.old.2) hcz (tw hw 14 rfl) (by decide) (by decide) hZ') S324.exa at_311 (tw hw 181 rfl) (tw hw 182 rfl) (tw hw 184 rfl) (tw hw 183 rfl) (by decide) (lenOf pd__Ljava_lang_Object__Z rfl) #[.val (.int p1), .val (.int p2), .val (.int p3), .val (.int p4), .val (.long p5), .second, .val (.int 0), .val (.int 2), .val (.int 1), .val (.int x101), .val (.int x102), .val (.int x103), .val (.int x104), .val (.int x105), .val (.int x106), .val (.int 5), .val (.ref b276), .val (.int 5), .val (.ref b289), .val (.ref b293), .val (.ref b324)] [] rfl rfl (by decide) (by decide) [] all0 (fun _ _ _ q => ⟨q.2.1 ▸ Fr.nil _, q.2.2 ▸ Keep.refl _ _⟩)
        obtain ⟨rfl, -, rfl⟩ := Q326
        refine st326 _ ?_
        exact r_b B W326 at_314 (by decide) (by decide) (by show some (Value.int (bi (decide ((lst 1 fun i => fp (4 + i)) = [x104])))) = some (.int 1); rw [show (decide ((lst 1 fun i => fp (4 + i)) = [x104])) = true from decide_eq_true (by show ([fp 4] : List Int32) = _; rw [ep4])]; rfl)
      · skip
        show Go p.tables e below _ T106 (mkF m 93 #[.val (.int p1), .val (.int p2), .val (.int p3), .val (.int p4), .val (.long p5), .second, .val (.int 0), .val (.int 2), .val (.int 2), .val (.int x101), .val (.int x102), .val (.int x103), .val (.int x104), .val (.int x105), .val (.int x106), .unset, .unset, .unset, .unset, .unset, .unset] [])
        refine g_iconst B W106 at_93 (v := 1) (by decide) ?_
        refine g_iload B W106 at_94 rfl ?_
        refine g_if_y B W106 at_96 (XT.i0_eq_t (by decide)) (pc' := 103) (by decide) ?_
        show Go p.tables e below _ T106 (mkF m 103 #[.val (.int p1), .val (.int p2), .val (.int p3), .val (.int p4), .val (.long p5), .second, .val (.int 0), .val (.int 2), .val (.int 2), .val (.int x101), .val (.int x102), .val (.int x103), .val (.int x104), .val (.int x105), .val (.int x106), .unset, .unset, .unset, .unset, .unset, .unset] [(.int 1)])
        refine g_iconst B W106 at_103 (v := 0) (by decide) ?_
        refine g_iadd B W106 at_104  ?_
        rw [show (1 + 0 : Int32) = 1 by decide]
        refine g_iload B W106 at_105 rfl ?_
        refine g_iadd B W106 at_107  ?_
        rw [show (1 + 2 : Int32) = 3 by decide]
        refine g_iconst B W106 at_108 (v := 1) (by decide) ?_
        refine g_iadd B W106 at_109  ?_
        rw [show (3 + 1 : Int32) = 4 by decide]
        refine g_iload B W106 at_110 rfl ?_
        refine g_iadd B W106 at_112  ?_
        rw [show (4 + 2 : Int32) = 6 by decide]
        refine g_istore B W106 at_113  (l' := #[.val (.int p1), .val (.int p2), .val (.int p3), .val (.int p4), .val (.long p5), .second, .val (.int 0), .val (.int 2), .val (.int 2), .val (.int x101), .val (.int x102), .val (.int x103), .val (.int x104), .val (.int x105), .val (.int x106), .val (.int 6), .unset, .unset, .unset, .unset, .unset]) rfl ?_
        refine g_iload B W106 at_115 rfl ?_
        have zs328 := W106.size
        obtain ⟨T329, h329, v329, W329, Q329, st329⟩ := x_static B W106 [(.int 6)] (c_sz6 l Z a0 hw h0) at_117 (tw hw 9 rfl) (tw hw 10 rfl) (tw hw 2 rfl) (tw hw 11 rfl) (by decide) (lenOf pd__I__C rfl) #[.val (.int p1), .val (.int p2), .val (.int p3), .val (.int p4), .val (.long p5), .second, .val (.int 0), .val (.int 2), .val (.int 2), .val (.int x101), .val (.int x102), .val (.int x103), .val (.int x104), .val (.int x105), .val (.int x106), .val (.int 6), .unset, .unset, .unset, .unset, .unset] [] rfl 0 rfl (by decide) (by decide) (by decide) (by decide)
        obtain ⟨b329, kA329, rfl, g329, K329, A329⟩ := Q329
        have s330 := K329.1
        refine st329 _ ?_
        have l329 := nlt A329.lt
        have z329 := W329.size
        refine g_astore B W329 at_120 rfl (l' := #[.val (.int p1), .val (.int p2), .val (.int p3), .val (.int p4), .val (.long p5), .second, .val (.int 0), .val (.int 2), .val (.int 2), .val (.int x101), .val (.int x102), .val (.int x103), .val (.int x104), .val (.int x105), .val (.int x106), .val (.int 6), .val (.ref b329), .unset, .unset, .unset, .unset]) rfl ?_
        refine g_iconst B W329 at_122 (v := 0) (by decide) ?_
        refine g_istore B W329 at_123  (l' := #[.val (.int p1), .val (.int p2), .val (.int p3), .val (.int p4), .val (.long p5), .second, .val (.int 0), .val (.int 2), .val (.int 2), .val (.int x101), .val (.int x102), .val (.int x103), .val (.int x104), .val (.int x105), .val (.int x106), .val (.int 6), .val (.ref b329), .val (.int 0), .unset, .unset, .unset]) rfl ?_
        refine g_aload B W329 at_125 rfl rfl ?_
        refine g_iload B W329 at_127 rfl ?_
        refine g_bipush B W329 at_129 (v := 47) (by decide) ?_
        obtain ⟨T331, h331, W331, K331, A331, st331⟩ := x_castore B W329 (j := 0) (x := 47) at_131 A329 (by decide) (Nat.lt_of_lt_of_eq (show Int32.toNatClampNeg 0 < 6 by decide) rfl) (by omega) #[.val (.int p1), .val (.int p2), .val (.int p3), .val (.int p4), .val (.long p5), .second, .val (.int 0), .val (.int 2), .val (.int 2), .val (.int x101), .val (.int x102), .val (.int x103), .val (.int x104), .val (.int x105), .val (.int x106), .val (.int 6), .val (.ref b329), .val (.int 0), .unset, .unset, .unset] []
        refine st331 _ ?_
        rw [show nar .char 47 = 47 by decide] at A331
        have A331 : Arv Z h331 b329 kA329 .char 6 [(.int 47), (.int 0), (.int 0), (.int 0), (.int 0), (.int 0)] (.int 0) := A331
        have s332 := K331.1
        refine g_iinc B W331 at_132 (v := 1) (l' := #[.val (.int p1), .val (.int p2), .val (.int p3), .val (.int p4), .val (.long p5), .second, .val (.int 0), .val (.int 2), .val (.int 2), .val (.int x101), .val (.int x102), .val (.int x103), .val (.int x104), .val (.int x105), .val (.int x106), .val (.int 6), .val (.ref b329), .val (.int (0 + 1)), .unset, .unset, .unset]) (by decide) rfl rfl ?_
        rw [show (0 + 1 : Int32) = 1 by decide]
        refine g_iload B W331 at_135 rfl ?_
        refine g_if_y B W331 at_137 (XT.i0_eq_t (by decide)) (pc' := 160) (by decide) ?_
        show Go p.tables e below _ T331 (mkF m 160 #[.val (.int p1), .val (.int p2), .val (.int p3), .val (.int p4), .val (.long p5), .second, .val (.int 0), .val (.int 2), .val (.int 2), .val (.int x101), .val (.int x102), .val (.int x103), .val (.int x104), .val (.int x105), .val (.int x106), .val (.int 6), .val (.ref b329), .val (.int 1), .unset, .unset, .unset] [])
        refine g_aload B W331 at_160 rfl rfl ?_
        refine g_iload B W331 at_162 rfl ?_
        refine g_iload B W331 at_164 rfl ?_
        obtain ⟨T333, h333, W333, K333, A333, st333⟩ := x_castore B W331 (j := 1) (x := x102) at_166 A331 (by decide) (Nat.lt_of_lt_of_eq (show Int32.toNatClampNeg 1 < 6 by decide) rfl) (by omega) #[.val (.int p1), .val (.int p2), .val (.int p3), .val (.int p4), .val (.long p5), .second, .val (.int 0), .val (.int 2), .val (.int 2), .val (.int x101), .val (.int x102), .val (.int x103), .val (.int x104), .val (.int x105), .val (.int x106), .val (.int 6), .val (.ref b329), .val (.int 1), .unset, .unset, .unset] []
        refine st333 _ ?_
        rw [nx102] at A333
        have A333 : Arv Z h333 b329 kA329 .char 6 [(.int 47), (.int x102), (.int 0), (.int 0), (.int 0), (.int 0)] (.int 0) := A333
        have s334 := K333.1
        refine g_iinc B W333 at_167 (v := 1) (l' := #[.val (.int p1), .val (.int p2), .val (.int p3), .val (.int p4), .val (.long p5), .second, .val (.int 0), .val (.int 2), .val (.int 2), .val (.int x101), .val (.int x102), .val (.int x103), .val (.int x104), .val (.int x105), .val (.int x106), .val (.int 6), .val (.ref b329), .val (.int (1 + 1)), .unset, .unset, .unset]) (by decide) rfl rfl ?_
        rw [show (1 + 1 : Int32) = 2 by decide]
        refine g_iload B W333 at_170 rfl ?_
        refine g_iconst B W333 at_172 (v := 2) (by decide) ?_
        refine g_icmp_n B W333 at_173 (XT.ii_ne_f (by decide)) ?_
        show Go p.tables e below _ T333 (mkF m 176 #[.val (.int p1), .val (.int p2), .val (.int p3), .val (.int p4), .val (.long p5), .second, .val (.int 0), .val (.int 2), .val (.int 2), .val (.int x101), .val (.int x102), .val (.int x103), .val (.int x104), .val (.int x105), .val (.int x106), .val (.int 6), .val (.ref b329), .val (.int 2), .unset, .unset, .unset] [])
        refine g_aload B W333 at_176 rfl rfl ?_
        refine g_iload B W333 at_178 rfl ?_
        refine g_iload B W333 at_180 rfl ?_
        obtain ⟨T335, h335, W335, K335, A335, st335⟩ := x_castore B W333 (j := 2) (x := x103) at_182 A333 (by decide) (Nat.lt_of_lt_of_eq (show Int32.toNatClampNeg 2 < 6 by decide) rfl) (by omega) #[.val (.int p1), .val (.int p2), .val (.int p3), .val (.int p4), .val (.long p5), .second, .val (.int 0), .val (.int 2), .val (.int 2), .val (.int x101), .val (.int x102), .val (.int x103), .val (.int x104), .val (.int x105), .val (.int x106), .val (.int 6), .val (.ref b329), .val (.int 2), .unset, .unset, .unset] []
        refine st335 _ ?_
        rw [nx103] at A335
        have A335 : Arv Z h335 b329 kA329 .char 6 [(.int 47), (.int x102), (.int x103), (.int 0), (.int 0), (.int 0)] (.int 0) := A335
        have s336 := K335.1
        refine g_iinc B W335 at_183 (v := 1) (l' := #[.val (.int p1), .val (.int p2), .val (.int p3), .val (.int p4), .val (.long p5), .second, .val (.int 0), .val (.int 2), .val (.int 2), .val (.int x101), .val (.int x102), .val (.int x103), .val (.int x104), .val (.int x105), .val (.int x106), .val (.int 6), .val (.ref b329), .val (.int (2 + 1)), .unset, .unset, .unset]) (by decide) rfl rfl ?_
        rw [show (2 + 1 : Int32) = 3 by decide]
        refine g_aload B W335 at_186 rfl rfl ?_
        refine g_iload B W335 at_188 rfl ?_
        refine g_bipush B W335 at_190 (v := 46) (by decide) ?_
        obtain ⟨T337, h337, W337, K337, A337, st337⟩ := x_castore B W335 (j := 3) (x := 46) at_192 A335 (by decide) (Nat.lt_of_lt_of_eq (show Int32.toNatClampNeg 3 < 6 by decide) rfl) (by omega) #[.val (.int p1), .val (.int p2), .val (.int p3), .val (.int p4), .val (.long p5), .second, .val (.int 0), .val (.int 2), .val (.int 2), .val (.int x101), .val (.int x102), .val (.int x103), .val (.int x104), .val (.int x105), .val (.int x106), .val (.int 6), .val (.ref b329), .val (.int 3), .unset, .unset, .unset] []
        refine st337 _ ?_
        rw [show nar .char 46 = 46 by decide] at A337
        have A337 : Arv Z h337 b329 kA329 .char 6 [(.int 47), (.int x102), (.int x103), (.int 46), (.int 0), (.int 0)] (.int 0) := A337
        have s338 := K337.1
        refine g_iinc B W337 at_193 (v := 1) (l' := #[.val (.int p1), .val (.int p2), .val (.int p3), .val (.int p4), .val (.long p5), .second, .val (.int 0), .val (.int 2), .val (.int 2), .val (.int x101), .val (.int x102), .val (.int x103), .val (.int x104), .val (.int x105), .val (.int x106), .val (.int 6), .val (.ref b329), .val (.int (3 + 1)), .unset, .unset, .unset]) (by decide) rfl rfl ?_
        rw [show (3 + 1 : Int32) = 4 by decide]
        refine g_aload B W337 at_196 rfl rfl ?_
        refine g_iload B W337 at_198 rfl ?_
        refine g_iload B W337 at_200 rfl ?_
        obtain ⟨T339, h339, W339, K339, A339, st339⟩ := x_castore B W337 (j := 4) (x := x104) at_202 A337 (by decide) (Nat.lt_of_lt_of_eq (show Int32.toNatClampNeg 4 < 6 by decide) rfl) (by omega) #[.val (.int p1), .val (.int p2), .val (.int p3), .val (.int p4), .val (.long p5), .second, .val (.int 0), .val (.int 2), .val (.int 2), .val (.int x101), .val (.int x102), .val (.int x103), .val (.int x104), .val (.int x105), .val (.int x106), .val (.int 6), .val (.ref b329), .val (.int 4), .unset, .unset, .unset] []
        refine st339 _ ?_
        rw [nx104] at A339
        have A339 : Arv Z h339 b329 kA329 .char 6 [(.int 47), (.int x102), (.int x103), (.int 46), (.int x104), (.int 0)] (.int 0) := A339
        have s340 := K339.1
        refine g_iinc B W339 at_203 (v := 1) (l' := #[.val (.int p1), .val (.int p2), .val (.int p3), .val (.int p4), .val (.long p5), .second, .val (.int 0), .val (.int 2), .val (.int 2), .val (.int x101), .val (.int x102), .val (.int x103), .val (.int x104), .val (.int x105), .val (.int x106), .val (.int 6), .val (.ref b329), .val (.int (4 + 1)), .unset, .unset, .unset]) (by decide) rfl rfl ?_
        rw [show (4 + 1 : Int32) = 5 by decide]
        refine g_iload B W339 at_206 rfl ?_
        refine g_iconst B W339 at_208 (v := 2) (by decide) ?_
        refine g_icmp_n B W339 at_209 (XT.ii_lt_f (by decide)) ?_
        show Go p.tables e below _ T339 (mkF m 212 #[.val (.int p1), .val (.int p2), .val (.int p3), .val (.int p4), .val (.long p5), .second, .val (.int 0), .val (.int 2), .val (.int 2), .val (.int x101), .val (.int x102), .val (.int x103), .val (.int x104), .val (.int x105), .val (.int x106), .val (.int 6), .val (.ref b329), .val (.int 5), .unset, .unset, .unset] [])
        refine g_aload B W339 at_212 rfl rfl ?_
        refine g_iload B W339 at_214 rfl ?_
        refine g_iload B W339 at_216 rfl ?_
        obtain ⟨T341, h341, W341, K341, A341, st341⟩ := x_castore B W339 (j := 5) (x := x105) at_218 A339 (by decide) (Nat.lt_of_lt_of_eq (show Int32.toNatClampNeg 5 < 6 by decide) rfl) (by omega) #[.val (.int p1), .val (.int p2), .val (.int p3), .val (.int p4), .val (.long p5), .second, .val (.int 0), .val (.int 2), .val (.int 2), .val (.int x101), .val (.int x102), .val (.int x103), .val (.int x104), .val (.int x105), .val (.int x106), .val (.int 6), .val (.ref b329), .val (.int 5), .unset, .unset, .unset] []
        refine st341 _ ?_
        rw [nx105] at A341
        have A341 : Arv Z h341 b329 kA329 .char 6 [(.int 47), (.int x102), (.int x103), (.int 46), (.int x104), (.int x105)] (.int 0) := A341
        have s342 := K341.1
        refine g_iinc B W341 at_219 (v := 1) (l' := #[.val (.int p1), .val (.int p2), .val (.int p3), .val (.int p4), .val (.long p5), .second, .val (.int 0), .val (.int 2), .val (.int 2), .val (.int x101), .val (.int x102), .val (.int x103), .val (.int x104), .val (.int x105), .val (.int x106), .val (.int 6), .val (.ref b329), .val (.int (5 + 1)), .unset, .unset, .unset]) (by decide) rfl rfl ?_
        rw [show (5 + 1 : Int32) = 6 by decide]
        refine g_iload B W341 at_222 rfl ?_
        refine g_iconst B W341 at_224 (v := 3) (by decide) ?_
        refine g_icmp_y B W341 at_225 (XT.ii_ne_t (by decide)) (pc' := 238) (by decide) ?_
        show Go p.tables e below _ T341 (mkF m 238 #[.val (.int p1), .val (.int p2), .val (.int p3), .val (.int p4), .val (.long p5), .second, .val (.int 0), .val (.int 2), .val (.int 2), .val (.int x101), .val (.int x102), .val (.int x103), .val (.int x104), .val (.int x105), .val (.int x106), .val (.int 6), .val (.ref b329), .val (.int 6), .unset, .unset, .unset] [])
        refine g_iload B W341 at_238 rfl ?_
        have zs343 := W341.size
        obtain ⟨T344, h344, v344, W344, Q344, st344⟩ := x_static B W341 [(.int 2)] (c_sz2 l Z a0 hw h341) at_240 (tw hw 9 rfl) (tw hw 10 rfl) (tw hw 2 rfl) (tw hw 11 rfl) (by decide) (lenOf pd__I__C rfl) #[.val (.int p1), .val (.int p2), .val (.int p3), .val (.int p4), .val (.long p5), .second, .val (.int 0), .val (.int 2), .val (.int 2), .val (.int x101), .val (.int x102), .val (.int x103), .val (.int x104), .val (.int x105), .val (.int x106), .val (.int 6), .val (.ref b329), .val (.int 6), .unset, .unset, .unset] [] rfl 0 rfl (by decide) (by decide) (by decide) (by decide)
        obtain ⟨b344, kA344, rfl, g344, K344, A344⟩ := Q344
        have s345 := K344.1
        refine st344 _ ?_
        have l344 := nlt A344.lt
        have z344 := W344.size
        refine g_astore B W344 at_243 rfl (l' := #[.val (.int p1), .val (.int p2), .val (.int p3), .val (.int p4), .val (.long p5), .second, .val (.int 0), .val (.int 2), .val (.int 2), .val (.int x101), .val (.int x102), .val (.int x103), .val (.int x104), .val (.int x105), .val (.int x106), .val (.int 6), .val (.ref b329), .val (.int 6), .val (.ref b344), .unset, .unset]) rfl ?_
        refine g_aload B W344 at_245 rfl rfl ?_
        refine g_iconst B W344 at_247 (v := 0) (by decide) ?_
        refine g_iload B W344 at_248 rfl ?_
        obtain ⟨T346, h346, W346, K346, A346, st346⟩ := x_castore B W344 (j := 0) (x := x104) at_250 A344 (by decide) (Nat.lt_of_lt_of_eq (show Int32.toNatClampNeg 0 < 2 by decide) rfl) (by omega) #[.val (.int p1), .val (.int p2), .val (.int p3), .val (.int p4), .val (.long p5), .second, .val (.int 0), .val (.int 2), .val (.int 2), .val (.int x101), .val (.int x102), .val (.int x103), .val (.int x104), .val (.int x105), .val (.int x106), .val (.int 6), .val (.ref b329), .val (.int 6), .val (.ref b344), .unset, .unset] []
        refine st346 _ ?_
        rw [nx104] at A346
        have A346 : Arv Z h346 b344 kA344 .char 2 [(.int x104), (.int 0)] (.int 0) := A346
        have s347 := K346.1
        refine g_iload B W346 at_251 rfl ?_
        refine g_iconst B W346 at_253 (v := 2) (by decide) ?_
        refine g_icmp_n B W346 at_254 (XT.ii_lt_f (by decide)) ?_
        show Go p.tables e below _ T346 (mkF m 257 #[.val (.int p1), .val (.int p2), .val (.int p3), .val (.int p4), .val (.long p5), .second, .val (.int 0), .val (.int 2), .val (.int 2), .val (.int x101), .val (.int x102), .val (.int x103), .val (.int x104), .val (.int x105), .val (.int x106), .val (.int 6), .val (.ref b329), .val (.int 6), .val (.ref b344), .unset, .unset] [])
        refine g_aload B W346 at_257 rfl rfl ?_
        refine g_iconst B W346 at_259 (v := 1) (by decide) ?_
        refine g_iload B W346 at_260 rfl ?_
        obtain ⟨T348, h348, W348, K348, A348, st348⟩ := x_castore B W346 (j := 1) (x := x105) at_262 A346 (by decide) (Nat.lt_of_lt_of_eq (show Int32.toNatClampNeg 1 < 2 by decide) rfl) (by omega) #[.val (.int p1), .val (.int p2), .val (.int p3), .val (.int p4), .val (.long p5), .second, .val (.int 0), .val (.int 2), .val (.int 2), .val (.int x101), .val (.int x102), .val (.int x103), .val (.int x104), .val (.int x105), .val (.int x106), .val (.int 6), .val (.ref b329), .val (.int 6), .val (.ref b344), .unset, .unset] []
        refine st348 _ ?_
        rw [nx105] at A348
        have A348 : Arv Z h348 b344 kA344 .char 2 [(.int x104), (.int x105)] (.int 0) := A348
        have s349 := K348.1
        refine g_iload B W348 at_263 rfl ?_
        refine g_iconst B W348 at_265 (v := 3) (by decide) ?_
        refine g_icmp_y B W348 at_266 (XT.ii_ne_t (by decide)) (pc' := 275) (by decide) ?_
        show Go p.tables e below _ T348 (mkF m 275 #[.val (.int p1), .val (.int p2), .val (.int p3), .val (.int p4), .val (.long p5), .second, .val (.int 0), .val (.int 2), .val (.int 2), .val (.int x101), .val (.int x102), .val (.int x103), .val (.int x104), .val (.int x105), .val (.int x106), .val (.int 6), .val (.ref b329), .val (.int 6), .val (.ref b344), .unset, .unset] [])
        obtain ⟨T350, h350, b350, gb350, W350, K350, E350, D350, st350⟩ := x_new B W348 at_275 (tw hw 13 rfl) (tw hw 14 rfl) (tw hw 15 rfl) (by decide) (by decide) #[.val (.int p1), .val (.int p2), .val (.int p3), .val (.int p4), .val (.long p5), .second, .val (.int 0), .val (.int 2), .val (.int 2), .val (.int x101), .val (.int x102), .val (.int x103), .val (.int x104), .val (.int x105), .val (.int x106), .val (.int 6), .val (.ref b329), .val (.int 6), .val (.ref b344), .unset, .unset] []
        have l350 := nlt E350.lt
        have z350 := W348.size
        refine st350 _ ?_
        have s351 := K350.1
        have f352 : Fld Z h350 b350 "java/lang/String" "coder" "B" (.int 0) := D350 (Or.inr (tw hw 39 rfl)) (ty := .byte) (by decide)
        have f353 : Fld Z h350 b350 "java/lang/String" "value" "[B" .null := D350 (Or.inr (tw hw 41 rfl)) (ty := (.array .byte)) (by decide)
        refine g_dup B W350 at_278 rfl ?_
        refine g_aload B W350 at_279 rfl rfl ?_
        have f355 := (A348.keep K350 nin0)
        obtain ⟨T354, h354, v354, L354, W354, Q354, st354⟩ := x_specialB B W350 (b := b350) (rc := 1) (rs := 2) [(.ref b344)] (fun s' hZ' => StrChars.Road.backV (W := 1) hZ' (fun d hd => hw d (own_words d hd)) (kI := 4) (tw hw 14 rfl) (cs := ([x104, x105] : List Int32)) (bs := ([x104, x105] : List Int32).map (fun c => c.toInt8.toInt32)) (n := 2) (n0 := Z.heap.size) (by omega) W350.size E350 f353 f352 f355 (Scs.ext W350.old.2) hcz rfl (by decide) (by decide) (by decide) (by simp only [List.mem_cons, List.not_mem_nil, or_false]; rintro c (rfl | rfl) <;> first | assumption | decide) rfl (by decide) (by decide)) at_281 rfl (tw hw 16 rfl) (tw hw 17 rfl) (tw hw 18 rfl) (by decide) (lenOf pd___C_V rfl) #[.val (.int p1), .val (.int p2), .val (.int p3), .val (.int p4), .val (.long p5), .second, .val (.int 0), .val (.int 2), .val (.int 2), .val (.int x101), .val (.int x102), .val (.int x103), .val (.int x104), .val (.int x105), .val (.int x106), .val (.int 6), .val (.ref b329), .val (.int 6), .val (.ref b344), .unset, .unset] [(.ref b350)] rfl rfl (by decide) (by decide) [b350] (allS (by omega) all0) (fun _ _ _ q => ⟨q.2.1, q.2.2.1⟩)
        obtain ⟨rfl, -, K354, E354, Fc354, t354, kb354, gt354, gu354, -, Fv354, A354⟩ := Q354
        refine st354 _ ?_
        have s356 := K354.1
        have lt354 := nlt A354.lt
        have S357 : StrIs Z h354 b350 [x104, x105] := ⟨t354, kb354, E354, Fc354, Fv354, A354, (by simp only [List.mem_cons, List.not_mem_nil, or_false]; rintro c (rfl | rfl) <;> first | assumption | decide), by simp⟩
        refine g_astore B W354 at_284 rfl (l' := #[.val (.int p1), .val (.int p2), .val (.int p3), .val (.int p4), .val (.long p5), .second, .val (.int 0), .val (.int 2), .val (.int 2), .val (.int x101), .val (.int x102), .val (.int x103), .val (.int x104), .val (.int x105), .val (.int x106), .val (.int 6), .val (.ref b329), .val (.int 6), .val (.ref b344), .val (.ref b350), .unset]) rfl ?_
        obtain ⟨T358, h358, b358, gb358, W358, K358, E358, D358, st358⟩ := x_new B W354 at_286 (tw hw 42 rfl) (tw hw 43 rfl) (tw hw 44 rfl) (by decide) (by decide) #[.val (.int p1), .val (.int p2), .val (.int p3), .val (.int p4), .val (.long p5), .second, .val (.int 0), .val (.int 2), .val (.int 2), .val (.int x101), .val (.int x102), .val (.int x103), .val (.int x104), .val (.int x105), .val (.int x106), .val (.int 6), .val (.ref b329), .val (.int 6), .val (.ref b344), .val (.ref b350), .unset] []
        have l358 := nlt E358.lt
        have z358 := W354.size
        refine st358 _ ?_
        have s359 := K358.1
        have f360 : Fld Z h358 b358 "com/example/presswright/presswright/publishing/FilePath" "path" "Ljava/lang/String;" .null := D358 (Or.inr (tw hw 175 rfl)) (ty := (.object "java/lang/String")) (by decide)
        refine g_dup B W358 at_289 rfl ?_
        obtain ⟨T361, h361, b361, gb361, W361, K361, E361, D361, st361⟩ := x_new B W358 at_290 (tw hw 13 rfl) (tw hw 14 rfl) (tw hw 15 rfl) (by decide) (by decide) #[.val (.int p1), .val (.int p2), .val (.int p3), .val (.int p4), .val (.long p5), .second, .val (.int 0), .val (.int 2), .val (.int 2), .val (.int x101), .val (.int x102), .val (.int x103), .val (.int x104), .val (.int x105), .val (.int x106), .val (.int 6), .val (.ref b329), .val (.int 6), .val (.ref b344), .val (.ref b350), .unset] [(.ref b358), (.ref b358)]
        have l361 := nlt E361.lt
        have z361 := W358.size
        refine st361 _ ?_
        have s362 := K361.1
        have f363 : Fld Z h361 b361 "java/lang/String" "coder" "B" (.int 0) := D361 (Or.inr (tw hw 39 rfl)) (ty := .byte) (by decide)
        have f364 : Fld Z h361 b361 "java/lang/String" "value" "[B" .null := D361 (Or.inr (tw hw 41 rfl)) (ty := (.array .byte)) (by decide)
        refine g_dup B W361 at_293 rfl ?_
        refine g_aload B W361 at_294 rfl rfl ?_
        have f366 := (A341.keep K344 nin0)
        have f367 := (f366.keep K346 (ninS (nne (by have q := nlt f366.lt; omega)) nin0))
        have f368 := ((f367.keep K348 (ninS (nne (by have q := nlt f367.lt; omega)) nin0)).keep K350 nin0)
        have f369 := (((f368.keep K354 (ninS (nne (by have q := nlt f368.lt; omega)) nin0)).keep K358 nin0).keep K361 nin0)
        obtain ⟨T365, h365, v365, L365, W365, Q365, st365⟩ := x_specialB B W361 (b := b361) (rc := 1) (rs := 6) [(.ref b329)] (fun s' hZ' => StrChars.Road.backV (W := 3) hZ' (fun d hd => hw d (own_words d hd)) (kI := 4) (tw hw 14 rfl) (cs := ([47, x102, x103, 46, x104, x105] : List Int32)) (bs := ([47, x102, x103, 46, x104, x105] : List Int32).map (fun c => c.toInt8.toInt32)) (n := 6) (n0 := Z.heap.size) (by omega) W361.size E361 f364 f363 f369 (Scs.ext W361.old.2) hcz rfl (by decide) (by decide) (by decide) (by simp only [List.mem_cons, List.not_mem_nil, or_false]; rintro c (rfl | rfl | rfl | rfl | rfl | rfl) <;> first | assumption | decide) rfl (by decide) (by decide)) at_296 rfl (tw hw 16 rfl) (tw hw 17 rfl) (tw hw 18 rfl) (by decide) (lenOf pd___C_V rfl) #[.val (.int p1), .val (.int p2), .val (.int p3), .val (.int p4), .val (.long p5), .second, .val (.int 0), .val (.int 2), .val (.int 2), .val (.int x101), .val (.int x102), .val (.int x103), .val (.int x104), .val (.int x105), .val (.int x106), .val (.int 6), .val (.ref b329), .val (.int 6), .val (.ref b344), .val (.ref b350), .unset] [(.ref b361), (.ref b358), (.ref b358)] rfl rfl (by decide) (by decide) [b361] (allS (by omega) all0) (fun _ _ _ q => ⟨q.2.1, q.2.2.1⟩)
        obtain ⟨rfl, -, K365, E365, Fc365, t365, kb365, gt365, gu365, -, Fv365, A365⟩ := Q365
        refine st365 _ ?_
        have s370 := K365.1
        have lt365 := nlt A365.lt
        have S371 : StrIs Z h365 b361 [47, x102, x103, 46, x104, x105] := ⟨t365, kb365, E365, Fc365, Fv365, A365, (by simp only [List.mem_cons, List.not_mem_nil, or_false]; rintro c (rfl | rfl | rfl | rfl | rfl | rfl) <;> first | assumption | decide), by simp⟩
        obtain ⟨fp, hfp⟩ : ∃ f : Nat → Int32, f = fun i => ([47, x102, x103, 46, x104, x105] : List Int32).getD i 0 := ⟨_, rfl⟩
        have ep0 : fp 0 = 47 := by rw [hfp]; rfl
        have ep1 : fp 1 = x102 := by rw [hfp]; rfl
        have ep2 : fp 2 = x103 := by rw [hfp]; rfl
        have ep3 : fp 3 = 46 := by rw [hfp]; rfl
        have ep4 : fp 4 = x104 := by rw [hfp]; rfl
        have ep5 : fp 5 = x105 := by rw [hfp]; rfl
        have Sfp : StrIs Z h365 b361 (lst 6 fp) := by rw [show lst 6 fp = [47, x102, x103, 46, x104, x105] by rw [hfp]; rfl]; exact S371
        have f372 := ((E358.keep K361).keep K365)
        have f373 := (f360.keep K361 nin0)
        have f374 := (f373.keep K365 (ninS (nne (by have q := nlt f373.lt; omega)) nin0))
        obtain ⟨T375, h375, v375, W375, Q375, st375⟩ := x_special B W365 (b := b358) [(.ref b361)] (c_fp0 l Z a0 hw b358 b361 6 fp 3 cz sf h365 Scs hcz Ssf rsf f372 f374 (by omega) Sfp (by omega) ep0 (by intro j h1 h2; obtain rfl | rfl | rfl | rfl | rfl : j = 1 ∨ j = 2 ∨ j = 3 ∨ j = 4 ∨ j = 5 := (by omega); (· exact (by rw [ep1]; exact g102.n47)); (· exact (by rw [ep2]; exact g103.n47)); (· exact (by rw [ep3]; exact (by decide))); (· exact (by rw [ep4]; exact g104.n47)); (· exact (by rw [ep5]; exact g105.n47))) (by omega) (by omega) ep3 (by intro j h1 h2 h3; obtain rfl | rfl | rfl | rfl : j = 1 ∨ j = 2 ∨ j = 4 ∨ j = 5 := (by omega); (· exact (by rw [ep1]; exact g102.ok (by omega))); (· exact (by rw [ep2]; exact g103.ok (by omega))); (· exact (by rw [ep4]; exact Or.inl q104)); (· exact (by rw [ep5]; exact Or.inl q105)))) at_299 rfl (tw hw 45 rfl) (tw hw 46 rfl) (tw hw 44 rfl) (tw hw 47 rfl) (by decide) (lenOf pd__Ljava_lang_String__V rfl) #[.val (.int p1), .val (.int p2), .val (.int p3), .val (.int p4), .val (.long p5), .second, .val (.int 0), .val (.int 2), .val (.int 2), .val (.int x101), .val (.int x102), .val (.int x103), .val (.int x104), .val (.int x105), .val (.int x106), .val (.int 6), .val (.ref b329), .val (.int 6), .val (.ref b344), .val (.ref b350), .unset] [(.ref b358)] rfl 1 rfl (by decide) (by decide) (by decide) (by decide)
        obtain ⟨rfl, K375, E375, F375⟩ := Q375
        have s376 := K375.1
        refine st375 _ ?_
        have f378 := (E365.keep K375)
        have f379 := (Fc365.keep K375 (ninS (nne (by have q := nlt Fc365.lt; omega)) nin0))
        have f380 := (Fv365.keep K375 (ninS (nne (by have q := nlt Fv365.lt; omega)) nin0))
        have f381 := (A365.keep K375 (ninS (nne (by have q := nlt A365.lt; omega)) nin0))
        have S377 : StrIs Z h375 b361 (lst 6 fp) := by rw [show lst 6 fp = [47, x102, x103, 46, x104, x105] by rw [hfp]; rfl]; exact ⟨t365, kb365, f378, f379, f380, f381, (by simp only [List.mem_cons, List.not_mem_nil, or_false]; rintro c (rfl | rfl | rfl | rfl | rfl | rfl) <;> first | assumption | decide), by simp⟩
        obtain ⟨T382, h382, v382, W382, Q382, st382⟩ := x_virtual B W375 (b := b358) [] (c_extn l Z a0 hw b358 b361 6 fp 3 cz sf h375 Scs hcz Ssf rsf F375 S377 (by omega) (by omega) ep3 (by intro j h1 h2; obtain rfl | rfl : j = 4 ∨ j = 5 := (by omega); (· exact (by rw [ep4]; exact g104.n46)); (· exact (by rw [ep5]; exact g105.n46)))) E375 at_302 (tw hw 176 rfl) (tw hw 177 rfl) (tw hw 179 rfl) (tw hw 178 rfl) (tw hw 44 rfl) (tw hw 180 rfl) (by decide) (lenOf pd___Ljava_lang_String_ rfl) #[.val (.int p1), .val (.int p2), .val (.int p3), .val (.int p4), .val (.long p5), .second, .val (.int 0), .val (.int 2), .val (.int 2), .val (.int x101), .val (.int x102), .val (.int x103), .val (.int x104), .val (.int x105), .val (.int x106), .val (.int 6), .val (.ref b329), .val (.int 6), .val (.ref b344), .val (.ref b350), .unset] [] rfl 0 rfl (by decide) (by decide) (by decide) (by decide)
        obtain ⟨b382, rfl, K382, S382⟩ := Q382
        have s383 := K382.1
        refine st382 _ ?_
        have S382 : StrIs Z h382 b382 (lst 2 fun i => fp (4 + i)) := S382
        refine g_astore B W382 at_305 rfl (l' := #[.val (.int p1), .val (.int p2), .val (.int p3), .val (.int p4), .val (.long p5), .second, .val (.int 0), .val (.int 2), .val (.int 2), .val (.int x101), .val (.int x102), .val (.int x103), .val (.int x104), .val (.int x105), .val (.int x106), .val (.int 6), .val (.ref b329), .val (.int 6), .val (.ref b344), .val (.ref b350), .val (.ref b382)]) rfl ?_
        refine g_aload B W382 at_307 rfl rfl ?_
        refine g_aload B W382 at_309 rfl rfl ?_
        have f385 := (S357.keep ((((((Keep.refl h354 []).trans K358 all0).trans K361 all0).trans K365 (allS (Or.inr (by omega)) all0)).trans K375 (allS (Or.inr (by omega)) all0)).trans K382 all0))
        obtain ⟨T384, h384, v384, L384, W384, Q384, st384⟩ := x_virtualB B W382 (b := b382) (V := 0) (rc := 0) (rs := 0) (QL := fun v h' L => v = some (.int (bi (decide ((lst 2 fun i => fp (4 + i)) = [x104, x105])))) ∧ L = [] ∧ h382 = h') [(.ref b350)] (fun s' hZ' => own_eqB hw S382 f385 (Scs.ext W382.old.2) hcz (tw hw 14 rfl) (by decide) (by decide) hZ') S382.exa at_311 (tw hw 181 rfl) (tw hw 182 rfl) (tw hw 184 rfl) (tw hw 183 rfl) (by decide) (lenOf pd__Ljava_lang_Object__Z rfl) #[.val (.int p1), .val (.int p2), .val (.int p3), .val (.int p4), .val (.long p5), .second, .val (.int 0), .val (.int 2), .val (.int 2), .val (.int x101), .val (.int x102), .val (.int x103), .val (.int x104), .val (.int x105), .val (.int x106), .val (.int 6), .val (.ref b329), .val (.int 6), .val (.ref b344), .val (.ref b350), .val (.ref b382)] [] rfl rfl (by decide) (by decide) [] all0 (fun _ _ _ q => ⟨q.2.1 ▸ Fr.nil _, q.2.2 ▸ Keep.refl _ _⟩)
        obtain ⟨rfl, -, rfl⟩ := Q384
        refine st384 _ ?_
        exact r_b B W384 at_314 (by decide) (by decide) (by show some (Value.int (bi (decide ((lst 2 fun i => fp (4 + i)) = [x104, x105])))) = some (.int 1); rw [show (decide ((lst 2 fun i => fp (4 + i)) = [x104, x105])) = true from decide_eq_true (by show ([fp 4, fp 5] : List Int32) = _; rw [ep4, ep5])]; rfl)
      · skip
        show Go p.tables e below _ T106 (mkF m 93 #[.val (.int p1), .val (.int p2), .val (.int p3), .val (.int p4), .val (.long p5), .second, .val (.int 0), .val (.int 2), .val (.int 3), .val (.int x101), .val (.int x102), .val (.int x103), .val (.int x104), .val (.int x105), .val (.int x106), .unset, .unset, .unset, .unset, .unset, .unset] [])
        refine g_iconst B W106 at_93 (v := 1) (by decide) ?_
        refine g_iload B W106 at_94 rfl ?_
        refine g_if_y B W106 at_96 (XT.i0_eq_t (by decide)) (pc' := 103) (by decide) ?_
        show Go p.tables e below _ T106 (mkF m 103 #[.val (.int p1), .val (.int p2), .val (.int p3), .val (.int p4), .val (.long p5), .second, .val (.int 0), .val (.int 2), .val (.int 3), .val (.int x101), .val (.int x102), .val (.int x103), .val (.int x104), .val (.int x105), .val (.int x106), .unset, .unset, .unset, .unset, .unset, .unset] [(.int 1)])
        refine g_iconst B W106 at_103 (v := 0) (by decide) ?_
        refine g_iadd B W106 at_104  ?_
        rw [show (1 + 0 : Int32) = 1 by decide]
        refine g_iload B W106 at_105 rfl ?_
        refine g_iadd B W106 at_107  ?_
        rw [show (1 + 2 : Int32) = 3 by decide]
        refine g_iconst B W106 at_108 (v := 1) (by decide) ?_
        refine g_iadd B W106 at_109  ?_
        rw [show (3 + 1 : Int32) = 4 by decide]
        refine g_iload B W106 at_110 rfl ?_
        refine g_iadd B W106 at_112  ?_
        rw [show (4 + 3 : Int32) = 7 by decide]
        refine g_istore B W106 at_113  (l' := #[.val (.int p1), .val (.int p2), .val (.int p3), .val (.int p4), .val (.long p5), .second, .val (.int 0), .val (.int 2), .val (.int 3), .val (.int x101), .val (.int x102), .val (.int x103), .val (.int x104), .val (.int x105), .val (.int x106), .val (.int 7), .unset, .unset, .unset, .unset, .unset]) rfl ?_
        refine g_iload B W106 at_115 rfl ?_
        have zs386 := W106.size
        obtain ⟨T387, h387, v387, W387, Q387, st387⟩ := x_static B W106 [(.int 7)] (c_sz7 l Z a0 hw h0) at_117 (tw hw 9 rfl) (tw hw 10 rfl) (tw hw 2 rfl) (tw hw 11 rfl) (by decide) (lenOf pd__I__C rfl) #[.val (.int p1), .val (.int p2), .val (.int p3), .val (.int p4), .val (.long p5), .second, .val (.int 0), .val (.int 2), .val (.int 3), .val (.int x101), .val (.int x102), .val (.int x103), .val (.int x104), .val (.int x105), .val (.int x106), .val (.int 7), .unset, .unset, .unset, .unset, .unset] [] rfl 0 rfl (by decide) (by decide) (by decide) (by decide)
        obtain ⟨b387, kA387, rfl, g387, K387, A387⟩ := Q387
        have s388 := K387.1
        refine st387 _ ?_
        have l387 := nlt A387.lt
        have z387 := W387.size
        refine g_astore B W387 at_120 rfl (l' := #[.val (.int p1), .val (.int p2), .val (.int p3), .val (.int p4), .val (.long p5), .second, .val (.int 0), .val (.int 2), .val (.int 3), .val (.int x101), .val (.int x102), .val (.int x103), .val (.int x104), .val (.int x105), .val (.int x106), .val (.int 7), .val (.ref b387), .unset, .unset, .unset, .unset]) rfl ?_
        refine g_iconst B W387 at_122 (v := 0) (by decide) ?_
        refine g_istore B W387 at_123  (l' := #[.val (.int p1), .val (.int p2), .val (.int p3), .val (.int p4), .val (.long p5), .second, .val (.int 0), .val (.int 2), .val (.int 3), .val (.int x101), .val (.int x102), .val (.int x103), .val (.int x104), .val (.int x105), .val (.int x106), .val (.int 7), .val (.ref b387), .val (.int 0), .unset, .unset, .unset]) rfl ?_
        refine g_aload B W387 at_125 rfl rfl ?_
        refine g_iload B W387 at_127 rfl ?_
        refine g_bipush B W387 at_129 (v := 47) (by decide) ?_
        obtain ⟨T389, h389, W389, K389, A389, st389⟩ := x_castore B W387 (j := 0) (x := 47) at_131 A387 (by decide) (Nat.lt_of_lt_of_eq (show Int32.toNatClampNeg 0 < 7 by decide) rfl) (by omega) #[.val (.int p1), .val (.int p2), .val (.int p3), .val (.int p4), .val (.long p5), .second, .val (.int 0), .val (.int 2), .val (.int 3), .val (.int x101), .val (.int x102), .val (.int x103), .val (.int x104), .val (.int x105), .val (.int x106), .val (.int 7), .val (.ref b387), .val (.int 0), .unset, .unset, .unset] []
        refine st389 _ ?_
        rw [show nar .char 47 = 47 by decide] at A389
        have A389 : Arv Z h389 b387 kA387 .char 7 [(.int 47), (.int 0), (.int 0), (.int 0), (.int 0), (.int 0), (.int 0)] (.int 0) := A389
        have s390 := K389.1
        refine g_iinc B W389 at_132 (v := 1) (l' := #[.val (.int p1), .val (.int p2), .val (.int p3), .val (.int p4), .val (.long p5), .second, .val (.int 0), .val (.int 2), .val (.int 3), .val (.int x101), .val (.int x102), .val (.int x103), .val (.int x104), .val (.int x105), .val (.int x106), .val (.int 7), .val (.ref b387), .val (.int (0 + 1)), .unset, .unset, .unset]) (by decide) rfl rfl ?_
        rw [show (0 + 1 : Int32) = 1 by decide]
        refine g_iload B W389 at_135 rfl ?_
        refine g_if_y B W389 at_137 (XT.i0_eq_t (by decide)) (pc' := 160) (by decide) ?_
        show Go p.tables e below _ T389 (mkF m 160 #[.val (.int p1), .val (.int p2), .val (.int p3), .val (.int p4), .val (.long p5), .second, .val (.int 0), .val (.int 2), .val (.int 3), .val (.int x101), .val (.int x102), .val (.int x103), .val (.int x104), .val (.int x105), .val (.int x106), .val (.int 7), .val (.ref b387), .val (.int 1), .unset, .unset, .unset] [])
        refine g_aload B W389 at_160 rfl rfl ?_
        refine g_iload B W389 at_162 rfl ?_
        refine g_iload B W389 at_164 rfl ?_
        obtain ⟨T391, h391, W391, K391, A391, st391⟩ := x_castore B W389 (j := 1) (x := x102) at_166 A389 (by decide) (Nat.lt_of_lt_of_eq (show Int32.toNatClampNeg 1 < 7 by decide) rfl) (by omega) #[.val (.int p1), .val (.int p2), .val (.int p3), .val (.int p4), .val (.long p5), .second, .val (.int 0), .val (.int 2), .val (.int 3), .val (.int x101), .val (.int x102), .val (.int x103), .val (.int x104), .val (.int x105), .val (.int x106), .val (.int 7), .val (.ref b387), .val (.int 1), .unset, .unset, .unset] []
        refine st391 _ ?_
        rw [nx102] at A391
        have A391 : Arv Z h391 b387 kA387 .char 7 [(.int 47), (.int x102), (.int 0), (.int 0), (.int 0), (.int 0), (.int 0)] (.int 0) := A391
        have s392 := K391.1
        refine g_iinc B W391 at_167 (v := 1) (l' := #[.val (.int p1), .val (.int p2), .val (.int p3), .val (.int p4), .val (.long p5), .second, .val (.int 0), .val (.int 2), .val (.int 3), .val (.int x101), .val (.int x102), .val (.int x103), .val (.int x104), .val (.int x105), .val (.int x106), .val (.int 7), .val (.ref b387), .val (.int (1 + 1)), .unset, .unset, .unset]) (by decide) rfl rfl ?_
        rw [show (1 + 1 : Int32) = 2 by decide]
        refine g_iload B W391 at_170 rfl ?_
        refine g_iconst B W391 at_172 (v := 2) (by decide) ?_
        refine g_icmp_n B W391 at_173 (XT.ii_ne_f (by decide)) ?_
        show Go p.tables e below _ T391 (mkF m 176 #[.val (.int p1), .val (.int p2), .val (.int p3), .val (.int p4), .val (.long p5), .second, .val (.int 0), .val (.int 2), .val (.int 3), .val (.int x101), .val (.int x102), .val (.int x103), .val (.int x104), .val (.int x105), .val (.int x106), .val (.int 7), .val (.ref b387), .val (.int 2), .unset, .unset, .unset] [])
        refine g_aload B W391 at_176 rfl rfl ?_
        refine g_iload B W391 at_178 rfl ?_
        refine g_iload B W391 at_180 rfl ?_
        obtain ⟨T393, h393, W393, K393, A393, st393⟩ := x_castore B W391 (j := 2) (x := x103) at_182 A391 (by decide) (Nat.lt_of_lt_of_eq (show Int32.toNatClampNeg 2 < 7 by decide) rfl) (by omega) #[.val (.int p1), .val (.int p2), .val (.int p3), .val (.int p4), .val (.long p5), .second, .val (.int 0), .val (.int 2), .val (.int 3), .val (.int x101), .val (.int x102), .val (.int x103), .val (.int x104), .val (.int x105), .val (.int x106), .val (.int 7), .val (.ref b387), .val (.int 2), .unset, .unset, .unset] []
        refine st393 _ ?_
        rw [nx103] at A393
        have A393 : Arv Z h393 b387 kA387 .char 7 [(.int 47), (.int x102), (.int x103), (.int 0), (.int 0), (.int 0), (.int 0)] (.int 0) := A393
        have s394 := K393.1
        refine g_iinc B W393 at_183 (v := 1) (l' := #[.val (.int p1), .val (.int p2), .val (.int p3), .val (.int p4), .val (.long p5), .second, .val (.int 0), .val (.int 2), .val (.int 3), .val (.int x101), .val (.int x102), .val (.int x103), .val (.int x104), .val (.int x105), .val (.int x106), .val (.int 7), .val (.ref b387), .val (.int (2 + 1)), .unset, .unset, .unset]) (by decide) rfl rfl ?_
        rw [show (2 + 1 : Int32) = 3 by decide]
        refine g_aload B W393 at_186 rfl rfl ?_
        refine g_iload B W393 at_188 rfl ?_
        refine g_bipush B W393 at_190 (v := 46) (by decide) ?_
        obtain ⟨T395, h395, W395, K395, A395, st395⟩ := x_castore B W393 (j := 3) (x := 46) at_192 A393 (by decide) (Nat.lt_of_lt_of_eq (show Int32.toNatClampNeg 3 < 7 by decide) rfl) (by omega) #[.val (.int p1), .val (.int p2), .val (.int p3), .val (.int p4), .val (.long p5), .second, .val (.int 0), .val (.int 2), .val (.int 3), .val (.int x101), .val (.int x102), .val (.int x103), .val (.int x104), .val (.int x105), .val (.int x106), .val (.int 7), .val (.ref b387), .val (.int 3), .unset, .unset, .unset] []
        refine st395 _ ?_
        rw [show nar .char 46 = 46 by decide] at A395
        have A395 : Arv Z h395 b387 kA387 .char 7 [(.int 47), (.int x102), (.int x103), (.int 46), (.int 0), (.int 0), (.int 0)] (.int 0) := A395
        have s396 := K395.1
        refine g_iinc B W395 at_193 (v := 1) (l' := #[.val (.int p1), .val (.int p2), .val (.int p3), .val (.int p4), .val (.long p5), .second, .val (.int 0), .val (.int 2), .val (.int 3), .val (.int x101), .val (.int x102), .val (.int x103), .val (.int x104), .val (.int x105), .val (.int x106), .val (.int 7), .val (.ref b387), .val (.int (3 + 1)), .unset, .unset, .unset]) (by decide) rfl rfl ?_
        rw [show (3 + 1 : Int32) = 4 by decide]
        refine g_aload B W395 at_196 rfl rfl ?_
        refine g_iload B W395 at_198 rfl ?_
        refine g_iload B W395 at_200 rfl ?_
        obtain ⟨T397, h397, W397, K397, A397, st397⟩ := x_castore B W395 (j := 4) (x := x104) at_202 A395 (by decide) (Nat.lt_of_lt_of_eq (show Int32.toNatClampNeg 4 < 7 by decide) rfl) (by omega) #[.val (.int p1), .val (.int p2), .val (.int p3), .val (.int p4), .val (.long p5), .second, .val (.int 0), .val (.int 2), .val (.int 3), .val (.int x101), .val (.int x102), .val (.int x103), .val (.int x104), .val (.int x105), .val (.int x106), .val (.int 7), .val (.ref b387), .val (.int 4), .unset, .unset, .unset] []
        refine st397 _ ?_
        rw [nx104] at A397
        have A397 : Arv Z h397 b387 kA387 .char 7 [(.int 47), (.int x102), (.int x103), (.int 46), (.int x104), (.int 0), (.int 0)] (.int 0) := A397
        have s398 := K397.1
        refine g_iinc B W397 at_203 (v := 1) (l' := #[.val (.int p1), .val (.int p2), .val (.int p3), .val (.int p4), .val (.long p5), .second, .val (.int 0), .val (.int 2), .val (.int 3), .val (.int x101), .val (.int x102), .val (.int x103), .val (.int x104), .val (.int x105), .val (.int x106), .val (.int 7), .val (.ref b387), .val (.int (4 + 1)), .unset, .unset, .unset]) (by decide) rfl rfl ?_
        rw [show (4 + 1 : Int32) = 5 by decide]
        refine g_iload B W397 at_206 rfl ?_
        refine g_iconst B W397 at_208 (v := 2) (by decide) ?_
        refine g_icmp_n B W397 at_209 (XT.ii_lt_f (by decide)) ?_
        show Go p.tables e below _ T397 (mkF m 212 #[.val (.int p1), .val (.int p2), .val (.int p3), .val (.int p4), .val (.long p5), .second, .val (.int 0), .val (.int 2), .val (.int 3), .val (.int x101), .val (.int x102), .val (.int x103), .val (.int x104), .val (.int x105), .val (.int x106), .val (.int 7), .val (.ref b387), .val (.int 5), .unset, .unset, .unset] [])
        refine g_aload B W397 at_212 rfl rfl ?_
        refine g_iload B W397 at_214 rfl ?_
        refine g_iload B W397 at_216 rfl ?_
        obtain ⟨T399, h399, W399, K399, A399, st399⟩ := x_castore B W397 (j := 5) (x := x105) at_218 A397 (by decide) (Nat.lt_of_lt_of_eq (show Int32.toNatClampNeg 5 < 7 by decide) rfl) (by omega) #[.val (.int p1), .val (.int p2), .val (.int p3), .val (.int p4), .val (.long p5), .second, .val (.int 0), .val (.int 2), .val (.int 3), .val (.int x101), .val (.int x102), .val (.int x103), .val (.int x104), .val (.int x105), .val (.int x106), .val (.int 7), .val (.ref b387), .val (.int 5), .unset, .unset, .unset] []
        refine st399 _ ?_
        rw [nx105] at A399
        have A399 : Arv Z h399 b387 kA387 .char 7 [(.int 47), (.int x102), (.int x103), (.int 46), (.int x104), (.int x105), (.int 0)] (.int 0) := A399
        have s400 := K399.1
        refine g_iinc B W399 at_219 (v := 1) (l' := #[.val (.int p1), .val (.int p2), .val (.int p3), .val (.int p4), .val (.long p5), .second, .val (.int 0), .val (.int 2), .val (.int 3), .val (.int x101), .val (.int x102), .val (.int x103), .val (.int x104), .val (.int x105), .val (.int x106), .val (.int 7), .val (.ref b387), .val (.int (5 + 1)), .unset, .unset, .unset]) (by decide) rfl rfl ?_
        rw [show (5 + 1 : Int32) = 6 by decide]
        refine g_iload B W399 at_222 rfl ?_
        refine g_iconst B W399 at_224 (v := 3) (by decide) ?_
        refine g_icmp_n B W399 at_225 (XT.ii_ne_f (by decide)) ?_
        show Go p.tables e below _ T399 (mkF m 228 #[.val (.int p1), .val (.int p2), .val (.int p3), .val (.int p4), .val (.long p5), .second, .val (.int 0), .val (.int 2), .val (.int 3), .val (.int x101), .val (.int x102), .val (.int x103), .val (.int x104), .val (.int x105), .val (.int x106), .val (.int 7), .val (.ref b387), .val (.int 6), .unset, .unset, .unset] [])
        refine g_aload B W399 at_228 rfl rfl ?_
        refine g_iload B W399 at_230 rfl ?_
        refine g_iload B W399 at_232 rfl ?_
        obtain ⟨T401, h401, W401, K401, A401, st401⟩ := x_castore B W399 (j := 6) (x := x106) at_234 A399 (by decide) (Nat.lt_of_lt_of_eq (show Int32.toNatClampNeg 6 < 7 by decide) rfl) (by omega) #[.val (.int p1), .val (.int p2), .val (.int p3), .val (.int p4), .val (.long p5), .second, .val (.int 0), .val (.int 2), .val (.int 3), .val (.int x101), .val (.int x102), .val (.int x103), .val (.int x104), .val (.int x105), .val (.int x106), .val (.int 7), .val (.ref b387), .val (.int 6), .unset, .unset, .unset] []
        refine st401 _ ?_
        rw [nx106] at A401
        have A401 : Arv Z h401 b387 kA387 .char 7 [(.int 47), (.int x102), (.int x103), (.int 46), (.int x104), (.int x105), (.int x106)] (.int 0) := A401
        have s402 := K401.1
        refine g_iinc B W401 at_235 (v := 1) (l' := #[.val (.int p1), .val (.int p2), .val (.int p3), .val (.int p4), .val (.long p5), .second, .val (.int 0), .val (.int 2), .val (.int 3), .val (.int x101), .val (.int x102), .val (.int x103), .val (.int x104), .val (.int x105), .val (.int x106), .val (.int 7), .val (.ref b387), .val (.int (6 + 1)), .unset, .unset, .unset]) (by decide) rfl rfl ?_
        rw [show (6 + 1 : Int32) = 7 by decide]
        refine g_iload B W401 at_238 rfl ?_
        have zs403 := W401.size
        obtain ⟨T404, h404, v404, W404, Q404, st404⟩ := x_static B W401 [(.int 3)] (c_sz3 l Z a0 hw h401) at_240 (tw hw 9 rfl) (tw hw 10 rfl) (tw hw 2 rfl) (tw hw 11 rfl) (by decide) (lenOf pd__I__C rfl) #[.val (.int p1), .val (.int p2), .val (.int p3), .val (.int p4), .val (.long p5), .second, .val (.int 0), .val (.int 2), .val (.int 3), .val (.int x101), .val (.int x102), .val (.int x103), .val (.int x104), .val (.int x105), .val (.int x106), .val (.int 7), .val (.ref b387), .val (.int 7), .unset, .unset, .unset] [] rfl 0 rfl (by decide) (by decide) (by decide) (by decide)
        obtain ⟨b404, kA404, rfl, g404, K404, A404⟩ := Q404
        have s405 := K404.1
        refine st404 _ ?_
        have l404 := nlt A404.lt
        have z404 := W404.size
        refine g_astore B W404 at_243 rfl (l' := #[.val (.int p1), .val (.int p2), .val (.int p3), .val (.int p4), .val (.long p5), .second, .val (.int 0), .val (.int 2), .val (.int 3), .val (.int x101), .val (.int x102), .val (.int x103), .val (.int x104), .val (.int x105), .val (.int x106), .val (.int 7), .val (.ref b387), .val (.int 7), .val (.ref b404), .unset, .unset]) rfl ?_
        refine g_aload B W404 at_245 rfl rfl ?_
        refine g_iconst B W404 at_247 (v := 0) (by decide) ?_
        refine g_iload B W404 at_248 rfl ?_
        obtain ⟨T406, h406, W406, K406, A406, st406⟩ := x_castore B W404 (j := 0) (x := x104) at_250 A404 (by decide) (Nat.lt_of_lt_of_eq (show Int32.toNatClampNeg 0 < 3 by decide) rfl) (by omega) #[.val (.int p1), .val (.int p2), .val (.int p3), .val (.int p4), .val (.long p5), .second, .val (.int 0), .val (.int 2), .val (.int 3), .val (.int x101), .val (.int x102), .val (.int x103), .val (.int x104), .val (.int x105), .val (.int x106), .val (.int 7), .val (.ref b387), .val (.int 7), .val (.ref b404), .unset, .unset] []
        refine st406 _ ?_
        rw [nx104] at A406
        have A406 : Arv Z h406 b404 kA404 .char 3 [(.int x104), (.int 0), (.int 0)] (.int 0) := A406
        have s407 := K406.1
        refine g_iload B W406 at_251 rfl ?_
        refine g_iconst B W406 at_253 (v := 2) (by decide) ?_
        refine g_icmp_n B W406 at_254 (XT.ii_lt_f (by decide)) ?_
        show Go p.tables e below _ T406 (mkF m 257 #[.val (.int p1), .val (.int p2), .val (.int p3), .val (.int p4), .val (.long p5), .second, .val (.int 0), .val (.int 2), .val (.int 3), .val (.int x101), .val (.int x102), .val (.int x103), .val (.int x104), .val (.int x105), .val (.int x106), .val (.int 7), .val (.ref b387), .val (.int 7), .val (.ref b404), .unset, .unset] [])
        refine g_aload B W406 at_257 rfl rfl ?_
        refine g_iconst B W406 at_259 (v := 1) (by decide) ?_
        refine g_iload B W406 at_260 rfl ?_
        obtain ⟨T408, h408, W408, K408, A408, st408⟩ := x_castore B W406 (j := 1) (x := x105) at_262 A406 (by decide) (Nat.lt_of_lt_of_eq (show Int32.toNatClampNeg 1 < 3 by decide) rfl) (by omega) #[.val (.int p1), .val (.int p2), .val (.int p3), .val (.int p4), .val (.long p5), .second, .val (.int 0), .val (.int 2), .val (.int 3), .val (.int x101), .val (.int x102), .val (.int x103), .val (.int x104), .val (.int x105), .val (.int x106), .val (.int 7), .val (.ref b387), .val (.int 7), .val (.ref b404), .unset, .unset] []
        refine st408 _ ?_
        rw [nx105] at A408
        have A408 : Arv Z h408 b404 kA404 .char 3 [(.int x104), (.int x105), (.int 0)] (.int 0) := A408
        have s409 := K408.1
        refine g_iload B W408 at_263 rfl ?_
        refine g_iconst B W408 at_265 (v := 3) (by decide) ?_
        refine g_icmp_n B W408 at_266 (XT.ii_ne_f (by decide)) ?_
        show Go p.tables e below _ T408 (mkF m 269 #[.val (.int p1), .val (.int p2), .val (.int p3), .val (.int p4), .val (.long p5), .second, .val (.int 0), .val (.int 2), .val (.int 3), .val (.int x101), .val (.int x102), .val (.int x103), .val (.int x104), .val (.int x105), .val (.int x106), .val (.int 7), .val (.ref b387), .val (.int 7), .val (.ref b404), .unset, .unset] [])
        refine g_aload B W408 at_269 rfl rfl ?_
        refine g_iconst B W408 at_271 (v := 2) (by decide) ?_
        refine g_iload B W408 at_272 rfl ?_
        obtain ⟨T410, h410, W410, K410, A410, st410⟩ := x_castore B W408 (j := 2) (x := x106) at_274 A408 (by decide) (Nat.lt_of_lt_of_eq (show Int32.toNatClampNeg 2 < 3 by decide) rfl) (by omega) #[.val (.int p1), .val (.int p2), .val (.int p3), .val (.int p4), .val (.long p5), .second, .val (.int 0), .val (.int 2), .val (.int 3), .val (.int x101), .val (.int x102), .val (.int x103), .val (.int x104), .val (.int x105), .val (.int x106), .val (.int 7), .val (.ref b387), .val (.int 7), .val (.ref b404), .unset, .unset] []
        refine st410 _ ?_
        rw [nx106] at A410
        have A410 : Arv Z h410 b404 kA404 .char 3 [(.int x104), (.int x105), (.int x106)] (.int 0) := A410
        have s411 := K410.1
        obtain ⟨T412, h412, b412, gb412, W412, K412, E412, D412, st412⟩ := x_new B W410 at_275 (tw hw 13 rfl) (tw hw 14 rfl) (tw hw 15 rfl) (by decide) (by decide) #[.val (.int p1), .val (.int p2), .val (.int p3), .val (.int p4), .val (.long p5), .second, .val (.int 0), .val (.int 2), .val (.int 3), .val (.int x101), .val (.int x102), .val (.int x103), .val (.int x104), .val (.int x105), .val (.int x106), .val (.int 7), .val (.ref b387), .val (.int 7), .val (.ref b404), .unset, .unset] []
        have l412 := nlt E412.lt
        have z412 := W410.size
        refine st412 _ ?_
        have s413 := K412.1
        have f414 : Fld Z h412 b412 "java/lang/String" "coder" "B" (.int 0) := D412 (Or.inr (tw hw 39 rfl)) (ty := .byte) (by decide)
        have f415 : Fld Z h412 b412 "java/lang/String" "value" "[B" .null := D412 (Or.inr (tw hw 41 rfl)) (ty := (.array .byte)) (by decide)
        refine g_dup B W412 at_278 rfl ?_
        refine g_aload B W412 at_279 rfl rfl ?_
        have f417 := (A410.keep K412 nin0)
        obtain ⟨T416, h416, v416, L416, W416, Q416, st416⟩ := x_specialB B W412 (b := b412) (rc := 1) (rs := 3) [(.ref b404)] (fun s' hZ' => StrChars.Road.backV (W := 1) hZ' (fun d hd => hw d (own_words d hd)) (kI := 4) (tw hw 14 rfl) (cs := ([x104, x105, x106] : List Int32)) (bs := ([x104, x105, x106] : List Int32).map (fun c => c.toInt8.toInt32)) (n := 3) (n0 := Z.heap.size) (by omega) W412.size E412 f415 f414 f417 (Scs.ext W412.old.2) hcz rfl (by decide) (by decide) (by decide) (by simp only [List.mem_cons, List.not_mem_nil, or_false]; rintro c (rfl | rfl | rfl) <;> first | assumption | decide) rfl (by decide) (by decide)) at_281 rfl (tw hw 16 rfl) (tw hw 17 rfl) (tw hw 18 rfl) (by decide) (lenOf pd___C_V rfl) #[.val (.int p1), .val (.int p2), .val (.int p3), .val (.int p4), .val (.long p5), .second, .val (.int 0), .val (.int 2), .val (.int 3), .val (.int x101), .val (.int x102), .val (.int x103), .val (.int x104), .val (.int x105), .val (.int x106), .val (.int 7), .val (.ref b387), .val (.int 7), .val (.ref b404), .unset, .unset] [(.ref b412)] rfl rfl (by decide) (by decide) [b412] (allS (by omega) all0) (fun _ _ _ q => ⟨q.2.1, q.2.2.1⟩)
        obtain ⟨rfl, -, K416, E416, Fc416, t416, kb416, gt416, gu416, -, Fv416, A416⟩ := Q416
        refine st416 _ ?_
        have s418 := K416.1
        have lt416 := nlt A416.lt
        have S419 : StrIs Z h416 b412 [x104, x105, x106] := ⟨t416, kb416, E416, Fc416, Fv416, A416, (by simp only [List.mem_cons, List.not_mem_nil, or_false]; rintro c (rfl | rfl | rfl) <;> first | assumption | decide), by simp⟩
        refine g_astore B W416 at_284 rfl (l' := #[.val (.int p1), .val (.int p2), .val (.int p3), .val (.int p4), .val (.long p5), .second, .val (.int 0), .val (.int 2), .val (.int 3), .val (.int x101), .val (.int x102), .val (.int x103), .val (.int x104), .val (.int x105), .val (.int x106), .val (.int 7), .val (.ref b387), .val (.int 7), .val (.ref b404), .val (.ref b412), .unset]) rfl ?_
        obtain ⟨T420, h420, b420, gb420, W420, K420, E420, D420, st420⟩ := x_new B W416 at_286 (tw hw 42 rfl) (tw hw 43 rfl) (tw hw 44 rfl) (by decide) (by decide) #[.val (.int p1), .val (.int p2), .val (.int p3), .val (.int p4), .val (.long p5), .second, .val (.int 0), .val (.int 2), .val (.int 3), .val (.int x101), .val (.int x102), .val (.int x103), .val (.int x104), .val (.int x105), .val (.int x106), .val (.int 7), .val (.ref b387), .val (.int 7), .val (.ref b404), .val (.ref b412), .unset] []
        have l420 := nlt E420.lt
        have z420 := W416.size
        refine st420 _ ?_
        have s421 := K420.1
        have f422 : Fld Z h420 b420 "com/example/presswright/presswright/publishing/FilePath" "path" "Ljava/lang/String;" .null := D420 (Or.inr (tw hw 175 rfl)) (ty := (.object "java/lang/String")) (by decide)
        refine g_dup B W420 at_289 rfl ?_
        obtain ⟨T423, h423, b423, gb423, W423, K423, E423, D423, st423⟩ := x_new B W420 at_290 (tw hw 13 rfl) (tw hw 14 rfl) (tw hw 15 rfl) (by decide) (by decide) #[.val (.int p1), .val (.int p2), .val (.int p3), .val (.int p4), .val (.long p5), .second, .val (.int 0), .val (.int 2), .val (.int 3), .val (.int x101), .val (.int x102), .val (.int x103), .val (.int x104), .val (.int x105), .val (.int x106), .val (.int 7), .val (.ref b387), .val (.int 7), .val (.ref b404), .val (.ref b412), .unset] [(.ref b420), (.ref b420)]
        have l423 := nlt E423.lt
        have z423 := W420.size
        refine st423 _ ?_
        have s424 := K423.1
        have f425 : Fld Z h423 b423 "java/lang/String" "coder" "B" (.int 0) := D423 (Or.inr (tw hw 39 rfl)) (ty := .byte) (by decide)
        have f426 : Fld Z h423 b423 "java/lang/String" "value" "[B" .null := D423 (Or.inr (tw hw 41 rfl)) (ty := (.array .byte)) (by decide)
        refine g_dup B W423 at_293 rfl ?_
        refine g_aload B W423 at_294 rfl rfl ?_
        have f428 := (A401.keep K404 nin0)
        have f429 := (f428.keep K406 (ninS (nne (by have q := nlt f428.lt; omega)) nin0))
        have f430 := (f429.keep K408 (ninS (nne (by have q := nlt f429.lt; omega)) nin0))
        have f431 := ((f430.keep K410 (ninS (nne (by have q := nlt f430.lt; omega)) nin0)).keep K412 nin0)
        have f432 := (((f431.keep K416 (ninS (nne (by have q := nlt f431.lt; omega)) nin0)).keep K420 nin0).keep K423 nin0)
        obtain ⟨T427, h427, v427, L427, W427, Q427, st427⟩ := x_specialB B W423 (b := b423) (rc := 1) (rs := 7) [(.ref b387)] (fun s' hZ' => StrChars.Road.backV (W := 3) hZ' (fun d hd => hw d (own_words d hd)) (kI := 4) (tw hw 14 rfl) (cs := ([47, x102, x103, 46, x104, x105, x106] : List Int32)) (bs := ([47, x102, x103, 46, x104, x105, x106] : List Int32).map (fun c => c.toInt8.toInt32)) (n := 7) (n0 := Z.heap.size) (by omega) W423.size E423 f426 f425 f432 (Scs.ext W423.old.2) hcz rfl (by decide) (by decide) (by decide) (by simp only [List.mem_cons, List.not_mem_nil, or_false]; rintro c (rfl | rfl | rfl | rfl | rfl | rfl | rfl) <;> first | assumption | decide) rfl (by decide) (by decide)) at_296 rfl (tw hw 16 rfl) (tw hw 17 rfl) (tw hw 18 rfl) (by decide) (lenOf pd___C_V rfl) #[.val (.int p1), .val (.int p2), .val (.int p3), .val (.int p4), .val (.long p5), .second, .val (.int 0), .val (.int 2), .val (.int 3), .val (.int x101), .val (.int x102), .val (.int x103), .val (.int x104), .val (.int x105), .val (.int x106), .val (.int 7), .val (.ref b387), .val (.int 7), .val (.ref b404), .val (.ref b412), .unset] [(.ref b423), (.ref b420), (.ref b420)] rfl rfl (by decide) (by decide) [b423] (allS (by omega) all0) (fun _ _ _ q => ⟨q.2.1, q.2.2.1⟩)
        obtain ⟨rfl, -, K427, E427, Fc427, t427, kb427, gt427, gu427, -, Fv427, A427⟩ := Q427
        refine st427 _ ?_
        have s433 := K427.1
        have lt427 := nlt A427.lt
        have S434 : StrIs Z h427 b423 [47, x102, x103, 46, x104, x105, x106] := ⟨t427, kb427, E427, Fc427, Fv427, A427, (by simp only [List.mem_cons, List.not_mem_nil, or_false]; rintro c (rfl | rfl | rfl | rfl | rfl | rfl | rfl) <;> first | assumption | decide), by simp⟩
        obtain ⟨fp, hfp⟩ : ∃ f : Nat → Int32, f = fun i => ([47, x102, x103, 46, x104, x105, x106] : List Int32).getD i 0 := ⟨_, rfl⟩
        have ep0 : fp 0 = 47 := by rw [hfp]; rfl
        have ep1 : fp 1 = x102 := by rw [hfp]; rfl
        have ep2 : fp 2 = x103 := by rw [hfp]; rfl
        have ep3 : fp 3 = 46 := by rw [hfp]; rfl
        have ep4 : fp 4 = x104 := by rw [hfp]; rfl
        have ep5 : fp 5 = x105 := by rw [hfp]; rfl
        have ep6 : fp 6 = x106 := by rw [hfp]; rfl
        have Sfp : StrIs Z h427 b423 (lst 7 fp) := by rw [show lst 7 fp = [47, x102, x103, 46, x104, x105, x106] by rw [hfp]; rfl]; exact S434
        have f435 := ((E420.keep K423).keep K427)
        have f436 := (f422.keep K423 nin0)
        have f437 := (f436.keep K427 (ninS (nne (by have q := nlt f436.lt; omega)) nin0))
        obtain ⟨T438, h438, v438, W438, Q438, st438⟩ := x_special B W427 (b := b420) [(.ref b423)] (c_fp0 l Z a0 hw b420 b423 7 fp 3 cz sf h427 Scs hcz Ssf rsf f435 f437 (by omega) Sfp (by omega) ep0 (by intro j h1 h2; obtain rfl | rfl | rfl | rfl | rfl | rfl : j = 1 ∨ j = 2 ∨ j = 3 ∨ j = 4 ∨ j = 5 ∨ j = 6 := (by omega); (· exact (by rw [ep1]; exact g102.n47)); (· exact (by rw [ep2]; exact g103.n47)); (· exact (by rw [ep3]; exact (by decide))); (· exact (by rw [ep4]; exact g104.n47)); (· exact (by rw [ep5]; exact g105.n47)); (· exact (by rw [ep6]; exact g106.n47))) (by omega) (by omega) ep3 (by intro j h1 h2 h3; obtain rfl | rfl | rfl | rfl | rfl : j = 1 ∨ j = 2 ∨ j = 4 ∨ j = 5 ∨ j = 6 := (by omega); (· exact (by rw [ep1]; exact g102.ok (by omega))); (· exact (by rw [ep2]; exact g103.ok (by omega))); (· exact (by rw [ep4]; exact Or.inl q104)); (· exact (by rw [ep5]; exact Or.inl q105)); (· exact (by rw [ep6]; exact Or.inl q106)))) at_299 rfl (tw hw 45 rfl) (tw hw 46 rfl) (tw hw 44 rfl) (tw hw 47 rfl) (by decide) (lenOf pd__Ljava_lang_String__V rfl) #[.val (.int p1), .val (.int p2), .val (.int p3), .val (.int p4), .val (.long p5), .second, .val (.int 0), .val (.int 2), .val (.int 3), .val (.int x101), .val (.int x102), .val (.int x103), .val (.int x104), .val (.int x105), .val (.int x106), .val (.int 7), .val (.ref b387), .val (.int 7), .val (.ref b404), .val (.ref b412), .unset] [(.ref b420)] rfl 1 rfl (by decide) (by decide) (by decide) (by decide)
        obtain ⟨rfl, K438, E438, F438⟩ := Q438
        have s439 := K438.1
        refine st438 _ ?_
        have f441 := (E427.keep K438)
        have f442 := (Fc427.keep K438 (ninS (nne (by have q := nlt Fc427.lt; omega)) nin0))
        have f443 := (Fv427.keep K438 (ninS (nne (by have q := nlt Fv427.lt; omega)) nin0))
        have f444 := (A427.keep K438 (ninS (nne (by have q := nlt A427.lt; omega)) nin0))
        have S440 : StrIs Z h438 b423 (lst 7 fp) := by rw [show lst 7 fp = [47, x102, x103, 46, x104, x105, x106] by rw [hfp]; rfl]; exact ⟨t427, kb427, f441, f442, f443, f444, (by simp only [List.mem_cons, List.not_mem_nil, or_false]; rintro c (rfl | rfl | rfl | rfl | rfl | rfl | rfl) <;> first | assumption | decide), by simp⟩
        obtain ⟨T445, h445, v445, W445, Q445, st445⟩ := x_virtual B W438 (b := b420) [] (c_extn l Z a0 hw b420 b423 7 fp 3 cz sf h438 Scs hcz Ssf rsf F438 S440 (by omega) (by omega) ep3 (by intro j h1 h2; obtain rfl | rfl | rfl : j = 4 ∨ j = 5 ∨ j = 6 := (by omega); (· exact (by rw [ep4]; exact g104.n46)); (· exact (by rw [ep5]; exact g105.n46)); (· exact (by rw [ep6]; exact g106.n46)))) E438 at_302 (tw hw 176 rfl) (tw hw 177 rfl) (tw hw 179 rfl) (tw hw 178 rfl) (tw hw 44 rfl) (tw hw 180 rfl) (by decide) (lenOf pd___Ljava_lang_String_ rfl) #[.val (.int p1), .val (.int p2), .val (.int p3), .val (.int p4), .val (.long p5), .second, .val (.int 0), .val (.int 2), .val (.int 3), .val (.int x101), .val (.int x102), .val (.int x103), .val (.int x104), .val (.int x105), .val (.int x106), .val (.int 7), .val (.ref b387), .val (.int 7), .val (.ref b404), .val (.ref b412), .unset] [] rfl 0 rfl (by decide) (by decide) (by decide) (by decide)
        obtain ⟨b445, rfl, K445, S445⟩ := Q445
        have s446 := K445.1
        refine st445 _ ?_
        have S445 : StrIs Z h445 b445 (lst 3 fun i => fp (4 + i)) := S445
        refine g_astore B W445 at_305 rfl (l' := #[.val (.int p1), .val (.int p2), .val (.int p3), .val (.int p4), .val (.long p5), .second, .val (.int 0), .val (.int 2), .val (.int 3), .val (.int x101), .val (.int x102), .val (.int x103), .val (.int x104), .val (.int x105), .val (.int x106), .val (.int 7), .val (.ref b387), .val (.int 7), .val (.ref b404), .val (.ref b412), .val (.ref b445)]) rfl ?_
        refine g_aload B W445 at_307 rfl rfl ?_
        refine g_aload B W445 at_309 rfl rfl ?_
        have f448 := (S419.keep ((((((Keep.refl h416 []).trans K420 all0).trans K423 all0).trans K427 (allS (Or.inr (by omega)) all0)).trans K438 (allS (Or.inr (by omega)) all0)).trans K445 all0))
        obtain ⟨T447, h447, v447, L447, W447, Q447, st447⟩ := x_virtualB B W445 (b := b445) (V := 0) (rc := 0) (rs := 0) (QL := fun v h' L => v = some (.int (bi (decide ((lst 3 fun i => fp (4 + i)) = [x104, x105, x106])))) ∧ L = [] ∧ h445 = h') [(.ref b412)] (fun s' hZ' => own_eqB hw S445 f448 (Scs.ext W445.old.2) hcz (tw hw 14 rfl) (by decide) (by decide) hZ') S445.exa at_311 (tw hw 181 rfl) (tw hw 182 rfl) (tw hw 184 rfl) (tw hw 183 rfl) (by decide) (lenOf pd__Ljava_lang_Object__Z rfl) #[.val (.int p1), .val (.int p2), .val (.int p3), .val (.int p4), .val (.long p5), .second, .val (.int 0), .val (.int 2), .val (.int 3), .val (.int x101), .val (.int x102), .val (.int x103), .val (.int x104), .val (.int x105), .val (.int x106), .val (.int 7), .val (.ref b387), .val (.int 7), .val (.ref b404), .val (.ref b412), .val (.ref b445)] [] rfl rfl (by decide) (by decide) [] all0 (fun _ _ _ q => ⟨q.2.1 ▸ Fr.nil _, q.2.2 ▸ Keep.refl _ _⟩)
        obtain ⟨rfl, -, rfl⟩ := Q447
        refine st447 _ ?_
        exact r_b B W447 at_314 (by decide) (by decide) (by show some (Value.int (bi (decide ((lst 3 fun i => fp (4 + i)) = [x104, x105, x106])))) = some (.int 1); rw [show (decide ((lst 3 fun i => fp (4 + i)) = [x104, x105, x106])) = true from decide_eq_true (by show ([fp 4, fp 5, fp 6] : List Int32) = _; rw [ep4, ep5, ep6])]; rfl)
  · skip
    rcases hqn7 with rfl | rfl
    · skip
      rcases hqn8 with rfl | rfl | rfl
      · skip
        show Go p.tables e below _ T106 (mkF m 93 #[.val (.int p1), .val (.int p2), .val (.int p3), .val (.int p4), .val (.long p5), .second, .val (.int 1), .val (.int 1), .val (.int 1), .val (.int x101), .val (.int x102), .val (.int x103), .val (.int x104), .val (.int x105), .val (.int x106), .unset, .unset, .unset, .unset, .unset, .unset] [])
        refine g_iconst B W106 at_93 (v := 1) (by decide) ?_
        refine g_iload B W106 at_94 rfl ?_
        refine g_if_n B W106 at_96 (XT.i0_eq_f (by decide)) ?_
        show Go p.tables e below _ T106 (mkF m 99 #[.val (.int p1), .val (.int p2), .val (.int p3), .val (.int p4), .val (.long p5), .second, .val (.int 1), .val (.int 1), .val (.int 1), .val (.int x101), .val (.int x102), .val (.int x103), .val (.int x104), .val (.int x105), .val (.int x106), .unset, .unset, .unset, .unset, .unset, .unset] [(.int 1)])
        refine g_iconst B W106 at_99 (v := 2) (by decide) ?_
        refine g_goto B W106 at_100 (pc' := 104) (by decide) ?_
        show Go p.tables e below _ T106 (mkF m 104 #[.val (.int p1), .val (.int p2), .val (.int p3), .val (.int p4), .val (.long p5), .second, .val (.int 1), .val (.int 1), .val (.int 1), .val (.int x101), .val (.int x102), .val (.int x103), .val (.int x104), .val (.int x105), .val (.int x106), .unset, .unset, .unset, .unset, .unset, .unset] [(.int 2), (.int 1)])
        refine g_iadd B W106 at_104  ?_
        rw [show (1 + 2 : Int32) = 3 by decide]
        refine g_iload B W106 at_105 rfl ?_
        refine g_iadd B W106 at_107  ?_
        rw [show (3 + 1 : Int32) = 4 by decide]
        refine g_iconst B W106 at_108 (v := 1) (by decide) ?_
        refine g_iadd B W106 at_109  ?_
        rw [show (4 + 1 : Int32) = 5 by decide]
        refine g_iload B W106 at_110 rfl ?_
        refine g_iadd B W106 at_112  ?_
        rw [show (5 + 1 : Int32) = 6 by decide]
        refine g_istore B W106 at_113  (l' := #[.val (.int p1), .val (.int p2), .val (.int p3), .val (.int p4), .val (.long p5), .second, .val (.int 1), .val (.int 1), .val (.int 1), .val (.int x101), .val (.int x102), .val (.int x103), .val (.int x104), .val (.int x105), .val (.int x106), .val (.int 6), .unset, .unset, .unset, .unset, .unset]) rfl ?_
        refine g_iload B W106 at_115 rfl ?_
        have zs449 := W106.size
        obtain ⟨T450, h450, v450, W450, Q450, st450⟩ := x_static B W106 [(.int 6)] (c_sz6 l Z a0 hw h0) at_117 (tw hw 9 rfl) (tw hw 10 rfl) (tw hw 2 rfl) (tw hw 11 rfl) (by decide) (lenOf pd__I__C rfl) #[.val (.int p1), .val (.int p2), .val (.int p3), .val (.int p4), .val (.long p5), .second, .val (.int 1), .val (.int 1), .val (.int 1), .val (.int x101), .val (.int x102), .val (.int x103), .val (.int x104), .val (.int x105), .val (.int x106), .val (.int 6), .unset, .unset, .unset, .unset, .unset] [] rfl 0 rfl (by decide) (by decide) (by decide) (by decide)
        obtain ⟨b450, kA450, rfl, g450, K450, A450⟩ := Q450
        have s451 := K450.1
        refine st450 _ ?_
        have l450 := nlt A450.lt
        have z450 := W450.size
        refine g_astore B W450 at_120 rfl (l' := #[.val (.int p1), .val (.int p2), .val (.int p3), .val (.int p4), .val (.long p5), .second, .val (.int 1), .val (.int 1), .val (.int 1), .val (.int x101), .val (.int x102), .val (.int x103), .val (.int x104), .val (.int x105), .val (.int x106), .val (.int 6), .val (.ref b450), .unset, .unset, .unset, .unset]) rfl ?_
        refine g_iconst B W450 at_122 (v := 0) (by decide) ?_
        refine g_istore B W450 at_123  (l' := #[.val (.int p1), .val (.int p2), .val (.int p3), .val (.int p4), .val (.long p5), .second, .val (.int 1), .val (.int 1), .val (.int 1), .val (.int x101), .val (.int x102), .val (.int x103), .val (.int x104), .val (.int x105), .val (.int x106), .val (.int 6), .val (.ref b450), .val (.int 0), .unset, .unset, .unset]) rfl ?_
        refine g_aload B W450 at_125 rfl rfl ?_
        refine g_iload B W450 at_127 rfl ?_
        refine g_bipush B W450 at_129 (v := 47) (by decide) ?_
        obtain ⟨T452, h452, W452, K452, A452, st452⟩ := x_castore B W450 (j := 0) (x := 47) at_131 A450 (by decide) (Nat.lt_of_lt_of_eq (show Int32.toNatClampNeg 0 < 6 by decide) rfl) (by omega) #[.val (.int p1), .val (.int p2), .val (.int p3), .val (.int p4), .val (.long p5), .second, .val (.int 1), .val (.int 1), .val (.int 1), .val (.int x101), .val (.int x102), .val (.int x103), .val (.int x104), .val (.int x105), .val (.int x106), .val (.int 6), .val (.ref b450), .val (.int 0), .unset, .unset, .unset] []
        refine st452 _ ?_
        rw [show nar .char 47 = 47 by decide] at A452
        have A452 : Arv Z h452 b450 kA450 .char 6 [(.int 47), (.int 0), (.int 0), (.int 0), (.int 0), (.int 0)] (.int 0) := A452
        have s453 := K452.1
        refine g_iinc B W452 at_132 (v := 1) (l' := #[.val (.int p1), .val (.int p2), .val (.int p3), .val (.int p4), .val (.long p5), .second, .val (.int 1), .val (.int 1), .val (.int 1), .val (.int x101), .val (.int x102), .val (.int x103), .val (.int x104), .val (.int x105), .val (.int x106), .val (.int 6), .val (.ref b450), .val (.int (0 + 1)), .unset, .unset, .unset]) (by decide) rfl rfl ?_
        rw [show (0 + 1 : Int32) = 1 by decide]
        refine g_iload B W452 at_135 rfl ?_
        refine g_if_n B W452 at_137 (XT.i0_eq_f (by decide)) ?_
        show Go p.tables e below _ T452 (mkF m 140 #[.val (.int p1), .val (.int p2), .val (.int p3), .val (.int p4), .val (.long p5), .second, .val (.int 1), .val (.int 1), .val (.int 1), .val (.int x101), .val (.int x102), .val (.int x103), .val (.int x104), .val (.int x105), .val (.int x106), .val (.int 6), .val (.ref b450), .val (.int 1), .unset, .unset, .unset] [])
        refine g_aload B W452 at_140 rfl rfl ?_
        refine g_iload B W452 at_142 rfl ?_
        refine g_iload B W452 at_144 rfl ?_
        obtain ⟨T454, h454, W454, K454, A454, st454⟩ := x_castore B W452 (j := 1) (x := x101) at_146 A452 (by decide) (Nat.lt_of_lt_of_eq (show Int32.toNatClampNeg 1 < 6 by decide) rfl) (by omega) #[.val (.int p1), .val (.int p2), .val (.int p3), .val (.int p4), .val (.long p5), .second, .val (.int 1), .val (.int 1), .val (.int 1), .val (.int x101), .val (.int x102), .val (.int x103), .val (.int x104), .val (.int x105), .val (.int x106), .val (.int 6), .val (.ref b450), .val (.int 1), .unset, .unset, .unset] []
        refine st454 _ ?_
        rw [nx101] at A454
        have A454 : Arv Z h454 b450 kA450 .char 6 [(.int 47), (.int x101), (.int 0), (.int 0), (.int 0), (.int 0)] (.int 0) := A454
        have s455 := K454.1
        refine g_iinc B W454 at_147 (v := 1) (l' := #[.val (.int p1), .val (.int p2), .val (.int p3), .val (.int p4), .val (.long p5), .second, .val (.int 1), .val (.int 1), .val (.int 1), .val (.int x101), .val (.int x102), .val (.int x103), .val (.int x104), .val (.int x105), .val (.int x106), .val (.int 6), .val (.ref b450), .val (.int (1 + 1)), .unset, .unset, .unset]) (by decide) rfl rfl ?_
        rw [show (1 + 1 : Int32) = 2 by decide]
        refine g_aload B W454 at_150 rfl rfl ?_
        refine g_iload B W454 at_152 rfl ?_
        refine g_bipush B W454 at_154 (v := 47) (by decide) ?_
        obtain ⟨T456, h456, W456, K456, A456, st456⟩ := x_castore B W454 (j := 2) (x := 47) at_156 A454 (by decide) (Nat.lt_of_lt_of_eq (show Int32.toNatClampNeg 2 < 6 by decide) rfl) (by omega) #[.val (.int p1), .val (.int p2), .val (.int p3), .val (.int p4), .val (.long p5), .second, .val (.int 1), .val (.int 1), .val (.int 1), .val (.int x101), .val (.int x102), .val (.int x103), .val (.int x104), .val (.int x105), .val (.int x106), .val (.int 6), .val (.ref b450), .val (.int 2), .unset, .unset, .unset] []
        refine st456 _ ?_
        rw [show nar .char 47 = 47 by decide] at A456
        have A456 : Arv Z h456 b450 kA450 .char 6 [(.int 47), (.int x101), (.int 47), (.int 0), (.int 0), (.int 0)] (.int 0) := A456
        have s457 := K456.1
        refine g_iinc B W456 at_157 (v := 1) (l' := #[.val (.int p1), .val (.int p2), .val (.int p3), .val (.int p4), .val (.long p5), .second, .val (.int 1), .val (.int 1), .val (.int 1), .val (.int x101), .val (.int x102), .val (.int x103), .val (.int x104), .val (.int x105), .val (.int x106), .val (.int 6), .val (.ref b450), .val (.int (2 + 1)), .unset, .unset, .unset]) (by decide) rfl rfl ?_
        rw [show (2 + 1 : Int32) = 3 by decide]
        refine g_aload B W456 at_160 rfl rfl ?_
        refine g_iload B W456 at_162 rfl ?_
        refine g_iload B W456 at_164 rfl ?_
        obtain ⟨T458, h458, W458, K458, A458, st458⟩ := x_castore B W456 (j := 3) (x := x102) at_166 A456 (by decide) (Nat.lt_of_lt_of_eq (show Int32.toNatClampNeg 3 < 6 by decide) rfl) (by omega) #[.val (.int p1), .val (.int p2), .val (.int p3), .val (.int p4), .val (.long p5), .second, .val (.int 1), .val (.int 1), .val (.int 1), .val (.int x101), .val (.int x102), .val (.int x103), .val (.int x104), .val (.int x105), .val (.int x106), .val (.int 6), .val (.ref b450), .val (.int 3), .unset, .unset, .unset] []
        refine st458 _ ?_
        rw [nx102] at A458
        have A458 : Arv Z h458 b450 kA450 .char 6 [(.int 47), (.int x101), (.int 47), (.int x102), (.int 0), (.int 0)] (.int 0) := A458
        have s459 := K458.1
        refine g_iinc B W458 at_167 (v := 1) (l' := #[.val (.int p1), .val (.int p2), .val (.int p3), .val (.int p4), .val (.long p5), .second, .val (.int 1), .val (.int 1), .val (.int 1), .val (.int x101), .val (.int x102), .val (.int x103), .val (.int x104), .val (.int x105), .val (.int x106), .val (.int 6), .val (.ref b450), .val (.int (3 + 1)), .unset, .unset, .unset]) (by decide) rfl rfl ?_
        rw [show (3 + 1 : Int32) = 4 by decide]
        refine g_iload B W458 at_170 rfl ?_
        refine g_iconst B W458 at_172 (v := 2) (by decide) ?_
        refine g_icmp_y B W458 at_173 (XT.ii_ne_t (by decide)) (pc' := 186) (by decide) ?_
        show Go p.tables e below _ T458 (mkF m 186 #[.val (.int p1), .val (.int p2), .val (.int p3), .val (.int p4), .val (.long p5), .second, .val (.int 1), .val (.int 1), .val (.int 1), .val (.int x101), .val (.int x102), .val (.int x103), .val (.int x104), .val (.int x105), .val (.int x106), .val (.int 6), .val (.ref b450), .val (.int 4), .unset, .unset, .unset] [])
        refine g_aload B W458 at_186 rfl rfl ?_
        refine g_iload B W458 at_188 rfl ?_
        refine g_bipush B W458 at_190 (v := 46) (by decide) ?_
        obtain ⟨T460, h460, W460, K460, A460, st460⟩ := x_castore B W458 (j := 4) (x := 46) at_192 A458 (by decide) (Nat.lt_of_lt_of_eq (show Int32.toNatClampNeg 4 < 6 by decide) rfl) (by omega) #[.val (.int p1), .val (.int p2), .val (.int p3), .val (.int p4), .val (.long p5), .second, .val (.int 1), .val (.int 1), .val (.int 1), .val (.int x101), .val (.int x102), .val (.int x103), .val (.int x104), .val (.int x105), .val (.int x106), .val (.int 6), .val (.ref b450), .val (.int 4), .unset, .unset, .unset] []
        refine st460 _ ?_
        rw [show nar .char 46 = 46 by decide] at A460
        have A460 : Arv Z h460 b450 kA450 .char 6 [(.int 47), (.int x101), (.int 47), (.int x102), (.int 46), (.int 0)] (.int 0) := A460
        have s461 := K460.1
        refine g_iinc B W460 at_193 (v := 1) (l' := #[.val (.int p1), .val (.int p2), .val (.int p3), .val (.int p4), .val (.long p5), .second, .val (.int 1), .val (.int 1), .val (.int 1), .val (.int x101), .val (.int x102), .val (.int x103), .val (.int x104), .val (.int x105), .val (.int x106), .val (.int 6), .val (.ref b450), .val (.int (4 + 1)), .unset, .unset, .unset]) (by decide) rfl rfl ?_
        rw [show (4 + 1 : Int32) = 5 by decide]
        refine g_aload B W460 at_196 rfl rfl ?_
        refine g_iload B W460 at_198 rfl ?_
        refine g_iload B W460 at_200 rfl ?_
        obtain ⟨T462, h462, W462, K462, A462, st462⟩ := x_castore B W460 (j := 5) (x := x104) at_202 A460 (by decide) (Nat.lt_of_lt_of_eq (show Int32.toNatClampNeg 5 < 6 by decide) rfl) (by omega) #[.val (.int p1), .val (.int p2), .val (.int p3), .val (.int p4), .val (.long p5), .second, .val (.int 1), .val (.int 1), .val (.int 1), .val (.int x101), .val (.int x102), .val (.int x103), .val (.int x104), .val (.int x105), .val (.int x106), .val (.int 6), .val (.ref b450), .val (.int 5), .unset, .unset, .unset] []
        refine st462 _ ?_
        rw [nx104] at A462
        have A462 : Arv Z h462 b450 kA450 .char 6 [(.int 47), (.int x101), (.int 47), (.int x102), (.int 46), (.int x104)] (.int 0) := A462
        have s463 := K462.1
        refine g_iinc B W462 at_203 (v := 1) (l' := #[.val (.int p1), .val (.int p2), .val (.int p3), .val (.int p4), .val (.long p5), .second, .val (.int 1), .val (.int 1), .val (.int 1), .val (.int x101), .val (.int x102), .val (.int x103), .val (.int x104), .val (.int x105), .val (.int x106), .val (.int 6), .val (.ref b450), .val (.int (5 + 1)), .unset, .unset, .unset]) (by decide) rfl rfl ?_
        rw [show (5 + 1 : Int32) = 6 by decide]
        refine g_iload B W462 at_206 rfl ?_
        refine g_iconst B W462 at_208 (v := 2) (by decide) ?_
        refine g_icmp_y B W462 at_209 (XT.ii_lt_t (by decide)) (pc' := 222) (by decide) ?_
        show Go p.tables e below _ T462 (mkF m 222 #[.val (.int p1), .val (.int p2), .val (.int p3), .val (.int p4), .val (.long p5), .second, .val (.int 1), .val (.int 1), .val (.int 1), .val (.int x101), .val (.int x102), .val (.int x103), .val (.int x104), .val (.int x105), .val (.int x106), .val (.int 6), .val (.ref b450), .val (.int 6), .unset, .unset, .unset] [])
        refine g_iload B W462 at_222 rfl ?_
        refine g_iconst B W462 at_224 (v := 3) (by decide) ?_
        refine g_icmp_y B W462 at_225 (XT.ii_ne_t (by decide)) (pc' := 238) (by decide) ?_
        show Go p.tables e below _ T462 (mkF m 238 #[.val (.int p1), .val (.int p2), .val (.int p3), .val (.int p4), .val (.long p5), .second, .val (.int 1), .val (.int 1), .val (.int 1), .val (.int x101), .val (.int x102), .val (.int x103), .val (.int x104), .val (.int x105), .val (.int x106), .val (.int 6), .val (.ref b450), .val (.int 6), .unset, .unset, .unset] [])
        refine g_iload B W462 at_238 rfl ?_
        have zs464 := W462.size
        obtain ⟨T465, h465, v465, W465, Q465, st465⟩ := x_static B W462 [(.int 1)] (c_sz1 l Z a0 hw h462) at_240 (tw hw 9 rfl) (tw hw 10 rfl) (tw hw 2 rfl) (tw hw 11 rfl) (by decide) (lenOf pd__I__C rfl) #[.val (.int p1), .val (.int p2), .val (.int p3), .val (.int p4), .val (.long p5), .second, .val (.int 1), .val (.int 1), .val (.int 1), .val (.int x101), .val (.int x102), .val (.int x103), .val (.int x104), .val (.int x105), .val (.int x106), .val (.int 6), .val (.ref b450), .val (.int 6), .unset, .unset, .unset] [] rfl 0 rfl (by decide) (by decide) (by decide) (by decide)
        obtain ⟨b465, kA465, rfl, g465, K465, A465⟩ := Q465
        have s466 := K465.1
        refine st465 _ ?_
        have l465 := nlt A465.lt
        have z465 := W465.size
        refine g_astore B W465 at_243 rfl (l' := #[.val (.int p1), .val (.int p2), .val (.int p3), .val (.int p4), .val (.long p5), .second, .val (.int 1), .val (.int 1), .val (.int 1), .val (.int x101), .val (.int x102), .val (.int x103), .val (.int x104), .val (.int x105), .val (.int x106), .val (.int 6), .val (.ref b450), .val (.int 6), .val (.ref b465), .unset, .unset]) rfl ?_
        refine g_aload B W465 at_245 rfl rfl ?_
        refine g_iconst B W465 at_247 (v := 0) (by decide) ?_
        refine g_iload B W465 at_248 rfl ?_
        obtain ⟨T467, h467, W467, K467, A467, st467⟩ := x_castore B W465 (j := 0) (x := x104) at_250 A465 (by decide) (Nat.lt_of_lt_of_eq (show Int32.toNatClampNeg 0 < 1 by decide) rfl) (by omega) #[.val (.int p1), .val (.int p2), .val (.int p3), .val (.int p4), .val (.long p5), .second, .val (.int 1), .val (.int 1), .val (.int 1), .val (.int x101), .val (.int x102), .val (.int x103), .val (.int x104), .val (.int x105), .val (.int x106), .val (.int 6), .val (.ref b450), .val (.int 6), .val (.ref b465), .unset, .unset] []
        refine st467 _ ?_
        rw [nx104] at A467
        have A467 : Arv Z h467 b465 kA465 .char 1 [(.int x104)] (.int 0) := A467
        have s468 := K467.1
        refine g_iload B W467 at_251 rfl ?_
        refine g_iconst B W467 at_253 (v := 2) (by decide) ?_
        refine g_icmp_y B W467 at_254 (XT.ii_lt_t (by decide)) (pc' := 263) (by decide) ?_
        show Go p.tables e below _ T467 (mkF m 263 #[.val (.int p1), .val (.int p2), .val (.int p3), .val (.int p4), .val (.long p5), .second, .val (.int 1), .val (.int 1), .val (.int 1), .val (.int x101), .val (.int x102), .val (.int x103), .val (.int x104), .val (.int x105), .val (.int x106), .val (.int 6), .val (.ref b450), .val (.int 6), .val (.ref b465), .unset, .unset] [])
        refine g_iload B W467 at_263 rfl ?_
        refine g_iconst B W467 at_265 (v := 3) (by decide) ?_
        refine g_icmp_y B W467 at_266 (XT.ii_ne_t (by decide)) (pc' := 275) (by decide) ?_
        show Go p.tables e below _ T467 (mkF m 275 #[.val (.int p1), .val (.int p2), .val (.int p3), .val (.int p4), .val (.long p5), .second, .val (.int 1), .val (.int 1), .val (.int 1), .val (.int x101), .val (.int x102), .val (.int x103), .val (.int x104), .val (.int x105), .val (.int x106), .val (.int 6), .val (.ref b450), .val (.int 6), .val (.ref b465), .unset, .unset] [])
        obtain ⟨T469, h469, b469, gb469, W469, K469, E469, D469, st469⟩ := x_new B W467 at_275 (tw hw 13 rfl) (tw hw 14 rfl) (tw hw 15 rfl) (by decide) (by decide) #[.val (.int p1), .val (.int p2), .val (.int p3), .val (.int p4), .val (.long p5), .second, .val (.int 1), .val (.int 1), .val (.int 1), .val (.int x101), .val (.int x102), .val (.int x103), .val (.int x104), .val (.int x105), .val (.int x106), .val (.int 6), .val (.ref b450), .val (.int 6), .val (.ref b465), .unset, .unset] []
        have l469 := nlt E469.lt
        have z469 := W467.size
        refine st469 _ ?_
        have s470 := K469.1
        have f471 : Fld Z h469 b469 "java/lang/String" "coder" "B" (.int 0) := D469 (Or.inr (tw hw 39 rfl)) (ty := .byte) (by decide)
        have f472 : Fld Z h469 b469 "java/lang/String" "value" "[B" .null := D469 (Or.inr (tw hw 41 rfl)) (ty := (.array .byte)) (by decide)
        refine g_dup B W469 at_278 rfl ?_
        refine g_aload B W469 at_279 rfl rfl ?_
        have f474 := (A467.keep K469 nin0)
        obtain ⟨T473, h473, v473, L473, W473, Q473, st473⟩ := x_specialB B W469 (b := b469) (rc := 1) (rs := 1) [(.ref b465)] (fun s' hZ' => StrChars.Road.backV (W := 1) hZ' (fun d hd => hw d (own_words d hd)) (kI := 4) (tw hw 14 rfl) (cs := ([x104] : List Int32)) (bs := ([x104] : List Int32).map (fun c => c.toInt8.toInt32)) (n := 1) (n0 := Z.heap.size) (by omega) W469.size E469 f472 f471 f474 (Scs.ext W469.old.2) hcz rfl (by decide) (by decide) (by decide) (by simp only [List.mem_cons, List.not_mem_nil, or_false]; rintro c rfl <;> first | assumption | decide) rfl (by decide) (by decide)) at_281 rfl (tw hw 16 rfl) (tw hw 17 rfl) (tw hw 18 rfl) (by decide) (lenOf pd___C_V rfl) #[.val (.int p1), .val (.int p2), .val (.int p3), .val (.int p4), .val (.long p5), .second, .val (.int 1), .val (.int 1), .val (.int 1), .val (.int x101), .val (.int x102), .val (.int x103), .val (.int x104), .val (.int x105), .val (.int x106), .val (.int 6), .val (.ref b450), .val (.int 6), .val (.ref b465), .unset, .unset] [(.ref b469)] rfl rfl (by decide) (by decide) [b469] (allS (by omega) all0) (fun _ _ _ q => ⟨q.2.1, q.2.2.1⟩)
        obtain ⟨rfl, -, K473, E473, Fc473, t473, kb473, gt473, gu473, -, Fv473, A473⟩ := Q473
        refine st473 _ ?_
        have s475 := K473.1
        have lt473 := nlt A473.lt
        have S476 : StrIs Z h473 b469 [x104] := ⟨t473, kb473, E473, Fc473, Fv473, A473, (by simp only [List.mem_cons, List.not_mem_nil, or_false]; rintro c rfl <;> first | assumption | decide), by simp⟩
        refine g_astore B W473 at_284 rfl (l' := #[.val (.int p1), .val (.int p2), .val (.int p3), .val (.int p4), .val (.long p5), .second, .val (.int 1), .val (.int 1), .val (.int 1), .val (.int x101), .val (.int x102), .val (.int x103), .val (.int x104), .val (.int x105), .val (.int x106), .val (.int 6), .val (.ref b450), .val (.int 6), .val (.ref b465), .val (.ref b469), .unset]) rfl ?_
        obtain ⟨T477, h477, b477, gb477, W477, K477, E477, D477, st477⟩ := x_new B W473 at_286 (tw hw 42 rfl) (tw hw 43 rfl) (tw hw 44 rfl) (by decide) (by decide) #[.val (.int p1), .val (.int p2), .val (.int p3), .val (.int p4), .val (.long p5), .second, .val (.int 1), .val (.int 1), .val (.int 1), .val (.int x101), .val (.int x102), .val (.int x103), .val (.int x104), .val (.int x105), .val (.int x106), .val (.int 6), .val (.ref b450), .val (.int 6), .val (.ref b465), .val (.ref b469), .unset] []
        have l477 := nlt E477.lt
        have z477 := W473.size
        refine st477 _ ?_
        have s478 := K477.1
        have f479 : Fld Z h477 b477 "com/example/presswright/presswright/publishing/FilePath" "path" "Ljava/lang/String;" .null := D477 (Or.inr (tw hw 175 rfl)) (ty := (.object "java/lang/String")) (by decide)
        refine g_dup B W477 at_289 rfl ?_
        obtain ⟨T480, h480, b480, gb480, W480, K480, E480, D480, st480⟩ := x_new B W477 at_290 (tw hw 13 rfl) (tw hw 14 rfl) (tw hw 15 rfl) (by decide) (by decide) #[.val (.int p1), .val (.int p2), .val (.int p3), .val (.int p4), .val (.long p5), .second, .val (.int 1), .val (.int 1), .val (.int 1), .val (.int x101), .val (.int x102), .val (.int x103), .val (.int x104), .val (.int x105), .val (.int x106), .val (.int 6), .val (.ref b450), .val (.int 6), .val (.ref b465), .val (.ref b469), .unset] [(.ref b477), (.ref b477)]
        have l480 := nlt E480.lt
        have z480 := W477.size
        refine st480 _ ?_
        have s481 := K480.1
        have f482 : Fld Z h480 b480 "java/lang/String" "coder" "B" (.int 0) := D480 (Or.inr (tw hw 39 rfl)) (ty := .byte) (by decide)
        have f483 : Fld Z h480 b480 "java/lang/String" "value" "[B" .null := D480 (Or.inr (tw hw 41 rfl)) (ty := (.array .byte)) (by decide)
        refine g_dup B W480 at_293 rfl ?_
        refine g_aload B W480 at_294 rfl rfl ?_
        have f485 := (A462.keep K465 nin0)
        have f486 := ((f485.keep K467 (ninS (nne (by have q := nlt f485.lt; omega)) nin0)).keep K469 nin0)
        have f487 := (((f486.keep K473 (ninS (nne (by have q := nlt f486.lt; omega)) nin0)).keep K477 nin0).keep K480 nin0)
        obtain ⟨T484, h484, v484, L484, W484, Q484, st484⟩ := x_specialB B W480 (b := b480) (rc := 1) (rs := 6) [(.ref b450)] (fun s' hZ' => StrChars.Road.backV (W := 3) hZ' (fun d hd => hw d (own_words d hd)) (kI := 4) (tw hw 14 rfl) (cs := ([47, x101, 47, x102, 46, x104] : List Int32)) (bs := ([47, x101, 47, x102, 46, x104] : List Int32).map (fun c => c.toInt8.toInt32)) (n := 6) (n0 := Z.heap.size) (by omega) W480.size E480 f483 f482 f487 (Scs.ext W480.old.2) hcz rfl (by decide) (by decide) (by decide) (by simp only [List.mem_cons, List.not_mem_nil, or_false]; rintro c (rfl | rfl | rfl | rfl | rfl | rfl) <;> first | assumption | decide) rfl (by decide) (by decide)) at_296 rfl (tw hw 16 rfl) (tw hw 17 rfl) (tw hw 18 rfl) (by decide) (lenOf pd___C_V rfl) #[.val (.int p1), .val (.int p2), .val (.int p3), .val (.int p4), .val (.long p5), .second, .val (.int 1), .val (.int 1), .val (.int 1), .val (.int x101), .val (.int x102), .val (.int x103), .val (.int x104), .val (.int x105), .val (.int x106), .val (.int 6), .val (.ref b450), .val (.int 6), .val (.ref b465), .val (.ref b469), .unset] [(.ref b480), (.ref b477), (.ref b477)] rfl rfl (by decide) (by decide) [b480] (allS (by omega) all0) (fun _ _ _ q => ⟨q.2.1, q.2.2.1⟩)
        obtain ⟨rfl, -, K484, E484, Fc484, t484, kb484, gt484, gu484, -, Fv484, A484⟩ := Q484
        refine st484 _ ?_
        have s488 := K484.1
        have lt484 := nlt A484.lt
        have S489 : StrIs Z h484 b480 [47, x101, 47, x102, 46, x104] := ⟨t484, kb484, E484, Fc484, Fv484, A484, (by simp only [List.mem_cons, List.not_mem_nil, or_false]; rintro c (rfl | rfl | rfl | rfl | rfl | rfl) <;> first | assumption | decide), by simp⟩
        obtain ⟨fp, hfp⟩ : ∃ f : Nat → Int32, f = fun i => ([47, x101, 47, x102, 46, x104] : List Int32).getD i 0 := ⟨_, rfl⟩
        have ep0 : fp 0 = 47 := by rw [hfp]; rfl
        have ep1 : fp 1 = x101 := by rw [hfp]; rfl
        have ep2 : fp 2 = 47 := by rw [hfp]; rfl
        have ep3 : fp 3 = x102 := by rw [hfp]; rfl
        have ep4 : fp 4 = 46 := by rw [hfp]; rfl
        have ep5 : fp 5 = x104 := by rw [hfp]; rfl
        have Sfp : StrIs Z h484 b480 (lst 6 fp) := by rw [show lst 6 fp = [47, x101, 47, x102, 46, x104] by rw [hfp]; rfl]; exact S489
        have f490 := ((E477.keep K480).keep K484)
        have f491 := (f479.keep K480 nin0)
        have f492 := (f491.keep K484 (ninS (nne (by have q := nlt f491.lt; omega)) nin0))
        obtain ⟨T493, h493, v493, W493, Q493, st493⟩ := x_special B W484 (b := b477) [(.ref b480)] (c_fp2 l Z a0 hw b477 b480 6 fp 4 cz sf h484 Scs hcz Ssf rsf f490 f492 (by omega) Sfp (by omega) ep0 (by rw [ep1]; exact g101) ep2 (by intro j h1 h2; obtain rfl | rfl | rfl : j = 3 ∨ j = 4 ∨ j = 5 := (by omega); (· exact (by rw [ep3]; exact g102.n47)); (· exact (by rw [ep4]; exact (by decide))); (· exact (by rw [ep5]; exact g104.n47))) (by omega) (by omega) ep4 (by intro j h1 h2 h3; obtain rfl | rfl : j = 3 ∨ j = 5 := (by omega); (· exact (by rw [ep3]; exact g102.ok (by omega))); (· exact (by rw [ep5]; exact Or.inl q104)))) at_299 rfl (tw hw 45 rfl) (tw hw 46 rfl) (tw hw 44 rfl) (tw hw 47 rfl) (by decide) (lenOf pd__Ljava_lang_String__V rfl) #[.val (.int p1), .val (.int p2), .val (.int p3), .val (.int p4), .val (.long p5), .second, .val (.int 1), .val (.int 1), .val (.int 1), .val (.int x101), .val (.int x102), .val (.int x103), .val (.int x104), .val (.int x105), .val (.int x106), .val (.int 6), .val (.ref b450), .val (.int 6), .val (.ref b465), .val (.ref b469), .unset] [(.ref b477)] rfl 1 rfl (by decide) (by decide) (by decide) (by decide)
        obtain ⟨rfl, K493, E493, F493⟩ := Q493
        have s494 := K493.1
        refine st493 _ ?_
        have f496 := (E484.keep K493)
        have f497 := (Fc484.keep K493 (ninS (nne (by have q := nlt Fc484.lt; omega)) nin0))
        have f498 := (Fv484.keep K493 (ninS (nne (by have q := nlt Fv484.lt; omega)) nin0))
        have f499 := (A484.keep K493 (ninS (nne (by have q := nlt A484.lt; omega)) nin0))
        have S495 : StrIs Z h493 b480 (lst 6 fp) := by rw [show lst 6 fp = [47, x101, 47, x102, 46, x104] by rw [hfp]; rfl]; exact ⟨t484, kb484, f496, f497, f498, f499, (by simp only [List.mem_cons, List.not_mem_nil, or_false]; rintro c (rfl | rfl | rfl | rfl | rfl | rfl) <;> first | assumption | decide), by simp⟩
        obtain ⟨T500, h500, v500, W500, Q500, st500⟩ := x_virtual B W493 (b := b477) [] (c_extn l Z a0 hw b477 b480 6 fp 4 cz sf h493 Scs hcz Ssf rsf F493 S495 (by omega) (by omega) ep4 (by intro j h1 h2; obtain rfl : j = 5 := (by omega); (· exact (by rw [ep5]; exact g104.n46)))) E493 at_302 (tw hw 176 rfl) (tw hw 177 rfl) (tw hw 179 rfl) (tw hw 178 rfl) (tw hw 44 rfl) (tw hw 180 rfl) (by decide) (lenOf pd___Ljava_lang_String_ rfl) #[.val (.int p1), .val (.int p2), .val (.int p3), .val (.int p4), .val (.long p5), .second, .val (.int 1), .val (.int 1), .val (.int 1), .val (.int x101), .val (.int x102), .val (.int x103), .val (.int x104), .val (.int x105), .val (.int x106), .val (.int 6), .val (.ref b450), .val (.int 6), .val (.ref b465), .val (.ref b469), .unset] [] rfl 0 rfl (by decide) (by decide) (by decide) (by decide)
        obtain ⟨b500, rfl, K500, S500⟩ := Q500
        have s501 := K500.1
        refine st500 _ ?_
        have S500 : StrIs Z h500 b500 (lst 1 fun i => fp (5 + i)) := S500
        refine g_astore B W500 at_305 rfl (l' := #[.val (.int p1), .val (.int p2), .val (.int p3), .val (.int p4), .val (.long p5), .second, .val (.int 1), .val (.int 1), .val (.int 1), .val (.int x101), .val (.int x102), .val (.int x103), .val (.int x104), .val (.int x105), .val (.int x106), .val (.int 6), .val (.ref b450), .val (.int 6), .val (.ref b465), .val (.ref b469), .val (.ref b500)]) rfl ?_
        refine g_aload B W500 at_307 rfl rfl ?_
        refine g_aload B W500 at_309 rfl rfl ?_
        have f503 := (S476.keep ((((((Keep.refl h473 []).trans K477 all0).trans K480 all0).trans K484 (allS (Or.inr (by omega)) all0)).trans K493 (allS (Or.inr (by omega)) all0)).trans K500 all0))
        obtain ⟨T502, h502, v502, L502, W502, Q502, st502⟩ := x_virtualB B W500 (b := b500) (V := 0) (rc := 0) (rs := 0) (QL := fun v h' L => v = some (.int (bi (decide ((lst 1 fun i => fp (5 + i)) = [x104])))) ∧ L = [] ∧ h500 = h') [(.ref b469)] (fun s' hZ' => own_eqB hw S500 f503 (Scs.ext W500.old.2) hcz (tw hw 14 rfl) (by decide) (by decide) hZ') S500.exa at_311 (tw hw 181 rfl) (tw hw 182 rfl) (tw hw 184 rfl) (tw hw 183 rfl) (by decide) (lenOf pd__Ljava_lang_Object__Z rfl) #[.val (.int p1), .val (.int p2), .val (.int p3), .val (.int p4), .val (.long p5), .second, .val (.int 1), .val (.int 1), .val (.int 1), .val (.int x101), .val (.int x102), .val (.int x103), .val (.int x104), .val (.int x105), .val (.int x106), .val (.int 6), .val (.ref b450), .val (.int 6), .val (.ref b465), .val (.ref b469), .val (.ref b500)] [] rfl rfl (by decide) (by decide) [] all0 (fun _ _ _ q => ⟨q.2.1 ▸ Fr.nil _, q.2.2 ▸ Keep.refl _ _⟩)
        obtain ⟨rfl, -, rfl⟩ := Q502
        refine st502 _ ?_
        exact r_b B W502 at_314 (by decide) (by decide) (by show some (Value.int (bi (decide ((lst 1 fun i => fp (5 + i)) = [x104])))) = some (.int 1); rw [show (decide ((lst 1 fun i => fp (5 + i)) = [x104])) = true from decide_eq_true (by show ([fp 5] : List Int32) = _; rw [ep5])]; rfl)
      · skip
        show Go p.tables e below _ T106 (mkF m 93 #[.val (.int p1), .val (.int p2), .val (.int p3), .val (.int p4), .val (.long p5), .second, .val (.int 1), .val (.int 1), .val (.int 2), .val (.int x101), .val (.int x102), .val (.int x103), .val (.int x104), .val (.int x105), .val (.int x106), .unset, .unset, .unset, .unset, .unset, .unset] [])
        refine g_iconst B W106 at_93 (v := 1) (by decide) ?_
        refine g_iload B W106 at_94 rfl ?_
        refine g_if_n B W106 at_96 (XT.i0_eq_f (by decide)) ?_
        show Go p.tables e below _ T106 (mkF m 99 #[.val (.int p1), .val (.int p2), .val (.int p3), .val (.int p4), .val (.long p5), .second, .val (.int 1), .val (.int 1), .val (.int 2), .val (.int x101), .val (.int x102), .val (.int x103), .val (.int x104), .val (.int x105), .val (.int x106), .unset, .unset, .unset, .unset, .unset, .unset] [(.int 1)])
        refine g_iconst B W106 at_99 (v := 2) (by decide) ?_
        refine g_goto B W106 at_100 (pc' := 104) (by decide) ?_
        show Go p.tables e below _ T106 (mkF m 104 #[.val (.int p1), .val (.int p2), .val (.int p3), .val (.int p4), .val (.long p5), .second, .val (.int 1), .val (.int 1), .val (.int 2), .val (.int x101), .val (.int x102), .val (.int x103), .val (.int x104), .val (.int x105), .val (.int x106), .unset, .unset, .unset, .unset, .unset, .unset] [(.int 2), (.int 1)])
        refine g_iadd B W106 at_104  ?_
        rw [show (1 + 2 : Int32) = 3 by decide]
        refine g_iload B W106 at_105 rfl ?_
        refine g_iadd B W106 at_107  ?_
        rw [show (3 + 1 : Int32) = 4 by decide]
        refine g_iconst B W106 at_108 (v := 1) (by decide) ?_
        refine g_iadd B W106 at_109  ?_
        rw [show (4 + 1 : Int32) = 5 by decide]
        refine g_iload B W106 at_110 rfl ?_
        refine g_iadd B W106 at_112  ?_
        rw [show (5 + 2 : Int32) = 7 by decide]
        refine g_istore B W106 at_113  (l' := #[.val (.int p1), .val (.int p2), .val (.int p3), .val (.int p4), .val (.long p5), .second, .val (.int 1), .val (.int 1), .val (.int 2), .val (.int x101), .val (.int x102), .val (.int x103), .val (.int x104), .val (.int x105), .val (.int x106), .val (.int 7), .unset, .unset, .unset, .unset, .unset]) rfl ?_
        refine g_iload B W106 at_115 rfl ?_
        have zs504 := W106.size
        obtain ⟨T505, h505, v505, W505, Q505, st505⟩ := x_static B W106 [(.int 7)] (c_sz7 l Z a0 hw h0) at_117 (tw hw 9 rfl) (tw hw 10 rfl) (tw hw 2 rfl) (tw hw 11 rfl) (by decide) (lenOf pd__I__C rfl) #[.val (.int p1), .val (.int p2), .val (.int p3), .val (.int p4), .val (.long p5), .second, .val (.int 1), .val (.int 1), .val (.int 2), .val (.int x101), .val (.int x102), .val (.int x103), .val (.int x104), .val (.int x105), .val (.int x106), .val (.int 7), .unset, .unset, .unset, .unset, .unset] [] rfl 0 rfl (by decide) (by decide) (by decide) (by decide)
        obtain ⟨b505, kA505, rfl, g505, K505, A505⟩ := Q505
        have s506 := K505.1
        refine st505 _ ?_
        have l505 := nlt A505.lt
        have z505 := W505.size
        refine g_astore B W505 at_120 rfl (l' := #[.val (.int p1), .val (.int p2), .val (.int p3), .val (.int p4), .val (.long p5), .second, .val (.int 1), .val (.int 1), .val (.int 2), .val (.int x101), .val (.int x102), .val (.int x103), .val (.int x104), .val (.int x105), .val (.int x106), .val (.int 7), .val (.ref b505), .unset, .unset, .unset, .unset]) rfl ?_
        refine g_iconst B W505 at_122 (v := 0) (by decide) ?_
        refine g_istore B W505 at_123  (l' := #[.val (.int p1), .val (.int p2), .val (.int p3), .val (.int p4), .val (.long p5), .second, .val (.int 1), .val (.int 1), .val (.int 2), .val (.int x101), .val (.int x102), .val (.int x103), .val (.int x104), .val (.int x105), .val (.int x106), .val (.int 7), .val (.ref b505), .val (.int 0), .unset, .unset, .unset]) rfl ?_
        refine g_aload B W505 at_125 rfl rfl ?_
        refine g_iload B W505 at_127 rfl ?_
        refine g_bipush B W505 at_129 (v := 47) (by decide) ?_
        obtain ⟨T507, h507, W507, K507, A507, st507⟩ := x_castore B W505 (j := 0) (x := 47) at_131 A505 (by decide) (Nat.lt_of_lt_of_eq (show Int32.toNatClampNeg 0 < 7 by decide) rfl) (by omega) #[.val (.int p1), .val (.int p2), .val (.int p3), .val (.int p4), .val (.long p5), .second, .val (.int 1), .val (.int 1), .val (.int 2), .val (.int x101), .val (.int x102), .val (.int x103), .val (.int x104), .val (.int x105), .val (.int x106), .val (.int 7), .val (.ref b505), .val (.int 0), .unset, .unset, .unset] []
        refine st507 _ ?_
        rw [show nar .char 47 = 47 by decide] at A507
        have A507 : Arv Z h507 b505 kA505 .char 7 [(.int 47), (.int 0), (.int 0), (.int 0), (.int 0), (.int 0), (.int 0)] (.int 0) := A507
        have s508 := K507.1
        refine g_iinc B W507 at_132 (v := 1) (l' := #[.val (.int p1), .val (.int p2), .val (.int p3), .val (.int p4), .val (.long p5), .second, .val (.int 1), .val (.int 1), .val (.int 2), .val (.int x101), .val (.int x102), .val (.int x103), .val (.int x104), .val (.int x105), .val (.int x106), .val (.int 7), .val (.ref b505), .val (.int (0 + 1)), .unset, .unset, .unset]) (by decide) rfl rfl ?_
        rw [show (0 + 1 : Int32) = 1 by decide]
        refine g_iload B W507 at_135 rfl ?_
        refine g_if_n B W507 at_137 (XT.i0_eq_f (by decide)) ?_
        show Go p.tables e below _ T507 (mkF m 140 #[.val (.int p1), .val (.int p2), .val (.int p3), .val (.int p4), .val (.long p5), .second, .val (.int 1), .val (.int 1), .val (.int 2), .val (.int x101), .val (.int x102), .val (.int x103), .val (.int x104), .val (.int x105), .val (.int x106), .val (.int 7), .val (.ref b505), .val (.int 1), .unset, .unset, .unset] [])
        refine g_aload B W507 at_140 rfl rfl ?_
        refine g_iload B W507 at_142 rfl ?_
        refine g_iload B W507 at_144 rfl ?_
        obtain ⟨T509, h509, W509, K509, A509, st509⟩ := x_castore B W507 (j := 1) (x := x101) at_146 A507 (by decide) (Nat.lt_of_lt_of_eq (show Int32.toNatClampNeg 1 < 7 by decide) rfl) (by omega) #[.val (.int p1), .val (.int p2), .val (.int p3), .val (.int p4), .val (.long p5), .second, .val (.int 1), .val (.int 1), .val (.int 2), .val (.int x101), .val (.int x102), .val (.int x103), .val (.int x104), .val (.int x105), .val (.int x106), .val (.int 7), .val (.ref b505), .val (.int 1), .unset, .unset, .unset] []
        refine st509 _ ?_
        rw [nx101] at A509
        have A509 : Arv Z h509 b505 kA505 .char 7 [(.int 47), (.int x101), (.int 0), (.int 0), (.int 0), (.int 0), (.int 0)] (.int 0) := A509
        have s510 := K509.1
        refine g_iinc B W509 at_147 (v := 1) (l' := #[.val (.int p1), .val (.int p2), .val (.int p3), .val (.int p4), .val (.long p5), .second, .val (.int 1), .val (.int 1), .val (.int 2), .val (.int x101), .val (.int x102), .val (.int x103), .val (.int x104), .val (.int x105), .val (.int x106), .val (.int 7), .val (.ref b505), .val (.int (1 + 1)), .unset, .unset, .unset]) (by decide) rfl rfl ?_
        rw [show (1 + 1 : Int32) = 2 by decide]
        refine g_aload B W509 at_150 rfl rfl ?_
        refine g_iload B W509 at_152 rfl ?_
        refine g_bipush B W509 at_154 (v := 47) (by decide) ?_
        obtain ⟨T511, h511, W511, K511, A511, st511⟩ := x_castore B W509 (j := 2) (x := 47) at_156 A509 (by decide) (Nat.lt_of_lt_of_eq (show Int32.toNatClampNeg 2 < 7 by decide) rfl) (by omega) #[.val (.int p1), .val (.int p2), .val (.int p3), .val (.int p4), .val (.long p5), .second, .val (.int 1), .val (.int 1), .val (.int 2), .val (.int x101), .val (.int x102), .val (.int x103), .val (.int x104), .val (.int x105), .val (.int x106), .val (.int 7), .val (.ref b505), .val (.int 2), .unset, .unset, .unset] []
        refine st511 _ ?_
        rw [show nar .char 47 = 47 by decide] at A511
        have A511 : Arv Z h511 b505 kA505 .char 7 [(.int 47), (.int x101), (.int 47), (.int 0), (.int 0), (.int 0), (.int 0)] (.int 0) := A511
        have s512 := K511.1
        refine g_iinc B W511 at_157 (v := 1) (l' := #[.val (.int p1), .val (.int p2), .val (.int p3), .val (.int p4), .val (.long p5), .second, .val (.int 1), .val (.int 1), .val (.int 2), .val (.int x101), .val (.int x102), .val (.int x103), .val (.int x104), .val (.int x105), .val (.int x106), .val (.int 7), .val (.ref b505), .val (.int (2 + 1)), .unset, .unset, .unset]) (by decide) rfl rfl ?_
        rw [show (2 + 1 : Int32) = 3 by decide]
        refine g_aload B W511 at_160 rfl rfl ?_
        refine g_iload B W511 at_162 rfl ?_
        refine g_iload B W511 at_164 rfl ?_
        obtain ⟨T513, h513, W513, K513, A513, st513⟩ := x_castore B W511 (j := 3) (x := x102) at_166 A511 (by decide) (Nat.lt_of_lt_of_eq (show Int32.toNatClampNeg 3 < 7 by decide) rfl) (by omega) #[.val (.int p1), .val (.int p2), .val (.int p3), .val (.int p4), .val (.long p5), .second, .val (.int 1), .val (.int 1), .val (.int 2), .val (.int x101), .val (.int x102), .val (.int x103), .val (.int x104), .val (.int x105), .val (.int x106), .val (.int 7), .val (.ref b505), .val (.int 3), .unset, .unset, .unset] []
        refine st513 _ ?_
        rw [nx102] at A513
        have A513 : Arv Z h513 b505 kA505 .char 7 [(.int 47), (.int x101), (.int 47), (.int x102), (.int 0), (.int 0), (.int 0)] (.int 0) := A513
        have s514 := K513.1
        refine g_iinc B W513 at_167 (v := 1) (l' := #[.val (.int p1), .val (.int p2), .val (.int p3), .val (.int p4), .val (.long p5), .second, .val (.int 1), .val (.int 1), .val (.int 2), .val (.int x101), .val (.int x102), .val (.int x103), .val (.int x104), .val (.int x105), .val (.int x106), .val (.int 7), .val (.ref b505), .val (.int (3 + 1)), .unset, .unset, .unset]) (by decide) rfl rfl ?_
        rw [show (3 + 1 : Int32) = 4 by decide]
        refine g_iload B W513 at_170 rfl ?_
        refine g_iconst B W513 at_172 (v := 2) (by decide) ?_
        refine g_icmp_y B W513 at_173 (XT.ii_ne_t (by decide)) (pc' := 186) (by decide) ?_
        show Go p.tables e below _ T513 (mkF m 186 #[.val (.int p1), .val (.int p2), .val (.int p3), .val (.int p4), .val (.long p5), .second, .val (.int 1), .val (.int 1), .val (.int 2), .val (.int x101), .val (.int x102), .val (.int x103), .val (.int x104), .val (.int x105), .val (.int x106), .val (.int 7), .val (.ref b505), .val (.int 4), .unset, .unset, .unset] [])
        refine g_aload B W513 at_186 rfl rfl ?_
        refine g_iload B W513 at_188 rfl ?_
        refine g_bipush B W513 at_190 (v := 46) (by decide) ?_
        obtain ⟨T515, h515, W515, K515, A515, st515⟩ := x_castore B W513 (j := 4) (x := 46) at_192 A513 (by decide) (Nat.lt_of_lt_of_eq (show Int32.toNatClampNeg 4 < 7 by decide) rfl) (by omega) #[.val (.int p1), .val (.int p2), .val (.int p3), .val (.int p4), .val (.long p5), .second, .val (.int 1), .val (.int 1), .val (.int 2), .val (.int x101), .val (.int x102), .val (.int x103), .val (.int x104), .val (.int x105), .val (.int x106), .val (.int 7), .val (.ref b505), .val (.int 4), .unset, .unset, .unset] []
        refine st515 _ ?_
        rw [show nar .char 46 = 46 by decide] at A515
        have A515 : Arv Z h515 b505 kA505 .char 7 [(.int 47), (.int x101), (.int 47), (.int x102), (.int 46), (.int 0), (.int 0)] (.int 0) := A515
        have s516 := K515.1
        refine g_iinc B W515 at_193 (v := 1) (l' := #[.val (.int p1), .val (.int p2), .val (.int p3), .val (.int p4), .val (.long p5), .second, .val (.int 1), .val (.int 1), .val (.int 2), .val (.int x101), .val (.int x102), .val (.int x103), .val (.int x104), .val (.int x105), .val (.int x106), .val (.int 7), .val (.ref b505), .val (.int (4 + 1)), .unset, .unset, .unset]) (by decide) rfl rfl ?_
        rw [show (4 + 1 : Int32) = 5 by decide]
        refine g_aload B W515 at_196 rfl rfl ?_
        refine g_iload B W515 at_198 rfl ?_
        refine g_iload B W515 at_200 rfl ?_
        obtain ⟨T517, h517, W517, K517, A517, st517⟩ := x_castore B W515 (j := 5) (x := x104) at_202 A515 (by decide) (Nat.lt_of_lt_of_eq (show Int32.toNatClampNeg 5 < 7 by decide) rfl) (by omega) #[.val (.int p1), .val (.int p2), .val (.int p3), .val (.int p4), .val (.long p5), .second, .val (.int 1), .val (.int 1), .val (.int 2), .val (.int x101), .val (.int x102), .val (.int x103), .val (.int x104), .val (.int x105), .val (.int x106), .val (.int 7), .val (.ref b505), .val (.int 5), .unset, .unset, .unset] []
        refine st517 _ ?_
        rw [nx104] at A517
        have A517 : Arv Z h517 b505 kA505 .char 7 [(.int 47), (.int x101), (.int 47), (.int x102), (.int 46), (.int x104), (.int 0)] (.int 0) := A517
        have s518 := K517.1
        refine g_iinc B W517 at_203 (v := 1) (l' := #[.val (.int p1), .val (.int p2), .val (.int p3), .val (.int p4), .val (.long p5), .second, .val (.int 1), .val (.int 1), .val (.int 2), .val (.int x101), .val (.int x102), .val (.int x103), .val (.int x104), .val (.int x105), .val (.int x106), .val (.int 7), .val (.ref b505), .val (.int (5 + 1)), .unset, .unset, .unset]) (by decide) rfl rfl ?_
        rw [show (5 + 1 : Int32) = 6 by decide]
        refine g_iload B W517 at_206 rfl ?_
        refine g_iconst B W517 at_208 (v := 2) (by decide) ?_
        refine g_icmp_n B W517 at_209 (XT.ii_lt_f (by decide)) ?_
        show Go p.tables e below _ T517 (mkF m 212 #[.val (.int p1), .val (.int p2), .val (.int p3), .val (.int p4), .val (.long p5), .second, .val (.int 1), .val (.int 1), .val (.int 2), .val (.int x101), .val (.int x102), .val (.int x103), .val (.int x104), .val (.int x105), .val (.int x106), .val (.int 7), .val (.ref b505), .val (.int 6), .unset, .unset, .unset] [])
        refine g_aload B W517 at_212 rfl rfl ?_
        refine g_iload B W517 at_214 rfl ?_
        refine g_iload B W517 at_216 rfl ?_
        obtain ⟨T519, h519, W519, K519, A519, st519⟩ := x_castore B W517 (j := 6) (x := x105) at_218 A517 (by decide) (Nat.lt_of_lt_of_eq (show Int32.toNatClampNeg 6 < 7 by decide) rfl) (by omega) #[.val (.int p1), .val (.int p2), .val (.int p3), .val (.int p4), .val (.long p5), .second, .val (.int 1), .val (.int 1), .val (.int 2), .val (.int x101), .val (.int x102), .val (.int x103), .val (.int x104), .val (.int x105), .val (.int x106), .val (.int 7), .val (.ref b505), .val (.int 6), .unset, .unset, .unset] []
        refine st519 _ ?_
        rw [nx105] at A519
        have A519 : Arv Z h519 b505 kA505 .char 7 [(.int 47), (.int x101), (.int 47), (.int x102), (.int 46), (.int x104), (.int x105)] (.int 0) := A519
        have s520 := K519.1
        refine g_iinc B W519 at_219 (v := 1) (l' := #[.val (.int p1), .val (.int p2), .val (.int p3), .val (.int p4), .val (.long p5), .second, .val (.int 1), .val (.int 1), .val (.int 2), .val (.int x101), .val (.int x102), .val (.int x103), .val (.int x104), .val (.int x105), .val (.int x106), .val (.int 7), .val (.ref b505), .val (.int (6 + 1)), .unset, .unset, .unset]) (by decide) rfl rfl ?_
        rw [show (6 + 1 : Int32) = 7 by decide]
        refine g_iload B W519 at_222 rfl ?_
        refine g_iconst B W519 at_224 (v := 3) (by decide) ?_
        refine g_icmp_y B W519 at_225 (XT.ii_ne_t (by decide)) (pc' := 238) (by decide) ?_
        show Go p.tables e below _ T519 (mkF m 238 #[.val (.int p1), .val (.int p2), .val (.int p3), .val (.int p4), .val (.long p5), .second, .val (.int 1), .val (.int 1), .val (.int 2), .val (.int x101), .val (.int x102), .val (.int x103), .val (.int x104), .val (.int x105), .val (.int x106), .val (.int 7), .val (.ref b505), .val (.int 7), .unset, .unset, .unset] [])
        refine g_iload B W519 at_238 rfl ?_
        have zs521 := W519.size
        obtain ⟨T522, h522, v522, W522, Q522, st522⟩ := x_static B W519 [(.int 2)] (c_sz2 l Z a0 hw h519) at_240 (tw hw 9 rfl) (tw hw 10 rfl) (tw hw 2 rfl) (tw hw 11 rfl) (by decide) (lenOf pd__I__C rfl) #[.val (.int p1), .val (.int p2), .val (.int p3), .val (.int p4), .val (.long p5), .second, .val (.int 1), .val (.int 1), .val (.int 2), .val (.int x101), .val (.int x102), .val (.int x103), .val (.int x104), .val (.int x105), .val (.int x106), .val (.int 7), .val (.ref b505), .val (.int 7), .unset, .unset, .unset] [] rfl 0 rfl (by decide) (by decide) (by decide) (by decide)
        obtain ⟨b522, kA522, rfl, g522, K522, A522⟩ := Q522
        have s523 := K522.1
        refine st522 _ ?_
        have l522 := nlt A522.lt
        have z522 := W522.size
        refine g_astore B W522 at_243 rfl (l' := #[.val (.int p1), .val (.int p2), .val (.int p3), .val (.int p4), .val (.long p5), .second, .val (.int 1), .val (.int 1), .val (.int 2), .val (.int x101), .val (.int x102), .val (.int x103), .val (.int x104), .val (.int x105), .val (.int x106), .val (.int 7), .val (.ref b505), .val (.int 7), .val (.ref b522), .unset, .unset]) rfl ?_
        refine g_aload B W522 at_245 rfl rfl ?_
        refine g_iconst B W522 at_247 (v := 0) (by decide) ?_
        refine g_iload B W522 at_248 rfl ?_
        obtain ⟨T524, h524, W524, K524, A524, st524⟩ := x_castore B W522 (j := 0) (x := x104) at_250 A522 (by decide) (Nat.lt_of_lt_of_eq (show Int32.toNatClampNeg 0 < 2 by decide) rfl) (by omega) #[.val (.int p1), .val (.int p2), .val (.int p3), .val (.int p4), .val (.long p5), .second, .val (.int 1), .val (.int 1), .val (.int 2), .val (.int x101), .val (.int x102), .val (.int x103), .val (.int x104), .val (.int x105), .val (.int x106), .val (.int 7), .val (.ref b505), .val (.int 7), .val (.ref b522), .unset, .unset] []
        refine st524 _ ?_
        rw [nx104] at A524
        have A524 : Arv Z h524 b522 kA522 .char 2 [(.int x104), (.int 0)] (.int 0) := A524
        have s525 := K524.1
        refine g_iload B W524 at_251 rfl ?_
        refine g_iconst B W524 at_253 (v := 2) (by decide) ?_
        refine g_icmp_n B W524 at_254 (XT.ii_lt_f (by decide)) ?_
        show Go p.tables e below _ T524 (mkF m 257 #[.val (.int p1), .val (.int p2), .val (.int p3), .val (.int p4), .val (.long p5), .second, .val (.int 1), .val (.int 1), .val (.int 2), .val (.int x101), .val (.int x102), .val (.int x103), .val (.int x104), .val (.int x105), .val (.int x106), .val (.int 7), .val (.ref b505), .val (.int 7), .val (.ref b522), .unset, .unset] [])
        refine g_aload B W524 at_257 rfl rfl ?_
        refine g_iconst B W524 at_259 (v := 1) (by decide) ?_
        refine g_iload B W524 at_260 rfl ?_
        obtain ⟨T526, h526, W526, K526, A526, st526⟩ := x_castore B W524 (j := 1) (x := x105) at_262 A524 (by decide) (Nat.lt_of_lt_of_eq (show Int32.toNatClampNeg 1 < 2 by decide) rfl) (by omega) #[.val (.int p1), .val (.int p2), .val (.int p3), .val (.int p4), .val (.long p5), .second, .val (.int 1), .val (.int 1), .val (.int 2), .val (.int x101), .val (.int x102), .val (.int x103), .val (.int x104), .val (.int x105), .val (.int x106), .val (.int 7), .val (.ref b505), .val (.int 7), .val (.ref b522), .unset, .unset] []
        refine st526 _ ?_
        rw [nx105] at A526
        have A526 : Arv Z h526 b522 kA522 .char 2 [(.int x104), (.int x105)] (.int 0) := A526
        have s527 := K526.1
        refine g_iload B W526 at_263 rfl ?_
        refine g_iconst B W526 at_265 (v := 3) (by decide) ?_
        refine g_icmp_y B W526 at_266 (XT.ii_ne_t (by decide)) (pc' := 275) (by decide) ?_
        show Go p.tables e below _ T526 (mkF m 275 #[.val (.int p1), .val (.int p2), .val (.int p3), .val (.int p4), .val (.long p5), .second, .val (.int 1), .val (.int 1), .val (.int 2), .val (.int x101), .val (.int x102), .val (.int x103), .val (.int x104), .val (.int x105), .val (.int x106), .val (.int 7), .val (.ref b505), .val (.int 7), .val (.ref b522), .unset, .unset] [])
        obtain ⟨T528, h528, b528, gb528, W528, K528, E528, D528, st528⟩ := x_new B W526 at_275 (tw hw 13 rfl) (tw hw 14 rfl) (tw hw 15 rfl) (by decide) (by decide) #[.val (.int p1), .val (.int p2), .val (.int p3), .val (.int p4), .val (.long p5), .second, .val (.int 1), .val (.int 1), .val (.int 2), .val (.int x101), .val (.int x102), .val (.int x103), .val (.int x104), .val (.int x105), .val (.int x106), .val (.int 7), .val (.ref b505), .val (.int 7), .val (.ref b522), .unset, .unset] []
        have l528 := nlt E528.lt
        have z528 := W526.size
        refine st528 _ ?_
        have s529 := K528.1
        have f530 : Fld Z h528 b528 "java/lang/String" "coder" "B" (.int 0) := D528 (Or.inr (tw hw 39 rfl)) (ty := .byte) (by decide)
        have f531 : Fld Z h528 b528 "java/lang/String" "value" "[B" .null := D528 (Or.inr (tw hw 41 rfl)) (ty := (.array .byte)) (by decide)
        refine g_dup B W528 at_278 rfl ?_
        refine g_aload B W528 at_279 rfl rfl ?_
        have f533 := (A526.keep K528 nin0)
        obtain ⟨T532, h532, v532, L532, W532, Q532, st532⟩ := x_specialB B W528 (b := b528) (rc := 1) (rs := 2) [(.ref b522)] (fun s' hZ' => StrChars.Road.backV (W := 1) hZ' (fun d hd => hw d (own_words d hd)) (kI := 4) (tw hw 14 rfl) (cs := ([x104, x105] : List Int32)) (bs := ([x104, x105] : List Int32).map (fun c => c.toInt8.toInt32)) (n := 2) (n0 := Z.heap.size) (by omega) W528.size E528 f531 f530 f533 (Scs.ext W528.old.2) hcz rfl (by decide) (by decide) (by decide) (by simp only [List.mem_cons, List.not_mem_nil, or_false]; rintro c (rfl | rfl) <;> first | assumption | decide) rfl (by decide) (by decide)) at_281 rfl (tw hw 16 rfl) (tw hw 17 rfl) (tw hw 18 rfl) (by decide) (lenOf pd___C_V rfl) #[.val (.int p1), .val (.int p2), .val (.int p3), .val (.int p4), .val (.long p5), .second, .val (.int 1), .val (.int 1), .val (.int 2), .val (.int x101), .val (.int x102), .val (.int x103), .val (.int x104), .val (.int x105), .val (.int x106), .val (.int 7), .val (.ref b505), .val (.int 7), .val (.ref b522), .unset, .unset] [(.ref b528)] rfl rfl (by decide) (by decide) [b528] (allS (by omega) all0) (fun _ _ _ q => ⟨q.2.1, q.2.2.1⟩)
        obtain ⟨rfl, -, K532, E532, Fc532, t532, kb532, gt532, gu532, -, Fv532, A532⟩ := Q532
        refine st532 _ ?_
        have s534 := K532.1
        have lt532 := nlt A532.lt
        have S535 : StrIs Z h532 b528 [x104, x105] := ⟨t532, kb532, E532, Fc532, Fv532, A532, (by simp only [List.mem_cons, List.not_mem_nil, or_false]; rintro c (rfl | rfl) <;> first | assumption | decide), by simp⟩
        refine g_astore B W532 at_284 rfl (l' := #[.val (.int p1), .val (.int p2), .val (.int p3), .val (.int p4), .val (.long p5), .second, .val (.int 1), .val (.int 1), .val (.int 2), .val (.int x101), .val (.int x102), .val (.int x103), .val (.int x104), .val (.int x105), .val (.int x106), .val (.int 7), .val (.ref b505), .val (.int 7), .val (.ref b522), .val (.ref b528), .unset]) rfl ?_
        obtain ⟨T536, h536, b536, gb536, W536, K536, E536, D536, st536⟩ := x_new B W532 at_286 (tw hw 42 rfl) (tw hw 43 rfl) (tw hw 44 rfl) (by decide) (by decide) #[.val (.int p1), .val (.int p2), .val (.int p3), .val (.int p4), .val (.long p5), .second, .val (.int 1), .val (.int 1), .val (.int 2), .val (.int x101), .val (.int x102), .val (.int x103), .val (.int x104), .val (.int x105), .val (.int x106), .val (.int 7), .val (.ref b505), .val (.int 7), .val (.ref b522), .val (.ref b528), .unset] []
        have l536 := nlt E536.lt
        have z536 := W532.size
        refine st536 _ ?_
        have s537 := K536.1
        have f538 : Fld Z h536 b536 "com/example/presswright/presswright/publishing/FilePath" "path" "Ljava/lang/String;" .null := D536 (Or.inr (tw hw 175 rfl)) (ty := (.object "java/lang/String")) (by decide)
        refine g_dup B W536 at_289 rfl ?_
        obtain ⟨T539, h539, b539, gb539, W539, K539, E539, D539, st539⟩ := x_new B W536 at_290 (tw hw 13 rfl) (tw hw 14 rfl) (tw hw 15 rfl) (by decide) (by decide) #[.val (.int p1), .val (.int p2), .val (.int p3), .val (.int p4), .val (.long p5), .second, .val (.int 1), .val (.int 1), .val (.int 2), .val (.int x101), .val (.int x102), .val (.int x103), .val (.int x104), .val (.int x105), .val (.int x106), .val (.int 7), .val (.ref b505), .val (.int 7), .val (.ref b522), .val (.ref b528), .unset] [(.ref b536), (.ref b536)]
        have l539 := nlt E539.lt
        have z539 := W536.size
        refine st539 _ ?_
        have s540 := K539.1
        have f541 : Fld Z h539 b539 "java/lang/String" "coder" "B" (.int 0) := D539 (Or.inr (tw hw 39 rfl)) (ty := .byte) (by decide)
        have f542 : Fld Z h539 b539 "java/lang/String" "value" "[B" .null := D539 (Or.inr (tw hw 41 rfl)) (ty := (.array .byte)) (by decide)
        refine g_dup B W539 at_293 rfl ?_
        refine g_aload B W539 at_294 rfl rfl ?_
        have f544 := (A519.keep K522 nin0)
        have f545 := (f544.keep K524 (ninS (nne (by have q := nlt f544.lt; omega)) nin0))
        have f546 := ((f545.keep K526 (ninS (nne (by have q := nlt f545.lt; omega)) nin0)).keep K528 nin0)
        have f547 := (((f546.keep K532 (ninS (nne (by have q := nlt f546.lt; omega)) nin0)).keep K536 nin0).keep K539 nin0)
        obtain ⟨T543, h543, v543, L543, W543, Q543, st543⟩ := x_specialB B W539 (b := b539) (rc := 1) (rs := 7) [(.ref b505)] (fun s' hZ' => StrChars.Road.backV (W := 3) hZ' (fun d hd => hw d (own_words d hd)) (kI := 4) (tw hw 14 rfl) (cs := ([47, x101, 47, x102, 46, x104, x105] : List Int32)) (bs := ([47, x101, 47, x102, 46, x104, x105] : List Int32).map (fun c => c.toInt8.toInt32)) (n := 7) (n0 := Z.heap.size) (by omega) W539.size E539 f542 f541 f547 (Scs.ext W539.old.2) hcz rfl (by decide) (by decide) (by decide) (by simp only [List.mem_cons, List.not_mem_nil, or_false]; rintro c (rfl | rfl | rfl | rfl | rfl | rfl | rfl) <;> first | assumption | decide) rfl (by decide) (by decide)) at_296 rfl (tw hw 16 rfl) (tw hw 17 rfl) (tw hw 18 rfl) (by decide) (lenOf pd___C_V rfl) #[.val (.int p1), .val (.int p2), .val (.int p3), .val (.int p4), .val (.long p5), .second, .val (.int 1), .val (.int 1), .val (.int 2), .val (.int x101), .val (.int x102), .val (.int x103), .val (.int x104), .val (.int x105), .val (.int x106), .val (.int 7), .val (.ref b505), .val (.int 7), .val (.ref b522), .val (.ref b528), .unset] [(.ref b539), (.ref b536), (.ref b536)] rfl rfl (by decide) (by decide) [b539] (allS (by omega) all0) (fun _ _ _ q => ⟨q.2.1, q.2.2.1⟩)
        obtain ⟨rfl, -, K543, E543, Fc543, t543, kb543, gt543, gu543, -, Fv543, A543⟩ := Q543
        refine st543 _ ?_
        have s548 := K543.1
        have lt543 := nlt A543.lt
        have S549 : StrIs Z h543 b539 [47, x101, 47, x102, 46, x104, x105] := ⟨t543, kb543, E543, Fc543, Fv543, A543, (by simp only [List.mem_cons, List.not_mem_nil, or_false]; rintro c (rfl | rfl | rfl | rfl | rfl | rfl | rfl) <;> first | assumption | decide), by simp⟩
        obtain ⟨fp, hfp⟩ : ∃ f : Nat → Int32, f = fun i => ([47, x101, 47, x102, 46, x104, x105] : List Int32).getD i 0 := ⟨_, rfl⟩
        have ep0 : fp 0 = 47 := by rw [hfp]; rfl
        have ep1 : fp 1 = x101 := by rw [hfp]; rfl
        have ep2 : fp 2 = 47 := by rw [hfp]; rfl
        have ep3 : fp 3 = x102 := by rw [hfp]; rfl
        have ep4 : fp 4 = 46 := by rw [hfp]; rfl
        have ep5 : fp 5 = x104 := by rw [hfp]; rfl
        have ep6 : fp 6 = x105 := by rw [hfp]; rfl
        have Sfp : StrIs Z h543 b539 (lst 7 fp) := by rw [show lst 7 fp = [47, x101, 47, x102, 46, x104, x105] by rw [hfp]; rfl]; exact S549
        have f550 := ((E536.keep K539).keep K543)
        have f551 := (f538.keep K539 nin0)
        have f552 := (f551.keep K543 (ninS (nne (by have q := nlt f551.lt; omega)) nin0))
        obtain ⟨T553, h553, v553, W553, Q553, st553⟩ := x_special B W543 (b := b536) [(.ref b539)] (c_fp2 l Z a0 hw b536 b539 7 fp 4 cz sf h543 Scs hcz Ssf rsf f550 f552 (by omega) Sfp (by omega) ep0 (by rw [ep1]; exact g101) ep2 (by intro j h1 h2; obtain rfl | rfl | rfl | rfl : j = 3 ∨ j = 4 ∨ j = 5 ∨ j = 6 := (by omega); (· exact (by rw [ep3]; exact g102.n47)); (· exact (by rw [ep4]; exact (by decide))); (· exact (by rw [ep5]; exact g104.n47)); (· exact (by rw [ep6]; exact g105.n47))) (by omega) (by omega) ep4 (by intro j h1 h2 h3; obtain rfl | rfl | rfl : j = 3 ∨ j = 5 ∨ j = 6 := (by omega); (· exact (by rw [ep3]; exact g102.ok (by omega))); (· exact (by rw [ep5]; exact Or.inl q104)); (· exact (by rw [ep6]; exact Or.inl q105)))) at_299 rfl (tw hw 45 rfl) (tw hw 46 rfl) (tw hw 44 rfl) (tw hw 47 rfl) (by decide) (lenOf pd__Ljava_lang_String__V rfl) #[.val (.int p1), .val (.int p2), .val (.int p3), .val (.int p4), .val (.long p5), .second, .val (.int 1), .val (.int 1), .val (.int 2), .val (.int x101), .val (.int x102), .val (.int x103), .val (.int x104), .val (.int x105), .val (.int x106), .val (.int 7), .val (.ref b505), .val (.int 7), .val (.ref b522), .val (.ref b528), .unset] [(.ref b536)] rfl 1 rfl (by decide) (by decide) (by decide) (by decide)
        obtain ⟨rfl, K553, E553, F553⟩ := Q553
        have s554 := K553.1
        refine st553 _ ?_
        have f556 := (E543.keep K553)
        have f557 := (Fc543.keep K553 (ninS (nne (by have q := nlt Fc543.lt; omega)) nin0))
        have f558 := (Fv543.keep K553 (ninS (nne (by have q := nlt Fv543.lt; omega)) nin0))
        have f559 := (A543.keep K553 (ninS (nne (by have q := nlt A543.lt; omega)) nin0))
        have S555 : StrIs Z h553 b539 (lst 7 fp) := by rw [show lst 7 fp = [47, x101, 47, x102, 46, x104, x105] by rw [hfp]; rfl]; exact ⟨t543, kb543, f556, f557, f558, f559, (by simp only [List.mem_cons, List.not_mem_nil, or_false]; rintro c (rfl | rfl | rfl | rfl | rfl | rfl | rfl) <;> first | assumption | decide), by simp⟩
        obtain ⟨T560, h560, v560, W560, Q560, st560⟩ := x_virtual B W553 (b := b536) [] (c_extn l Z a0 hw b536 b539 7 fp 4 cz sf h553 Scs hcz Ssf rsf F553 S555 (by omega) (by omega) ep4 (by intro j h1 h2; obtain rfl | rfl : j = 5 ∨ j = 6 := (by omega); (· exact (by rw [ep5]; exact g104.n46)); (· exact (by rw [ep6]; exact g105.n46)))) E553 at_302 (tw hw 176 rfl) (tw hw 177 rfl) (tw hw 179 rfl) (tw hw 178 rfl) (tw hw 44 rfl) (tw hw 180 rfl) (by decide) (lenOf pd___Ljava_lang_String_ rfl) #[.val (.int p1), .val (.int p2), .val (.int p3), .val (.int p4), .val (.long p5), .second, .val (.int 1), .val (.int 1), .val (.int 2), .val (.int x101), .val (.int x102), .val (.int x103), .val (.int x104), .val (.int x105), .val (.int x106), .val (.int 7), .val (.ref b505), .val (.int 7), .val (.ref b522), .val (.ref b528), .unset] [] rfl 0 rfl (by decide) (by decide) (by decide) (by decide)
        obtain ⟨b560, rfl, K560, S560⟩ := Q560
        have s561 := K560.1
        refine st560 _ ?_
        have S560 : StrIs Z h560 b560 (lst 2 fun i => fp (5 + i)) := S560
        refine g_astore B W560 at_305 rfl (l' := #[.val (.int p1), .val (.int p2), .val (.int p3), .val (.int p4), .val (.long p5), .second, .val (.int 1), .val (.int 1), .val (.int 2), .val (.int x101), .val (.int x102), .val (.int x103), .val (.int x104), .val (.int x105), .val (.int x106), .val (.int 7), .val (.ref b505), .val (.int 7), .val (.ref b522), .val (.ref b528), .val (.ref b560)]) rfl ?_
        refine g_aload B W560 at_307 rfl rfl ?_
        refine g_aload B W560 at_309 rfl rfl ?_
        have f563 := (S535.keep ((((((Keep.refl h532 []).trans K536 all0).trans K539 all0).trans K543 (allS (Or.inr (by omega)) all0)).trans K553 (allS (Or.inr (by omega)) all0)).trans K560 all0))
        obtain ⟨T562, h562, v562, L562, W562, Q562, st562⟩ := x_virtualB B W560 (b := b560) (V := 0) (rc := 0) (rs := 0) (QL := fun v h' L => v = some (.int (bi (decide ((lst 2 fun i => fp (5 + i)) = [x104, x105])))) ∧ L = [] ∧ h560 = h') [(.ref b528)] (fun s' hZ' => own_eqB hw S560 f563 (Scs.ext W560.old.2) hcz (tw hw 14 rfl) (by decide) (by decide) hZ') S560.exa at_311 (tw hw 181 rfl) (tw hw 182 rfl) (tw hw 184 rfl) (tw hw 183 rfl) (by decide) (lenOf pd__Ljava_lang_Object__Z rfl) #[.val (.int p1), .val (.int p2), .val (.int p3), .val (.int p4), .val (.long p5), .second, .val (.int 1), .val (.int 1), .val (.int 2), .val (.int x101), .val (.int x102), .val (.int x103), .val (.int x104), .val (.int x105), .val (.int x106), .val (.int 7), .val (.ref b505), .val (.int 7), .val (.ref b522), .val (.ref b528), .val (.ref b560)] [] rfl rfl (by decide) (by decide) [] all0 (fun _ _ _ q => ⟨q.2.1 ▸ Fr.nil _, q.2.2 ▸ Keep.refl _ _⟩)
        obtain ⟨rfl, -, rfl⟩ := Q562
        refine st562 _ ?_
        exact r_b B W562 at_314 (by decide) (by decide) (by show some (Value.int (bi (decide ((lst 2 fun i => fp (5 + i)) = [x104, x105])))) = some (.int 1); rw [show (decide ((lst 2 fun i => fp (5 + i)) = [x104, x105])) = true from decide_eq_true (by show ([fp 5, fp 6] : List Int32) = _; rw [ep5, ep6])]; rfl)
      · skip
        show Go p.tables e below _ T106 (mkF m 93 #[.val (.int p1), .val (.int p2), .val (.int p3), .val (.int p4), .val (.long p5), .second, .val (.int 1), .val (.int 1), .val (.int 3), .val (.int x101), .val (.int x102), .val (.int x103), .val (.int x104), .val (.int x105), .val (.int x106), .unset, .unset, .unset, .unset, .unset, .unset] [])
        refine g_iconst B W106 at_93 (v := 1) (by decide) ?_
        refine g_iload B W106 at_94 rfl ?_
        refine g_if_n B W106 at_96 (XT.i0_eq_f (by decide)) ?_
        show Go p.tables e below _ T106 (mkF m 99 #[.val (.int p1), .val (.int p2), .val (.int p3), .val (.int p4), .val (.long p5), .second, .val (.int 1), .val (.int 1), .val (.int 3), .val (.int x101), .val (.int x102), .val (.int x103), .val (.int x104), .val (.int x105), .val (.int x106), .unset, .unset, .unset, .unset, .unset, .unset] [(.int 1)])
        refine g_iconst B W106 at_99 (v := 2) (by decide) ?_
        refine g_goto B W106 at_100 (pc' := 104) (by decide) ?_
        show Go p.tables e below _ T106 (mkF m 104 #[.val (.int p1), .val (.int p2), .val (.int p3), .val (.int p4), .val (.long p5), .second, .val (.int 1), .val (.int 1), .val (.int 3), .val (.int x101), .val (.int x102), .val (.int x103), .val (.int x104), .val (.int x105), .val (.int x106), .unset, .unset, .unset, .unset, .unset, .unset] [(.int 2), (.int 1)])
        refine g_iadd B W106 at_104  ?_
        rw [show (1 + 2 : Int32) = 3 by decide]
        refine g_iload B W106 at_105 rfl ?_
        refine g_iadd B W106 at_107  ?_
        rw [show (3 + 1 : Int32) = 4 by decide]
        refine g_iconst B W106 at_108 (v := 1) (by decide) ?_
        refine g_iadd B W106 at_109  ?_
        rw [show (4 + 1 : Int32) = 5 by decide]
        refine g_iload B W106 at_110 rfl ?_
        refine g_iadd B W106 at_112  ?_
        rw [show (5 + 3 : Int32) = 8 by decide]
        refine g_istore B W106 at_113  (l' := #[.val (.int p1), .val (.int p2), .val (.int p3), .val (.int p4), .val (.long p5), .second, .val (.int 1), .val (.int 1), .val (.int 3), .val (.int x101), .val (.int x102), .val (.int x103), .val (.int x104), .val (.int x105), .val (.int x106), .val (.int 8), .unset, .unset, .unset, .unset, .unset]) rfl ?_
        refine g_iload B W106 at_115 rfl ?_
        have zs564 := W106.size
        obtain ⟨T565, h565, v565, W565, Q565, st565⟩ := x_static B W106 [(.int 8)] (c_sz8 l Z a0 hw h0) at_117 (tw hw 9 rfl) (tw hw 10 rfl) (tw hw 2 rfl) (tw hw 11 rfl) (by decide) (lenOf pd__I__C rfl) #[.val (.int p1), .val (.int p2), .val (.int p3), .val (.int p4), .val (.long p5), .second, .val (.int 1), .val (.int 1), .val (.int 3), .val (.int x101), .val (.int x102), .val (.int x103), .val (.int x104), .val (.int x105), .val (.int x106), .val (.int 8), .unset, .unset, .unset, .unset, .unset] [] rfl 0 rfl (by decide) (by decide) (by decide) (by decide)
        obtain ⟨b565, kA565, rfl, g565, K565, A565⟩ := Q565
        have s566 := K565.1
        refine st565 _ ?_
        have l565 := nlt A565.lt
        have z565 := W565.size
        refine g_astore B W565 at_120 rfl (l' := #[.val (.int p1), .val (.int p2), .val (.int p3), .val (.int p4), .val (.long p5), .second, .val (.int 1), .val (.int 1), .val (.int 3), .val (.int x101), .val (.int x102), .val (.int x103), .val (.int x104), .val (.int x105), .val (.int x106), .val (.int 8), .val (.ref b565), .unset, .unset, .unset, .unset]) rfl ?_
        refine g_iconst B W565 at_122 (v := 0) (by decide) ?_
        refine g_istore B W565 at_123  (l' := #[.val (.int p1), .val (.int p2), .val (.int p3), .val (.int p4), .val (.long p5), .second, .val (.int 1), .val (.int 1), .val (.int 3), .val (.int x101), .val (.int x102), .val (.int x103), .val (.int x104), .val (.int x105), .val (.int x106), .val (.int 8), .val (.ref b565), .val (.int 0), .unset, .unset, .unset]) rfl ?_
        refine g_aload B W565 at_125 rfl rfl ?_
        refine g_iload B W565 at_127 rfl ?_
        refine g_bipush B W565 at_129 (v := 47) (by decide) ?_
        obtain ⟨T567, h567, W567, K567, A567, st567⟩ := x_castore B W565 (j := 0) (x := 47) at_131 A565 (by decide) (Nat.lt_of_lt_of_eq (show Int32.toNatClampNeg 0 < 8 by decide) rfl) (by omega) #[.val (.int p1), .val (.int p2), .val (.int p3), .val (.int p4), .val (.long p5), .second, .val (.int 1), .val (.int 1), .val (.int 3), .val (.int x101), .val (.int x102), .val (.int x103), .val (.int x104), .val (.int x105), .val (.int x106), .val (.int 8), .val (.ref b565), .val (.int 0), .unset, .unset, .unset] []
        refine st567 _ ?_
        rw [show nar .char 47 = 47 by decide] at A567
        have A567 : Arv Z h567 b565 kA565 .char 8 [(.int 47), (.int 0), (.int 0), (.int 0), (.int 0), (.int 0), (.int 0), (.int 0)] (.int 0) := A567
        have s568 := K567.1
        refine g_iinc B W567 at_132 (v := 1) (l' := #[.val (.int p1), .val (.int p2), .val (.int p3), .val (.int p4), .val (.long p5), .second, .val (.int 1), .val (.int 1), .val (.int 3), .val (.int x101), .val (.int x102), .val (.int x103), .val (.int x104), .val (.int x105), .val (.int x106), .val (.int 8), .val (.ref b565), .val (.int (0 + 1)), .unset, .unset, .unset]) (by decide) rfl rfl ?_
        rw [show (0 + 1 : Int32) = 1 by decide]
        refine g_iload B W567 at_135 rfl ?_
        refine g_if_n B W567 at_137 (XT.i0_eq_f (by decide)) ?_
        show Go p.tables e below _ T567 (mkF m 140 #[.val (.int p1), .val (.int p2), .val (.int p3), .val (.int p4), .val (.long p5), .second, .val (.int 1), .val (.int 1), .val (.int 3), .val (.int x101), .val (.int x102), .val (.int x103), .val (.int x104), .val (.int x105), .val (.int x106), .val (.int 8), .val (.ref b565), .val (.int 1), .unset, .unset, .unset] [])
        refine g_aload B W567 at_140 rfl rfl ?_
        refine g_iload B W567 at_142 rfl ?_
        refine g_iload B W567 at_144 rfl ?_
        obtain ⟨T569, h569, W569, K569, A569, st569⟩ := x_castore B W567 (j := 1) (x := x101) at_146 A567 (by decide) (Nat.lt_of_lt_of_eq (show Int32.toNatClampNeg 1 < 8 by decide) rfl) (by omega) #[.val (.int p1), .val (.int p2), .val (.int p3), .val (.int p4), .val (.long p5), .second, .val (.int 1), .val (.int 1), .val (.int 3), .val (.int x101), .val (.int x102), .val (.int x103), .val (.int x104), .val (.int x105), .val (.int x106), .val (.int 8), .val (.ref b565), .val (.int 1), .unset, .unset, .unset] []
        refine st569 _ ?_
        rw [nx101] at A569
        have A569 : Arv Z h569 b565 kA565 .char 8 [(.int 47), (.int x101), (.int 0), (.int 0), (.int 0), (.int 0), (.int 0), (.int 0)] (.int 0) := A569
        have s570 := K569.1
        refine g_iinc B W569 at_147 (v := 1) (l' := #[.val (.int p1), .val (.int p2), .val (.int p3), .val (.int p4), .val (.long p5), .second, .val (.int 1), .val (.int 1), .val (.int 3), .val (.int x101), .val (.int x102), .val (.int x103), .val (.int x104), .val (.int x105), .val (.int x106), .val (.int 8), .val (.ref b565), .val (.int (1 + 1)), .unset, .unset, .unset]) (by decide) rfl rfl ?_
        rw [show (1 + 1 : Int32) = 2 by decide]
        refine g_aload B W569 at_150 rfl rfl ?_
        refine g_iload B W569 at_152 rfl ?_
        refine g_bipush B W569 at_154 (v := 47) (by decide) ?_
        obtain ⟨T571, h571, W571, K571, A571, st571⟩ := x_castore B W569 (j := 2) (x := 47) at_156 A569 (by decide) (Nat.lt_of_lt_of_eq (show Int32.toNatClampNeg 2 < 8 by decide) rfl) (by omega) #[.val (.int p1), .val (.int p2), .val (.int p3), .val (.int p4), .val (.long p5), .second, .val (.int 1), .val (.int 1), .val (.int 3), .val (.int x101), .val (.int x102), .val (.int x103), .val (.int x104), .val (.int x105), .val (.int x106), .val (.int 8), .val (.ref b565), .val (.int 2), .unset, .unset, .unset] []
        refine st571 _ ?_
        rw [show nar .char 47 = 47 by decide] at A571
        have A571 : Arv Z h571 b565 kA565 .char 8 [(.int 47), (.int x101), (.int 47), (.int 0), (.int 0), (.int 0), (.int 0), (.int 0)] (.int 0) := A571
        have s572 := K571.1
        refine g_iinc B W571 at_157 (v := 1) (l' := #[.val (.int p1), .val (.int p2), .val (.int p3), .val (.int p4), .val (.long p5), .second, .val (.int 1), .val (.int 1), .val (.int 3), .val (.int x101), .val (.int x102), .val (.int x103), .val (.int x104), .val (.int x105), .val (.int x106), .val (.int 8), .val (.ref b565), .val (.int (2 + 1)), .unset, .unset, .unset]) (by decide) rfl rfl ?_
        rw [show (2 + 1 : Int32) = 3 by decide]
        refine g_aload B W571 at_160 rfl rfl ?_
        refine g_iload B W571 at_162 rfl ?_
        refine g_iload B W571 at_164 rfl ?_
        obtain ⟨T573, h573, W573, K573, A573, st573⟩ := x_castore B W571 (j := 3) (x := x102) at_166 A571 (by decide) (Nat.lt_of_lt_of_eq (show Int32.toNatClampNeg 3 < 8 by decide) rfl) (by omega) #[.val (.int p1), .val (.int p2), .val (.int p3), .val (.int p4), .val (.long p5), .second, .val (.int 1), .val (.int 1), .val (.int 3), .val (.int x101), .val (.int x102), .val (.int x103), .val (.int x104), .val (.int x105), .val (.int x106), .val (.int 8), .val (.ref b565), .val (.int 3), .unset, .unset, .unset] []
        refine st573 _ ?_
        rw [nx102] at A573
        have A573 : Arv Z h573 b565 kA565 .char 8 [(.int 47), (.int x101), (.int 47), (.int x102), (.int 0), (.int 0), (.int 0), (.int 0)] (.int 0) := A573
        have s574 := K573.1
        refine g_iinc B W573 at_167 (v := 1) (l' := #[.val (.int p1), .val (.int p2), .val (.int p3), .val (.int p4), .val (.long p5), .second, .val (.int 1), .val (.int 1), .val (.int 3), .val (.int x101), .val (.int x102), .val (.int x103), .val (.int x104), .val (.int x105), .val (.int x106), .val (.int 8), .val (.ref b565), .val (.int (3 + 1)), .unset, .unset, .unset]) (by decide) rfl rfl ?_
        rw [show (3 + 1 : Int32) = 4 by decide]
        refine g_iload B W573 at_170 rfl ?_
        refine g_iconst B W573 at_172 (v := 2) (by decide) ?_
        refine g_icmp_y B W573 at_173 (XT.ii_ne_t (by decide)) (pc' := 186) (by decide) ?_
        show Go p.tables e below _ T573 (mkF m 186 #[.val (.int p1), .val (.int p2), .val (.int p3), .val (.int p4), .val (.long p5), .second, .val (.int 1), .val (.int 1), .val (.int 3), .val (.int x101), .val (.int x102), .val (.int x103), .val (.int x104), .val (.int x105), .val (.int x106), .val (.int 8), .val (.ref b565), .val (.int 4), .unset, .unset, .unset] [])
        refine g_aload B W573 at_186 rfl rfl ?_
        refine g_iload B W573 at_188 rfl ?_
        refine g_bipush B W573 at_190 (v := 46) (by decide) ?_
        obtain ⟨T575, h575, W575, K575, A575, st575⟩ := x_castore B W573 (j := 4) (x := 46) at_192 A573 (by decide) (Nat.lt_of_lt_of_eq (show Int32.toNatClampNeg 4 < 8 by decide) rfl) (by omega) #[.val (.int p1), .val (.int p2), .val (.int p3), .val (.int p4), .val (.long p5), .second, .val (.int 1), .val (.int 1), .val (.int 3), .val (.int x101), .val (.int x102), .val (.int x103), .val (.int x104), .val (.int x105), .val (.int x106), .val (.int 8), .val (.ref b565), .val (.int 4), .unset, .unset, .unset] []
        refine st575 _ ?_
        rw [show nar .char 46 = 46 by decide] at A575
        have A575 : Arv Z h575 b565 kA565 .char 8 [(.int 47), (.int x101), (.int 47), (.int x102), (.int 46), (.int 0), (.int 0), (.int 0)] (.int 0) := A575
        have s576 := K575.1
        refine g_iinc B W575 at_193 (v := 1) (l' := #[.val (.int p1), .val (.int p2), .val (.int p3), .val (.int p4), .val (.long p5), .second, .val (.int 1), .val (.int 1), .val (.int 3), .val (.int x101), .val (.int x102), .val (.int x103), .val (.int x104), .val (.int x105), .val (.int x106), .val (.int 8), .val (.ref b565), .val (.int (4 + 1)), .unset, .unset, .unset]) (by decide) rfl rfl ?_
        rw [show (4 + 1 : Int32) = 5 by decide]
        refine g_aload B W575 at_196 rfl rfl ?_
        refine g_iload B W575 at_198 rfl ?_
        refine g_iload B W575 at_200 rfl ?_
        obtain ⟨T577, h577, W577, K577, A577, st577⟩ := x_castore B W575 (j := 5) (x := x104) at_202 A575 (by decide) (Nat.lt_of_lt_of_eq (show Int32.toNatClampNeg 5 < 8 by decide) rfl) (by omega) #[.val (.int p1), .val (.int p2), .val (.int p3), .val (.int p4), .val (.long p5), .second, .val (.int 1), .val (.int 1), .val (.int 3), .val (.int x101), .val (.int x102), .val (.int x103), .val (.int x104), .val (.int x105), .val (.int x106), .val (.int 8), .val (.ref b565), .val (.int 5), .unset, .unset, .unset] []
        refine st577 _ ?_
        rw [nx104] at A577
        have A577 : Arv Z h577 b565 kA565 .char 8 [(.int 47), (.int x101), (.int 47), (.int x102), (.int 46), (.int x104), (.int 0), (.int 0)] (.int 0) := A577
        have s578 := K577.1
        refine g_iinc B W577 at_203 (v := 1) (l' := #[.val (.int p1), .val (.int p2), .val (.int p3), .val (.int p4), .val (.long p5), .second, .val (.int 1), .val (.int 1), .val (.int 3), .val (.int x101), .val (.int x102), .val (.int x103), .val (.int x104), .val (.int x105), .val (.int x106), .val (.int 8), .val (.ref b565), .val (.int (5 + 1)), .unset, .unset, .unset]) (by decide) rfl rfl ?_
        rw [show (5 + 1 : Int32) = 6 by decide]
        refine g_iload B W577 at_206 rfl ?_
        refine g_iconst B W577 at_208 (v := 2) (by decide) ?_
        refine g_icmp_n B W577 at_209 (XT.ii_lt_f (by decide)) ?_
        show Go p.tables e below _ T577 (mkF m 212 #[.val (.int p1), .val (.int p2), .val (.int p3), .val (.int p4), .val (.long p5), .second, .val (.int 1), .val (.int 1), .val (.int 3), .val (.int x101), .val (.int x102), .val (.int x103), .val (.int x104), .val (.int x105), .val (.int x106), .val (.int 8), .val (.ref b565), .val (.int 6), .unset, .unset, .unset] [])
        refine g_aload B W577 at_212 rfl rfl ?_
        refine g_iload B W577 at_214 rfl ?_
        refine g_iload B W577 at_216 rfl ?_
        obtain ⟨T579, h579, W579, K579, A579, st579⟩ := x_castore B W577 (j := 6) (x := x105) at_218 A577 (by decide) (Nat.lt_of_lt_of_eq (show Int32.toNatClampNeg 6 < 8 by decide) rfl) (by omega) #[.val (.int p1), .val (.int p2), .val (.int p3), .val (.int p4), .val (.long p5), .second, .val (.int 1), .val (.int 1), .val (.int 3), .val (.int x101), .val (.int x102), .val (.int x103), .val (.int x104), .val (.int x105), .val (.int x106), .val (.int 8), .val (.ref b565), .val (.int 6), .unset, .unset, .unset] []
        refine st579 _ ?_
        rw [nx105] at A579
        have A579 : Arv Z h579 b565 kA565 .char 8 [(.int 47), (.int x101), (.int 47), (.int x102), (.int 46), (.int x104), (.int x105), (.int 0)] (.int 0) := A579
        have s580 := K579.1
        refine g_iinc B W579 at_219 (v := 1) (l' := #[.val (.int p1), .val (.int p2), .val (.int p3), .val (.int p4), .val (.long p5), .second, .val (.int 1), .val (.int 1), .val (.int 3), .val (.int x101), .val (.int x102), .val (.int x103), .val (.int x104), .val (.int x105), .val (.int x106), .val (.int 8), .val (.ref b565), .val (.int (6 + 1)), .unset, .unset, .unset]) (by decide) rfl rfl ?_
        rw [show (6 + 1 : Int32) = 7 by decide]
        refine g_iload B W579 at_222 rfl ?_
        refine g_iconst B W579 at_224 (v := 3) (by decide) ?_
        refine g_icmp_n B W579 at_225 (XT.ii_ne_f (by decide)) ?_
        show Go p.tables e below _ T579 (mkF m 228 #[.val (.int p1), .val (.int p2), .val (.int p3), .val (.int p4), .val (.long p5), .second, .val (.int 1), .val (.int 1), .val (.int 3), .val (.int x101), .val (.int x102), .val (.int x103), .val (.int x104), .val (.int x105), .val (.int x106), .val (.int 8), .val (.ref b565), .val (.int 7), .unset, .unset, .unset] [])
        refine g_aload B W579 at_228 rfl rfl ?_
        refine g_iload B W579 at_230 rfl ?_
        refine g_iload B W579 at_232 rfl ?_
        obtain ⟨T581, h581, W581, K581, A581, st581⟩ := x_castore B W579 (j := 7) (x := x106) at_234 A579 (by decide) (Nat.lt_of_lt_of_eq (show Int32.toNatClampNeg 7 < 8 by decide) rfl) (by omega) #[.val (.int p1), .val (.int p2), .val (.int p3), .val (.int p4), .val (.long p5), .second, .val (.int 1), .val (.int 1), .val (.int 3), .val (.int x101), .val (.int x102), .val (.int x103), .val (.int x104), .val (.int x105), .val (.int x106), .val (.int 8), .val (.ref b565), .val (.int 7), .unset, .unset, .unset] []
        refine st581 _ ?_
        rw [nx106] at A581
        have A581 : Arv Z h581 b565 kA565 .char 8 [(.int 47), (.int x101), (.int 47), (.int x102), (.int 46), (.int x104), (.int x105), (.int x106)] (.int 0) := A581
        have s582 := K581.1
        refine g_iinc B W581 at_235 (v := 1) (l' := #[.val (.int p1), .val (.int p2), .val (.int p3), .val (.int p4), .val (.long p5), .second, .val (.int 1), .val (.int 1), .val (.int 3), .val (.int x101), .val (.int x102), .val (.int x103), .val (.int x104), .val (.int x105), .val (.int x106), .val (.int 8), .val (.ref b565), .val (.int (7 + 1)), .unset, .unset, .unset]) (by decide) rfl rfl ?_
        rw [show (7 + 1 : Int32) = 8 by decide]
        refine g_iload B W581 at_238 rfl ?_
        have zs583 := W581.size
        obtain ⟨T584, h584, v584, W584, Q584, st584⟩ := x_static B W581 [(.int 3)] (c_sz3 l Z a0 hw h581) at_240 (tw hw 9 rfl) (tw hw 10 rfl) (tw hw 2 rfl) (tw hw 11 rfl) (by decide) (lenOf pd__I__C rfl) #[.val (.int p1), .val (.int p2), .val (.int p3), .val (.int p4), .val (.long p5), .second, .val (.int 1), .val (.int 1), .val (.int 3), .val (.int x101), .val (.int x102), .val (.int x103), .val (.int x104), .val (.int x105), .val (.int x106), .val (.int 8), .val (.ref b565), .val (.int 8), .unset, .unset, .unset] [] rfl 0 rfl (by decide) (by decide) (by decide) (by decide)
        obtain ⟨b584, kA584, rfl, g584, K584, A584⟩ := Q584
        have s585 := K584.1
        refine st584 _ ?_
        have l584 := nlt A584.lt
        have z584 := W584.size
        refine g_astore B W584 at_243 rfl (l' := #[.val (.int p1), .val (.int p2), .val (.int p3), .val (.int p4), .val (.long p5), .second, .val (.int 1), .val (.int 1), .val (.int 3), .val (.int x101), .val (.int x102), .val (.int x103), .val (.int x104), .val (.int x105), .val (.int x106), .val (.int 8), .val (.ref b565), .val (.int 8), .val (.ref b584), .unset, .unset]) rfl ?_
        refine g_aload B W584 at_245 rfl rfl ?_
        refine g_iconst B W584 at_247 (v := 0) (by decide) ?_
        refine g_iload B W584 at_248 rfl ?_
        obtain ⟨T586, h586, W586, K586, A586, st586⟩ := x_castore B W584 (j := 0) (x := x104) at_250 A584 (by decide) (Nat.lt_of_lt_of_eq (show Int32.toNatClampNeg 0 < 3 by decide) rfl) (by omega) #[.val (.int p1), .val (.int p2), .val (.int p3), .val (.int p4), .val (.long p5), .second, .val (.int 1), .val (.int 1), .val (.int 3), .val (.int x101), .val (.int x102), .val (.int x103), .val (.int x104), .val (.int x105), .val (.int x106), .val (.int 8), .val (.ref b565), .val (.int 8), .val (.ref b584), .unset, .unset] []
        refine st586 _ ?_
        rw [nx104] at A586
        have A586 : Arv Z h586 b584 kA584 .char 3 [(.int x104), (.int 0), (.int 0)] (.int 0) := A586
        have s587 := K586.1
        refine g_iload B W586 at_251 rfl ?_
        refine g_iconst B W586 at_253 (v := 2) (by decide) ?_
        refine g_icmp_n B W586 at_254 (XT.ii_lt_f (by decide)) ?_
        show Go p.tables e below _ T586 (mkF m 257 #[.val (.int p1), .val (.int p2), .val (.int p3), .val (.int p4), .val (.long p5), .second, .val (.int 1), .val (.int 1), .val (.int 3), .val (.int x101), .val (.int x102), .val (.int x103), .val (.int x104), .val (.int x105), .val (.int x106), .val (.int 8), .val (.ref b565), .val (.int 8), .val (.ref b584), .unset, .unset] [])
        refine g_aload B W586 at_257 rfl rfl ?_
        refine g_iconst B W586 at_259 (v := 1) (by decide) ?_
        refine g_iload B W586 at_260 rfl ?_
        obtain ⟨T588, h588, W588, K588, A588, st588⟩ := x_castore B W586 (j := 1) (x := x105) at_262 A586 (by decide) (Nat.lt_of_lt_of_eq (show Int32.toNatClampNeg 1 < 3 by decide) rfl) (by omega) #[.val (.int p1), .val (.int p2), .val (.int p3), .val (.int p4), .val (.long p5), .second, .val (.int 1), .val (.int 1), .val (.int 3), .val (.int x101), .val (.int x102), .val (.int x103), .val (.int x104), .val (.int x105), .val (.int x106), .val (.int 8), .val (.ref b565), .val (.int 8), .val (.ref b584), .unset, .unset] []
        refine st588 _ ?_
        rw [nx105] at A588
        have A588 : Arv Z h588 b584 kA584 .char 3 [(.int x104), (.int x105), (.int 0)] (.int 0) := A588
        have s589 := K588.1
        refine g_iload B W588 at_263 rfl ?_
        refine g_iconst B W588 at_265 (v := 3) (by decide) ?_
        refine g_icmp_n B W588 at_266 (XT.ii_ne_f (by decide)) ?_
        show Go p.tables e below _ T588 (mkF m 269 #[.val (.int p1), .val (.int p2), .val (.int p3), .val (.int p4), .val (.long p5), .second, .val (.int 1), .val (.int 1), .val (.int 3), .val (.int x101), .val (.int x102), .val (.int x103), .val (.int x104), .val (.int x105), .val (.int x106), .val (.int 8), .val (.ref b565), .val (.int 8), .val (.ref b584), .unset, .unset] [])
        refine g_aload B W588 at_269 rfl rfl ?_
        refine g_iconst B W588 at_271 (v := 2) (by decide) ?_
        refine g_iload B W588 at_272 rfl ?_
        obtain ⟨T590, h590, W590, K590, A590, st590⟩ := x_castore B W588 (j := 2) (x := x106) at_274 A588 (by decide) (Nat.lt_of_lt_of_eq (show Int32.toNatClampNeg 2 < 3 by decide) rfl) (by omega) #[.val (.int p1), .val (.int p2), .val (.int p3), .val (.int p4), .val (.long p5), .second, .val (.int 1), .val (.int 1), .val (.int 3), .val (.int x101), .val (.int x102), .val (.int x103), .val (.int x104), .val (.int x105), .val (.int x106), .val (.int 8), .val (.ref b565), .val (.int 8), .val (.ref b584), .unset, .unset] []
        refine st590 _ ?_
        rw [nx106] at A590
        have A590 : Arv Z h590 b584 kA584 .char 3 [(.int x104), (.int x105), (.int x106)] (.int 0) := A590
        have s591 := K590.1
        obtain ⟨T592, h592, b592, gb592, W592, K592, E592, D592, st592⟩ := x_new B W590 at_275 (tw hw 13 rfl) (tw hw 14 rfl) (tw hw 15 rfl) (by decide) (by decide) #[.val (.int p1), .val (.int p2), .val (.int p3), .val (.int p4), .val (.long p5), .second, .val (.int 1), .val (.int 1), .val (.int 3), .val (.int x101), .val (.int x102), .val (.int x103), .val (.int x104), .val (.int x105), .val (.int x106), .val (.int 8), .val (.ref b565), .val (.int 8), .val (.ref b584), .unset, .unset] []
        have l592 := nlt E592.lt
        have z592 := W590.size
        refine st592 _ ?_
        have s593 := K592.1
        have f594 : Fld Z h592 b592 "java/lang/String" "coder" "B" (.int 0) := D592 (Or.inr (tw hw 39 rfl)) (ty := .byte) (by decide)
        have f595 : Fld Z h592 b592 "java/lang/String" "value" "[B" .null := D592 (Or.inr (tw hw 41 rfl)) (ty := (.array .byte)) (by decide)
        refine g_dup B W592 at_278 rfl ?_
        refine g_aload B W592 at_279 rfl rfl ?_
        have f597 := (A590.keep K592 nin0)
        obtain ⟨T596, h596, v596, L596, W596, Q596, st596⟩ := x_specialB B W592 (b := b592) (rc := 1) (rs := 3) [(.ref b584)] (fun s' hZ' => StrChars.Road.backV (W := 1) hZ' (fun d hd => hw d (own_words d hd)) (kI := 4) (tw hw 14 rfl) (cs := ([x104, x105, x106] : List Int32)) (bs := ([x104, x105, x106] : List Int32).map (fun c => c.toInt8.toInt32)) (n := 3) (n0 := Z.heap.size) (by omega) W592.size E592 f595 f594 f597 (Scs.ext W592.old.2) hcz rfl (by decide) (by decide) (by decide) (by simp only [List.mem_cons, List.not_mem_nil, or_false]; rintro c (rfl | rfl | rfl) <;> first | assumption | decide) rfl (by decide) (by decide)) at_281 rfl (tw hw 16 rfl) (tw hw 17 rfl) (tw hw 18 rfl) (by decide) (lenOf pd___C_V rfl) #[.val (.int p1), .val (.int p2), .val (.int p3), .val (.int p4), .val (.long p5), .second, .val (.int 1), .val (.int 1), .val (.int 3), .val (.int x101), .val (.int x102), .val (.int x103), .val (.int x104), .val (.int x105), .val (.int x106), .val (.int 8), .val (.ref b565), .val (.int 8), .val (.ref b584), .unset, .unset] [(.ref b592)] rfl rfl (by decide) (by decide) [b592] (allS (by omega) all0) (fun _ _ _ q => ⟨q.2.1, q.2.2.1⟩)
        obtain ⟨rfl, -, K596, E596, Fc596, t596, kb596, gt596, gu596, -, Fv596, A596⟩ := Q596
        refine st596 _ ?_
        have s598 := K596.1
        have lt596 := nlt A596.lt
        have S599 : StrIs Z h596 b592 [x104, x105, x106] := ⟨t596, kb596, E596, Fc596, Fv596, A596, (by simp only [List.mem_cons, List.not_mem_nil, or_false]; rintro c (rfl | rfl | rfl) <;> first | assumption | decide), by simp⟩
        refine g_astore B W596 at_284 rfl (l' := #[.val (.int p1), .val (.int p2), .val (.int p3), .val (.int p4), .val (.long p5), .second, .val (.int 1), .val (.int 1), .val (.int 3), .val (.int x101), .val (.int x102), .val (.int x103), .val (.int x104), .val (.int x105), .val (.int x106), .val (.int 8), .val (.ref b565), .val (.int 8), .val (.ref b584), .val (.ref b592), .unset]) rfl ?_
        obtain ⟨T600, h600, b600, gb600, W600, K600, E600, D600, st600⟩ := x_new B W596 at_286 (tw hw 42 rfl) (tw hw 43 rfl) (tw hw 44 rfl) (by decide) (by decide) #[.val (.int p1), .val (.int p2), .val (.int p3), .val (.int p4), .val (.long p5), .second, .val (.int 1), .val (.int 1), .val (.int 3), .val (.int x101), .val (.int x102), .val (.int x103), .val (.int x104), .val (.int x105), .val (.int x106), .val (.int 8), .val (.ref b565), .val (.int 8), .val (.ref b584), .val (.ref b592), .unset] []
        have l600 := nlt E600.lt
        have z600 := W596.size
        refine st600 _ ?_
        have s601 := K600.1
        have f602 : Fld Z h600 b600 "com/example/presswright/presswright/publishing/FilePath" "path" "Ljava/lang/String;" .null := D600 (Or.inr (tw hw 175 rfl)) (ty := (.object "java/lang/String")) (by decide)
        refine g_dup B W600 at_289 rfl ?_
        obtain ⟨T603, h603, b603, gb603, W603, K603, E603, D603, st603⟩ := x_new B W600 at_290 (tw hw 13 rfl) (tw hw 14 rfl) (tw hw 15 rfl) (by decide) (by decide) #[.val (.int p1), .val (.int p2), .val (.int p3), .val (.int p4), .val (.long p5), .second, .val (.int 1), .val (.int 1), .val (.int 3), .val (.int x101), .val (.int x102), .val (.int x103), .val (.int x104), .val (.int x105), .val (.int x106), .val (.int 8), .val (.ref b565), .val (.int 8), .val (.ref b584), .val (.ref b592), .unset] [(.ref b600), (.ref b600)]
        have l603 := nlt E603.lt
        have z603 := W600.size
        refine st603 _ ?_
        have s604 := K603.1
        have f605 : Fld Z h603 b603 "java/lang/String" "coder" "B" (.int 0) := D603 (Or.inr (tw hw 39 rfl)) (ty := .byte) (by decide)
        have f606 : Fld Z h603 b603 "java/lang/String" "value" "[B" .null := D603 (Or.inr (tw hw 41 rfl)) (ty := (.array .byte)) (by decide)
        refine g_dup B W603 at_293 rfl ?_
        refine g_aload B W603 at_294 rfl rfl ?_
        have f608 := (A581.keep K584 nin0)
        have f609 := (f608.keep K586 (ninS (nne (by have q := nlt f608.lt; omega)) nin0))
        have f610 := (f609.keep K588 (ninS (nne (by have q := nlt f609.lt; omega)) nin0))
        have f611 := ((f610.keep K590 (ninS (nne (by have q := nlt f610.lt; omega)) nin0)).keep K592 nin0)
        have f612 := (((f611.keep K596 (ninS (nne (by have q := nlt f611.lt; omega)) nin0)).keep K600 nin0).keep K603 nin0)
        obtain ⟨T607, h607, v607, L607, W607, Q607, st607⟩ := x_specialB B W603 (b := b603) (rc := 1) (rs := 8) [(.ref b565)] (fun s' hZ' => StrChars.Road.backV (W := 3) hZ' (fun d hd => hw d (own_words d hd)) (kI := 4) (tw hw 14 rfl) (cs := ([47, x101, 47, x102, 46, x104, x105, x106] : List Int32)) (bs := ([47, x101, 47, x102, 46, x104, x105, x106] : List Int32).map (fun c => c.toInt8.toInt32)) (n := 8) (n0 := Z.heap.size) (by omega) W603.size E603 f606 f605 f612 (Scs.ext W603.old.2) hcz rfl (by decide) (by decide) (by decide) (by simp only [List.mem_cons, List.not_mem_nil, or_false]; rintro c (rfl | rfl | rfl | rfl | rfl | rfl | rfl | rfl) <;> first | assumption | decide) rfl (by decide) (by decide)) at_296 rfl (tw hw 16 rfl) (tw hw 17 rfl) (tw hw 18 rfl) (by decide) (lenOf pd___C_V rfl) #[.val (.int p1), .val (.int p2), .val (.int p3), .val (.int p4), .val (.long p5), .second, .val (.int 1), .val (.int 1), .val (.int 3), .val (.int x101), .val (.int x102), .val (.int x103), .val (.int x104), .val (.int x105), .val (.int x106), .val (.int 8), .val (.ref b565), .val (.int 8), .val (.ref b584), .val (.ref b592), .unset] [(.ref b603), (.ref b600), (.ref b600)] rfl rfl (by decide) (by decide) [b603] (allS (by omega) all0) (fun _ _ _ q => ⟨q.2.1, q.2.2.1⟩)
        obtain ⟨rfl, -, K607, E607, Fc607, t607, kb607, gt607, gu607, -, Fv607, A607⟩ := Q607
        refine st607 _ ?_
        have s613 := K607.1
        have lt607 := nlt A607.lt
        have S614 : StrIs Z h607 b603 [47, x101, 47, x102, 46, x104, x105, x106] := ⟨t607, kb607, E607, Fc607, Fv607, A607, (by simp only [List.mem_cons, List.not_mem_nil, or_false]; rintro c (rfl | rfl | rfl | rfl | rfl | rfl | rfl | rfl) <;> first | assumption | decide), by simp⟩
        obtain ⟨fp, hfp⟩ : ∃ f : Nat → Int32, f = fun i => ([47, x101, 47, x102, 46, x104, x105, x106] : List Int32).getD i 0 := ⟨_, rfl⟩
        have ep0 : fp 0 = 47 := by rw [hfp]; rfl
        have ep1 : fp 1 = x101 := by rw [hfp]; rfl
        have ep2 : fp 2 = 47 := by rw [hfp]; rfl
        have ep3 : fp 3 = x102 := by rw [hfp]; rfl
        have ep4 : fp 4 = 46 := by rw [hfp]; rfl
        have ep5 : fp 5 = x104 := by rw [hfp]; rfl
        have ep6 : fp 6 = x105 := by rw [hfp]; rfl
        have ep7 : fp 7 = x106 := by rw [hfp]; rfl
        have Sfp : StrIs Z h607 b603 (lst 8 fp) := by rw [show lst 8 fp = [47, x101, 47, x102, 46, x104, x105, x106] by rw [hfp]; rfl]; exact S614
        have f615 := ((E600.keep K603).keep K607)
        have f616 := (f602.keep K603 nin0)
        have f617 := (f616.keep K607 (ninS (nne (by have q := nlt f616.lt; omega)) nin0))
        obtain ⟨T618, h618, v618, W618, Q618, st618⟩ := x_special B W607 (b := b600) [(.ref b603)] (c_fp2 l Z a0 hw b600 b603 8 fp 4 cz sf h607 Scs hcz Ssf rsf f615 f617 (by omega) Sfp (by omega) ep0 (by rw [ep1]; exact g101) ep2 (by intro j h1 h2; obtain rfl | rfl | rfl | rfl | rfl : j = 3 ∨ j = 4 ∨ j = 5 ∨ j = 6 ∨ j = 7 := (by omega); (· exact (by rw [ep3]; exact g102.n47)); (· exact (by rw [ep4]; exact (by decide))); (· exact (by rw [ep5]; exact g104.n47)); (· exact (by rw [ep6]; exact g105.n47)); (· exact (by rw [ep7]; exact g106.n47))) (by omega) (by omega) ep4 (by intro j h1 h2 h3; obtain rfl | rfl | rfl | rfl : j = 3 ∨ j = 5 ∨ j = 6 ∨ j = 7 := (by omega); (· exact (by rw [ep3]; exact g102.ok (by omega))); (· exact (by rw [ep5]; exact Or.inl q104)); (· exact (by rw [ep6]; exact Or.inl q105)); (· exact (by rw [ep7]; exact Or.inl q106)))) at_299 rfl (tw hw 45 rfl) (tw hw 46 rfl) (tw hw 44 rfl) (tw hw 47 rfl) (by decide) (lenOf pd__Ljava_lang_String__V rfl) #[.val (.int p1), .val (.int p2), .val (.int p3), .val (.int p4), .val (.long p5), .second, .val (.int 1), .val (.int 1), .val (.int 3), .val (.int x101), .val (.int x102), .val (.int x103), .val (.int x104), .val (.int x105), .val (.int x106), .val (.int 8), .val (.ref b565), .val (.int 8), .val (.ref b584), .val (.ref b592), .unset] [(.ref b600)] rfl 1 rfl (by decide) (by decide) (by decide) (by decide)
        obtain ⟨rfl, K618, E618, F618⟩ := Q618
        have s619 := K618.1
        refine st618 _ ?_
        have f621 := (E607.keep K618)
        have f622 := (Fc607.keep K618 (ninS (nne (by have q := nlt Fc607.lt; omega)) nin0))
        have f623 := (Fv607.keep K618 (ninS (nne (by have q := nlt Fv607.lt; omega)) nin0))
        have f624 := (A607.keep K618 (ninS (nne (by have q := nlt A607.lt; omega)) nin0))
        have S620 : StrIs Z h618 b603 (lst 8 fp) := by rw [show lst 8 fp = [47, x101, 47, x102, 46, x104, x105, x106] by rw [hfp]; rfl]; exact ⟨t607, kb607, f621, f622, f623, f624, (by simp only [List.mem_cons, List.not_mem_nil, or_false]; rintro c (rfl | rfl | rfl | rfl | rfl | rfl | rfl | rfl) <;> first | assumption | decide), by simp⟩
        obtain ⟨T625, h625, v625, W625, Q625, st625⟩ := x_virtual B W618 (b := b600) [] (c_extn l Z a0 hw b600 b603 8 fp 4 cz sf h618 Scs hcz Ssf rsf F618 S620 (by omega) (by omega) ep4 (by intro j h1 h2; obtain rfl | rfl | rfl : j = 5 ∨ j = 6 ∨ j = 7 := (by omega); (· exact (by rw [ep5]; exact g104.n46)); (· exact (by rw [ep6]; exact g105.n46)); (· exact (by rw [ep7]; exact g106.n46)))) E618 at_302 (tw hw 176 rfl) (tw hw 177 rfl) (tw hw 179 rfl) (tw hw 178 rfl) (tw hw 44 rfl) (tw hw 180 rfl) (by decide) (lenOf pd___Ljava_lang_String_ rfl) #[.val (.int p1), .val (.int p2), .val (.int p3), .val (.int p4), .val (.long p5), .second, .val (.int 1), .val (.int 1), .val (.int 3), .val (.int x101), .val (.int x102), .val (.int x103), .val (.int x104), .val (.int x105), .val (.int x106), .val (.int 8), .val (.ref b565), .val (.int 8), .val (.ref b584), .val (.ref b592), .unset] [] rfl 0 rfl (by decide) (by decide) (by decide) (by decide)
        obtain ⟨b625, rfl, K625, S625⟩ := Q625
        have s626 := K625.1
        refine st625 _ ?_
        have S625 : StrIs Z h625 b625 (lst 3 fun i => fp (5 + i)) := S625
        refine g_astore B W625 at_305 rfl (l' := #[.val (.int p1), .val (.int p2), .val (.int p3), .val (.int p4), .val (.long p5), .second, .val (.int 1), .val (.int 1), .val (.int 3), .val (.int x101), .val (.int x102), .val (.int x103), .val (.int x104), .val (.int x105), .val (.int x106), .val (.int 8), .val (.ref b565), .val (.int 8), .val (.ref b584), .val (.ref b592), .val (.ref b625)]) rfl ?_
        refine g_aload B W625 at_307 rfl rfl ?_
        refine g_aload B W625 at_309 rfl rfl ?_
        have f628 := (S599.keep ((((((Keep.refl h596 []).trans K600 all0).trans K603 all0).trans K607 (allS (Or.inr (by omega)) all0)).trans K618 (allS (Or.inr (by omega)) all0)).trans K625 all0))
        obtain ⟨T627, h627, v627, L627, W627, Q627, st627⟩ := x_virtualB B W625 (b := b625) (V := 0) (rc := 0) (rs := 0) (QL := fun v h' L => v = some (.int (bi (decide ((lst 3 fun i => fp (5 + i)) = [x104, x105, x106])))) ∧ L = [] ∧ h625 = h') [(.ref b592)] (fun s' hZ' => own_eqB hw S625 f628 (Scs.ext W625.old.2) hcz (tw hw 14 rfl) (by decide) (by decide) hZ') S625.exa at_311 (tw hw 181 rfl) (tw hw 182 rfl) (tw hw 184 rfl) (tw hw 183 rfl) (by decide) (lenOf pd__Ljava_lang_Object__Z rfl) #[.val (.int p1), .val (.int p2), .val (.int p3), .val (.int p4), .val (.long p5), .second, .val (.int 1), .val (.int 1), .val (.int 3), .val (.int x101), .val (.int x102), .val (.int x103), .val (.int x104), .val (.int x105), .val (.int x106), .val (.int 8), .val (.ref b565), .val (.int 8), .val (.ref b584), .val (.ref b592), .val (.ref b625)] [] rfl rfl (by decide) (by decide) [] all0 (fun _ _ _ q => ⟨q.2.1 ▸ Fr.nil _, q.2.2 ▸ Keep.refl _ _⟩)
        obtain ⟨rfl, -, rfl⟩ := Q627
        refine st627 _ ?_
        exact r_b B W627 at_314 (by decide) (by decide) (by show some (Value.int (bi (decide ((lst 3 fun i => fp (5 + i)) = [x104, x105, x106])))) = some (.int 1); rw [show (decide ((lst 3 fun i => fp (5 + i)) = [x104, x105, x106])) = true from decide_eq_true (by show ([fp 5, fp 6, fp 7] : List Int32) = _; rw [ep5, ep6, ep7])]; rfl)
    · skip
      rcases hqn8 with rfl | rfl | rfl
      · skip
        show Go p.tables e below _ T106 (mkF m 93 #[.val (.int p1), .val (.int p2), .val (.int p3), .val (.int p4), .val (.long p5), .second, .val (.int 1), .val (.int 2), .val (.int 1), .val (.int x101), .val (.int x102), .val (.int x103), .val (.int x104), .val (.int x105), .val (.int x106), .unset, .unset, .unset, .unset, .unset, .unset] [])
        refine g_iconst B W106 at_93 (v := 1) (by decide) ?_
        refine g_iload B W106 at_94 rfl ?_
        refine g_if_n B W106 at_96 (XT.i0_eq_f (by decide)) ?_
        show Go p.tables e below _ T106 (mkF m 99 #[.val (.int p1), .val (.int p2), .val (.int p3), .val (.int p4), .val (.long p5), .second, .val (.int 1), .val (.int 2), .val (.int 1), .val (.int x101), .val (.int x102), .val (.int x103), .val (.int x104), .val (.int x105), .val (.int x106), .unset, .unset, .unset, .unset, .unset, .unset] [(.int 1)])
        refine g_iconst B W106 at_99 (v := 2) (by decide) ?_
        refine g_goto B W106 at_100 (pc' := 104) (by decide) ?_
        show Go p.tables e below _ T106 (mkF m 104 #[.val (.int p1), .val (.int p2), .val (.int p3), .val (.int p4), .val (.long p5), .second, .val (.int 1), .val (.int 2), .val (.int 1), .val (.int x101), .val (.int x102), .val (.int x103), .val (.int x104), .val (.int x105), .val (.int x106), .unset, .unset, .unset, .unset, .unset, .unset] [(.int 2), (.int 1)])
        refine g_iadd B W106 at_104  ?_
        rw [show (1 + 2 : Int32) = 3 by decide]
        refine g_iload B W106 at_105 rfl ?_
        refine g_iadd B W106 at_107  ?_
        rw [show (3 + 2 : Int32) = 5 by decide]
        refine g_iconst B W106 at_108 (v := 1) (by decide) ?_
        refine g_iadd B W106 at_109  ?_
        rw [show (5 + 1 : Int32) = 6 by decide]
        refine g_iload B W106 at_110 rfl ?_
        refine g_iadd B W106 at_112  ?_
        rw [show (6 + 1 : Int32) = 7 by decide]
        refine g_istore B W106 at_113  (l' := #[.val (.int p1), .val (.int p2), .val (.int p3), .val (.int p4), .val (.long p5), .second, .val (.int 1), .val (.int 2), .val (.int 1), .val (.int x101), .val (.int x102), .val (.int x103), .val (.int x104), .val (.int x105), .val (.int x106), .val (.int 7), .unset, .unset, .unset, .unset, .unset]) rfl ?_
        refine g_iload B W106 at_115 rfl ?_
        have zs629 := W106.size
        obtain ⟨T630, h630, v630, W630, Q630, st630⟩ := x_static B W106 [(.int 7)] (c_sz7 l Z a0 hw h0) at_117 (tw hw 9 rfl) (tw hw 10 rfl) (tw hw 2 rfl) (tw hw 11 rfl) (by decide) (lenOf pd__I__C rfl) #[.val (.int p1), .val (.int p2), .val (.int p3), .val (.int p4), .val (.long p5), .second, .val (.int 1), .val (.int 2), .val (.int 1), .val (.int x101), .val (.int x102), .val (.int x103), .val (.int x104), .val (.int x105), .val (.int x106), .val (.int 7), .unset, .unset, .unset, .unset, .unset] [] rfl 0 rfl (by decide) (by decide) (by decide) (by decide)
        obtain ⟨b630, kA630, rfl, g630, K630, A630⟩ := Q630
        have s631 := K630.1
        refine st630 _ ?_
        have l630 := nlt A630.lt
        have z630 := W630.size
        refine g_astore B W630 at_120 rfl (l' := #[.val (.int p1), .val (.int p2), .val (.int p3), .val (.int p4), .val (.long p5), .second, .val (.int 1), .val (.int 2), .val (.int 1), .val (.int x101), .val (.int x102), .val (.int x103), .val (.int x104), .val (.int x105), .val (.int x106), .val (.int 7), .val (.ref b630), .unset, .unset, .unset, .unset]) rfl ?_
        refine g_iconst B W630 at_122 (v := 0) (by decide) ?_
        refine g_istore B W630 at_123  (l' := #[.val (.int p1), .val (.int p2), .val (.int p3), .val (.int p4), .val (.long p5), .second, .val (.int 1), .val (.int 2), .val (.int 1), .val (.int x101), .val (.int x102), .val (.int x103), .val (.int x104), .val (.int x105), .val (.int x106), .val (.int 7), .val (.ref b630), .val (.int 0), .unset, .unset, .unset]) rfl ?_
        refine g_aload B W630 at_125 rfl rfl ?_
        refine g_iload B W630 at_127 rfl ?_
        refine g_bipush B W630 at_129 (v := 47) (by decide) ?_
        obtain ⟨T632, h632, W632, K632, A632, st632⟩ := x_castore B W630 (j := 0) (x := 47) at_131 A630 (by decide) (Nat.lt_of_lt_of_eq (show Int32.toNatClampNeg 0 < 7 by decide) rfl) (by omega) #[.val (.int p1), .val (.int p2), .val (.int p3), .val (.int p4), .val (.long p5), .second, .val (.int 1), .val (.int 2), .val (.int 1), .val (.int x101), .val (.int x102), .val (.int x103), .val (.int x104), .val (.int x105), .val (.int x106), .val (.int 7), .val (.ref b630), .val (.int 0), .unset, .unset, .unset] []
        refine st632 _ ?_
        rw [show nar .char 47 = 47 by decide] at A632
        have A632 : Arv Z h632 b630 kA630 .char 7 [(.int 47), (.int 0), (.int 0), (.int 0), (.int 0), (.int 0), (.int 0)] (.int 0) := A632
        have s633 := K632.1
        refine g_iinc B W632 at_132 (v := 1) (l' := #[.val (.int p1), .val (.int p2), .val (.int p3), .val (.int p4), .val (.long p5), .second, .val (.int 1), .val (.int 2), .val (.int 1), .val (.int x101), .val (.int x102), .val (.int x103), .val (.int x104), .val (.int x105), .val (.int x106), .val (.int 7), .val (.ref b630), .val (.int (0 + 1)), .unset, .unset, .unset]) (by decide) rfl rfl ?_
        rw [show (0 + 1 : Int32) = 1 by decide]
        refine g_iload B W632 at_135 rfl ?_
        refine g_if_n B W632 at_137 (XT.i0_eq_f (by decide)) ?_
        show Go p.tables e below _ T632 (mkF m 140 #[.val (.int p1), .val (.int p2), .val (.int p3), .val (.int p4), .val (.long p5), .second, .val (.int 1), .val (.int 2), .val (.int 1), .val (.int x101), .val (.int x102), .val (.int x103), .val (.int x104), .val (.int x105), .val (.int x106), .val (.int 7), .val (.ref b630), .val (.int 1), .unset, .unset, .unset] [])
        refine g_aload B W632 at_140 rfl rfl ?_
        refine g_iload B W632 at_142 rfl ?_
        refine g_iload B W632 at_144 rfl ?_
        obtain ⟨T634, h634, W634, K634, A634, st634⟩ := x_castore B W632 (j := 1) (x := x101) at_146 A632 (by decide) (Nat.lt_of_lt_of_eq (show Int32.toNatClampNeg 1 < 7 by decide) rfl) (by omega) #[.val (.int p1), .val (.int p2), .val (.int p3), .val (.int p4), .val (.long p5), .second, .val (.int 1), .val (.int 2), .val (.int 1), .val (.int x101), .val (.int x102), .val (.int x103), .val (.int x104), .val (.int x105), .val (.int x106), .val (.int 7), .val (.ref b630), .val (.int 1), .unset, .unset, .unset] []
        refine st634 _ ?_
        rw [nx101] at A634
        have A634 : Arv Z h634 b630 kA630 .char 7 [(.int 47), (.int x101), (.int 0), (.int 0), (.int 0), (.int 0), (.int 0)] (.int 0) := A634
        have s635 := K634.1
        refine g_iinc B W634 at_147 (v := 1) (l' := #[.val (.int p1), .val (.int p2), .val (.int p3), .val (.int p4), .val (.long p5), .second, .val (.int 1), .val (.int 2), .val (.int 1), .val (.int x101), .val (.int x102), .val (.int x103), .val (.int x104), .val (.int x105), .val (.int x106), .val (.int 7), .val (.ref b630), .val (.int (1 + 1)), .unset, .unset, .unset]) (by decide) rfl rfl ?_
        rw [show (1 + 1 : Int32) = 2 by decide]
        refine g_aload B W634 at_150 rfl rfl ?_
        refine g_iload B W634 at_152 rfl ?_
        refine g_bipush B W634 at_154 (v := 47) (by decide) ?_
        obtain ⟨T636, h636, W636, K636, A636, st636⟩ := x_castore B W634 (j := 2) (x := 47) at_156 A634 (by decide) (Nat.lt_of_lt_of_eq (show Int32.toNatClampNeg 2 < 7 by decide) rfl) (by omega) #[.val (.int p1), .val (.int p2), .val (.int p3), .val (.int p4), .val (.long p5), .second, .val (.int 1), .val (.int 2), .val (.int 1), .val (.int x101), .val (.int x102), .val (.int x103), .val (.int x104), .val (.int x105), .val (.int x106), .val (.int 7), .val (.ref b630), .val (.int 2), .unset, .unset, .unset] []
        refine st636 _ ?_
        rw [show nar .char 47 = 47 by decide] at A636
        have A636 : Arv Z h636 b630 kA630 .char 7 [(.int 47), (.int x101), (.int 47), (.int 0), (.int 0), (.int 0), (.int 0)] (.int 0) := A636
        have s637 := K636.1
        refine g_iinc B W636 at_157 (v := 1) (l' := #[.val (.int p1), .val (.int p2), .val (.int p3), .val (.int p4), .val (.long p5), .second, .val (.int 1), .val (.int 2), .val (.int 1), .val (.int x101), .val (.int x102), .val (.int x103), .val (.int x104), .val (.int x105), .val (.int x106), .val (.int 7), .val (.ref b630), .val (.int (2 + 1)), .unset, .unset, .unset]) (by decide) rfl rfl ?_
        rw [show (2 + 1 : Int32) = 3 by decide]
        refine g_aload B W636 at_160 rfl rfl ?_
        refine g_iload B W636 at_162 rfl ?_
        refine g_iload B W636 at_164 rfl ?_
        obtain ⟨T638, h638, W638, K638, A638, st638⟩ := x_castore B W636 (j := 3) (x := x102) at_166 A636 (by decide) (Nat.lt_of_lt_of_eq (show Int32.toNatClampNeg 3 < 7 by decide) rfl) (by omega) #[.val (.int p1), .val (.int p2), .val (.int p3), .val (.int p4), .val (.long p5), .second, .val (.int 1), .val (.int 2), .val (.int 1), .val (.int x101), .val (.int x102), .val (.int x103), .val (.int x104), .val (.int x105), .val (.int x106), .val (.int 7), .val (.ref b630), .val (.int 3), .unset, .unset, .unset] []
        refine st638 _ ?_
        rw [nx102] at A638
        have A638 : Arv Z h638 b630 kA630 .char 7 [(.int 47), (.int x101), (.int 47), (.int x102), (.int 0), (.int 0), (.int 0)] (.int 0) := A638
        have s639 := K638.1
        refine g_iinc B W638 at_167 (v := 1) (l' := #[.val (.int p1), .val (.int p2), .val (.int p3), .val (.int p4), .val (.long p5), .second, .val (.int 1), .val (.int 2), .val (.int 1), .val (.int x101), .val (.int x102), .val (.int x103), .val (.int x104), .val (.int x105), .val (.int x106), .val (.int 7), .val (.ref b630), .val (.int (3 + 1)), .unset, .unset, .unset]) (by decide) rfl rfl ?_
        rw [show (3 + 1 : Int32) = 4 by decide]
        refine g_iload B W638 at_170 rfl ?_
        refine g_iconst B W638 at_172 (v := 2) (by decide) ?_
        refine g_icmp_n B W638 at_173 (XT.ii_ne_f (by decide)) ?_
        show Go p.tables e below _ T638 (mkF m 176 #[.val (.int p1), .val (.int p2), .val (.int p3), .val (.int p4), .val (.long p5), .second, .val (.int 1), .val (.int 2), .val (.int 1), .val (.int x101), .val (.int x102), .val (.int x103), .val (.int x104), .val (.int x105), .val (.int x106), .val (.int 7), .val (.ref b630), .val (.int 4), .unset, .unset, .unset] [])
        refine g_aload B W638 at_176 rfl rfl ?_
        refine g_iload B W638 at_178 rfl ?_
        refine g_iload B W638 at_180 rfl ?_
        obtain ⟨T640, h640, W640, K640, A640, st640⟩ := x_castore B W638 (j := 4) (x := x103) at_182 A638 (by decide) (Nat.lt_of_lt_of_eq (show Int32.toNatClampNeg 4 < 7 by decide) rfl) (by omega) #[.val (.int p1), .val (.int p2), .val (.int p3), .val (.int p4), .val (.long p5), .second, .val (.int 1), .val (.int 2), .val (.int 1), .val (.int x101), .val (.int x102), .val (.int x103), .val (.int x104), .val (.int x105), .val (.int x106), .val (.int 7), .val (.ref b630), .val (.int 4), .unset, .unset, .unset] []
        refine st640 _ ?_
        rw [nx103] at A640
        have A640 : Arv Z h640 b630 kA630 .char 7 [(.int 47), (.int x101), (.int 47), (.int x102), (.int x103), (.int 0), (.int 0)] (.int 0) := A640
        have s641 := K640.1
        refine g_iinc B W640 at_183 (v := 1) (l' := #[.val (.int p1), .val (.int p2), .val (.int p3), .val (.int p4), .val (.long p5), .second, .val (.int 1), .val (.int 2), .val (.int 1), .val (.int x101), .val (.int x102), .val (.int x103), .val (.int x104), .val (.int x105), .val (.int x106), .val (.int 7), .val (.ref b630), .val (.int (4 + 1)), .unset, .unset, .unset]) (by decide) rfl rfl ?_
        rw [show (4 + 1 : Int32) = 5 by decide]
        refine g_aload B W640 at_186 rfl rfl ?_
        refine g_iload B W640 at_188 rfl ?_
        refine g_bipush B W640 at_190 (v := 46) (by decide) ?_
        obtain ⟨T642, h642, W642, K642, A642, st642⟩ := x_castore B W640 (j := 5) (x := 46) at_192 A640 (by decide) (Nat.lt_of_lt_of_eq (show Int32.toNatClampNeg 5 < 7 by decide) rfl) (by omega) #[.val (.int p1), .val (.int p2), .val (.int p3), .val (.int p4), .val (.long p5), .second, .val (.int 1), .val (.int 2), .val (.int 1), .val (.int x101), .val (.int x102), .val (.int x103), .val (.int x104), .val (.int x105), .val (.int x106), .val (.int 7), .val (.ref b630), .val (.int 5), .unset, .unset, .unset] []
        refine st642 _ ?_
        rw [show nar .char 46 = 46 by decide] at A642
        have A642 : Arv Z h642 b630 kA630 .char 7 [(.int 47), (.int x101), (.int 47), (.int x102), (.int x103), (.int 46), (.int 0)] (.int 0) := A642
        have s643 := K642.1
        refine g_iinc B W642 at_193 (v := 1) (l' := #[.val (.int p1), .val (.int p2), .val (.int p3), .val (.int p4), .val (.long p5), .second, .val (.int 1), .val (.int 2), .val (.int 1), .val (.int x101), .val (.int x102), .val (.int x103), .val (.int x104), .val (.int x105), .val (.int x106), .val (.int 7), .val (.ref b630), .val (.int (5 + 1)), .unset, .unset, .unset]) (by decide) rfl rfl ?_
        rw [show (5 + 1 : Int32) = 6 by decide]
        refine g_aload B W642 at_196 rfl rfl ?_
        refine g_iload B W642 at_198 rfl ?_
        refine g_iload B W642 at_200 rfl ?_
        obtain ⟨T644, h644, W644, K644, A644, st644⟩ := x_castore B W642 (j := 6) (x := x104) at_202 A642 (by decide) (Nat.lt_of_lt_of_eq (show Int32.toNatClampNeg 6 < 7 by decide) rfl) (by omega) #[.val (.int p1), .val (.int p2), .val (.int p3), .val (.int p4), .val (.long p5), .second, .val (.int 1), .val (.int 2), .val (.int 1), .val (.int x101), .val (.int x102), .val (.int x103), .val (.int x104), .val (.int x105), .val (.int x106), .val (.int 7), .val (.ref b630), .val (.int 6), .unset, .unset, .unset] []
        refine st644 _ ?_
        rw [nx104] at A644
        have A644 : Arv Z h644 b630 kA630 .char 7 [(.int 47), (.int x101), (.int 47), (.int x102), (.int x103), (.int 46), (.int x104)] (.int 0) := A644
        have s645 := K644.1
        refine g_iinc B W644 at_203 (v := 1) (l' := #[.val (.int p1), .val (.int p2), .val (.int p3), .val (.int p4), .val (.long p5), .second, .val (.int 1), .val (.int 2), .val (.int 1), .val (.int x101), .val (.int x102), .val (.int x103), .val (.int x104), .val (.int x105), .val (.int x106), .val (.int 7), .val (.ref b630), .val (.int (6 + 1)), .unset, .unset, .unset]) (by decide) rfl rfl ?_
        rw [show (6 + 1 : Int32) = 7 by decide]
        refine g_iload B W644 at_206 rfl ?_
        refine g_iconst B W644 at_208 (v := 2) (by decide) ?_
        refine g_icmp_y B W644 at_209 (XT.ii_lt_t (by decide)) (pc' := 222) (by decide) ?_
        show Go p.tables e below _ T644 (mkF m 222 #[.val (.int p1), .val (.int p2), .val (.int p3), .val (.int p4), .val (.long p5), .second, .val (.int 1), .val (.int 2), .val (.int 1), .val (.int x101), .val (.int x102), .val (.int x103), .val (.int x104), .val (.int x105), .val (.int x106), .val (.int 7), .val (.ref b630), .val (.int 7), .unset, .unset, .unset] [])
        refine g_iload B W644 at_222 rfl ?_
        refine g_iconst B W644 at_224 (v := 3) (by decide) ?_
        refine g_icmp_y B W644 at_225 (XT.ii_ne_t (by decide)) (pc' := 238) (by decide) ?_
        show Go p.tables e below _ T644 (mkF m 238 #[.val (.int p1), .val (.int p2), .val (.int p3), .val (.int p4), .val (.long p5), .second, .val (.int 1), .val (.int 2), .val (.int 1), .val (.int x101), .val (.int x102), .val (.int x103), .val (.int x104), .val (.int x105), .val (.int x106), .val (.int 7), .val (.ref b630), .val (.int 7), .unset, .unset, .unset] [])
        refine g_iload B W644 at_238 rfl ?_
        have zs646 := W644.size
        obtain ⟨T647, h647, v647, W647, Q647, st647⟩ := x_static B W644 [(.int 1)] (c_sz1 l Z a0 hw h644) at_240 (tw hw 9 rfl) (tw hw 10 rfl) (tw hw 2 rfl) (tw hw 11 rfl) (by decide) (lenOf pd__I__C rfl) #[.val (.int p1), .val (.int p2), .val (.int p3), .val (.int p4), .val (.long p5), .second, .val (.int 1), .val (.int 2), .val (.int 1), .val (.int x101), .val (.int x102), .val (.int x103), .val (.int x104), .val (.int x105), .val (.int x106), .val (.int 7), .val (.ref b630), .val (.int 7), .unset, .unset, .unset] [] rfl 0 rfl (by decide) (by decide) (by decide) (by decide)
        obtain ⟨b647, kA647, rfl, g647, K647, A647⟩ := Q647
        have s648 := K647.1
        refine st647 _ ?_
        have l647 := nlt A647.lt
        have z647 := W647.size
        refine g_astore B W647 at_243 rfl (l' := #[.val (.int p1), .val (.int p2), .val (.int p3), .val (.int p4), .val (.long p5), .second, .val (.int 1), .val (.int 2), .val (.int 1), .val (.int x101), .val (.int x102), .val (.int x103), .val (.int x104), .val (.int x105), .val (.int x106), .val (.int 7), .val (.ref b630), .val (.int 7), .val (.ref b647), .unset, .unset]) rfl ?_
        refine g_aload B W647 at_245 rfl rfl ?_
        refine g_iconst B W647 at_247 (v := 0) (by decide) ?_
        refine g_iload B W647 at_248 rfl ?_
        obtain ⟨T649, h649, W649, K649, A649, st649⟩ := x_castore B W647 (j := 0) (x := x104) at_250 A647 (by decide) (Nat.lt_of_lt_of_eq (show Int32.toNatClampNeg 0 < 1 by decide) rfl) (by omega) #[.val (.int p1), .val (.int p2), .val (.int p3), .val (.int p4), .val (.long p5), .second, .val (.int 1), .val (.int 2), .val (.int 1), .val (.int x101), .val (.int x102), .val (.int x103), .val (.int x104), .val (.int x105), .val (.int x106), .val (.int 7), .val (.ref b630), .val (.int 7), .val (.ref b647), .unset, .unset] []
        refine st649 _ ?_
        rw [nx104] at A649
        have A649 : Arv Z h649 b647 kA647 .char 1 [(.int x104)] (.int 0) := A649
        have s650 := K649.1
        refine g_iload B W649 at_251 rfl ?_
        refine g_iconst B W649 at_253 (v := 2) (by decide) ?_
        refine g_icmp_y B W649 at_254 (XT.ii_lt_t (by decide)) (pc' := 263) (by decide) ?_
        show Go p.tables e below _ T649 (mkF m 263 #[.val (.int p1), .val (.int p2), .val (.int p3), .val (.int p4), .val (.long p5), .second, .val (.int 1), .val (.int 2), .val (.int 1), .val (.int x101), .val (.int x102), .val (.int x103), .val (.int x104), .val (.int x105), .val (.int x106), .val (.int 7), .val (.ref b630), .val (.int 7), .val (.ref b647), .unset, .unset] [])
        refine g_iload B W649 at_263 rfl ?_
        refine g_iconst B W649 at_265 (v := 3) (by decide) ?_
        refine g_icmp_y B W649 at_266 (XT.ii_ne_t (by decide)) (pc' := 275) (by decide) ?_
        show Go p.tables e below _ T649 (mkF m 275 #[.val (.int p1), .val (.int p2), .val (.int p3), .val (.int p4), .val (.long p5), .second, .val (.int 1), .val (.int 2), .val (.int 1), .val (.int x101), .val (.int x102), .val (.int x103), .val (.int x104), .val (.int x105), .val (.int x106), .val (.int 7), .val (.ref b630), .val (.int 7), .val (.ref b647), .unset, .unset] [])
        obtain ⟨T651, h651, b651, gb651, W651, K651, E651, D651, st651⟩ := x_new B W649 at_275 (tw hw 13 rfl) (tw hw 14 rfl) (tw hw 15 rfl) (by decide) (by decide) #[.val (.int p1), .val (.int p2), .val (.int p3), .val (.int p4), .val (.long p5), .second, .val (.int 1), .val (.int 2), .val (.int 1), .val (.int x101), .val (.int x102), .val (.int x103), .val (.int x104), .val (.int x105), .val (.int x106), .val (.int 7), .val (.ref b630), .val (.int 7), .val (.ref b647), .unset, .unset] []
        have l651 := nlt E651.lt
        have z651 := W649.size
        refine st651 _ ?_
        have s652 := K651.1
        have f653 : Fld Z h651 b651 "java/lang/String" "coder" "B" (.int 0) := D651 (Or.inr (tw hw 39 rfl)) (ty := .byte) (by decide)
        have f654 : Fld Z h651 b651 "java/lang/String" "value" "[B" .null := D651 (Or.inr (tw hw 41 rfl)) (ty := (.array .byte)) (by decide)
        refine g_dup B W651 at_278 rfl ?_
        refine g_aload B W651 at_279 rfl rfl ?_
        have f656 := (A649.keep K651 nin0)
        obtain ⟨T655, h655, v655, L655, W655, Q655, st655⟩ := x_specialB B W651 (b := b651) (rc := 1) (rs := 1) [(.ref b647)] (fun s' hZ' => StrChars.Road.backV (W := 1) hZ' (fun d hd => hw d (own_words d hd)) (kI := 4) (tw hw 14 rfl) (cs := ([x104] : List Int32)) (bs := ([x104] : List Int32).map (fun c => c.toInt8.toInt32)) (n := 1) (n0 := Z.heap.size) (by omega) W651.size E651 f654 f653 f656 (Scs.ext W651.old.2) hcz rfl (by decide) (by decide) (by decide) (by simp only [List.mem_cons, List.not_mem_nil, or_false]; rintro c rfl <;> first | assumption | decide) rfl (by decide) (by decide)) at_281 rfl (tw hw 16 rfl) (tw hw 17 rfl) (tw hw 18 rfl) (by decide) (lenOf pd___C_V rfl) #[.val (.int p1), .val (.int p2), .val (.int p3), .val (.int p4), .val (.long p5), .second, .val (.int 1), .val (.int 2), .val (.int 1), .val (.int x101), .val (.int x102), .val (.int x103), .val (.int x104), .val (.int x105), .val (.int x106), .val (.int 7), .val (.ref b630), .val (.int 7), .val (.ref b647), .unset, .unset] [(.ref b651)] rfl rfl (by decide) (by decide) [b651] (allS (by omega) all0) (fun _ _ _ q => ⟨q.2.1, q.2.2.1⟩)
        obtain ⟨rfl, -, K655, E655, Fc655, t655, kb655, gt655, gu655, -, Fv655, A655⟩ := Q655
        refine st655 _ ?_
        have s657 := K655.1
        have lt655 := nlt A655.lt
        have S658 : StrIs Z h655 b651 [x104] := ⟨t655, kb655, E655, Fc655, Fv655, A655, (by simp only [List.mem_cons, List.not_mem_nil, or_false]; rintro c rfl <;> first | assumption | decide), by simp⟩
        refine g_astore B W655 at_284 rfl (l' := #[.val (.int p1), .val (.int p2), .val (.int p3), .val (.int p4), .val (.long p5), .second, .val (.int 1), .val (.int 2), .val (.int 1), .val (.int x101), .val (.int x102), .val (.int x103), .val (.int x104), .val (.int x105), .val (.int x106), .val (.int 7), .val (.ref b630), .val (.int 7), .val (.ref b647), .val (.ref b651), .unset]) rfl ?_
        obtain ⟨T659, h659, b659, gb659, W659, K659, E659, D659, st659⟩ := x_new B W655 at_286 (tw hw 42 rfl) (tw hw 43 rfl) (tw hw 44 rfl) (by decide) (by decide) #[.val (.int p1), .val (.int p2), .val (.int p3), .val (.int p4), .val (.long p5), .second, .val (.int 1), .val (.int 2), .val (.int 1), .val (.int x101), .val (.int x102), .val (.int x103), .val (.int x104), .val (.int x105), .val (.int x106), .val (.int 7), .val (.ref b630), .val (.int 7), .val (.ref b647), .val (.ref b651), .unset] []
        have l659 := nlt E659.lt
        have z659 := W655.size
        refine st659 _ ?_
        have s660 := K659.1
        have f661 : Fld Z h659 b659 "com/example/presswright/presswright/publishing/FilePath" "path" "Ljava/lang/String;" .null := D659 (Or.inr (tw hw 175 rfl)) (ty := (.object "java/lang/String")) (by decide)
        refine g_dup B W659 at_289 rfl ?_
        obtain ⟨T662, h662, b662, gb662, W662, K662, E662, D662, st662⟩ := x_new B W659 at_290 (tw hw 13 rfl) (tw hw 14 rfl) (tw hw 15 rfl) (by decide) (by decide) #[.val (.int p1), .val (.int p2), .val (.int p3), .val (.int p4), .val (.long p5), .second, .val (.int 1), .val (.int 2), .val (.int 1), .val (.int x101), .val (.int x102), .val (.int x103), .val (.int x104), .val (.int x105), .val (.int x106), .val (.int 7), .val (.ref b630), .val (.int 7), .val (.ref b647), .val (.ref b651), .unset] [(.ref b659), (.ref b659)]
        have l662 := nlt E662.lt
        have z662 := W659.size
        refine st662 _ ?_
        have s663 := K662.1
        have f664 : Fld Z h662 b662 "java/lang/String" "coder" "B" (.int 0) := D662 (Or.inr (tw hw 39 rfl)) (ty := .byte) (by decide)
        have f665 : Fld Z h662 b662 "java/lang/String" "value" "[B" .null := D662 (Or.inr (tw hw 41 rfl)) (ty := (.array .byte)) (by decide)
        refine g_dup B W662 at_293 rfl ?_
        refine g_aload B W662 at_294 rfl rfl ?_
        have f667 := (A644.keep K647 nin0)
        have f668 := ((f667.keep K649 (ninS (nne (by have q := nlt f667.lt; omega)) nin0)).keep K651 nin0)
        have f669 := (((f668.keep K655 (ninS (nne (by have q := nlt f668.lt; omega)) nin0)).keep K659 nin0).keep K662 nin0)
        obtain ⟨T666, h666, v666, L666, W666, Q666, st666⟩ := x_specialB B W662 (b := b662) (rc := 1) (rs := 7) [(.ref b630)] (fun s' hZ' => StrChars.Road.backV (W := 3) hZ' (fun d hd => hw d (own_words d hd)) (kI := 4) (tw hw 14 rfl) (cs := ([47, x101, 47, x102, x103, 46, x104] : List Int32)) (bs := ([47, x101, 47, x102, x103, 46, x104] : List Int32).map (fun c => c.toInt8.toInt32)) (n := 7) (n0 := Z.heap.size) (by omega) W662.size E662 f665 f664 f669 (Scs.ext W662.old.2) hcz rfl (by decide) (by decide) (by decide) (by simp only [List.mem_cons, List.not_mem_nil, or_false]; rintro c (rfl | rfl | rfl | rfl | rfl | rfl | rfl) <;> first | assumption | decide) rfl (by decide) (by decide)) at_296 rfl (tw hw 16 rfl) (tw hw 17 rfl) (tw hw 18 rfl) (by decide) (lenOf pd___C_V rfl) #[.val (.int p1), .val (.int p2), .val (.int p3), .val (.int p4), .val (.long p5), .second, .val (.int 1), .val (.int 2), .val (.int 1), .val (.int x101), .val (.int x102), .val (.int x103), .val (.int x104), .val (.int x105), .val (.int x106), .val (.int 7), .val (.ref b630), .val (.int 7), .val (.ref b647), .val (.ref b651), .unset] [(.ref b662), (.ref b659), (.ref b659)] rfl rfl (by decide) (by decide) [b662] (allS (by omega) all0) (fun _ _ _ q => ⟨q.2.1, q.2.2.1⟩)
        obtain ⟨rfl, -, K666, E666, Fc666, t666, kb666, gt666, gu666, -, Fv666, A666⟩ := Q666
        refine st666 _ ?_
        have s670 := K666.1
        have lt666 := nlt A666.lt
        have S671 : StrIs Z h666 b662 [47, x101, 47, x102, x103, 46, x104] := ⟨t666, kb666, E666, Fc666, Fv666, A666, (by simp only [List.mem_cons, List.not_mem_nil, or_false]; rintro c (rfl | rfl | rfl | rfl | rfl | rfl | rfl) <;> first | assumption | decide), by simp⟩
        obtain ⟨fp, hfp⟩ : ∃ f : Nat → Int32, f = fun i => ([47, x101, 47, x102, x103, 46, x104] : List Int32).getD i 0 := ⟨_, rfl⟩
        have ep0 : fp 0 = 47 := by rw [hfp]; rfl
        have ep1 : fp 1 = x101 := by rw [hfp]; rfl
        have ep2 : fp 2 = 47 := by rw [hfp]; rfl
        have ep3 : fp 3 = x102 := by rw [hfp]; rfl
        have ep4 : fp 4 = x103 := by rw [hfp]; rfl
        have ep5 : fp 5 = 46 := by rw [hfp]; rfl
        have ep6 : fp 6 = x104 := by rw [hfp]; rfl
        have Sfp : StrIs Z h666 b662 (lst 7 fp) := by rw [show lst 7 fp = [47, x101, 47, x102, x103, 46, x104] by rw [hfp]; rfl]; exact S671
        have f672 := ((E659.keep K662).keep K666)
        have f673 := (f661.keep K662 nin0)
        have f674 := (f673.keep K666 (ninS (nne (by have q := nlt f673.lt; omega)) nin0))
        obtain ⟨T675, h675, v675, W675, Q675, st675⟩ := x_special B W666 (b := b659) [(.ref b662)] (c_fp2 l Z a0 hw b659 b662 7 fp 5 cz sf h666 Scs hcz Ssf rsf f672 f674 (by omega) Sfp (by omega) ep0 (by rw [ep1]; exact g101) ep2 (by intro j h1 h2; obtain rfl | rfl | rfl | rfl : j = 3 ∨ j = 4 ∨ j = 5 ∨ j = 6 := (by omega); (· exact (by rw [ep3]; exact g102.n47)); (· exact (by rw [ep4]; exact g103.n47)); (· exact (by rw [ep5]; exact (by decide))); (· exact (by rw [ep6]; exact g104.n47))) (by omega) (by omega) ep5 (by intro j h1 h2 h3; obtain rfl | rfl | rfl : j = 3 ∨ j = 4 ∨ j = 6 := (by omega); (· exact (by rw [ep3]; exact g102.ok (by omega))); (· exact (by rw [ep4]; exact g103.ok (by omega))); (· exact (by rw [ep6]; exact Or.inl q104)))) at_299 rfl (tw hw 45 rfl) (tw hw 46 rfl) (tw hw 44 rfl) (tw hw 47 rfl) (by decide) (lenOf pd__Ljava_lang_String__V rfl) #[.val (.int p1), .val (.int p2), .val (.int p3), .val (.int p4), .val (.long p5), .second, .val (.int 1), .val (.int 2), .val (.int 1), .val (.int x101), .val (.int x102), .val (.int x103), .val (.int x104), .val (.int x105), .val (.int x106), .val (.int 7), .val (.ref b630), .val (.int 7), .val (.ref b647), .val (.ref b651), .unset] [(.ref b659)] rfl 1 rfl (by decide) (by decide) (by decide) (by decide)
        obtain ⟨rfl, K675, E675, F675⟩ := Q675
        have s676 := K675.1
        refine st675 _ ?_
        have f678 := (E666.keep K675)
        have f679 := (Fc666.keep K675 (ninS (nne (by have q := nlt Fc666.lt; omega)) nin0))
        have f680 := (Fv666.keep K675 (ninS (nne (by have q := nlt Fv666.lt; omega)) nin0))
        have f681 := (A666.keep K675 (ninS (nne (by have q := nlt A666.lt; omega)) nin0))
        have S677 : StrIs Z h675 b662 (lst 7 fp) := by rw [show lst 7 fp = [47, x101, 47, x102, x103, 46, x104] by rw [hfp]; rfl]; exact ⟨t666, kb666, f678, f679, f680, f681, (by simp only [List.mem_cons, List.not_mem_nil, or_false]; rintro c (rfl | rfl | rfl | rfl | rfl | rfl | rfl) <;> first | assumption | decide), by simp⟩
        obtain ⟨T682, h682, v682, W682, Q682, st682⟩ := x_virtual B W675 (b := b659) [] (c_extn l Z a0 hw b659 b662 7 fp 5 cz sf h675 Scs hcz Ssf rsf F675 S677 (by omega) (by omega) ep5 (by intro j h1 h2; obtain rfl : j = 6 := (by omega); (· exact (by rw [ep6]; exact g104.n46)))) E675 at_302 (tw hw 176 rfl) (tw hw 177 rfl) (tw hw 179 rfl) (tw hw 178 rfl) (tw hw 44 rfl) (tw hw 180 rfl) (by decide) (lenOf pd___Ljava_lang_String_ rfl) #[.val (.int p1), .val (.int p2), .val (.int p3), .val (.int p4), .val (.long p5), .second, .val (.int 1), .val (.int 2), .val (.int 1), .val (.int x101), .val (.int x102), .val (.int x103), .val (.int x104), .val (.int x105), .val (.int x106), .val (.int 7), .val (.ref b630), .val (.int 7), .val (.ref b647), .val (.ref b651), .unset] [] rfl 0 rfl (by decide) (by decide) (by decide) (by decide)
        obtain ⟨b682, rfl, K682, S682⟩ := Q682
        have s683 := K682.1
        refine st682 _ ?_
        have S682 : StrIs Z h682 b682 (lst 1 fun i => fp (6 + i)) := S682
        refine g_astore B W682 at_305 rfl (l' := #[.val (.int p1), .val (.int p2), .val (.int p3), .val (.int p4), .val (.long p5), .second, .val (.int 1), .val (.int 2), .val (.int 1), .val (.int x101), .val (.int x102), .val (.int x103), .val (.int x104), .val (.int x105), .val (.int x106), .val (.int 7), .val (.ref b630), .val (.int 7), .val (.ref b647), .val (.ref b651), .val (.ref b682)]) rfl ?_
        refine g_aload B W682 at_307 rfl rfl ?_
        refine g_aload B W682 at_309 rfl rfl ?_
        have f685 := (S658.keep ((((((Keep.refl h655 []).trans K659 all0).trans K662 all0).trans K666 (allS (Or.inr (by omega)) all0)).trans K675 (allS (Or.inr (by omega)) all0)).trans K682 all0))
        obtain ⟨T684, h684, v684, L684, W684, Q684, st684⟩ := x_virtualB B W682 (b := b682) (V := 0) (rc := 0) (rs := 0) (QL := fun v h' L => v = some (.int (bi (decide ((lst 1 fun i => fp (6 + i)) = [x104])))) ∧ L = [] ∧ h682 = h') [(.ref b651)] (fun s' hZ' => own_eqB hw S682 f685 (Scs.ext W682.old.2) hcz (tw hw 14 rfl) (by decide) (by decide) hZ') S682.exa at_311 (tw hw 181 rfl) (tw hw 182 rfl) (tw hw 184 rfl) (tw hw 183 rfl) (by decide) (lenOf pd__Ljava_lang_Object__Z rfl) #[.val (.int p1), .val (.int p2), .val (.int p3), .val (.int p4), .val (.long p5), .second, .val (.int 1), .val (.int 2), .val (.int 1), .val (.int x101), .val (.int x102), .val (.int x103), .val (.int x104), .val (.int x105), .val (.int x106), .val (.int 7), .val (.ref b630), .val (.int 7), .val (.ref b647), .val (.ref b651), .val (.ref b682)] [] rfl rfl (by decide) (by decide) [] all0 (fun _ _ _ q => ⟨q.2.1 ▸ Fr.nil _, q.2.2 ▸ Keep.refl _ _⟩)
        obtain ⟨rfl, -, rfl⟩ := Q684
        refine st684 _ ?_
        exact r_b B W684 at_314 (by decide) (by decide) (by show some (Value.int (bi (decide ((lst 1 fun i => fp (6 + i)) = [x104])))) = some (.int 1); rw [show (decide ((lst 1 fun i => fp (6 + i)) = [x104])) = true from decide_eq_true (by show ([fp 6] : List Int32) = _; rw [ep6])]; rfl)
      · skip
        show Go p.tables e below _ T106 (mkF m 93 #[.val (.int p1), .val (.int p2), .val (.int p3), .val (.int p4), .val (.long p5), .second, .val (.int 1), .val (.int 2), .val (.int 2), .val (.int x101), .val (.int x102), .val (.int x103), .val (.int x104), .val (.int x105), .val (.int x106), .unset, .unset, .unset, .unset, .unset, .unset] [])
        refine g_iconst B W106 at_93 (v := 1) (by decide) ?_
        refine g_iload B W106 at_94 rfl ?_
        refine g_if_n B W106 at_96 (XT.i0_eq_f (by decide)) ?_
        show Go p.tables e below _ T106 (mkF m 99 #[.val (.int p1), .val (.int p2), .val (.int p3), .val (.int p4), .val (.long p5), .second, .val (.int 1), .val (.int 2), .val (.int 2), .val (.int x101), .val (.int x102), .val (.int x103), .val (.int x104), .val (.int x105), .val (.int x106), .unset, .unset, .unset, .unset, .unset, .unset] [(.int 1)])
        refine g_iconst B W106 at_99 (v := 2) (by decide) ?_
        refine g_goto B W106 at_100 (pc' := 104) (by decide) ?_
        show Go p.tables e below _ T106 (mkF m 104 #[.val (.int p1), .val (.int p2), .val (.int p3), .val (.int p4), .val (.long p5), .second, .val (.int 1), .val (.int 2), .val (.int 2), .val (.int x101), .val (.int x102), .val (.int x103), .val (.int x104), .val (.int x105), .val (.int x106), .unset, .unset, .unset, .unset, .unset, .unset] [(.int 2), (.int 1)])
        refine g_iadd B W106 at_104  ?_
        rw [show (1 + 2 : Int32) = 3 by decide]
        refine g_iload B W106 at_105 rfl ?_
        refine g_iadd B W106 at_107  ?_
        rw [show (3 + 2 : Int32) = 5 by decide]
        refine g_iconst B W106 at_108 (v := 1) (by decide) ?_
        refine g_iadd B W106 at_109  ?_
        rw [show (5 + 1 : Int32) = 6 by decide]
        refine g_iload B W106 at_110 rfl ?_
        refine g_iadd B W106 at_112  ?_
        rw [show (6 + 2 : Int32) = 8 by decide]
        refine g_istore B W106 at_113  (l' := #[.val (.int p1), .val (.int p2), .val (.int p3), .val (.int p4), .val (.long p5), .second, .val (.int 1), .val (.int 2), .val (.int 2), .val (.int x101), .val (.int x102), .val (.int x103), .val (.int x104), .val (.int x105), .val (.int x106), .val (.int 8), .unset, .unset, .unset, .unset, .unset]) rfl ?_
        refine g_iload B W106 at_115 rfl ?_
        have zs686 := W106.size
        obtain ⟨T687, h687, v687, W687, Q687, st687⟩ := x_static B W106 [(.int 8)] (c_sz8 l Z a0 hw h0) at_117 (tw hw 9 rfl) (tw hw 10 rfl) (tw hw 2 rfl) (tw hw 11 rfl) (by decide) (lenOf pd__I__C rfl) #[.val (.int p1), .val (.int p2), .val (.int p3), .val (.int p4), .val (.long p5), .second, .val (.int 1), .val (.int 2), .val (.int 2), .val (.int x101), .val (.int x102), .val (.int x103), .val (.int x104), .val (.int x105), .val (.int x106), .val (.int 8), .unset, .unset, .unset, .unset, .unset] [] rfl 0 rfl (by decide) (by decide) (by decide) (by decide)
        obtain ⟨b687, kA687, rfl, g687, K687, A687⟩ := Q687
        have s688 := K687.1
        refine st687 _ ?_
        have l687 := nlt A687.lt
        have z687 := W687.size
        refine g_astore B W687 at_120 rfl (l' := #[.val (.int p1), .val (.int p2), .val (.int p3), .val (.int p4), .val (.long p5), .second, .val (.int 1), .val (.int 2), .val (.int 2), .val (.int x101), .val (.int x102), .val (.int x103), .val (.int x104), .val (.int x105), .val (.int x106), .val (.int 8), .val (.ref b687), .unset, .unset, .unset, .unset]) rfl ?_
        refine g_iconst B W687 at_122 (v := 0) (by decide) ?_
        refine g_istore B W687 at_123  (l' := #[.val (.int p1), .val (.int p2), .val (.int p3), .val (.int p4), .val (.long p5), .second, .val (.int 1), .val (.int 2), .val (.int 2), .val (.int x101), .val (.int x102), .val (.int x103), .val (.int x104), .val (.int x105), .val (.int x106), .val (.int 8), .val (.ref b687), .val (.int 0), .unset, .unset, .unset]) rfl ?_
        refine g_aload B W687 at_125 rfl rfl ?_
        refine g_iload B W687 at_127 rfl ?_
        refine g_bipush B W687 at_129 (v := 47) (by decide) ?_
        obtain ⟨T689, h689, W689, K689, A689, st689⟩ := x_castore B W687 (j := 0) (x := 47) at_131 A687 (by decide) (Nat.lt_of_lt_of_eq (show Int32.toNatClampNeg 0 < 8 by decide) rfl) (by omega) #[.val (.int p1), .val (.int p2), .val (.int p3), .val (.int p4), .val (.long p5), .second, .val (.int 1), .val (.int 2), .val (.int 2), .val (.int x101), .val (.int x102), .val (.int x103), .val (.int x104), .val (.int x105), .val (.int x106), .val (.int 8), .val (.ref b687), .val (.int 0), .unset, .unset, .unset] []
        refine st689 _ ?_
        rw [show nar .char 47 = 47 by decide] at A689
        have A689 : Arv Z h689 b687 kA687 .char 8 [(.int 47), (.int 0), (.int 0), (.int 0), (.int 0), (.int 0), (.int 0), (.int 0)] (.int 0) := A689
        have s690 := K689.1
        refine g_iinc B W689 at_132 (v := 1) (l' := #[.val (.int p1), .val (.int p2), .val (.int p3), .val (.int p4), .val (.long p5), .second, .val (.int 1), .val (.int 2), .val (.int 2), .val (.int x101), .val (.int x102), .val (.int x103), .val (.int x104), .val (.int x105), .val (.int x106), .val (.int 8), .val (.ref b687), .val (.int (0 + 1)), .unset, .unset, .unset]) (by decide) rfl rfl ?_
        rw [show (0 + 1 : Int32) = 1 by decide]
        refine g_iload B W689 at_135 rfl ?_
        refine g_if_n B W689 at_137 (XT.i0_eq_f (by decide)) ?_
        show Go p.tables e below _ T689 (mkF m 140 #[.val (.int p1), .val (.int p2), .val (.int p3), .val (.int p4), .val (.long p5), .second, .val (.int 1), .val (.int 2), .val (.int 2), .val (.int x101), .val (.int x102), .val (.int x103), .val (.int x104), .val (.int x105), .val (.int x106), .val (.int 8), .val (.ref b687), .val (.int 1), .unset, .unset, .unset] [])
        refine g_aload B W689 at_140 rfl rfl ?_
        refine g_iload B W689 at_142 rfl ?_
        refine g_iload B W689 at_144 rfl ?_
        obtain ⟨T691, h691, W691, K691, A691, st691⟩ := x_castore B W689 (j := 1) (x := x101) at_146 A689 (by decide) (Nat.lt_of_lt_of_eq (show Int32.toNatClampNeg 1 < 8 by decide) rfl) (by omega) #[.val (.int p1), .val (.int p2), .val (.int p3), .val (.int p4), .val (.long p5), .second, .val (.int 1), .val (.int 2), .val (.int 2), .val (.int x101), .val (.int x102), .val (.int x103), .val (.int x104), .val (.int x105), .val (.int x106), .val (.int 8), .val (.ref b687), .val (.int 1), .unset, .unset, .unset] []
        refine st691 _ ?_
        rw [nx101] at A691
        have A691 : Arv Z h691 b687 kA687 .char 8 [(.int 47), (.int x101), (.int 0), (.int 0), (.int 0), (.int 0), (.int 0), (.int 0)] (.int 0) := A691
        have s692 := K691.1
        refine g_iinc B W691 at_147 (v := 1) (l' := #[.val (.int p1), .val (.int p2), .val (.int p3), .val (.int p4), .val (.long p5), .second, .val (.int 1), .val (.int 2), .val (.int 2), .val (.int x101), .val (.int x102), .val (.int x103), .val (.int x104), .val (.int x105), .val (.int x106), .val (.int 8), .val (.ref b687), .val (.int (1 + 1)), .unset, .unset, .unset]) (by decide) rfl rfl ?_
        rw [show (1 + 1 : Int32) = 2 by decide]
        refine g_aload B W691 at_150 rfl rfl ?_
        refine g_iload B W691 at_152 rfl ?_
        refine g_bipush B W691 at_154 (v := 47) (by decide) ?_
        obtain ⟨T693, h693, W693, K693, A693, st693⟩ := x_castore B W691 (j := 2) (x := 47) at_156 A691 (by decide) (Nat.lt_of_lt_of_eq (show Int32.toNatClampNeg 2 < 8 by decide) rfl) (by omega) #[.val (.int p1), .val (.int p2), .val (.int p3), .val (.int p4), .val (.long p5), .second, .val (.int 1), .val (.int 2), .val (.int 2), .val (.int x101), .val (.int x102), .val (.int x103), .val (.int x104), .val (.int x105), .val (.int x106), .val (.int 8), .val (.ref b687), .val (.int 2), .unset, .unset, .unset] []
        refine st693 _ ?_
        rw [show nar .char 47 = 47 by decide] at A693
        have A693 : Arv Z h693 b687 kA687 .char 8 [(.int 47), (.int x101), (.int 47), (.int 0), (.int 0), (.int 0), (.int 0), (.int 0)] (.int 0) := A693
        have s694 := K693.1
        refine g_iinc B W693 at_157 (v := 1) (l' := #[.val (.int p1), .val (.int p2), .val (.int p3), .val (.int p4), .val (.long p5), .second, .val (.int 1), .val (.int 2), .val (.int 2), .val (.int x101), .val (.int x102), .val (.int x103), .val (.int x104), .val (.int x105), .val (.int x106), .val (.int 8), .val (.ref b687), .val (.int (2 + 1)), .unset, .unset, .unset]) (by decide) rfl rfl ?_
        rw [show (2 + 1 : Int32) = 3 by decide]
        refine g_aload B W693 at_160 rfl rfl ?_
        refine g_iload B W693 at_162 rfl ?_
        refine g_iload B W693 at_164 rfl ?_
        obtain ⟨T695, h695, W695, K695, A695, st695⟩ := x_castore B W693 (j := 3) (x := x102) at_166 A693 (by decide) (Nat.lt_of_lt_of_eq (show Int32.toNatClampNeg 3 < 8 by decide) rfl) (by omega) #[.val (.int p1), .val (.int p2), .val (.int p3), .val (.int p4), .val (.long p5), .second, .val (.int 1), .val (.int 2), .val (.int 2), .val (.int x101), .val (.int x102), .val (.int x103), .val (.int x104), .val (.int x105), .val (.int x106), .val (.int 8), .val (.ref b687), .val (.int 3), .unset, .unset, .unset] []
        refine st695 _ ?_
        rw [nx102] at A695
        have A695 : Arv Z h695 b687 kA687 .char 8 [(.int 47), (.int x101), (.int 47), (.int x102), (.int 0), (.int 0), (.int 0), (.int 0)] (.int 0) := A695
        have s696 := K695.1
        refine g_iinc B W695 at_167 (v := 1) (l' := #[.val (.int p1), .val (.int p2), .val (.int p3), .val (.int p4), .val (.long p5), .second, .val (.int 1), .val (.int 2), .val (.int 2), .val (.int x101), .val (.int x102), .val (.int x103), .val (.int x104), .val (.int x105), .val (.int x106), .val (.int 8), .val (.ref b687), .val (.int (3 + 1)), .unset, .unset, .unset]) (by decide) rfl rfl ?_
        rw [show (3 + 1 : Int32) = 4 by decide]
        refine g_iload B W695 at_170 rfl ?_
        refine g_iconst B W695 at_172 (v := 2) (by decide) ?_
        refine g_icmp_n B W695 at_173 (XT.ii_ne_f (by decide)) ?_
        show Go p.tables e below _ T695 (mkF m 176 #[.val (.int p1), .val (.int p2), .val (.int p3), .val (.int p4), .val (.long p5), .second, .val (.int 1), .val (.int 2), .val (.int 2), .val (.int x101), .val (.int x102), .val (.int x103), .val (.int x104), .val (.int x105), .val (.int x106), .val (.int 8), .val (.ref b687), .val (.int 4), .unset, .unset, .unset] [])
        refine g_aload B W695 at_176 rfl rfl ?_
        refine g_iload B W695 at_178 rfl ?_
        refine g_iload B W695 at_180 rfl ?_
        obtain ⟨T697, h697, W697, K697, A697, st697⟩ := x_castore B W695 (j := 4) (x := x103) at_182 A695 (by decide) (Nat.lt_of_lt_of_eq (show Int32.toNatClampNeg 4 < 8 by decide) rfl) (by omega) #[.val (.int p1), .val (.int p2), .val (.int p3), .val (.int p4), .val (.long p5), .second, .val (.int 1), .val (.int 2), .val (.int 2), .val (.int x101), .val (.int x102), .val (.int x103), .val (.int x104), .val (.int x105), .val (.int x106), .val (.int 8), .val (.ref b687), .val (.int 4), .unset, .unset, .unset] []
        refine st697 _ ?_
        rw [nx103] at A697
        have A697 : Arv Z h697 b687 kA687 .char 8 [(.int 47), (.int x101), (.int 47), (.int x102), (.int x103), (.int 0), (.int 0), (.int 0)] (.int 0) := A697
        have s698 := K697.1
        refine g_iinc B W697 at_183 (v := 1) (l' := #[.val (.int p1), .val (.int p2), .val (.int p3), .val (.int p4), .val (.long p5), .second, .val (.int 1), .val (.int 2), .val (.int 2), .val (.int x101), .val (.int x102), .val (.int x103), .val (.int x104), .val (.int x105), .val (.int x106), .val (.int 8), .val (.ref b687), .val (.int (4 + 1)), .unset, .unset, .unset]) (by decide) rfl rfl ?_
        rw [show (4 + 1 : Int32) = 5 by decide]
        refine g_aload B W697 at_186 rfl rfl ?_
        refine g_iload B W697 at_188 rfl ?_
        refine g_bipush B W697 at_190 (v := 46) (by decide) ?_
        obtain ⟨T699, h699, W699, K699, A699, st699⟩ := x_castore B W697 (j := 5) (x := 46) at_192 A697 (by decide) (Nat.lt_of_lt_of_eq (show Int32.toNatClampNeg 5 < 8 by decide) rfl) (by omega) #[.val (.int p1), .val (.int p2), .val (.int p3), .val (.int p4), .val (.long p5), .second, .val (.int 1), .val (.int 2), .val (.int 2), .val (.int x101), .val (.int x102), .val (.int x103), .val (.int x104), .val (.int x105), .val (.int x106), .val (.int 8), .val (.ref b687), .val (.int 5), .unset, .unset, .unset] []
        refine st699 _ ?_
        rw [show nar .char 46 = 46 by decide] at A699
        have A699 : Arv Z h699 b687 kA687 .char 8 [(.int 47), (.int x101), (.int 47), (.int x102), (.int x103), (.int 46), (.int 0), (.int 0)] (.int 0) := A699
        have s700 := K699.1
        refine g_iinc B W699 at_193 (v := 1) (l' := #[.val (.int p1), .val (.int p2), .val (.int p3), .val (.int p4), .val (.long p5), .second, .val (.int 1), .val (.int 2), .val (.int 2), .val (.int x101), .val (.int x102), .val (.int x103), .val (.int x104), .val (.int x105), .val (.int x106), .val (.int 8), .val (.ref b687), .val (.int (5 + 1)), .unset, .unset, .unset]) (by decide) rfl rfl ?_
        rw [show (5 + 1 : Int32) = 6 by decide]
        refine g_aload B W699 at_196 rfl rfl ?_
        refine g_iload B W699 at_198 rfl ?_
        refine g_iload B W699 at_200 rfl ?_
        obtain ⟨T701, h701, W701, K701, A701, st701⟩ := x_castore B W699 (j := 6) (x := x104) at_202 A699 (by decide) (Nat.lt_of_lt_of_eq (show Int32.toNatClampNeg 6 < 8 by decide) rfl) (by omega) #[.val (.int p1), .val (.int p2), .val (.int p3), .val (.int p4), .val (.long p5), .second, .val (.int 1), .val (.int 2), .val (.int 2), .val (.int x101), .val (.int x102), .val (.int x103), .val (.int x104), .val (.int x105), .val (.int x106), .val (.int 8), .val (.ref b687), .val (.int 6), .unset, .unset, .unset] []
        refine st701 _ ?_
        rw [nx104] at A701
        have A701 : Arv Z h701 b687 kA687 .char 8 [(.int 47), (.int x101), (.int 47), (.int x102), (.int x103), (.int 46), (.int x104), (.int 0)] (.int 0) := A701
        have s702 := K701.1
        refine g_iinc B W701 at_203 (v := 1) (l' := #[.val (.int p1), .val (.int p2), .val (.int p3), .val (.int p4), .val (.long p5), .second, .val (.int 1), .val (.int 2), .val (.int 2), .val (.int x101), .val (.int x102), .val (.int x103), .val (.int x104), .val (.int x105), .val (.int x106), .val (.int 8), .val (.ref b687), .val (.int (6 + 1)), .unset, .unset, .unset]) (by decide) rfl rfl ?_
        rw [show (6 + 1 : Int32) = 7 by decide]
        refine g_iload B W701 at_206 rfl ?_
        refine g_iconst B W701 at_208 (v := 2) (by decide) ?_
        refine g_icmp_n B W701 at_209 (XT.ii_lt_f (by decide)) ?_
        show Go p.tables e below _ T701 (mkF m 212 #[.val (.int p1), .val (.int p2), .val (.int p3), .val (.int p4), .val (.long p5), .second, .val (.int 1), .val (.int 2), .val (.int 2), .val (.int x101), .val (.int x102), .val (.int x103), .val (.int x104), .val (.int x105), .val (.int x106), .val (.int 8), .val (.ref b687), .val (.int 7), .unset, .unset, .unset] [])
        refine g_aload B W701 at_212 rfl rfl ?_
        refine g_iload B W701 at_214 rfl ?_
        refine g_iload B W701 at_216 rfl ?_
        obtain ⟨T703, h703, W703, K703, A703, st703⟩ := x_castore B W701 (j := 7) (x := x105) at_218 A701 (by decide) (Nat.lt_of_lt_of_eq (show Int32.toNatClampNeg 7 < 8 by decide) rfl) (by omega) #[.val (.int p1), .val (.int p2), .val (.int p3), .val (.int p4), .val (.long p5), .second, .val (.int 1), .val (.int 2), .val (.int 2), .val (.int x101), .val (.int x102), .val (.int x103), .val (.int x104), .val (.int x105), .val (.int x106), .val (.int 8), .val (.ref b687), .val (.int 7), .unset, .unset, .unset] []
        refine st703 _ ?_
        rw [nx105] at A703
        have A703 : Arv Z h703 b687 kA687 .char 8 [(.int 47), (.int x101), (.int 47), (.int x102), (.int x103), (.int 46), (.int x104), (.int x105)] (.int 0) := A703
        have s704 := K703.1
        refine g_iinc B W703 at_219 (v := 1) (l' := #[.val (.int p1), .val (.int p2), .val (.int p3), .val (.int p4), .val (.long p5), .second, .val (.int 1), .val (.int 2), .val (.int 2), .val (.int x101), .val (.int x102), .val (.int x103), .val (.int x104), .val (.int x105), .val (.int x106), .val (.int 8), .val (.ref b687), .val (.int (7 + 1)), .unset, .unset, .unset]) (by decide) rfl rfl ?_
        rw [show (7 + 1 : Int32) = 8 by decide]
        refine g_iload B W703 at_222 rfl ?_
        refine g_iconst B W703 at_224 (v := 3) (by decide) ?_
        refine g_icmp_y B W703 at_225 (XT.ii_ne_t (by decide)) (pc' := 238) (by decide) ?_
        show Go p.tables e below _ T703 (mkF m 238 #[.val (.int p1), .val (.int p2), .val (.int p3), .val (.int p4), .val (.long p5), .second, .val (.int 1), .val (.int 2), .val (.int 2), .val (.int x101), .val (.int x102), .val (.int x103), .val (.int x104), .val (.int x105), .val (.int x106), .val (.int 8), .val (.ref b687), .val (.int 8), .unset, .unset, .unset] [])
        refine g_iload B W703 at_238 rfl ?_
        have zs705 := W703.size
        obtain ⟨T706, h706, v706, W706, Q706, st706⟩ := x_static B W703 [(.int 2)] (c_sz2 l Z a0 hw h703) at_240 (tw hw 9 rfl) (tw hw 10 rfl) (tw hw 2 rfl) (tw hw 11 rfl) (by decide) (lenOf pd__I__C rfl) #[.val (.int p1), .val (.int p2), .val (.int p3), .val (.int p4), .val (.long p5), .second, .val (.int 1), .val (.int 2), .val (.int 2), .val (.int x101), .val (.int x102), .val (.int x103), .val (.int x104), .val (.int x105), .val (.int x106), .val (.int 8), .val (.ref b687), .val (.int 8), .unset, .unset, .unset] [] rfl 0 rfl (by decide) (by decide) (by decide) (by decide)
        obtain ⟨b706, kA706, rfl, g706, K706, A706⟩ := Q706
        have s707 := K706.1
        refine st706 _ ?_
        have l706 := nlt A706.lt
        have z706 := W706.size
        refine g_astore B W706 at_243 rfl (l' := #[.val (.int p1), .val (.int p2), .val (.int p3), .val (.int p4), .val (.long p5), .second, .val (.int 1), .val (.int 2), .val (.int 2), .val (.int x101), .val (.int x102), .val (.int x103), .val (.int x104), .val (.int x105), .val (.int x106), .val (.int 8), .val (.ref b687), .val (.int 8), .val (.ref b706), .unset, .unset]) rfl ?_
        refine g_aload B W706 at_245 rfl rfl ?_
        refine g_iconst B W706 at_247 (v := 0) (by decide) ?_
        refine g_iload B W706 at_248 rfl ?_
        obtain ⟨T708, h708, W708, K708, A708, st708⟩ := x_castore B W706 (j := 0) (x := x104) at_250 A706 (by decide) (Nat.lt_of_lt_of_eq (show Int32.toNatClampNeg 0 < 2 by decide) rfl) (by omega) #[.val (.int p1), .val (.int p2), .val (.int p3), .val (.int p4), .val (.long p5), .second, .val (.int 1), .val (.int 2), .val (.int 2), .val (.int x101), .val (.int x102), .val (.int x103), .val (.int x104), .val (.int x105), .val (.int x106), .val (.int 8), .val (.ref b687), .val (.int 8), .val (.ref b706), .unset, .unset] []
        refine st708 _ ?_
        rw [nx104] at A708
        have A708 : Arv Z h708 b706 kA706 .char 2 [(.int x104), (.int 0)] (.int 0) := A708
        have s709 := K708.1
        refine g_iload B W708 at_251 rfl ?_
        refine g_iconst B W708 at_253 (v := 2) (by decide) ?_
        refine g_icmp_n B W708 at_254 (XT.ii_lt_f (by decide)) ?_
        show Go p.tables e below _ T708 (mkF m 257 #[.val (.int p1), .val (.int p2), .val (.int p3), .val (.int p4), .val (.long p5), .second, .val (.int 1), .val (.int 2), .val (.int 2), .val (.int x101), .val (.int x102), .val (.int x103), .val (.int x104), .val (.int x105), .val (.int x106), .val (.int 8), .val (.ref b687), .val (.int 8), .val (.ref b706), .unset, .unset] [])
        refine g_aload B W708 at_257 rfl rfl ?_
        refine g_iconst B W708 at_259 (v := 1) (by decide) ?_
        refine g_iload B W708 at_260 rfl ?_
        obtain ⟨T710, h710, W710, K710, A710, st710⟩ := x_castore B W708 (j := 1) (x := x105) at_262 A708 (by decide) (Nat.lt_of_lt_of_eq (show Int32.toNatClampNeg 1 < 2 by decide) rfl) (by omega) #[.val (.int p1), .val (.int p2), .val (.int p3), .val (.int p4), .val (.long p5), .second, .val (.int 1), .val (.int 2), .val (.int 2), .val (.int x101), .val (.int x102), .val (.int x103), .val (.int x104), .val (.int x105), .val (.int x106), .val (.int 8), .val (.ref b687), .val (.int 8), .val (.ref b706), .unset, .unset] []
        refine st710 _ ?_
        rw [nx105] at A710
        have A710 : Arv Z h710 b706 kA706 .char 2 [(.int x104), (.int x105)] (.int 0) := A710
        have s711 := K710.1
        refine g_iload B W710 at_263 rfl ?_
        refine g_iconst B W710 at_265 (v := 3) (by decide) ?_
        refine g_icmp_y B W710 at_266 (XT.ii_ne_t (by decide)) (pc' := 275) (by decide) ?_
        show Go p.tables e below _ T710 (mkF m 275 #[.val (.int p1), .val (.int p2), .val (.int p3), .val (.int p4), .val (.long p5), .second, .val (.int 1), .val (.int 2), .val (.int 2), .val (.int x101), .val (.int x102), .val (.int x103), .val (.int x104), .val (.int x105), .val (.int x106), .val (.int 8), .val (.ref b687), .val (.int 8), .val (.ref b706), .unset, .unset] [])
        obtain ⟨T712, h712, b712, gb712, W712, K712, E712, D712, st712⟩ := x_new B W710 at_275 (tw hw 13 rfl) (tw hw 14 rfl) (tw hw 15 rfl) (by decide) (by decide) #[.val (.int p1), .val (.int p2), .val (.int p3), .val (.int p4), .val (.long p5), .second, .val (.int 1), .val (.int 2), .val (.int 2), .val (.int x101), .val (.int x102), .val (.int x103), .val (.int x104), .val (.int x105), .val (.int x106), .val (.int 8), .val (.ref b687), .val (.int 8), .val (.ref b706), .unset, .unset] []
        have l712 := nlt E712.lt
        have z712 := W710.size
        refine st712 _ ?_
        have s713 := K712.1
        have f714 : Fld Z h712 b712 "java/lang/String" "coder" "B" (.int 0) := D712 (Or.inr (tw hw 39 rfl)) (ty := .byte) (by decide)
        have f715 : Fld Z h712 b712 "java/lang/String" "value" "[B" .null := D712 (Or.inr (tw hw 41 rfl)) (ty := (.array .byte)) (by decide)
        refine g_dup B W712 at_278 rfl ?_
        refine g_aload B W712 at_279 rfl rfl ?_
        have f717 := (A710.keep K712 nin0)
        obtain ⟨T716, h716, v716, L716, W716, Q716, st716⟩ := x_specialB B W712 (b := b712) (rc := 1) (rs := 2) [(.ref b706)] (fun s' hZ' => StrChars.Road.backV (W := 1) hZ' (fun d hd => hw d (own_words d hd)) (kI := 4) (tw hw 14 rfl) (cs := ([x104, x105] : List Int32)) (bs := ([x104, x105] : List Int32).map (fun c => c.toInt8.toInt32)) (n := 2) (n0 := Z.heap.size) (by omega) W712.size E712 f715 f714 f717 (Scs.ext W712.old.2) hcz rfl (by decide) (by decide) (by decide) (by simp only [List.mem_cons, List.not_mem_nil, or_false]; rintro c (rfl | rfl) <;> first | assumption | decide) rfl (by decide) (by decide)) at_281 rfl (tw hw 16 rfl) (tw hw 17 rfl) (tw hw 18 rfl) (by decide) (lenOf pd___C_V rfl) #[.val (.int p1), .val (.int p2), .val (.int p3), .val (.int p4), .val (.long p5), .second, .val (.int 1), .val (.int 2), .val (.int 2), .val (.int x101), .val (.int x102), .val (.int x103), .val (.int x104), .val (.int x105), .val (.int x106), .val (.int 8), .val (.ref b687), .val (.int 8), .val (.ref b706), .unset, .unset] [(.ref b712)] rfl rfl (by decide) (by decide) [b712] (allS (by omega) all0) (fun _ _ _ q => ⟨q.2.1, q.2.2.1⟩)
        obtain ⟨rfl, -, K716, E716, Fc716, t716, kb716, gt716, gu716, -, Fv716, A716⟩ := Q716
        refine st716 _ ?_
        have s718 := K716.1
        have lt716 := nlt A716.lt
        have S719 : StrIs Z h716 b712 [x104, x105] := ⟨t716, kb716, E716, Fc716, Fv716, A716, (by simp only [List.mem_cons, List.not_mem_nil, or_false]; rintro c (rfl | rfl) <;> first | assumption | decide), by simp⟩
        refine g_astore B W716 at_284 rfl (l' := #[.val (.int p1), .val (.int p2), .val (.int p3), .val (.int p4), .val (.long p5), .second, .val (.int 1), .val (.int 2), .val (.int 2), .val (.int x101), .val (.int x102), .val (.int x103), .val (.int x104), .val (.int x105), .val (.int x106), .val (.int 8), .val (.ref b687), .val (.int 8), .val (.ref b706), .val (.ref b712), .unset]) rfl ?_
        obtain ⟨T720, h720, b720, gb720, W720, K720, E720, D720, st720⟩ := x_new B W716 at_286 (tw hw 42 rfl) (tw hw 43 rfl) (tw hw 44 rfl) (by decide) (by decide) #[.val (.int p1), .val (.int p2), .val (.int p3), .val (.int p4), .val (.long p5), .second, .val (.int 1), .val (.int 2), .val (.int 2), .val (.int x101), .val (.int x102), .val (.int x103), .val (.int x104), .val (.int x105), .val (.int x106), .val (.int 8), .val (.ref b687), .val (.int 8), .val (.ref b706), .val (.ref b712), .unset] []
        have l720 := nlt E720.lt
        have z720 := W716.size
        refine st720 _ ?_
        have s721 := K720.1
        have f722 : Fld Z h720 b720 "com/example/presswright/presswright/publishing/FilePath" "path" "Ljava/lang/String;" .null := D720 (Or.inr (tw hw 175 rfl)) (ty := (.object "java/lang/String")) (by decide)
        refine g_dup B W720 at_289 rfl ?_
        obtain ⟨T723, h723, b723, gb723, W723, K723, E723, D723, st723⟩ := x_new B W720 at_290 (tw hw 13 rfl) (tw hw 14 rfl) (tw hw 15 rfl) (by decide) (by decide) #[.val (.int p1), .val (.int p2), .val (.int p3), .val (.int p4), .val (.long p5), .second, .val (.int 1), .val (.int 2), .val (.int 2), .val (.int x101), .val (.int x102), .val (.int x103), .val (.int x104), .val (.int x105), .val (.int x106), .val (.int 8), .val (.ref b687), .val (.int 8), .val (.ref b706), .val (.ref b712), .unset] [(.ref b720), (.ref b720)]
        have l723 := nlt E723.lt
        have z723 := W720.size
        refine st723 _ ?_
        have s724 := K723.1
        have f725 : Fld Z h723 b723 "java/lang/String" "coder" "B" (.int 0) := D723 (Or.inr (tw hw 39 rfl)) (ty := .byte) (by decide)
        have f726 : Fld Z h723 b723 "java/lang/String" "value" "[B" .null := D723 (Or.inr (tw hw 41 rfl)) (ty := (.array .byte)) (by decide)
        refine g_dup B W723 at_293 rfl ?_
        refine g_aload B W723 at_294 rfl rfl ?_
        have f728 := (A703.keep K706 nin0)
        have f729 := (f728.keep K708 (ninS (nne (by have q := nlt f728.lt; omega)) nin0))
        have f730 := ((f729.keep K710 (ninS (nne (by have q := nlt f729.lt; omega)) nin0)).keep K712 nin0)
        have f731 := (((f730.keep K716 (ninS (nne (by have q := nlt f730.lt; omega)) nin0)).keep K720 nin0).keep K723 nin0)
        obtain ⟨T727, h727, v727, L727, W727, Q727, st727⟩ := x_specialB B W723 (b := b723) (rc := 1) (rs := 8) [(.ref b687)] (fun s' hZ' => StrChars.Road.backV (W := 3) hZ' (fun d hd => hw d (own_words d hd)) (kI := 4) (tw hw 14 rfl) (cs := ([47, x101, 47, x102, x103, 46, x104, x105] : List Int32)) (bs := ([47, x101, 47, x102, x103, 46, x104, x105] : List Int32).map (fun c => c.toInt8.toInt32)) (n := 8) (n0 := Z.heap.size) (by omega) W723.size E723 f726 f725 f731 (Scs.ext W723.old.2) hcz rfl (by decide) (by decide) (by decide) (by simp only [List.mem_cons, List.not_mem_nil, or_false]; rintro c (rfl | rfl | rfl | rfl | rfl | rfl | rfl | rfl) <;> first | assumption | decide) rfl (by decide) (by decide)) at_296 rfl (tw hw 16 rfl) (tw hw 17 rfl) (tw hw 18 rfl) (by decide) (lenOf pd___C_V rfl) #[.val (.int p1), .val (.int p2), .val (.int p3), .val (.int p4), .val (.long p5), .second, .val (.int 1), .val (.int 2), .val (.int 2), .val (.int x101), .val (.int x102), .val (.int x103), .val (.int x104), .val (.int x105), .val (.int x106), .val (.int 8), .val (.ref b687), .val (.int 8), .val (.ref b706), .val (.ref b712), .unset] [(.ref b723), (.ref b720), (.ref b720)] rfl rfl (by decide) (by decide) [b723] (allS (by omega) all0) (fun _ _ _ q => ⟨q.2.1, q.2.2.1⟩)
        obtain ⟨rfl, -, K727, E727, Fc727, t727, kb727, gt727, gu727, -, Fv727, A727⟩ := Q727
        refine st727 _ ?_
        have s732 := K727.1
        have lt727 := nlt A727.lt
        have S733 : StrIs Z h727 b723 [47, x101, 47, x102, x103, 46, x104, x105] := ⟨t727, kb727, E727, Fc727, Fv727, A727, (by simp only [List.mem_cons, List.not_mem_nil, or_false]; rintro c (rfl | rfl | rfl | rfl | rfl | rfl | rfl | rfl) <;> first | assumption | decide), by simp⟩
        obtain ⟨fp, hfp⟩ : ∃ f : Nat → Int32, f = fun i => ([47, x101, 47, x102, x103, 46, x104, x105] : List Int32).getD i 0 := ⟨_, rfl⟩
        have ep0 : fp 0 = 47 := by rw [hfp]; rfl
        have ep1 : fp 1 = x101 := by rw [hfp]; rfl
        have ep2 : fp 2 = 47 := by rw [hfp]; rfl
        have ep3 : fp 3 = x102 := by rw [hfp]; rfl
        have ep4 : fp 4 = x103 := by rw [hfp]; rfl
        have ep5 : fp 5 = 46 := by rw [hfp]; rfl
        have ep6 : fp 6 = x104 := by rw [hfp]; rfl
        have ep7 : fp 7 = x105 := by rw [hfp]; rfl
        have Sfp : StrIs Z h727 b723 (lst 8 fp) := by rw [show lst 8 fp = [47, x101, 47, x102, x103, 46, x104, x105] by rw [hfp]; rfl]; exact S733
        have f734 := ((E720.keep K723).keep K727)
        have f735 := (f722.keep K723 nin0)
        have f736 := (f735.keep K727 (ninS (nne (by have q := nlt f735.lt; omega)) nin0))
        obtain ⟨T737, h737, v737, W737, Q737, st737⟩ := x_special B W727 (b := b720) [(.ref b723)] (c_fp2 l Z a0 hw b720 b723 8 fp 5 cz sf h727 Scs hcz Ssf rsf f734 f736 (by omega) Sfp (by omega) ep0 (by rw [ep1]; exact g101) ep2 (by intro j h1 h2; obtain rfl | rfl | rfl | rfl | rfl : j = 3 ∨ j = 4 ∨ j = 5 ∨ j = 6 ∨ j = 7 := (by omega); (· exact (by rw [ep3]; exact g102.n47)); (· exact (by rw [ep4]; exact g103.n47)); (· exact (by rw [ep5]; exact (by decide))); (· exact (by rw [ep6]; exact g104.n47)); (· exact (by rw [ep7]; exact g105.n47))) (by omega) (by omega) ep5 (by intro j h1 h2 h3; obtain rfl | rfl | rfl | rfl : j = 3 ∨ j = 4 ∨ j = 6 ∨ j = 7 := (by omega); (· exact (by rw [ep3]; exact g102.ok (by omega))); (· exact (by rw [ep4]; exact g103.ok (by omega))); (· exact (by rw [ep6]; exact Or.inl q104)); (· exact (by rw [ep7]; exact Or.inl q105)))) at_299 rfl (tw hw 45 rfl) (tw hw 46 rfl) (tw hw 44 rfl) (tw hw 47 rfl) (by decide) (lenOf pd__Ljava_lang_String__V rfl) #[.val (.int p1), .val (.int p2), .val (.int p3), .val (.int p4), .val (.long p5), .second, .val (.int 1), .val (.int 2), .val (.int 2), .val (.int x101), .val (.int x102), .val (.int x103), .val (.int x104), .val (.int x105), .val (.int x106), .val (.int 8), .val (.ref b687), .val (.int 8), .val (.ref b706), .val (.ref b712), .unset] [(.ref b720)] rfl 1 rfl (by decide) (by decide) (by decide) (by decide)
        obtain ⟨rfl, K737, E737, F737⟩ := Q737
        have s738 := K737.1
        refine st737 _ ?_
        have f740 := (E727.keep K737)
        have f741 := (Fc727.keep K737 (ninS (nne (by have q := nlt Fc727.lt; omega)) nin0))
        have f742 := (Fv727.keep K737 (ninS (nne (by have q := nlt Fv727.lt; omega)) nin0))
        have f743 := (A727.keep K737 (ninS (nne (by have q := nlt A727.lt; omega)) nin0))
        have S739 : StrIs Z h737 b723 (lst 8 fp) := by rw [show lst 8 fp = [47, x101, 47, x102, x103, 46, x104, x105] by rw [hfp]; rfl]; exact ⟨t727, kb727, f740, f741, f742, f743, (by simp only [List.mem_cons, List.not_mem_nil, or_false]; rintro c (rfl | rfl | rfl | rfl | rfl | rfl | rfl | rfl) <;> first | assumption | decide), by simp⟩
        obtain ⟨T744, h744, v744, W744, Q744, st744⟩ := x_virtual B W737 (b := b720) [] (c_extn l Z a0 hw b720 b723 8 fp 5 cz sf h737 Scs hcz Ssf rsf F737 S739 (by omega) (by omega) ep5 (by intro j h1 h2; obtain rfl | rfl : j = 6 ∨ j = 7 := (by omega); (· exact (by rw [ep6]; exact g104.n46)); (· exact (by rw [ep7]; exact g105.n46)))) E737 at_302 (tw hw 176 rfl) (tw hw 177 rfl) (tw hw 179 rfl) (tw hw 178 rfl) (tw hw 44 rfl) (tw hw 180 rfl) (by decide) (lenOf pd___Ljava_lang_String_ rfl) #[.val (.int p1), .val (.int p2), .val (.int p3), .val (.int p4), .val (.long p5), .second, .val (.int 1), .val (.int 2), .val (.int 2), .val (.int x101), .val (.int x102), .val (.int x103), .val (.int x104), .val (.int x105), .val (.int x106), .val (.int 8), .val (.ref b687), .val (.int 8), .val (.ref b706), .val (.ref b712), .unset] [] rfl 0 rfl (by decide) (by decide) (by decide) (by decide)
        obtain ⟨b744, rfl, K744, S744⟩ := Q744
        have s745 := K744.1
        refine st744 _ ?_
        have S744 : StrIs Z h744 b744 (lst 2 fun i => fp (6 + i)) := S744
        refine g_astore B W744 at_305 rfl (l' := #[.val (.int p1), .val (.int p2), .val (.int p3), .val (.int p4), .val (.long p5), .second, .val (.int 1), .val (.int 2), .val (.int 2), .val (.int x101), .val (.int x102), .val (.int x103), .val (.int x104), .val (.int x105), .val (.int x106), .val (.int 8), .val (.ref b687), .val (.int 8), .val (.ref b706), .val (.ref b712), .val (.ref b744)]) rfl ?_
        refine g_aload B W744 at_307 rfl rfl ?_
        refine g_aload B W744 at_309 rfl rfl ?_
        have f747 := (S719.keep ((((((Keep.refl h716 []).trans K720 all0).trans K723 all0).trans K727 (allS (Or.inr (by omega)) all0)).trans K737 (allS (Or.inr (by omega)) all0)).trans K744 all0))
        obtain ⟨T746, h746, v746, L746, W746, Q746, st746⟩ := x_virtualB B W744 (b := b744) (V := 0) (rc := 0) (rs := 0) (QL := fun v h' L => v = some (.int (bi (decide ((lst 2 fun i => fp (6 + i)) = [x104, x105])))) ∧ L = [] ∧ h744 = h') [(.ref b712)] (fun s' hZ' => own_eqB hw S744 f747 (Scs.ext W744.old.2) hcz (tw hw 14 rfl) (by decide) (by decide) hZ') S744.exa at_311 (tw hw 181 rfl) (tw hw 182 rfl) (tw hw 184 rfl) (tw hw 183 rfl) (by decide) (lenOf pd__Ljava_lang_Object__Z rfl) #[.val (.int p1), .val (.int p2), .val (.int p3), .val (.int p4), .val (.long p5), .second, .val (.int 1), .val (.int 2), .val (.int 2), .val (.int x101), .val (.int x102), .val (.int x103), .val (.int x104), .val (.int x105), .val (.int x106), .val (.int 8), .val (.ref b687), .val (.int 8), .val (.ref b706), .val (.ref b712), .val (.ref b744)] [] rfl rfl (by decide) (by decide) [] all0 (fun _ _ _ q => ⟨q.2.1 ▸ Fr.nil _, q.2.2 ▸ Keep.refl _ _⟩)
        obtain ⟨rfl, -, rfl⟩ := Q746
        refine st746 _ ?_
        exact r_b B W746 at_314 (by decide) (by decide) (by show some (Value.int (bi (decide ((lst 2 fun i => fp (6 + i)) = [x104, x105])))) = some (.int 1); rw [show (decide ((lst 2 fun i => fp (6 + i)) = [x104, x105])) = true from decide_eq_true (by show ([fp 6, fp 7] : List Int32) = _; rw [ep6, ep7])]; rfl)
      · skip
        show Go p.tables e below _ T106 (mkF m 93 #[.val (.int p1), .val (.int p2), .val (.int p3), .val (.int p4), .val (.long p5), .second, .val (.int 1), .val (.int 2), .val (.int 3), .val (.int x101), .val (.int x102), .val (.int x103), .val (.int x104), .val (.int x105), .val (.int x106), .unset, .unset, .unset, .unset, .unset, .unset] [])
        refine g_iconst B W106 at_93 (v := 1) (by decide) ?_
        refine g_iload B W106 at_94 rfl ?_
        refine g_if_n B W106 at_96 (XT.i0_eq_f (by decide)) ?_
        show Go p.tables e below _ T106 (mkF m 99 #[.val (.int p1), .val (.int p2), .val (.int p3), .val (.int p4), .val (.long p5), .second, .val (.int 1), .val (.int 2), .val (.int 3), .val (.int x101), .val (.int x102), .val (.int x103), .val (.int x104), .val (.int x105), .val (.int x106), .unset, .unset, .unset, .unset, .unset, .unset] [(.int 1)])
        refine g_iconst B W106 at_99 (v := 2) (by decide) ?_
        refine g_goto B W106 at_100 (pc' := 104) (by decide) ?_
        show Go p.tables e below _ T106 (mkF m 104 #[.val (.int p1), .val (.int p2), .val (.int p3), .val (.int p4), .val (.long p5), .second, .val (.int 1), .val (.int 2), .val (.int 3), .val (.int x101), .val (.int x102), .val (.int x103), .val (.int x104), .val (.int x105), .val (.int x106), .unset, .unset, .unset, .unset, .unset, .unset] [(.int 2), (.int 1)])
        refine g_iadd B W106 at_104  ?_
        rw [show (1 + 2 : Int32) = 3 by decide]
        refine g_iload B W106 at_105 rfl ?_
        refine g_iadd B W106 at_107  ?_
        rw [show (3 + 2 : Int32) = 5 by decide]
        refine g_iconst B W106 at_108 (v := 1) (by decide) ?_
        refine g_iadd B W106 at_109  ?_
        rw [show (5 + 1 : Int32) = 6 by decide]
        refine g_iload B W106 at_110 rfl ?_
        refine g_iadd B W106 at_112  ?_
        rw [show (6 + 3 : Int32) = 9 by decide]
        refine g_istore B W106 at_113  (l' := #[.val (.int p1), .val (.int p2), .val (.int p3), .val (.int p4), .val (.long p5), .second, .val (.int 1), .val (.int 2), .val (.int 3), .val (.int x101), .val (.int x102), .val (.int x103), .val (.int x104), .val (.int x105), .val (.int x106), .val (.int 9), .unset, .unset, .unset, .unset, .unset]) rfl ?_
        refine g_iload B W106 at_115 rfl ?_
        have zs748 := W106.size
        obtain ⟨T749, h749, v749, W749, Q749, st749⟩ := x_static B W106 [(.int 9)] (c_sz9 l Z a0 hw h0) at_117 (tw hw 9 rfl) (tw hw 10 rfl) (tw hw 2 rfl) (tw hw 11 rfl) (by decide) (lenOf pd__I__C rfl) #[.val (.int p1), .val (.int p2), .val (.int p3), .val (.int p4), .val (.long p5), .second, .val (.int 1), .val (.int 2), .val (.int 3), .val (.int x101), .val (.int x102), .val (.int x103), .val (.int x104), .val (.int x105), .val (.int x106), .val (.int 9), .unset, .unset, .unset, .unset, .unset] [] rfl 0 rfl (by decide) (by decide) (by decide) (by decide)
        obtain ⟨b749, kA749, rfl, g749, K749, A749⟩ := Q749
        have s750 := K749.1
        refine st749 _ ?_
        have l749 := nlt A749.lt
        have z749 := W749.size
        refine g_astore B W749 at_120 rfl (l' := #[.val (.int p1), .val (.int p2), .val (.int p3), .val (.int p4), .val (.long p5), .second, .val (.int 1), .val (.int 2), .val (.int 3), .val (.int x101), .val (.int x102), .val (.int x103), .val (.int x104), .val (.int x105), .val (.int x106), .val (.int 9), .val (.ref b749), .unset, .unset, .unset, .unset]) rfl ?_
        refine g_iconst B W749 at_122 (v := 0) (by decide) ?_
        refine g_istore B W749 at_123  (l' := #[.val (.int p1), .val (.int p2), .val (.int p3), .val (.int p4), .val (.long p5), .second, .val (.int 1), .val (.int 2), .val (.int 3), .val (.int x101), .val (.int x102), .val (.int x103), .val (.int x104), .val (.int x105), .val (.int x106), .val (.int 9), .val (.ref b749), .val (.int 0), .unset, .unset, .unset]) rfl ?_
        refine g_aload B W749 at_125 rfl rfl ?_
        refine g_iload B W749 at_127 rfl ?_
        refine g_bipush B W749 at_129 (v := 47) (by decide) ?_
        obtain ⟨T751, h751, W751, K751, A751, st751⟩ := x_castore B W749 (j := 0) (x := 47) at_131 A749 (by decide) (Nat.lt_of_lt_of_eq (show Int32.toNatClampNeg 0 < 9 by decide) rfl) (by omega) #[.val (.int p1), .val (.int p2), .val (.int p3), .val (.int p4), .val (.long p5), .second, .val (.int 1), .val (.int 2), .val (.int 3), .val (.int x101), .val (.int x102), .val (.int x103), .val (.int x104), .val (.int x105), .val (.int x106), .val (.int 9), .val (.ref b749), .val (.int 0), .unset, .unset, .unset] []
        refine st751 _ ?_
        rw [show nar .char 47 = 47 by decide] at A751
        have A751 : Arv Z h751 b749 kA749 .char 9 [(.int 47), (.int 0), (.int 0), (.int 0), (.int 0), (.int 0), (.int 0), (.int 0), (.int 0)] (.int 0) := A751
        have s752 := K751.1
        refine g_iinc B W751 at_132 (v := 1) (l' := #[.val (.int p1), .val (.int p2), .val (.int p3), .val (.int p4), .val (.long p5), .second, .val (.int 1), .val (.int 2), .val (.int 3), .val (.int x101), .val (.int x102), .val (.int x103), .val (.int x104), .val (.int x105), .val (.int x106), .val (.int 9), .val (.ref b749), .val (.int (0 + 1)), .unset, .unset, .unset]) (by decide) rfl rfl ?_
        rw [show (0 + 1 : Int32) = 1 by decide]
        refine g_iload B W751 at_135 rfl ?_
        refine g_if_n B W751 at_137 (XT.i0_eq_f (by decide)) ?_
        show Go p.tables e below _ T751 (mkF m 140 #[.val (.int p1), .val (.int p2), .val (.int p3), .val (.int p4), .val (.long p5), .second, .val (.int 1), .val (.int 2), .val (.int 3), .val (.int x101), .val (.int x102), .val (.int x103), .val (.int x104), .val (.int x105), .val (.int x106), .val (.int 9), .val (.ref b749), .val (.int 1), .unset, .unset, .unset] [])
        refine g_aload B W751 at_140 rfl rfl ?_
        refine g_iload B W751 at_142 rfl ?_
        refine g_iload B W751 at_144 rfl ?_
        obtain ⟨T753, h753, W753, K753, A753, st753⟩ := x_castore B W751 (j := 1) (x := x101) at_146 A751 (by decide) (Nat.lt_of_lt_of_eq (show Int32.toNatClampNeg 1 < 9 by decide) rfl) (by omega) #[.val (.int p1), .val (.int p2), .val (.int p3), .val (.int p4), .val (.long p5), .second, .val (.int 1), .val (.int 2), .val (.int 3), .val (.int x101), .val (.int x102), .val (.int x103), .val (.int x104), .val (.int x105), .val (.int x106), .val (.int 9), .val (.ref b749), .val (.int 1), .unset, .unset, .unset] []
        refine st753 _ ?_
        rw [nx101] at A753
        have A753 : Arv Z h753 b749 kA749 .char 9 [(.int 47), (.int x101), (.int 0), (.int 0), (.int 0), (.int 0), (.int 0), (.int 0), (.int 0)] (.int 0) := A753
        have s754 := K753.1
        refine g_iinc B W753 at_147 (v := 1) (l' := #[.val (.int p1), .val (.int p2), .val (.int p3), .val (.int p4), .val (.long p5), .second, .val (.int 1), .val (.int 2), .val (.int 3), .val (.int x101), .val (.int x102), .val (.int x103), .val (.int x104), .val (.int x105), .val (.int x106), .val (.int 9), .val (.ref b749), .val (.int (1 + 1)), .unset, .unset, .unset]) (by decide) rfl rfl ?_
        rw [show (1 + 1 : Int32) = 2 by decide]
        refine g_aload B W753 at_150 rfl rfl ?_
        refine g_iload B W753 at_152 rfl ?_
        refine g_bipush B W753 at_154 (v := 47) (by decide) ?_
        obtain ⟨T755, h755, W755, K755, A755, st755⟩ := x_castore B W753 (j := 2) (x := 47) at_156 A753 (by decide) (Nat.lt_of_lt_of_eq (show Int32.toNatClampNeg 2 < 9 by decide) rfl) (by omega) #[.val (.int p1), .val (.int p2), .val (.int p3), .val (.int p4), .val (.long p5), .second, .val (.int 1), .val (.int 2), .val (.int 3), .val (.int x101), .val (.int x102), .val (.int x103), .val (.int x104), .val (.int x105), .val (.int x106), .val (.int 9), .val (.ref b749), .val (.int 2), .unset, .unset, .unset] []
        refine st755 _ ?_
        rw [show nar .char 47 = 47 by decide] at A755
        have A755 : Arv Z h755 b749 kA749 .char 9 [(.int 47), (.int x101), (.int 47), (.int 0), (.int 0), (.int 0), (.int 0), (.int 0), (.int 0)] (.int 0) := A755
        have s756 := K755.1
        refine g_iinc B W755 at_157 (v := 1) (l' := #[.val (.int p1), .val (.int p2), .val (.int p3), .val (.int p4), .val (.long p5), .second, .val (.int 1), .val (.int 2), .val (.int 3), .val (.int x101), .val (.int x102), .val (.int x103), .val (.int x104), .val (.int x105), .val (.int x106), .val (.int 9), .val (.ref b749), .val (.int (2 + 1)), .unset, .unset, .unset]) (by decide) rfl rfl ?_
        rw [show (2 + 1 : Int32) = 3 by decide]
        refine g_aload B W755 at_160 rfl rfl ?_
        refine g_iload B W755 at_162 rfl ?_
        refine g_iload B W755 at_164 rfl ?_
        obtain ⟨T757, h757, W757, K757, A757, st757⟩ := x_castore B W755 (j := 3) (x := x102) at_166 A755 (by decide) (Nat.lt_of_lt_of_eq (show Int32.toNatClampNeg 3 < 9 by decide) rfl) (by omega) #[.val (.int p1), .val (.int p2), .val (.int p3), .val (.int p4), .val (.long p5), .second, .val (.int 1), .val (.int 2), .val (.int 3), .val (.int x101), .val (.int x102), .val (.int x103), .val (.int x104), .val (.int x105), .val (.int x106), .val (.int 9), .val (.ref b749), .val (.int 3), .unset, .unset, .unset] []
        refine st757 _ ?_
        rw [nx102] at A757
        have A757 : Arv Z h757 b749 kA749 .char 9 [(.int 47), (.int x101), (.int 47), (.int x102), (.int 0), (.int 0), (.int 0), (.int 0), (.int 0)] (.int 0) := A757
        have s758 := K757.1
        refine g_iinc B W757 at_167 (v := 1) (l' := #[.val (.int p1), .val (.int p2), .val (.int p3), .val (.int p4), .val (.long p5), .second, .val (.int 1), .val (.int 2), .val (.int 3), .val (.int x101), .val (.int x102), .val (.int x103), .val (.int x104), .val (.int x105), .val (.int x106), .val (.int 9), .val (.ref b749), .val (.int (3 + 1)), .unset, .unset, .unset]) (by decide) rfl rfl ?_
        rw [show (3 + 1 : Int32) = 4 by decide]
        refine g_iload B W757 at_170 rfl ?_
        refine g_iconst B W757 at_172 (v := 2) (by decide) ?_
        refine g_icmp_n B W757 at_173 (XT.ii_ne_f (by decide)) ?_
        show Go p.tables e below _ T757 (mkF m 176 #[.val (.int p1), .val (.int p2), .val (.int p3), .val (.int p4), .val (.long p5), .second, .val (.int 1), .val (.int 2), .val (.int 3), .val (.int x101), .val (.int x102), .val (.int x103), .val (.int x104), .val (.int x105), .val (.int x106), .val (.int 9), .val (.ref b749), .val (.int 4), .unset, .unset, .unset] [])
        refine g_aload B W757 at_176 rfl rfl ?_
        refine g_iload B W757 at_178 rfl ?_
        refine g_iload B W757 at_180 rfl ?_
        obtain ⟨T759, h759, W759, K759, A759, st759⟩ := x_castore B W757 (j := 4) (x := x103) at_182 A757 (by decide) (Nat.lt_of_lt_of_eq (show Int32.toNatClampNeg 4 < 9 by decide) rfl) (by omega) #[.val (.int p1), .val (.int p2), .val (.int p3), .val (.int p4), .val (.long p5), .second, .val (.int 1), .val (.int 2), .val (.int 3), .val (.int x101), .val (.int x102), .val (.int x103), .val (.int x104), .val (.int x105), .val (.int x106), .val (.int 9), .val (.ref b749), .val (.int 4), .unset, .unset, .unset] []
        refine st759 _ ?_
        rw [nx103] at A759
        have A759 : Arv Z h759 b749 kA749 .char 9 [(.int 47), (.int x101), (.int 47), (.int x102), (.int x103), (.int 0), (.int 0), (.int 0), (.int 0)] (.int 0) := A759
        have s760 := K759.1
        refine g_iinc B W759 at_183 (v := 1) (l' := #[.val (.int p1), .val (.int p2), .val (.int p3), .val (.int p4), .val (.long p5), .second, .val (.int 1), .val (.int 2), .val (.int 3), .val (.int x101), .val (.int x102), .val (.int x103), .val (.int x104), .val (.int x105), .val (.int x106), .val (.int 9), .val (.ref b749), .val (.int (4 + 1)), .unset, .unset, .unset]) (by decide) rfl rfl ?_
        rw [show (4 + 1 : Int32) = 5 by decide]
        refine g_aload B W759 at_186 rfl rfl ?_
        refine g_iload B W759 at_188 rfl ?_
        refine g_bipush B W759 at_190 (v := 46) (by decide) ?_
        obtain ⟨T761, h761, W761, K761, A761, st761⟩ := x_castore B W759 (j := 5) (x := 46) at_192 A759 (by decide) (Nat.lt_of_lt_of_eq (show Int32.toNatClampNeg 5 < 9 by decide) rfl) (by omega) #[.val (.int p1), .val (.int p2), .val (.int p3), .val (.int p4), .val (.long p5), .second, .val (.int 1), .val (.int 2), .val (.int 3), .val (.int x101), .val (.int x102), .val (.int x103), .val (.int x104), .val (.int x105), .val (.int x106), .val (.int 9), .val (.ref b749), .val (.int 5), .unset, .unset, .unset] []
        refine st761 _ ?_
        rw [show nar .char 46 = 46 by decide] at A761
        have A761 : Arv Z h761 b749 kA749 .char 9 [(.int 47), (.int x101), (.int 47), (.int x102), (.int x103), (.int 46), (.int 0), (.int 0), (.int 0)] (.int 0) := A761
        have s762 := K761.1
        refine g_iinc B W761 at_193 (v := 1) (l' := #[.val (.int p1), .val (.int p2), .val (.int p3), .val (.int p4), .val (.long p5), .second, .val (.int 1), .val (.int 2), .val (.int 3), .val (.int x101), .val (.int x102), .val (.int x103), .val (.int x104), .val (.int x105), .val (.int x106), .val (.int 9), .val (.ref b749), .val (.int (5 + 1)), .unset, .unset, .unset]) (by decide) rfl rfl ?_
        rw [show (5 + 1 : Int32) = 6 by decide]
        refine g_aload B W761 at_196 rfl rfl ?_
        refine g_iload B W761 at_198 rfl ?_
        refine g_iload B W761 at_200 rfl ?_
        obtain ⟨T763, h763, W763, K763, A763, st763⟩ := x_castore B W761 (j := 6) (x := x104) at_202 A761 (by decide) (Nat.lt_of_lt_of_eq (show Int32.toNatClampNeg 6 < 9 by decide) rfl) (by omega) #[.val (.int p1), .val (.int p2), .val (.int p3), .val (.int p4), .val (.long p5), .second, .val (.int 1), .val (.int 2), .val (.int 3), .val (.int x101), .val (.int x102), .val (.int x103), .val (.int x104), .val (.int x105), .val (.int x106), .val (.int 9), .val (.ref b749), .val (.int 6), .unset, .unset, .unset] []
        refine st763 _ ?_
        rw [nx104] at A763
        have A763 : Arv Z h763 b749 kA749 .char 9 [(.int 47), (.int x101), (.int 47), (.int x102), (.int x103), (.int 46), (.int x104), (.int 0), (.int 0)] (.int 0) := A763
        have s764 := K763.1
        refine g_iinc B W763 at_203 (v := 1) (l' := #[.val (.int p1), .val (.int p2), .val (.int p3), .val (.int p4), .val (.long p5), .second, .val (.int 1), .val (.int 2), .val (.int 3), .val (.int x101), .val (.int x102), .val (.int x103), .val (.int x104), .val (.int x105), .val (.int x106), .val (.int 9), .val (.ref b749), .val (.int (6 + 1)), .unset, .unset, .unset]) (by decide) rfl rfl ?_
        rw [show (6 + 1 : Int32) = 7 by decide]
        refine g_iload B W763 at_206 rfl ?_
        refine g_iconst B W763 at_208 (v := 2) (by decide) ?_
        refine g_icmp_n B W763 at_209 (XT.ii_lt_f (by decide)) ?_
        show Go p.tables e below _ T763 (mkF m 212 #[.val (.int p1), .val (.int p2), .val (.int p3), .val (.int p4), .val (.long p5), .second, .val (.int 1), .val (.int 2), .val (.int 3), .val (.int x101), .val (.int x102), .val (.int x103), .val (.int x104), .val (.int x105), .val (.int x106), .val (.int 9), .val (.ref b749), .val (.int 7), .unset, .unset, .unset] [])
        refine g_aload B W763 at_212 rfl rfl ?_
        refine g_iload B W763 at_214 rfl ?_
        refine g_iload B W763 at_216 rfl ?_
        obtain ⟨T765, h765, W765, K765, A765, st765⟩ := x_castore B W763 (j := 7) (x := x105) at_218 A763 (by decide) (Nat.lt_of_lt_of_eq (show Int32.toNatClampNeg 7 < 9 by decide) rfl) (by omega) #[.val (.int p1), .val (.int p2), .val (.int p3), .val (.int p4), .val (.long p5), .second, .val (.int 1), .val (.int 2), .val (.int 3), .val (.int x101), .val (.int x102), .val (.int x103), .val (.int x104), .val (.int x105), .val (.int x106), .val (.int 9), .val (.ref b749), .val (.int 7), .unset, .unset, .unset] []
        refine st765 _ ?_
        rw [nx105] at A765
        have A765 : Arv Z h765 b749 kA749 .char 9 [(.int 47), (.int x101), (.int 47), (.int x102), (.int x103), (.int 46), (.int x104), (.int x105), (.int 0)] (.int 0) := A765
        have s766 := K765.1
        refine g_iinc B W765 at_219 (v := 1) (l' := #[.val (.int p1), .val (.int p2), .val (.int p3), .val (.int p4), .val (.long p5), .second, .val (.int 1), .val (.int 2), .val (.int 3), .val (.int x101), .val (.int x102), .val (.int x103), .val (.int x104), .val (.int x105), .val (.int x106), .val (.int 9), .val (.ref b749), .val (.int (7 + 1)), .unset, .unset, .unset]) (by decide) rfl rfl ?_
        rw [show (7 + 1 : Int32) = 8 by decide]
        refine g_iload B W765 at_222 rfl ?_
        refine g_iconst B W765 at_224 (v := 3) (by decide) ?_
        refine g_icmp_n B W765 at_225 (XT.ii_ne_f (by decide)) ?_
        show Go p.tables e below _ T765 (mkF m 228 #[.val (.int p1), .val (.int p2), .val (.int p3), .val (.int p4), .val (.long p5), .second, .val (.int 1), .val (.int 2), .val (.int 3), .val (.int x101), .val (.int x102), .val (.int x103), .val (.int x104), .val (.int x105), .val (.int x106), .val (.int 9), .val (.ref b749), .val (.int 8), .unset, .unset, .unset] [])
        refine g_aload B W765 at_228 rfl rfl ?_
        refine g_iload B W765 at_230 rfl ?_
        refine g_iload B W765 at_232 rfl ?_
        obtain ⟨T767, h767, W767, K767, A767, st767⟩ := x_castore B W765 (j := 8) (x := x106) at_234 A765 (by decide) (Nat.lt_of_lt_of_eq (show Int32.toNatClampNeg 8 < 9 by decide) rfl) (by omega) #[.val (.int p1), .val (.int p2), .val (.int p3), .val (.int p4), .val (.long p5), .second, .val (.int 1), .val (.int 2), .val (.int 3), .val (.int x101), .val (.int x102), .val (.int x103), .val (.int x104), .val (.int x105), .val (.int x106), .val (.int 9), .val (.ref b749), .val (.int 8), .unset, .unset, .unset] []
        refine st767 _ ?_
        rw [nx106] at A767
        have A767 : Arv Z h767 b749 kA749 .char 9 [(.int 47), (.int x101), (.int 47), (.int x102), (.int x103), (.int 46), (.int x104), (.int x105), (.int x106)] (.int 0) := A767
        have s768 := K767.1
        refine g_iinc B W767 at_235 (v := 1) (l' := #[.val (.int p1), .val (.int p2), .val (.int p3), .val (.int p4), .val (.long p5), .second, .val (.int 1), .val (.int 2), .val (.int 3), .val (.int x101), .val (.int x102), .val (.int x103), .val (.int x104), .val (.int x105), .val (.int x106), .val (.int 9), .val (.ref b749), .val (.int (8 + 1)), .unset, .unset, .unset]) (by decide) rfl rfl ?_
        rw [show (8 + 1 : Int32) = 9 by decide]
        refine g_iload B W767 at_238 rfl ?_
        have zs769 := W767.size
        obtain ⟨T770, h770, v770, W770, Q770, st770⟩ := x_static B W767 [(.int 3)] (c_sz3 l Z a0 hw h767) at_240 (tw hw 9 rfl) (tw hw 10 rfl) (tw hw 2 rfl) (tw hw 11 rfl) (by decide) (lenOf pd__I__C rfl) #[.val (.int p1), .val (.int p2), .val (.int p3), .val (.int p4), .val (.long p5), .second, .val (.int 1), .val (.int 2), .val (.int 3), .val (.int x101), .val (.int x102), .val (.int x103), .val (.int x104), .val (.int x105), .val (.int x106), .val (.int 9), .val (.ref b749), .val (.int 9), .unset, .unset, .unset] [] rfl 0 rfl (by decide) (by decide) (by decide) (by decide)
        obtain ⟨b770, kA770, rfl, g770, K770, A770⟩ := Q770
        have s771 := K770.1
        refine st770 _ ?_
        have l770 := nlt A770.lt
        have z770 := W770.size
        refine g_astore B W770 at_243 rfl (l' := #[.val (.int p1), .val (.int p2), .val (.int p3), .val (.int p4), .val (.long p5), .second, .val (.int 1), .val (.int 2), .val (.int 3), .val (.int x101), .val (.int x102), .val (.int x103), .val (.int x104), .val (.int x105), .val (.int x106), .val (.int 9), .val (.ref b749), .val (.int 9), .val (.ref b770), .unset, .unset]) rfl ?_
        refine g_aload B W770 at_245 rfl rfl ?_
        refine g_iconst B W770 at_247 (v := 0) (by decide) ?_
        refine g_iload B W770 at_248 rfl ?_
        obtain ⟨T772, h772, W772, K772, A772, st772⟩ := x_castore B W770 (j := 0) (x := x104) at_250 A770 (by decide) (Nat.lt_of_lt_of_eq (show Int32.toNatClampNeg 0 < 3 by decide) rfl) (by omega) #[.val (.int p1), .val (.int p2), .val (.int p3), .val (.int p4), .val (.long p5), .second, .val (.int 1), .val (.int 2), .val (.int 3), .val (.int x101), .val (.int x102), .val (.int x103), .val (.int x104), .val (.int x105), .val (.int x106), .val (.int 9), .val (.ref b749), .val (.int 9), .val (.ref b770), .unset, .unset] []
        refine st772 _ ?_
        rw [nx104] at A772
        have A772 : Arv Z h772 b770 kA770 .char 3 [(.int x104), (.int 0), (.int 0)] (.int 0) := A772
        have s773 := K772.1
        refine g_iload B W772 at_251 rfl ?_
        refine g_iconst B W772 at_253 (v := 2) (by decide) ?_
        refine g_icmp_n B W772 at_254 (XT.ii_lt_f (by decide)) ?_
        show Go p.tables e below _ T772 (mkF m 257 #[.val (.int p1), .val (.int p2), .val (.int p3), .val (.int p4), .val (.long p5), .second, .val (.int 1), .val (.int 2), .val (.int 3), .val (.int x101), .val (.int x102), .val (.int x103), .val (.int x104), .val (.int x105), .val (.int x106), .val (.int 9), .val (.ref b749), .val (.int 9), .val (.ref b770), .unset, .unset] [])
        refine g_aload B W772 at_257 rfl rfl ?_
        refine g_iconst B W772 at_259 (v := 1) (by decide) ?_
        refine g_iload B W772 at_260 rfl ?_
        obtain ⟨T774, h774, W774, K774, A774, st774⟩ := x_castore B W772 (j := 1) (x := x105) at_262 A772 (by decide) (Nat.lt_of_lt_of_eq (show Int32.toNatClampNeg 1 < 3 by decide) rfl) (by omega) #[.val (.int p1), .val (.int p2), .val (.int p3), .val (.int p4), .val (.long p5), .second, .val (.int 1), .val (.int 2), .val (.int 3), .val (.int x101), .val (.int x102), .val (.int x103), .val (.int x104), .val (.int x105), .val (.int x106), .val (.int 9), .val (.ref b749), .val (.int 9), .val (.ref b770), .unset, .unset] []
        refine st774 _ ?_
        rw [nx105] at A774
        have A774 : Arv Z h774 b770 kA770 .char 3 [(.int x104), (.int x105), (.int 0)] (.int 0) := A774
        have s775 := K774.1
        refine g_iload B W774 at_263 rfl ?_
        refine g_iconst B W774 at_265 (v := 3) (by decide) ?_
        refine g_icmp_n B W774 at_266 (XT.ii_ne_f (by decide)) ?_
        show Go p.tables e below _ T774 (mkF m 269 #[.val (.int p1), .val (.int p2), .val (.int p3), .val (.int p4), .val (.long p5), .second, .val (.int 1), .val (.int 2), .val (.int 3), .val (.int x101), .val (.int x102), .val (.int x103), .val (.int x104), .val (.int x105), .val (.int x106), .val (.int 9), .val (.ref b749), .val (.int 9), .val (.ref b770), .unset, .unset] [])
        refine g_aload B W774 at_269 rfl rfl ?_
        refine g_iconst B W774 at_271 (v := 2) (by decide) ?_
        refine g_iload B W774 at_272 rfl ?_
        obtain ⟨T776, h776, W776, K776, A776, st776⟩ := x_castore B W774 (j := 2) (x := x106) at_274 A774 (by decide) (Nat.lt_of_lt_of_eq (show Int32.toNatClampNeg 2 < 3 by decide) rfl) (by omega) #[.val (.int p1), .val (.int p2), .val (.int p3), .val (.int p4), .val (.long p5), .second, .val (.int 1), .val (.int 2), .val (.int 3), .val (.int x101), .val (.int x102), .val (.int x103), .val (.int x104), .val (.int x105), .val (.int x106), .val (.int 9), .val (.ref b749), .val (.int 9), .val (.ref b770), .unset, .unset] []
        refine st776 _ ?_
        rw [nx106] at A776
        have A776 : Arv Z h776 b770 kA770 .char 3 [(.int x104), (.int x105), (.int x106)] (.int 0) := A776
        have s777 := K776.1
        obtain ⟨T778, h778, b778, gb778, W778, K778, E778, D778, st778⟩ := x_new B W776 at_275 (tw hw 13 rfl) (tw hw 14 rfl) (tw hw 15 rfl) (by decide) (by decide) #[.val (.int p1), .val (.int p2), .val (.int p3), .val (.int p4), .val (.long p5), .second, .val (.int 1), .val (.int 2), .val (.int 3), .val (.int x101), .val (.int x102), .val (.int x103), .val (.int x104), .val (.int x105), .val (.int x106), .val (.int 9), .val (.ref b749), .val (.int 9), .val (.ref b770), .unset, .unset] []
        have l778 := nlt E778.lt
        have z778 := W776.size
        refine st778 _ ?_
        have s779 := K778.1
        have f780 : Fld Z h778 b778 "java/lang/String" "coder" "B" (.int 0) := D778 (Or.inr (tw hw 39 rfl)) (ty := .byte) (by decide)
        have f781 : Fld Z h778 b778 "java/lang/String" "value" "[B" .null := D778 (Or.inr (tw hw 41 rfl)) (ty := (.array .byte)) (by decide)
        refine g_dup B W778 at_278 rfl ?_
        refine g_aload B W778 at_279 rfl rfl ?_
        have f783 := (A776.keep K778 nin0)
        obtain ⟨T782, h782, v782, L782, W782, Q782, st782⟩ := x_specialB B W778 (b := b778) (rc := 1) (rs := 3) [(.ref b770)] (fun s' hZ' => StrChars.Road.backV (W := 1) hZ' (fun d hd => hw d (own_words d hd)) (kI := 4) (tw hw 14 rfl) (cs := ([x104, x105, x106] : List Int32)) (bs := ([x104, x105, x106] : List Int32).map (fun c => c.toInt8.toInt32)) (n := 3) (n0 := Z.heap.size) (by omega) W778.size E778 f781 f780 f783 (Scs.ext W778.old.2) hcz rfl (by decide) (by decide) (by decide) (by simp only [List.mem_cons, List.not_mem_nil, or_false]; rintro c (rfl | rfl | rfl) <;> first | assumption | decide) rfl (by decide) (by decide)) at_281 rfl (tw hw 16 rfl) (tw hw 17 rfl) (tw hw 18 rfl) (by decide) (lenOf pd___C_V rfl) #[.val (.int p1), .val (.int p2), .val (.int p3), .val (.int p4), .val (.long p5), .second, .val (.int 1), .val (.int 2), .val (.int 3), .val (.int x101), .val (.int x102), .val (.int x103), .val (.int x104), .val (.int x105), .val (.int x106), .val (.int 9), .val (.ref b749), .val (.int 9), .val (.ref b770), .unset, .unset] [(.ref b778)] rfl rfl (by decide) (by decide) [b778] (allS (by omega) all0) (fun _ _ _ q => ⟨q.2.1, q.2.2.1⟩)
        obtain ⟨rfl, -, K782, E782, Fc782, t782, kb782, gt782, gu782, -, Fv782, A782⟩ := Q782
        refine st782 _ ?_
        have s784 := K782.1
        have lt782 := nlt A782.lt
        have S785 : StrIs Z h782 b778 [x104, x105, x106] := ⟨t782, kb782, E782, Fc782, Fv782, A782, (by simp only [List.mem_cons, List.not_mem_nil, or_false]; rintro c (rfl | rfl | rfl) <;> first | assumption | decide), by simp⟩
        refine g_astore B W782 at_284 rfl (l' := #[.val (.int p1), .val (.int p2), .val (.int p3), .val (.int p4), .val (.long p5), .second, .val (.int 1), .val (.int 2), .val (.int 3), .val (.int x101), .val (.int x102), .val (.int x103), .val (.int x104), .val (.int x105), .val (.int x106), .val (.int 9), .val (.ref b749), .val (.int 9), .val (.ref b770), .val (.ref b778), .unset]) rfl ?_
        obtain ⟨T786, h786, b786, gb786, W786, K786, E786, D786, st786⟩ := x_new B W782 at_286 (tw hw 42 rfl) (tw hw 43 rfl) (tw hw 44 rfl) (by decide) (by decide) #[.val (.int p1), .val (.int p2), .val (.int p3), .val (.int p4), .val (.long p5), .second, .val (.int 1), .val (.int 2), .val (.int 3), .val (.int x101), .val (.int x102), .val (.int x103), .val (.int x104), .val (.int x105), .val (.int x106), .val (.int 9), .val (.ref b749), .val (.int 9), .val (.ref b770), .val (.ref b778), .unset] []
        have l786 := nlt E786.lt
        have z786 := W782.size
        refine st786 _ ?_
        have s787 := K786.1
        have f788 : Fld Z h786 b786 "com/example/presswright/presswright/publishing/FilePath" "path" "Ljava/lang/String;" .null := D786 (Or.inr (tw hw 175 rfl)) (ty := (.object "java/lang/String")) (by decide)
        refine g_dup B W786 at_289 rfl ?_
        obtain ⟨T789, h789, b789, gb789, W789, K789, E789, D789, st789⟩ := x_new B W786 at_290 (tw hw 13 rfl) (tw hw 14 rfl) (tw hw 15 rfl) (by decide) (by decide) #[.val (.int p1), .val (.int p2), .val (.int p3), .val (.int p4), .val (.long p5), .second, .val (.int 1), .val (.int 2), .val (.int 3), .val (.int x101), .val (.int x102), .val (.int x103), .val (.int x104), .val (.int x105), .val (.int x106), .val (.int 9), .val (.ref b749), .val (.int 9), .val (.ref b770), .val (.ref b778), .unset] [(.ref b786), (.ref b786)]
        have l789 := nlt E789.lt
        have z789 := W786.size
        refine st789 _ ?_
        have s790 := K789.1
        have f791 : Fld Z h789 b789 "java/lang/String" "coder" "B" (.int 0) := D789 (Or.inr (tw hw 39 rfl)) (ty := .byte) (by decide)
        have f792 : Fld Z h789 b789 "java/lang/String" "value" "[B" .null := D789 (Or.inr (tw hw 41 rfl)) (ty := (.array .byte)) (by decide)
        refine g_dup B W789 at_293 rfl ?_
        refine g_aload B W789 at_294 rfl rfl ?_
        have f794 := (A767.keep K770 nin0)
        have f795 := (f794.keep K772 (ninS (nne (by have q := nlt f794.lt; omega)) nin0))
        have f796 := (f795.keep K774 (ninS (nne (by have q := nlt f795.lt; omega)) nin0))
        have f797 := ((f796.keep K776 (ninS (nne (by have q := nlt f796.lt; omega)) nin0)).keep K778 nin0)
        have f798 := (((f797.keep K782 (ninS (nne (by have q := nlt f797.lt; omega)) nin0)).keep K786 nin0).keep K789 nin0)
        obtain ⟨T793, h793, v793, L793, W793, Q793, st793⟩ := x_specialB B W789 (b := b789) (rc := 1) (rs := 9) [(.ref b749)] (fun s' hZ' => StrChars.Road.backV (W := 3) hZ' (fun d hd => hw d (own_words d hd)) (kI := 4) (tw hw 14 rfl) (cs := ([47, x101, 47, x102, x103, 46, x104, x105, x106] : List Int32)) (bs := ([47, x101, 47, x102, x103, 46, x104, x105, x106] : List Int32).map (fun c => c.toInt8.toInt32)) (n := 9) (n0 := Z.heap.size) (by omega) W789.size E789 f792 f791 f798 (Scs.ext W789.old.2) hcz rfl (by decide) (by decide) (by decide) (by simp only [List.mem_cons, List.not_mem_nil, or_false]; rintro c (rfl | rfl | rfl | rfl | rfl | rfl | rfl | rfl | rfl) <;> first | assumption | decide) rfl (by decide) (by decide)) at_296 rfl (tw hw 16 rfl) (tw hw 17 rfl) (tw hw 18 rfl) (by decide) (lenOf pd___C_V rfl) #[.val (.int p1), .val (.int p2), .val (.int p3), .val (.int p4), .val (.long p5), .second, .val (.int 1), .val (.int 2), .val (.int 3), .val (.int x101), .val (.int x102), .val (.int x103), .val (.int x104), .val (.int x105), .val (.int x106), .val (.int 9), .val (.ref b749), .val (.int 9), .val (.ref b770), .val (.ref b778), .unset] [(.ref b789), (.ref b786), (.ref b786)] rfl rfl (by decide) (by decide) [b789] (allS (by omega) all0) (fun _ _ _ q => ⟨q.2.1, q.2.2.1⟩)
        obtain ⟨rfl, -, K793, E793, Fc793, t793, kb793, gt793, gu793, -, Fv793, A793⟩ := Q793
        refine st793 _ ?_
        have s799 := K793.1
        have lt793 := nlt A793.lt
        have S800 : StrIs Z h793 b789 [47, x101, 47, x102, x103, 46, x104, x105, x106] := ⟨t793, kb793, E793, Fc793, Fv793, A793, (by simp only [List.mem_cons, List.not_mem_nil, or_false]; rintro c (rfl | rfl | rfl | rfl | rfl | rfl | rfl | rfl | rfl) <;> first | assumption | decide), by simp⟩
        obtain ⟨fp, hfp⟩ : ∃ f : Nat → Int32, f = fun i => ([47, x101, 47, x102, x103, 46, x104, x105, x106] : List Int32).getD i 0 := ⟨_, rfl⟩
        have ep0 : fp 0 = 47 := by rw [hfp]; rfl
        have ep1 : fp 1 = x101 := by rw [hfp]; rfl
        have ep2 : fp 2 = 47 := by rw [hfp]; rfl
        have ep3 : fp 3 = x102 := by rw [hfp]; rfl
        have ep4 : fp 4 = x103 := by rw [hfp]; rfl
        have ep5 : fp 5 = 46 := by rw [hfp]; rfl
        have ep6 : fp 6 = x104 := by rw [hfp]; rfl
        have ep7 : fp 7 = x105 := by rw [hfp]; rfl
        have ep8 : fp 8 = x106 := by rw [hfp]; rfl
        have Sfp : StrIs Z h793 b789 (lst 9 fp) := by rw [show lst 9 fp = [47, x101, 47, x102, x103, 46, x104, x105, x106] by rw [hfp]; rfl]; exact S800
        have f801 := ((E786.keep K789).keep K793)
        have f802 := (f788.keep K789 nin0)
        have f803 := (f802.keep K793 (ninS (nne (by have q := nlt f802.lt; omega)) nin0))
        obtain ⟨T804, h804, v804, W804, Q804, st804⟩ := x_special B W793 (b := b786) [(.ref b789)] (c_fp2 l Z a0 hw b786 b789 9 fp 5 cz sf h793 Scs hcz Ssf rsf f801 f803 (by omega) Sfp (by omega) ep0 (by rw [ep1]; exact g101) ep2 (by intro j h1 h2; obtain rfl | rfl | rfl | rfl | rfl | rfl : j = 3 ∨ j = 4 ∨ j = 5 ∨ j = 6 ∨ j = 7 ∨ j = 8 := (by omega); (· exact (by rw [ep3]; exact g102.n47)); (· exact (by rw [ep4]; exact g103.n47)); (· exact (by rw [ep5]; exact (by decide))); (· exact (by rw [ep6]; exact g104.n47)); (· exact (by rw [ep7]; exact g105.n47)); (· exact (by rw [ep8]; exact g106.n47))) (by omega) (by omega) ep5 (by intro j h1 h2 h3; obtain rfl | rfl | rfl | rfl | rfl : j = 3 ∨ j = 4 ∨ j = 6 ∨ j = 7 ∨ j = 8 := (by omega); (· exact (by rw [ep3]; exact g102.ok (by omega))); (· exact (by rw [ep4]; exact g103.ok (by omega))); (· exact (by rw [ep6]; exact Or.inl q104)); (· exact (by rw [ep7]; exact Or.inl q105)); (· exact (by rw [ep8]; exact Or.inl q106)))) at_299 rfl (tw hw 45 rfl) (tw hw 46 rfl) (tw hw 44 rfl) (tw hw 47 rfl) (by decide) (lenOf pd__Ljava_lang_String__V rfl) #[.val (.int p1), .val (.int p2), .val (.int p3), .val (.int p4), .val (.long p5), .second, .val (.int 1), .val (.int 2), .val (.int 3), .val (.int x101), .val (.int x102), .val (.int x103), .val (.int x104), .val (.int x105), .val (.int x106), .val (.int 9), .val (.ref b749), .val (.int 9), .val (.ref b770), .val (.ref b778), .unset] [(.ref b786)] rfl 1 rfl (by decide) (by decide) (by decide) (by decide)
        obtain ⟨rfl, K804, E804, F804⟩ := Q804
        have s805 := K804.1
        refine st804 _ ?_
        have f807 := (E793.keep K804)
        have f808 := (Fc793.keep K804 (ninS (nne (by have q := nlt Fc793.lt; omega)) nin0))
        have f809 := (Fv793.keep K804 (ninS (nne (by have q := nlt Fv793.lt; omega)) nin0))
        have f810 := (A793.keep K804 (ninS (nne (by have q := nlt A793.lt; omega)) nin0))
        have S806 : StrIs Z h804 b789 (lst 9 fp) := by rw [show lst 9 fp = [47, x101, 47, x102, x103, 46, x104, x105, x106] by rw [hfp]; rfl]; exact ⟨t793, kb793, f807, f808, f809, f810, (by simp only [List.mem_cons, List.not_mem_nil, or_false]; rintro c (rfl | rfl | rfl | rfl | rfl | rfl | rfl | rfl | rfl) <;> first | assumption | decide), by simp⟩
        obtain ⟨T811, h811, v811, W811, Q811, st811⟩ := x_virtual B W804 (b := b786) [] (c_extn l Z a0 hw b786 b789 9 fp 5 cz sf h804 Scs hcz Ssf rsf F804 S806 (by omega) (by omega) ep5 (by intro j h1 h2; obtain rfl | rfl | rfl : j = 6 ∨ j = 7 ∨ j = 8 := (by omega); (· exact (by rw [ep6]; exact g104.n46)); (· exact (by rw [ep7]; exact g105.n46)); (· exact (by rw [ep8]; exact g106.n46)))) E804 at_302 (tw hw 176 rfl) (tw hw 177 rfl) (tw hw 179 rfl) (tw hw 178 rfl) (tw hw 44 rfl) (tw hw 180 rfl) (by decide) (lenOf pd___Ljava_lang_String_ rfl) #[.val (.int p1), .val (.int p2), .val (.int p3), .val (.int p4), .val (.long p5), .second, .val (.int 1), .val (.int 2), .val (.int 3), .val (.int x101), .val (.int x102), .val (.int x103), .val (.int x104), .val (.int x105), .val (.int x106), .val (.int 9), .val (.ref b749), .val (.int 9), .val (.ref b770), .val (.ref b778), .unset] [] rfl 0 rfl (by decide) (by decide) (by decide) (by decide)
        obtain ⟨b811, rfl, K811, S811⟩ := Q811
        have s812 := K811.1
        refine st811 _ ?_
        have S811 : StrIs Z h811 b811 (lst 3 fun i => fp (6 + i)) := S811
        refine g_astore B W811 at_305 rfl (l' := #[.val (.int p1), .val (.int p2), .val (.int p3), .val (.int p4), .val (.long p5), .second, .val (.int 1), .val (.int 2), .val (.int 3), .val (.int x101), .val (.int x102), .val (.int x103), .val (.int x104), .val (.int x105), .val (.int x106), .val (.int 9), .val (.ref b749), .val (.int 9), .val (.ref b770), .val (.ref b778), .val (.ref b811)]) rfl ?_
        refine g_aload B W811 at_307 rfl rfl ?_
        refine g_aload B W811 at_309 rfl rfl ?_
        have f814 := (S785.keep ((((((Keep.refl h782 []).trans K786 all0).trans K789 all0).trans K793 (allS (Or.inr (by omega)) all0)).trans K804 (allS (Or.inr (by omega)) all0)).trans K811 all0))
        obtain ⟨T813, h813, v813, L813, W813, Q813, st813⟩ := x_virtualB B W811 (b := b811) (V := 0) (rc := 0) (rs := 0) (QL := fun v h' L => v = some (.int (bi (decide ((lst 3 fun i => fp (6 + i)) = [x104, x105, x106])))) ∧ L = [] ∧ h811 = h') [(.ref b778)] (fun s' hZ' => own_eqB hw S811 f814 (Scs.ext W811.old.2) hcz (tw hw 14 rfl) (by decide) (by decide) hZ') S811.exa at_311 (tw hw 181 rfl) (tw hw 182 rfl) (tw hw 184 rfl) (tw hw 183 rfl) (by decide) (lenOf pd__Ljava_lang_Object__Z rfl) #[.val (.int p1), .val (.int p2), .val (.int p3), .val (.int p4), .val (.long p5), .second, .val (.int 1), .val (.int 2), .val (.int 3), .val (.int x101), .val (.int x102), .val (.int x103), .val (.int x104), .val (.int x105), .val (.int x106), .val (.int 9), .val (.ref b749), .val (.int 9), .val (.ref b770), .val (.ref b778), .val (.ref b811)] [] rfl rfl (by decide) (by decide) [] all0 (fun _ _ _ q => ⟨q.2.1 ▸ Fr.nil _, q.2.2 ▸ Keep.refl _ _⟩)
        obtain ⟨rfl, -, rfl⟩ := Q813
        refine st813 _ ?_
        exact r_b B W813 at_314 (by decide) (by decide) (by show some (Value.int (bi (decide ((lst 3 fun i => fp (6 + i)) = [x104, x105, x106])))) = some (.int 1); rw [show (decide ((lst 3 fun i => fp (6 + i)) = [x104, x105, x106])) = true from decide_eq_true (by show ([fp 6, fp 7, fp 8] : List Int32) = _; rw [ep6, ep7, ep8])]; rfl)
set_option maxRecDepth 65536 in
set_option maxHeartbeats 40000000 in
theorem comes_1 {Post : Tables → Env → Array Value → State → Outcome → State → Prop} (hpost : ∀ tb e args s v u, (limb_1_1.after args s (.returned v) u = true ∧ limb_1_2.after args s (.returned v) u = true ∧ True) → FrameEnd s (.returned v) u (Jvm.fieldLocs frame_1_writes args s ++ Jvm.arrayLocs frame_1_arrays args s ++ Jvm.staticLocs frame_1_statics s) 40 192 → Post tb e args s (.returned v) u) :
    ArmFor flags0 classFile x code maxLocals ret World_1 tables_1 room_1 Calls_1 rest_1 Pre_1 Post := by
  intro l hfl _ _ p e ha hc hk s m args below hf hA hF happ hP
  obtain ⟨hcalls, hrest, hpre⟩ := hP
  obtain ⟨-, -, -, hnamed, -, -, -, hat⟩ := (Spec.applies_iff hf).mp happ
  obtain ⟨hg, hn⟩ := and_e (Cond.before_iff.mp (show (Jvm.Cond.and given_1 narrow_1).before args s = true from hpre))
  obtain ⟨hcnt, hgs⟩ := and_e hg
  obtain ⟨ha0, hr0⟩ := and_e hgs
  obtain ⟨ha1, hr1⟩ := and_e hr0
  obtain ⟨ha2, hr2⟩ := and_e hr1
  obtain ⟨ha3, hr3⟩ := and_e hr2
  have ha4 := hr3
  obtain ⟨w0, w1, w2, w3, w4, rfl⟩ : ∃ w0 w1 w2 w3 w4 : Value, args = #[w0, w1, w2, w3, w4] := by
    have hs : args.size = 5 := by simpa [Cond.value, given_1] using hcnt
    obtain ⟨L⟩ := args
    match L, hs with
    | [w0, w1, w2, w3, w4], _ => exact ⟨w0, w1, w2, w3, w4, rfl⟩
  have hw := fun d (hd : d ∈ tables_1) => atoms_spec (ws := Jvm.Cond.code x code maxLocals ret :: tables_1) hat d (List.mem_cons_of_mem _ hd)
  obtain ⟨hsets, hown0⟩ := atoms_of _ (rest_1_c_eq ▸ (show rest_1_c.before _ s = true from hrest))
  have hfit : Fit s := fun {y c} hc i hi => by
    obtain ⟨ha, rfl⟩ := Array.getElem?_eq_some_iff.mp hc
    have q := List.all_eq_true.mp ((Array.all_eq_true_iff_forall_mem.mp hF) _ (Array.getElem_mem ha)) i (List.mem_range.mpr hi)
    simpa [Array.getElem?_eq_getElem hi] using q
  obtain ⟨i0, ei0⟩ := is_v ha0
  obtain rfl : w0 = (.int i0) := Option.some.inj ei0
  obtain ⟨i1, ei1⟩ := is_v ha1
  obtain rfl : w1 = (.int i1) := Option.some.inj ei1
  obtain ⟨i2, ei2⟩ := is_v ha2
  obtain rfl : w2 = (.int i2) := Option.some.inj ei2
  obtain ⟨i3, ei3⟩ := is_v ha3
  obtain rfl : w3 = (.int i3) := Option.some.inj ei3
  obtain ⟨i4, ei4⟩ := isL_v ha4
  obtain rfl : w4 = (.long i4) := Option.some.inj ei4
  obtain ⟨cz, ecz⟩ := is_v (Cond.before_iff.mp (hsets _ (List.mem_of_getElem? (i := 1) rfl)))
  have Scs : Sta s s.heap "java/lang/String" "COMPACT_STRINGS" "Z" (.int cz) := Sta.start ecz (Or.inl (hsets _ (List.mem_of_getElem? (i := 0) rfl)))
  have hcz : ¬ (cz = (0 : Int32)) := gotF (Cond.eq_ints ecz (Term.int_eval (0))) (not_v (Cond.before_iff.mp (hsets _ (List.mem_of_getElem? (i := 2) rfl))))
  obtain ⟨sf, esf⟩ : ∃ v : Value, (Jvm.Term.static "jdk/internal/util/Preconditions" "SIOOBE_FORMATTER" "Ljava/util/function/BiFunction;").eval _ s none [] s = some v ∧ v.isRef = true := own_isref (Cond.before_iff.mp (hsets _ (List.mem_of_getElem? (i := 8) rfl)))
  have Ssf : Sta s s.heap "jdk/internal/util/Preconditions" "SIOOBE_FORMATTER" "Ljava/util/function/BiFunction;" sf := Sta.start esf.1 (Or.inl (hsets _ (List.mem_of_getElem? (i := 7) rfl)))
  have rsf := esf.2
  obtain ⟨n, o, h1, h2, h3, v, L, rfl, ⟨hQ, N, -⟩, hq⟩ := c_law l s _ hw tables_1 i0 i1 i2 i3 i4 cz sf s.heap Scs hcz Ssf rsf (Old.start s) p e ha hc hk s m _ below hf ((Spec.applies_iff_loose hf).mp happ).1 ⟨rfl, State.Warmed39.refl s, rfl⟩ trivial
  obtain rfl := hQ
  exact ⟨n, _, h1, h2, h3, hpost _ _ _ _ _ _ ⟨Cond.after_iff.mpr rfl, Cond.after_iff.mpr (eq_i res_at (Term.int_eval (1)) rfl), trivial⟩ ⟨hq.1, hq.2.1, (hq.2.2.sift fun y hy => Or.inr (N y hy)).mono (by decide) (by decide)⟩⟩
theorem main_1_1 : Claimed_1_1 := comes_1 fun _ _ _ _ _ _ h hF => ⟨h.1, hF⟩
theorem main_1_2 : Claimed_1_2 := comes_1 fun _ _ _ _ _ _ h hF => ⟨h.2.1, hF⟩
end Jvm.Pilot.@@N@@
namespace Jvm.Pilot.@@N@@
open Jvm Jvm.ClassFile Sem Op Lib Jvm.Free Jvm.Stand Jvm.Pilot.@@N@@.Jvm.D
/-! MADE BY PROGRAM (witnessworld.py) out of the Statement's table words and the real class files: 25 classes; the members and pool entries that the words name. The judged class is class 1, her method 4. -/
namespace start1
open Jvm.ClassFile
def u (s : String) : CpInfo := .utf8 (stringToUtf16 s)
/-- a pool by its gaps: so many unusable entries, then the entry; so many at the end -/
def gap : Nat → List CpInfo → List CpInfo
  | 0, r => r
  | n + 1, r => .unusable :: gap n r
def poolList (es : List (Nat × CpInfo)) (last : Nat) : List CpInfo := es.foldr (fun e r => gap e.1 (e.2 :: r)) (gap last [])
def pool (es : List (Nat × CpInfo)) (last : Nat) : Array CpInfo := ⟨poolList es last⟩
def fileOf (pool : Array CpInfo) (this : Nat) (attrs : Array Attribute := #[]) (ms : Array MethodInfo := #[]) (fl : Nat := 33) (sup : Nat := 0) (ifs : Array Nat := #[]) (fds : Array FieldInfo := #[]) : ClassFile where
  minorVersion := 0
  majorVersion := 65
  constantPool := pool
  accessFlags := fl
  thisClass := this
  superClass := sup
  interfaces := ifs
  fields := fds
  methods := ms
  attributes := attrs
def plain (name : String) (sup : Option ClassId) : Class where
  name := name
  kind := .ordinary
  loader := none
  accessFlags := 33
  super := sup
  interfaces := #[]
  cf := none
  fields := #[]
  methods := #[]
  instanceTypes := #[]
  staticTypes := #[]
  resolved := #[]
  callSites := []
  init := .initialized
  statics := none
  mirror := none

def pool0 : Array CpInfo := pool [(5, u "<init>"), (0, u "()V"), (1, .class_ 10), (1, u "java/lang/Object")] 113

def k0c0 : Code := { maxStack := 0, maxLocals := 1, code := object_method_1_code, exceptionTable := #[], attributes := #[] }
def k0m0 : Method := { name := "<init>", desc := "()V", sig := { parameters := [], returnType := none }, accessFlags := 1, code := some k0c0 }
/-- java/lang/Object -/
def k0 : Class := { plain "java/lang/Object" none with
  accessFlags := 33
  interfaces := #[]
  cf := some (fileOf pool0 8 #[] #[{ accessFlags := 1, nameIndex := 5, descriptorIndex := 6, attributes := #[] }] 33 0 #[] #[])
  fields := #[]
  methods := #[k0m0]
  instanceTypes := #[]
  staticTypes := #[]
  resolved := Array.replicate 124 none
  statics := none }

def pool1 : Array CpInfo := pool [(2, .class_ 4), (1, u "java/lang/Object"), (0, u "<init>"), (0, u "()V"), (0, .integer 2147483647), (0, .methodref 9 10), (0, .class_ 11), (0, .nameAndType 12 13), (0, u "com/example/presswright/presswright/publishing/FilePathExtensionPinLaw"), (0, u "seg"), (0, u "(I)C"), (0, .long 65535), (1, .methodref 9 17), (0, .nameAndType 18 13), (0, u "ext"), (0, .methodref 9 20), (0, .nameAndType 21 22), (0, u "sized"), (0, u "(I)[C"), (0, .class_ 24), (0, u "java/lang/String"), (0, .methodref 23 26), (0, .nameAndType 5 27), (0, u "([C)V"), (0, .class_ 29), (0, u "com/example/presswright/presswright/publishing/FilePath"), (0, .methodref 28 31), (0, .nameAndType 5 32), (0, u "(Ljava/lang/String;)V"), (0, .methodref 28 34), (0, .nameAndType 35 36), (0, u "extension"), (0, u "()Ljava/lang/String;"), (0, .methodref 23 38), (0, .nameAndType 39 40), (0, u "equals"), (0, u "(Ljava/lang/Object;)Z"), (3, u "law"), (0, u "(IIIIJ)Z")] 4

def k1m0 : Method := { name := "<init>", desc := "()V", sig := { parameters := [], returnType := none }, accessFlags := 1, code := none }
def k1c1 : Code := { maxStack := 3, maxLocals := 2, code := method_2_code, exceptionTable := #[], attributes := #[] }
def k1m1 : Method := { name := "seg", desc := "(I)C", sig := { parameters := [.int], returnType := some .char }, accessFlags := 10, code := some k1c1 }
def k1c2 : Code := { maxStack := 3, maxLocals := 2, code := method_3_code, exceptionTable := #[], attributes := #[] }
def k1m2 : Method := { name := "ext", desc := "(I)C", sig := { parameters := [.int], returnType := some .char }, accessFlags := 10, code := some k1c2 }
def k1c3 : Code := { maxStack := 2, maxLocals := 1, code := method_4_code, exceptionTable := #[], attributes := #[] }
def k1m3 : Method := { name := "sized", desc := "(I)[C", sig := { parameters := [.int], returnType := some (.array .char) }, accessFlags := 10, code := some k1c3 }
def k1c4 : Code := { maxStack := 5, maxLocals := 21, code := code, exceptionTable := #[], attributes := #[] }
def k1m4 : Method := { name := "law", desc := "(IIIIJ)Z", sig := { parameters := [.int, .int, .int, .int, .long], returnType := some .boolean }, accessFlags := 9, code := some k1c4 }
/-- com/example/presswright/presswright/publishing/FilePathExtensionPinLaw -/
def k1 : Class := { plain "com/example/presswright/presswright/publishing/FilePathExtensionPinLaw" (some 0) with
  accessFlags := 49
  interfaces := #[]
  cf := some (fileOf pool1 9 #[] #[{ accessFlags := 1, nameIndex := 5, descriptorIndex := 6, attributes := #[] }, { accessFlags := 10, nameIndex := 12, descriptorIndex := 13, attributes := #[] }, { accessFlags := 10, nameIndex := 18, descriptorIndex := 13, attributes := #[] }, { accessFlags := 10, nameIndex := 21, descriptorIndex := 22, attributes := #[] }, { accessFlags := 9, nameIndex := 44, descriptorIndex := 45, attributes := #[] }] 49 2 #[] #[])
  fields := #[]
  methods := #[k1m0, k1m1, k1m2, k1m3, k1m4]
  instanceTypes := #[]
  staticTypes := #[]
  resolved := Array.replicate 50 none
  statics := none }

def pool2 : Array CpInfo := pool [(1, .class_ 2), (0, u "java/io/Serializable"), (0, .class_ 4), (0, u "java/lang/Object")] 2

/-- java/io/Serializable -/
def k2 : Class := { plain "java/io/Serializable" (some 0) with
  accessFlags := 1537
  interfaces := #[]
  cf := some (fileOf pool2 1 #[] #[] 1537 3 #[] #[])
  fields := #[]
  methods := #[]
  instanceTypes := #[]
  staticTypes := #[]
  resolved := Array.replicate 7 none
  statics := none }

def pool3 : Array CpInfo := pool [(1, .class_ 2), (0, u "java/lang/Comparable"), (0, .class_ 4), (0, u "java/lang/Object")] 7

/-- java/lang/Comparable -/
def k3 : Class := { plain "java/lang/Comparable" (some 0) with
  accessFlags := 1537
  interfaces := #[]
  cf := some (fileOf pool3 1 #[] #[] 1537 3 #[] #[])
  fields := #[]
  methods := #[]
  instanceTypes := #[]
  staticTypes := #[]
  resolved := Array.replicate 12 none
  statics := none }

def pool4 : Array CpInfo := pool [(2, .class_ 4), (1, u "java/lang/CharSequence"), (42, .class_ 48), (0, u "java/lang/CharSequence$1CodePointIterator"), (10, .class_ 60), (0, u "java/lang/CharSequence$1CharIterator"), (5, .class_ 67), (0, u "java/lang/Object")] 63

/-- java/lang/CharSequence -/
def k4 : Class := { plain "java/lang/CharSequence" (some 0) with
  accessFlags := 1537
  interfaces := #[]
  cf := some (fileOf pool4 2 #[.nestMembers #[47, 59]] #[] 1537 66 #[] #[])
  fields := #[]
  methods := #[]
  instanceTypes := #[]
  staticTypes := #[]
  resolved := Array.replicate 131 none
  statics := none }

def pool5 : Array CpInfo := pool [(1, .class_ 2), (0, u "java/lang/constant/Constable"), (0, .class_ 4), (0, u "java/lang/Object")] 6

/-- java/lang/constant/Constable -/
def k5 : Class := { plain "java/lang/constant/Constable" (some 0) with
  accessFlags := 1537
  interfaces := #[]
  cf := some (fileOf pool5 1 #[] #[] 1537 3 #[] #[])
  fields := #[]
  methods := #[]
  instanceTypes := #[]
  staticTypes := #[]
  resolved := Array.replicate 11 none
  statics := none }

def pool6 : Array CpInfo := pool [(1, .class_ 2), (0, u "java/lang/constant/ConstantDesc"), (0, .class_ 4), (0, u "java/lang/Object")] 32

/-- java/lang/constant/ConstantDesc -/
def k6 : Class := { plain "java/lang/constant/ConstantDesc" (some 0) with
  accessFlags := 1537
  interfaces := #[]
  cf := some (fileOf pool6 1 #[] #[] 1537 3 #[] #[])
  fields := #[]
  methods := #[]
  instanceTypes := #[]
  staticTypes := #[]
  resolved := Array.replicate 37 none
  statics := none }

def pool7 : Array CpInfo := pool [(1, .methodref 2 3), (0, .class_ 4), (0, .nameAndType 5 6), (0, u "java/lang/Object"), (0, u "<init>"), (0, u "()V"), (2, .fieldref 10 11), (0, .class_ 12), (0, .nameAndType 13 14), (0, u "java/lang/String"), (0, u "value"), (0, u "[B"), (0, .fieldref 10 16), (0, .nameAndType 17 18), (0, u "coder"), (0, u "B"), (2, u "hash"), (0, u "I"), (2, u "hashIsZero"), (0, u "Z"), (0, .methodref 10 28), (0, .nameAndType 5 29), (0, u "([CIILjava/lang/Void;)V"), (8, .fieldref 10 39), (0, .nameAndType 40 26), (0, u "COMPACT_STRINGS"), (1, .class_ 44), (1, u "java/lang/StringUTF16"), (0, u "compress"), (1, .methodref 42 48), (0, .nameAndType 49 50), (0, u "coderFromArrayLen"), (0, u "([BI)B"), (46, u "([BII)I"), (9, .class_ 109), (1, u "java/lang/StringLatin1"), (32, u "()Z"), (34, .methodref 42 178), (0, .nameAndType 45 179), (0, u "([CII)[B"), (31, u "([BB)V"), (122, u "()I"), (0, .methodref 10 336), (0, .nameAndType 17 337), (0, u "()B"), (25, u "([BI)C"), (27, u "(II)V"), (35, u "(I)C"), (64, .methodref 10 493), (0, .nameAndType 494 142), (0, u "isLatin1"), (0, .methodref 107 496), (0, .nameAndType 497 363), (0, u "charAt"), (3, u "checkIndex"), (3, .methodref 10 506), (0, .nameAndType 507 334), (0, u "length"), (5, u "checkFromToIndex"), (7, .methodref 10 522), (0, .nameAndType 523 524), (0, u "checkBoundsBeginEnd"), (0, u "(III)V"), (16, .methodref 107 542), (0, .nameAndType 543 544), (0, u "equals"), (0, u "([B[B)Z"), (28, u "(Ljava/lang/Object;)Z"), (1, .class_ 576), (0, u "java/lang/CharSequence"), (22, u "CASE_INSENSITIVE_ORDER"), (0, u "Ljava/util/Comparator;"), (32, .methodref 10 634), (0, .nameAndType 635 636), (0, u "indexOf"), (0, u "(II)I"), (0, .methodref 107 638), (0, .nameAndType 635 639), (0, u "([BIII)I"), (1, .methodref 10 642), (0, .nameAndType 643 636), (0, u "lastIndexOf"), (0, .methodref 107 645), (0, .nameAndType 643 97), (35, .methodref 10 682), (0, .nameAndType 683 684), (0, u "substring"), (0, u "(II)Ljava/lang/String;"), (0, .methodref 107 686), (0, .nameAndType 687 688), (0, u "newString"), (0, u "([BII)Ljava/lang/String;"), (76, u "(I)I"), (126, u "(I)Ljava/lang/String;"), (117, u "([C)V"), (42, .fieldref 1054 1055), (0, .class_ 1056), (0, .nameAndType 1057 1058), (0, u "jdk/internal/util/Preconditions"), (0, u "SIOOBE_FORMATTER"), (0, u "Ljava/util/function/BiFunction;"), (0, .methodref 1054 1060), (0, .nameAndType 501 1061), (0, u "(IILjava/util/function/BiFunction;)I"), (0, .methodref 1054 1063), (0, .nameAndType 513 1064), (0, u "(IIILjava/util/function/BiFunction;)I"), (36, u "serialPersistentFields"), (0, u "[Ljava/io/ObjectStreamField;"), (0, .class_ 1104), (0, u "java/lang/String$CaseInsensitiveComparator"), (1, .class_ 1107), (0, u "java/io/Serializable"), (0, .class_ 1109), (0, u "java/lang/Comparable"), (0, .class_ 1111), (0, u "java/lang/constant/Constable"), (0, .class_ 1113), (0, u "java/lang/constant/ConstantDesc"), (2, u "serialVersionUID"), (0, u "J"), (3, u "REPL"), (0, u "C"), (2, u "LATIN1"), (1, u "UTF16")] 323

def k7m0 : Method := { name := "<init>", desc := "()V", sig := { parameters := [], returnType := none }, accessFlags := 1, code := none }
def k7c1 : Code := { maxStack := 5, maxLocals := 2, code := jdk_42_method_3_code, exceptionTable := #[], attributes := #[] }
def k7m1 : Method := { name := "<init>", desc := "([C)V", sig := { parameters := [(.array .char)], returnType := none }, accessFlags := 1, code := some k7c1 }
def k7c2 : Code := { maxStack := 2, maxLocals := 1, code := jdk_42_method_54_code, exceptionTable := #[], attributes := #[] }
def k7m2 : Method := { name := "length", desc := "()I", sig := { parameters := [], returnType := some .int }, accessFlags := 1, code := some k7c2 }
def k7c3 : Code := { maxStack := 2, maxLocals := 2, code := jdk_42_method_56_code, exceptionTable := #[], attributes := #[] }
def k7m3 : Method := { name := "charAt", desc := "(I)C", sig := { parameters := [.int], returnType := some .char }, accessFlags := 1, code := some k7c3 }
def k7c4 : Code := { maxStack := 2, maxLocals := 3, code := jdk_42_method_66_code, exceptionTable := #[], attributes := #[] }
def k7m4 : Method := { name := "equals", desc := "(Ljava/lang/Object;)Z", sig := { parameters := [(.object "java/lang/Object")], returnType := some .boolean }, accessFlags := 1, code := some k7c4 }
def k7c5 : Code := { maxStack := 3, maxLocals := 2, code := jdk_42_method_79_code, exceptionTable := #[], attributes := #[] }
def k7m5 : Method := { name := "indexOf", desc := "(I)I", sig := { parameters := [.int], returnType := some .int }, accessFlags := 1, code := some k7c5 }
def k7c6 : Code := { maxStack := 4, maxLocals := 3, code := jdk_42_method_80_code, exceptionTable := #[], attributes := #[] }
def k7m6 : Method := { name := "indexOf", desc := "(II)I", sig := { parameters := [.int, .int], returnType := some .int }, accessFlags := 1, code := some k7c6 }
def k7c7 : Code := { maxStack := 4, maxLocals := 2, code := jdk_42_method_82_code, exceptionTable := #[], attributes := #[] }
def k7m7 : Method := { name := "lastIndexOf", desc := "(I)I", sig := { parameters := [.int], returnType := some .int }, accessFlags := 1, code := some k7c7 }
def k7c8 : Code := { maxStack := 3, maxLocals := 3, code := jdk_42_method_83_code, exceptionTable := #[], attributes := #[] }
def k7m8 : Method := { name := "lastIndexOf", desc := "(II)I", sig := { parameters := [.int, .int], returnType := some .int }, accessFlags := 1, code := some k7c8 }
def k7c9 : Code := { maxStack := 3, maxLocals := 2, code := jdk_42_method_91_code, exceptionTable := #[], attributes := #[] }
def k7m9 : Method := { name := "substring", desc := "(I)Ljava/lang/String;", sig := { parameters := [.int], returnType := some (.object "java/lang/String") }, accessFlags := 1, code := some k7c9 }
def k7c10 : Code := { maxStack := 3, maxLocals := 5, code := jdk_42_method_92_code, exceptionTable := #[], attributes := #[] }
def k7m10 : Method := { name := "substring", desc := "(II)Ljava/lang/String;", sig := { parameters := [.int, .int], returnType := some (.object "java/lang/String") }, accessFlags := 1, code := some k7c10 }
def k7c11 : Code := { maxStack := 4, maxLocals := 6, code := jdk_42_method_149_code, exceptionTable := #[], attributes := #[] }
def k7m11 : Method := { name := "<init>", desc := "([CIILjava/lang/Void;)V", sig := { parameters := [(.array .char), .int, .int, (.object "java/lang/Void")], returnType := none }, accessFlags := 2, code := some k7c11 }
def k7c12 : Code := { maxStack := 2, maxLocals := 3, code := jdk_42_method_151_code, exceptionTable := #[], attributes := #[] }
def k7m12 : Method := { name := "<init>", desc := "([BB)V", sig := { parameters := [(.array .byte), .byte], returnType := none }, accessFlags := 0, code := some k7c12 }
def k7c13 : Code := { maxStack := 1, maxLocals := 1, code := jdk_42_method_152_code, exceptionTable := #[], attributes := #[] }
def k7m13 : Method := { name := "coder", desc := "()B", sig := { parameters := [], returnType := some .byte }, accessFlags := 0, code := some k7c13 }
def k7c14 : Code := { maxStack := 1, maxLocals := 1, code := jdk_42_method_154_code, exceptionTable := #[], attributes := #[] }
def k7m14 : Method := { name := "isLatin1", desc := "()Z", sig := { parameters := [], returnType := some .boolean }, accessFlags := 0, code := some k7c14 }
def k7c15 : Code := { maxStack := 3, maxLocals := 2, code := jdk_42_method_155_code, exceptionTable := #[], attributes := #[] }
def k7m15 : Method := { name := "checkIndex", desc := "(II)V", sig := { parameters := [.int, .int], returnType := none }, accessFlags := 8, code := some k7c15 }
def k7c16 : Code := { maxStack := 4, maxLocals := 3, code := jdk_42_method_158_code, exceptionTable := #[], attributes := #[] }
def k7m16 : Method := { name := "checkBoundsBeginEnd", desc := "(III)V", sig := { parameters := [.int, .int, .int], returnType := none }, accessFlags := 8, code := some k7c16 }
/-- java/lang/String -/
def k7 : Class := { plain "java/lang/String" (some 0) with
  accessFlags := 49
  interfaces := #[2, 3, 4, 5, 6]
  cf := some (fileOf pool7 10 #[.nestMembers #[1103]] #[{ accessFlags := 1, nameIndex := 5, descriptorIndex := 6, attributes := #[] }, { accessFlags := 1, nameIndex := 5, descriptorIndex := 1010, attributes := #[] }, { accessFlags := 1, nameIndex := 507, descriptorIndex := 334, attributes := #[] }, { accessFlags := 1, nameIndex := 497, descriptorIndex := 427, attributes := #[] }, { accessFlags := 1, nameIndex := 543, descriptorIndex := 573, attributes := #[] }, { accessFlags := 1, nameIndex := 635, descriptorIndex := 765, attributes := #[] }, { accessFlags := 1, nameIndex := 635, descriptorIndex := 636, attributes := #[] }, { accessFlags := 1, nameIndex := 643, descriptorIndex := 765, attributes := #[] }, { accessFlags := 1, nameIndex := 643, descriptorIndex := 636, attributes := #[] }, { accessFlags := 1, nameIndex := 683, descriptorIndex := 892, attributes := #[] }, { accessFlags := 1, nameIndex := 683, descriptorIndex := 684, attributes := #[] }, { accessFlags := 2, nameIndex := 5, descriptorIndex := 29, attributes := #[] }, { accessFlags := 0, nameIndex := 5, descriptorIndex := 211, attributes := #[] }, { accessFlags := 0, nameIndex := 17, descriptorIndex := 337, attributes := #[] }, { accessFlags := 0, nameIndex := 494, descriptorIndex := 142, attributes := #[] }, { accessFlags := 8, nameIndex := 501, descriptorIndex := 391, attributes := #[] }, { accessFlags := 8, nameIndex := 523, descriptorIndex := 524, attributes := #[] }] 49 2 #[1106, 1108, 575, 1110, 1112] #[{ accessFlags := 18, nameIndex := 13, descriptorIndex := 14, attributes := #[] }, { accessFlags := 18, nameIndex := 17, descriptorIndex := 18, attributes := #[] }, { accessFlags := 2, nameIndex := 21, descriptorIndex := 22, attributes := #[] }, { accessFlags := 2, nameIndex := 25, descriptorIndex := 26, attributes := #[] }, { accessFlags := 26, nameIndex := 1116, descriptorIndex := 1117, attributes := #[] }, { accessFlags := 24, nameIndex := 40, descriptorIndex := 26, attributes := #[] }, { accessFlags := 26, nameIndex := 1101, descriptorIndex := 1102, attributes := #[] }, { accessFlags := 26, nameIndex := 1121, descriptorIndex := 1122, attributes := #[] }, { accessFlags := 25, nameIndex := 599, descriptorIndex := 600, attributes := #[] }, { accessFlags := 24, nameIndex := 1125, descriptorIndex := 18, attributes := #[] }, { accessFlags := 24, nameIndex := 1127, descriptorIndex := 18, attributes := #[] }])
  fields := #[{ name := "value", type := (.array .byte), accessFlags := 18, slot := 0, constantValue := 0 }, { name := "coder", type := .byte, accessFlags := 18, slot := 1, constantValue := 0 }, { name := "hash", type := .int, accessFlags := 2, slot := 2, constantValue := 0 }, { name := "hashIsZero", type := .boolean, accessFlags := 2, slot := 3, constantValue := 0 }, { name := "serialVersionUID", type := .long, accessFlags := 26, slot := 0, constantValue := 0 }, { name := "COMPACT_STRINGS", type := .boolean, accessFlags := 24, slot := 1, constantValue := 0 }, { name := "serialPersistentFields", type := (.array (.object "java/io/ObjectStreamField")), accessFlags := 26, slot := 2, constantValue := 0 }, { name := "REPL", type := .char, accessFlags := 26, slot := 3, constantValue := 0 }, { name := "CASE_INSENSITIVE_ORDER", type := (.object "java/util/Comparator"), accessFlags := 25, slot := 4, constantValue := 0 }, { name := "LATIN1", type := .byte, accessFlags := 24, slot := 5, constantValue := 0 }, { name := "UTF16", type := .byte, accessFlags := 24, slot := 6, constantValue := 0 }]
  methods := #[k7m0, k7m1, k7m2, k7m3, k7m4, k7m5, k7m6, k7m7, k7m8, k7m9, k7m10, k7m11, k7m12, k7m13, k7m14, k7m15, k7m16]
  instanceTypes := #[(.array .byte), .byte, .int, .boolean]
  staticTypes := #[.long, .boolean, (.array (.object "java/io/ObjectStreamField")), .char, (.object "java/util/Comparator"), .byte, .byte]
  resolved := Array.replicate 1451 none
  statics := some 0 }

def pool8 : Array CpInfo := pool [(6, .class_ 8), (1, u "java/lang/Object"), (0, u "<init>"), (0, u "()V"), (1, .class_ 14), (1, u "java/lang/StringUTF16"), (31, u "$assertionsDisabled"), (0, u "Z"), (13, u "HI_BYTE_SHIFT"), (0, u "I"), (2, u "LO_BYTE_SHIFT"), (49, .methodref 12 116), (0, .nameAndType 117 118), (0, u "compress"), (0, u "([CI[BII)I"), (3, u "([CII)[B"), (138, u "coderFromArrayLen"), (0, u "([BI)B"), (106, .class_ 371), (1, u "java/lang/StringUTF16$LinesSpliterator"), (58, u "MAX_LENGTH"), (196, .class_ 628), (0, u "java/lang/StringUTF16$CodePointsSpliterator"), (0, .class_ 630), (0, u "java/lang/StringUTF16$CharsSpliterator")] 4

def k8m0 : Method := { name := "<init>", desc := "()V", sig := { parameters := [], returnType := none }, accessFlags := 0, code := none }
def k8c1 : Code := { maxStack := 2, maxLocals := 2, code := jdk_52_method_15_code, exceptionTable := #[], attributes := #[] }
def k8m1 : Method := { name := "coderFromArrayLen", desc := "([BI)B", sig := { parameters := [(.array .byte), .int], returnType := some .byte }, accessFlags := 8, code := some k8c1 }
def k8c2 : Code := { maxStack := 5, maxLocals := 6, code := jdk_52_method_16_code, exceptionTable := #[], attributes := #[] }
def k8m2 : Method := { name := "compress", desc := "([CII)[B", sig := { parameters := [(.array .char), .int, .int], returnType := some (.array .byte) }, accessFlags := 9, code := some k8c2 }
def k8c3 : Code := { maxStack := 3, maxLocals := 7, code := jdk_52_method_21_code, exceptionTable := #[], attributes := #[] }
def k8m3 : Method := { name := "compress", desc := "([CI[BII)I", sig := { parameters := [(.array .char), .int, (.array .byte), .int, .int], returnType := some .int }, accessFlags := 9, code := some k8c3 }
/-- java/lang/StringUTF16 -/
def k8 : Class := { plain "java/lang/StringUTF16" (some 0) with
  accessFlags := 48
  interfaces := #[]
  cf := some (fileOf pool8 12 #[.nestMembers #[627, 629, 369]] #[{ accessFlags := 0, nameIndex := 9, descriptorIndex := 10, attributes := #[] }, { accessFlags := 8, nameIndex := 261, descriptorIndex := 262, attributes := #[] }, { accessFlags := 9, nameIndex := 117, descriptorIndex := 122, attributes := #[] }, { accessFlags := 9, nameIndex := 117, descriptorIndex := 118, attributes := #[] }] 48 6 #[] #[{ accessFlags := 26, nameIndex := 61, descriptorIndex := 62, attributes := #[] }, { accessFlags := 26, nameIndex := 65, descriptorIndex := 62, attributes := #[] }, { accessFlags := 24, nameIndex := 430, descriptorIndex := 62, attributes := #[] }, { accessFlags := 4120, nameIndex := 46, descriptorIndex := 47, attributes := #[] }])
  fields := #[{ name := "HI_BYTE_SHIFT", type := .int, accessFlags := 26, slot := 0, constantValue := 0 }, { name := "LO_BYTE_SHIFT", type := .int, accessFlags := 26, slot := 1, constantValue := 0 }, { name := "MAX_LENGTH", type := .int, accessFlags := 24, slot := 2, constantValue := 0 }, { name := "$assertionsDisabled", type := .boolean, accessFlags := 4120, slot := 3, constantValue := 0 }]
  methods := #[k8m0, k8m1, k8m2, k8m3]
  instanceTypes := #[]
  staticTypes := #[.int, .int, .int, .boolean]
  resolved := Array.replicate 635 none
  statics := none }

def pool9 : Array CpInfo := pool [(1, .methodref 2 3), (0, .class_ 4), (0, .nameAndType 5 6), (0, u "java/lang/Object"), (0, u "<init>"), (0, u "()V"), (0, .class_ 8), (0, u "java/lang/Record")] 13

def k9c0 : Code := { maxStack := 1, maxLocals := 1, code := jdk_30_method_1_code, exceptionTable := #[], attributes := #[] }
def k9m0 : Method := { name := "<init>", desc := "()V", sig := { parameters := [], returnType := none }, accessFlags := 4, code := some k9c0 }
/-- java/lang/Record -/
def k9 : Class := { plain "java/lang/Record" (some 0) with
  accessFlags := 1057
  interfaces := #[]
  cf := some (fileOf pool9 7 #[] #[{ accessFlags := 4, nameIndex := 5, descriptorIndex := 6, attributes := #[] }] 1057 2 #[] #[])
  fields := #[]
  methods := #[k9m0]
  instanceTypes := #[]
  staticTypes := #[]
  resolved := Array.replicate 22 none
  statics := none }

def pool10 : Array CpInfo := pool [(1, .methodref 2 3), (0, .class_ 4), (0, .nameAndType 5 6), (0, u "java/lang/Record"), (0, u "<init>"), (0, u "()V"), (0, .methodref 8 9), (0, .class_ 10), (0, .nameAndType 11 12), (0, u "java/lang/String"), (0, u "lastIndexOf"), (0, u "(I)I"), (0, .methodref 8 14), (0, .nameAndType 15 16), (0, u "substring"), (0, u "(II)Ljava/lang/String;"), (0, .methodref 18 19), (0, .class_ 20), (0, .nameAndType 21 22), (0, u "com/example/presswright/presswright/publishing/PagePath"), (0, u "isPagePath"), (0, u "(Ljava/lang/String;)Z"), (0, .methodref 8 24), (0, .nameAndType 15 25), (0, u "(I)Ljava/lang/String;"), (0, .methodref 27 28), (0, .class_ 29), (0, .nameAndType 30 22), (0, u "com/example/presswright/presswright/publishing/FilePath"), (0, u "isFileName"), (8, u "(Ljava/lang/String;)V"), (0, .fieldref 27 41), (0, .nameAndType 42 43), (0, u "path"), (0, u "Ljava/lang/String;"), (6, .methodref 8 51), (0, .nameAndType 52 12), (0, u "indexOf"), (0, .methodref 8 54), (0, .nameAndType 55 56), (0, u "length"), (0, u "()I"), (0, .methodref 8 58), (0, .nameAndType 59 60), (0, u "charAt"), (0, u "(I)C"), (14, u "extension"), (0, u "()Ljava/lang/String;")] 29

def k10c0 : Code := { maxStack := 4, maxLocals := 3, code := prog_5_method_1_code, exceptionTable := #[], attributes := #[] }
def k10m0 : Method := { name := "<init>", desc := "(Ljava/lang/String;)V", sig := { parameters := [(.object "java/lang/String")], returnType := none }, accessFlags := 1, code := some k10c0 }
def k10c1 : Code := { maxStack := 3, maxLocals := 1, code := prog_5_method_3_code, exceptionTable := #[], attributes := #[] }
def k10m1 : Method := { name := "extension", desc := "()Ljava/lang/String;", sig := { parameters := [], returnType := some (.object "java/lang/String") }, accessFlags := 1, code := some k10c1 }
def k10c2 : Code := { maxStack := 3, maxLocals := 5, code := prog_5_method_4_code, exceptionTable := #[], attributes := #[] }
def k10m2 : Method := { name := "isFileName", desc := "(Ljava/lang/String;)Z", sig := { parameters := [(.object "java/lang/String")], returnType := some .boolean }, accessFlags := 10, code := some k10c2 }
/-- com/example/presswright/presswright/publishing/FilePath -/
def k10 : Class := { plain "com/example/presswright/presswright/publishing/FilePath" (some 9) with
  accessFlags := 49
  interfaces := #[]
  cf := some (fileOf pool10 27 #[] #[{ accessFlags := 1, nameIndex := 5, descriptorIndex := 39, attributes := #[] }, { accessFlags := 1, nameIndex := 75, descriptorIndex := 76, attributes := #[] }, { accessFlags := 10, nameIndex := 30, descriptorIndex := 22, attributes := #[] }] 49 2 #[] #[{ accessFlags := 18, nameIndex := 42, descriptorIndex := 43, attributes := #[] }])
  fields := #[{ name := "path", type := (.object "java/lang/String"), accessFlags := 18, slot := 0, constantValue := 0 }]
  methods := #[k10m0, k10m1, k10m2]
  instanceTypes := #[(.object "java/lang/String")]
  staticTypes := #[]
  resolved := Array.replicate 106 none
  statics := none }

def pool11 : Array CpInfo := pool [(1, .class_ 2), (0, u "java/lang/String"), (1, .class_ 6), (1, u "java/lang/Object"), (0, u "<init>"), (0, u "()V"), (0, .methodref 1 10), (0, .nameAndType 11 12), (0, u "checkIndex"), (0, u "(II)V"), (1, .class_ 16), (1, u "java/lang/StringLatin1"), (21, .methodref 39 40), (0, .class_ 41), (0, .nameAndType 42 43), (0, u "java/lang/Math"), (0, u "min"), (0, u "(II)I"), (9, u "([BI)C"), (34, .methodref 14 89), (0, .nameAndType 90 91), (0, u "canEncode"), (0, u "(I)Z"), (0, .methodref 39 93), (0, .nameAndType 94 43), (0, u "max"), (0, .methodref 14 96), (0, .nameAndType 97 98), (0, u "indexOfChar"), (0, u "([BIII)I"), (2, u "indexOf"), (10, .methodref 1 113), (0, .nameAndType 7 114), (0, u "([BB)V"), (6, u "$assertionsDisabled"), (0, u "Z"), (8, .class_ 133), (1, u "java/util/Arrays"), (62, u "newString"), (0, u "([BII)Ljava/lang/String;"), (23, .class_ 223), (1, u "java/lang/StringLatin1$LinesSpliterator"), (8, .methodref 131 233), (0, .nameAndType 234 235), (0, u "copyOfRange"), (0, u "([BII)[B"), (16, u "charAt"), (8, u "([BII)I"), (19, u "equals"), (0, u "([B[B)Z"), (26, u "lastIndexOf"), (80, .class_ 391), (0, u "java/lang/StringLatin1$CharsSpliterator")] 3

def k11m0 : Method := { name := "<init>", desc := "()V", sig := { parameters := [], returnType := none }, accessFlags := 0, code := none }
def k11c1 : Code := { maxStack := 2, maxLocals := 2, code := jdk_43_method_2_code, exceptionTable := #[], attributes := #[] }
def k11m1 : Method := { name := "charAt", desc := "([BI)C", sig := { parameters := [(.array .byte), .int], returnType := some .char }, accessFlags := 9, code := some k11c1 }
def k11c2 : Code := { maxStack := 2, maxLocals := 1, code := jdk_43_method_4_code, exceptionTable := #[], attributes := #[] }
def k11m2 : Method := { name := "canEncode", desc := "(I)Z", sig := { parameters := [.int], returnType := some .boolean }, accessFlags := 9, code := some k11c2 }
def k11c3 : Code := { maxStack := 3, maxLocals := 3, code := jdk_43_method_13_code, exceptionTable := #[], attributes := #[] }
def k11m3 : Method := { name := "equals", desc := "([B[B)Z", sig := { parameters := [(.array .byte), (.array .byte)], returnType := some .boolean }, accessFlags := 9, code := some k11c3 }
def k11c4 : Code := { maxStack := 4, maxLocals := 4, code := jdk_43_method_22_code, exceptionTable := #[], attributes := #[] }
def k11m4 : Method := { name := "indexOf", desc := "([BIII)I", sig := { parameters := [(.array .byte), .int, .int, .int], returnType := some .int }, accessFlags := 9, code := some k11c4 }
def k11c5 : Code := { maxStack := 2, maxLocals := 6, code := jdk_43_method_23_code, exceptionTable := #[], attributes := #[] }
def k11m5 : Method := { name := "indexOfChar", desc := "([BIII)I", sig := { parameters := [(.array .byte), .int, .int, .int], returnType := some .int }, accessFlags := 10, code := some k11c5 }
def k11c6 : Code := { maxStack := 3, maxLocals := 4, code := jdk_43_method_27_code, exceptionTable := #[], attributes := #[] }
def k11m6 : Method := { name := "lastIndexOf", desc := "([BII)I", sig := { parameters := [(.array .byte), .int, .int], returnType := some .int }, accessFlags := 9, code := some k11c6 }
def k11c7 : Code := { maxStack := 6, maxLocals := 3, code := jdk_43_method_47_code, exceptionTable := #[], attributes := #[] }
def k11m7 : Method := { name := "newString", desc := "([BII)Ljava/lang/String;", sig := { parameters := [(.array .byte), .int, .int], returnType := some (.object "java/lang/String") }, accessFlags := 9, code := some k11c7 }
/-- java/lang/StringLatin1 -/
def k11 : Class := { plain "java/lang/StringLatin1" (some 0) with
  accessFlags := 48
  interfaces := #[]
  cf := some (fileOf pool11 14 #[.nestMembers #[390, 221]] #[{ accessFlags := 0, nameIndex := 7, descriptorIndex := 8, attributes := #[] }, { accessFlags := 9, nameIndex := 252, descriptorIndex := 53, attributes := #[] }, { accessFlags := 9, nameIndex := 90, descriptorIndex := 91, attributes := #[] }, { accessFlags := 9, nameIndex := 281, descriptorIndex := 282, attributes := #[] }, { accessFlags := 9, nameIndex := 101, descriptorIndex := 98, attributes := #[] }, { accessFlags := 10, nameIndex := 97, descriptorIndex := 98, attributes := #[] }, { accessFlags := 9, nameIndex := 309, descriptorIndex := 261, attributes := #[] }, { accessFlags := 9, nameIndex := 196, descriptorIndex := 197, attributes := #[] }] 48 4 #[] #[{ accessFlags := 4120, nameIndex := 121, descriptorIndex := 122, attributes := #[] }])
  fields := #[{ name := "$assertionsDisabled", type := .boolean, accessFlags := 4120, slot := 0, constantValue := 0 }]
  methods := #[k11m0, k11m1, k11m2, k11m3, k11m4, k11m5, k11m6, k11m7]
  instanceTypes := #[]
  staticTypes := #[.boolean]
  resolved := Array.replicate 395 none
  statics := none }

def pool12 : Array CpInfo := pool [(1, .class_ 2), (0, u "java/lang/Math"), (1, .class_ 6), (1, u "java/lang/Object"), (0, u "<init>"), (0, u "()V"), (89, .class_ 100), (1, u "java/lang/Math$RandomNumberGeneratorHolder"), (71, u "negativeZeroFloatBits"), (0, u "J"), (2, u "negativeZeroDoubleBits"), (21, u "max"), (2, u "min"), (43, u "$assertionsDisabled"), (0, u "Z"), (88, u "(II)I"), (2, u "twoToTheDoubleScaleDown"), (0, u "D"), (4, u "twoToTheDoubleScaleUp"), (9, u "E"), (3, u "PI"), (2, u "TAU"), (2, u "DEGREES_TO_RADIANS"), (0, u "RADIANS_TO_DEGREES")] 94

def k12m0 : Method := { name := "<init>", desc := "()V", sig := { parameters := [], returnType := none }, accessFlags := 2, code := none }
def k12c1 : Code := { maxStack := 2, maxLocals := 2, code := jdk_29_method_65_code, exceptionTable := #[], attributes := #[] }
def k12m1 : Method := { name := "max", desc := "(II)I", sig := { parameters := [.int, .int], returnType := some .int }, accessFlags := 9, code := some k12c1 }
def k12c2 : Code := { maxStack := 2, maxLocals := 2, code := jdk_29_method_69_code, exceptionTable := #[], attributes := #[] }
def k12m2 : Method := { name := "min", desc := "(II)I", sig := { parameters := [.int, .int], returnType := some .int }, accessFlags := 9, code := some k12c2 }
/-- java/lang/Math -/
def k12 : Class := { plain "java/lang/Math" (some 0) with
  accessFlags := 49
  interfaces := #[]
  cf := some (fileOf pool12 1 #[.nestMembers #[98]] #[{ accessFlags := 2, nameIndex := 7, descriptorIndex := 8, attributes := #[] }, { accessFlags := 9, nameIndex := 198, descriptorIndex := 335, attributes := #[] }, { accessFlags := 9, nameIndex := 201, descriptorIndex := 335, attributes := #[] }] 49 4 #[] #[{ accessFlags := 25, nameIndex := 354, descriptorIndex := 339, attributes := #[] }, { accessFlags := 25, nameIndex := 358, descriptorIndex := 339, attributes := #[] }, { accessFlags := 25, nameIndex := 361, descriptorIndex := 339, attributes := #[] }, { accessFlags := 26, nameIndex := 364, descriptorIndex := 339, attributes := #[] }, { accessFlags := 26, nameIndex := 365, descriptorIndex := 339, attributes := #[] }, { accessFlags := 26, nameIndex := 172, descriptorIndex := 173, attributes := #[] }, { accessFlags := 26, nameIndex := 176, descriptorIndex := 173, attributes := #[] }, { accessFlags := 8, nameIndex := 344, descriptorIndex := 339, attributes := #[] }, { accessFlags := 8, nameIndex := 338, descriptorIndex := 339, attributes := #[] }, { accessFlags := 4120, nameIndex := 245, descriptorIndex := 246, attributes := #[] }])
  fields := #[{ name := "E", type := .double, accessFlags := 25, slot := 0, constantValue := 0 }, { name := "PI", type := .double, accessFlags := 25, slot := 1, constantValue := 0 }, { name := "TAU", type := .double, accessFlags := 25, slot := 2, constantValue := 0 }, { name := "DEGREES_TO_RADIANS", type := .double, accessFlags := 26, slot := 3, constantValue := 0 }, { name := "RADIANS_TO_DEGREES", type := .double, accessFlags := 26, slot := 4, constantValue := 0 }, { name := "negativeZeroFloatBits", type := .long, accessFlags := 26, slot := 5, constantValue := 0 }, { name := "negativeZeroDoubleBits", type := .long, accessFlags := 26, slot := 6, constantValue := 0 }, { name := "twoToTheDoubleScaleUp", type := .double, accessFlags := 8, slot := 7, constantValue := 0 }, { name := "twoToTheDoubleScaleDown", type := .double, accessFlags := 8, slot := 8, constantValue := 0 }, { name := "$assertionsDisabled", type := .boolean, accessFlags := 4120, slot := 9, constantValue := 0 }]
  methods := #[k12m0, k12m1, k12m2]
  instanceTypes := #[]
  staticTypes := #[.double, .double, .double, .double, .double, .long, .long, .double, .double, .boolean]
  resolved := Array.replicate 460 none
  statics := none }

def pool13 : Array CpInfo := pool [(2, .class_ 4), (1, u "java/lang/Object"), (0, u "<init>"), (0, u "()V"), (17, .class_ 26), (1, u "jdk/internal/util/Preconditions"), (6, u "checkIndex"), (13, u "checkFromToIndex"), (7, .class_ 56), (0, u "jdk/internal/util/Preconditions$4"), (57, .class_ 115), (0, u "jdk/internal/util/Preconditions$1"), (7, u "SIOOBE_FORMATTER"), (0, u "Ljava/util/function/BiFunction;"), (0, .class_ 126), (0, u "jdk/internal/util/Preconditions$2"), (3, u "AIOOBE_FORMATTER"), (0, .class_ 132), (0, u "jdk/internal/util/Preconditions$3"), (3, u "IOOBE_FORMATTER"), (41, u "(IILjava/util/function/BiFunction;)I"), (4, u "(IIILjava/util/function/BiFunction;)I")] 10

def k13m0 : Method := { name := "<init>", desc := "()V", sig := { parameters := [], returnType := none }, accessFlags := 1, code := none }
def k13c1 : Code := { maxStack := 3, maxLocals := 3, code := jdk_41_method_11_code, exceptionTable := #[], attributes := #[] }
def k13m1 : Method := { name := "checkIndex", desc := "(IILjava/util/function/BiFunction;)I", sig := { parameters := [.int, .int, (.object "java/util/function/BiFunction")], returnType := some .int }, accessFlags := 9, code := some k13c1 }
def k13c2 : Code := { maxStack := 4, maxLocals := 4, code := jdk_41_method_12_code, exceptionTable := #[], attributes := #[] }
def k13m2 : Method := { name := "checkFromToIndex", desc := "(IIILjava/util/function/BiFunction;)I", sig := { parameters := [.int, .int, .int, (.object "java/util/function/BiFunction")], returnType := some .int }, accessFlags := 9, code := some k13c2 }
/-- jdk/internal/util/Preconditions -/
def k13 : Class := { plain "jdk/internal/util/Preconditions" (some 0) with
  accessFlags := 33
  interfaces := #[]
  cf := some (fileOf pool13 24 #[.nestMembers #[55, 131, 125, 114]] #[{ accessFlags := 1, nameIndex := 5, descriptorIndex := 6, attributes := #[] }, { accessFlags := 9, nameIndex := 33, descriptorIndex := 178, attributes := #[] }, { accessFlags := 9, nameIndex := 47, descriptorIndex := 183, attributes := #[] }] 33 2 #[] #[{ accessFlags := 25, nameIndex := 123, descriptorIndex := 124, attributes := #[] }, { accessFlags := 25, nameIndex := 130, descriptorIndex := 124, attributes := #[] }, { accessFlags := 25, nameIndex := 136, descriptorIndex := 124, attributes := #[] }])
  fields := #[{ name := "SIOOBE_FORMATTER", type := (.object "java/util/function/BiFunction"), accessFlags := 25, slot := 0, constantValue := 0 }, { name := "AIOOBE_FORMATTER", type := (.object "java/util/function/BiFunction"), accessFlags := 25, slot := 1, constantValue := 0 }, { name := "IOOBE_FORMATTER", type := (.object "java/util/function/BiFunction"), accessFlags := 25, slot := 2, constantValue := 0 }]
  methods := #[k13m0, k13m1, k13m2]
  instanceTypes := #[]
  staticTypes := #[(.object "java/util/function/BiFunction"), (.object "java/util/function/BiFunction"), (.object "java/util/function/BiFunction")]
  resolved := Array.replicate 194 none
  statics := some 1 }

def pool14 : Array CpInfo := pool [(2, .class_ 4), (1, u "java/lang/Object"), (0, u "<init>"), (0, u "()V"), (7, .class_ 16), (1, u "java/util/Arrays"), (57, .class_ 76), (1, u "java/util/Arrays$NaturalOrder"), (36, .class_ 115), (1, u "java/util/Arrays$LegacyMergeSort"), (1, u "Z"), (21, u "copyOfRange"), (10, .methodref 151 152), (0, .class_ 153), (0, .nameAndType 154 155), (0, u "java/lang/System"), (0, u "arraycopy"), (0, u "(Ljava/lang/Object;ILjava/lang/Object;II)V"), (148, .methodref 305 306), (0, .class_ 307), (0, .nameAndType 308 309), (0, u "java/lang/Math"), (0, u "min"), (0, u "(II)I"), (29, .methodref 14 340), (0, .nameAndType 341 342), (0, u "copyOfRangeByte"), (0, u "([BII)[B"), (0, .methodref 14 344), (0, .nameAndType 345 346), (0, u "checkLength"), (0, u "(II)V"), (28, .class_ 376), (0, u "java/util/Arrays$ArrayList"), (68, u "$assertionsDisabled"), (269, u "MIN_ARRAY_SORT_GRAN"), (0, u "I"), (2, u "INSERTIONSORT_THRESHOLD"), (255, .class_ 976), (0, u "java/util/Arrays$ArrayItr")] 52

def k14m0 : Method := { name := "<init>", desc := "()V", sig := { parameters := [], returnType := none }, accessFlags := 2, code := none }
def k14c1 : Code := { maxStack := 4, maxLocals := 2, code := jdk_65_method_131_code, exceptionTable := #[], attributes := #[] }
def k14m1 : Method := { name := "checkLength", desc := "(II)V", sig := { parameters := [.int, .int], returnType := none }, accessFlags := 10, code := some k14c1 }
def k14c2 : Code := { maxStack := 3, maxLocals := 3, code := jdk_65_method_132_code, exceptionTable := #[], attributes := #[] }
def k14m2 : Method := { name := "copyOfRange", desc := "([BII)[B", sig := { parameters := [(.array .byte), .int, .int], returnType := some (.array .byte) }, accessFlags := 9, code := some k14c2 }
def k14c3 : Code := { maxStack := 6, maxLocals := 5, code := jdk_65_method_133_code, exceptionTable := #[], attributes := #[] }
def k14m3 : Method := { name := "copyOfRangeByte", desc := "([BII)[B", sig := { parameters := [(.array .byte), .int, .int], returnType := some (.array .byte) }, accessFlags := 10, code := some k14c3 }
/-- java/util/Arrays -/
def k14 : Class := { plain "java/util/Arrays" (some 0) with
  accessFlags := 49
  interfaces := #[]
  cf := some (fileOf pool14 14 #[.nestMembers #[975, 375, 113, 74]] #[{ accessFlags := 2, nameIndex := 5, descriptorIndex := 6, attributes := #[] }, { accessFlags := 10, nameIndex := 345, descriptorIndex := 346, attributes := #[] }, { accessFlags := 9, nameIndex := 139, descriptorIndex := 342, attributes := #[] }, { accessFlags := 10, nameIndex := 341, descriptorIndex := 342, attributes := #[] }] 49 2 #[] #[{ accessFlags := 26, nameIndex := 715, descriptorIndex := 716, attributes := #[] }, { accessFlags := 26, nameIndex := 719, descriptorIndex := 716, attributes := #[] }, { accessFlags := 4120, nameIndex := 445, descriptorIndex := 117, attributes := #[] }])
  fields := #[{ name := "MIN_ARRAY_SORT_GRAN", type := .int, accessFlags := 26, slot := 0, constantValue := 0 }, { name := "INSERTIONSORT_THRESHOLD", type := .int, accessFlags := 26, slot := 1, constantValue := 0 }, { name := "$assertionsDisabled", type := .boolean, accessFlags := 4120, slot := 2, constantValue := 0 }]
  methods := #[k14m0, k14m1, k14m2, k14m3]
  instanceTypes := #[]
  staticTypes := #[.int, .int, .boolean]
  resolved := Array.replicate 1029 none
  statics := none }

def pool15 : Array CpInfo := pool [(2, .class_ 4), (1, u "java/lang/Object"), (0, u "<init>"), (0, u "()V"), (1, .class_ 10), (1, u "java/lang/System"), (0, u "allowSecurityManager"), (0, u "I"), (16, u "cons"), (0, u "Ljava/io/Console;"), (77, .class_ 110), (1, u "java/lang/System$CallersHolder"), (43, u "initialErrStream"), (0, u "Ljava/io/PrintStream;"), (19, u "security"), (0, u "Ljava/lang/SecurityManager;"), (31, .class_ 209), (0, u "java/lang/System$1"), (7, u "props"), (0, u "Ljava/util/Properties;"), (2, u "lineSeparator"), (0, u "Ljava/lang/String;"), (96, .class_ 321), (1, u "java/lang/System$LoggerFinder"), (5, .class_ 328), (0, u "java/lang/System$Logger"), (67, u "err"), (2, u "out"), (91, u "notSupportedJnuEncoding"), (15, u "in"), (17, u "initialIn"), (0, u "Ljava/io/InputStream;"), (35, u "bootLayer"), (0, u "Ljava/lang/ModuleLayer;"), (99, .class_ 664), (0, u "java/lang/System$2"), (9, u "NEVER"), (2, u "MAYBE"), (49, u "arraycopy"), (0, u "(Ljava/lang/Object;ILjava/lang/Object;II)V"), (72, .class_ 802), (0, u "java/lang/System$Logger$Level")] 31

def k15m0 : Method := { name := "<init>", desc := "()V", sig := { parameters := [], returnType := none }, accessFlags := 2, code := none }
def k15m1 : Method := { name := "arraycopy", desc := "(Ljava/lang/Object;ILjava/lang/Object;II)V", sig := { parameters := [(.object "java/lang/Object"), .int, (.object "java/lang/Object"), .int, .int], returnType := none }, accessFlags := 265, code := none }
/-- java/lang/System -/
def k15 : Class := { plain "java/lang/System" (some 0) with
  accessFlags := 49
  interfaces := #[]
  cf := some (fileOf pool15 8 #[.nestMembers #[319, 327, 801, 108, 663, 208]] #[{ accessFlags := 2, nameIndex := 5, descriptorIndex := 6, attributes := #[] }, { accessFlags := 265, nameIndex := 727, descriptorIndex := 728, attributes := #[] }] 49 2 #[] #[{ accessFlags := 25, nameIndex := 507, descriptorIndex := 526, attributes := #[] }, { accessFlags := 25, nameIndex := 399, descriptorIndex := 155, attributes := #[] }, { accessFlags := 25, nameIndex := 396, descriptorIndex := 155, attributes := #[] }, { accessFlags := 10, nameIndex := 525, descriptorIndex := 526, attributes := #[] }, { accessFlags := 26, nameIndex := 674, descriptorIndex := 12, attributes := #[] }, { accessFlags := 26, nameIndex := 677, descriptorIndex := 12, attributes := #[] }, { accessFlags := 10, nameIndex := 11, descriptorIndex := 12, attributes := #[] }, { accessFlags := 74, nameIndex := 175, descriptorIndex := 176, attributes := #[] }, { accessFlags := 10, nameIndex := 491, descriptorIndex := 222, attributes := #[] }, { accessFlags := 74, nameIndex := 29, descriptorIndex := 30, attributes := #[] }, { accessFlags := 74, nameIndex := 154, descriptorIndex := 155, attributes := #[] }, { accessFlags := 10, nameIndex := 217, descriptorIndex := 218, attributes := #[] }, { accessFlags := 10, nameIndex := 221, descriptorIndex := 222, attributes := #[] }, { accessFlags := 8, nameIndex := 562, descriptorIndex := 563, attributes := #[] }])
  fields := #[{ name := "in", type := (.object "java/io/InputStream"), accessFlags := 25, slot := 0, constantValue := 0 }, { name := "out", type := (.object "java/io/PrintStream"), accessFlags := 25, slot := 1, constantValue := 0 }, { name := "err", type := (.object "java/io/PrintStream"), accessFlags := 25, slot := 2, constantValue := 0 }, { name := "initialIn", type := (.object "java/io/InputStream"), accessFlags := 10, slot := 3, constantValue := 0 }, { name := "NEVER", type := .int, accessFlags := 26, slot := 4, constantValue := 0 }, { name := "MAYBE", type := .int, accessFlags := 26, slot := 5, constantValue := 0 }, { name := "allowSecurityManager", type := .int, accessFlags := 10, slot := 6, constantValue := 0 }, { name := "security", type := (.object "java/lang/SecurityManager"), accessFlags := 74, slot := 7, constantValue := 0 }, { name := "notSupportedJnuEncoding", type := (.object "java/lang/String"), accessFlags := 10, slot := 8, constantValue := 0 }, { name := "cons", type := (.object "java/io/Console"), accessFlags := 74, slot := 9, constantValue := 0 }, { name := "initialErrStream", type := (.object "java/io/PrintStream"), accessFlags := 74, slot := 10, constantValue := 0 }, { name := "props", type := (.object "java/util/Properties"), accessFlags := 10, slot := 11, constantValue := 0 }, { name := "lineSeparator", type := (.object "java/lang/String"), accessFlags := 10, slot := 12, constantValue := 0 }, { name := "bootLayer", type := (.object "java/lang/ModuleLayer"), accessFlags := 8, slot := 13, constantValue := 0 }]
  methods := #[k15m0, k15m1]
  instanceTypes := #[]
  staticTypes := #[(.object "java/io/InputStream"), (.object "java/io/PrintStream"), (.object "java/io/PrintStream"), (.object "java/io/InputStream"), .int, .int, .int, (.object "java/lang/SecurityManager"), (.object "java/lang/String"), (.object "java/io/Console"), (.object "java/io/PrintStream"), (.object "java/util/Properties"), (.object "java/lang/String"), (.object "java/lang/ModuleLayer")]
  resolved := Array.replicate 834 none
  statics := none }

def pool16 : Array CpInfo := pool [(2, .class_ 4), (1, u "java/lang/Record"), (3, .class_ 10), (1, u "com/example/presswright/presswright/publishing/PagePath"), (0, u "isPagePath"), (0, u "(Ljava/lang/String;)Z"), (11, u "path"), (0, u "Ljava/lang/String;"), (0, .methodref 27 28), (0, .class_ 29), (0, .nameAndType 30 31), (0, u "java/lang/String"), (0, u "length"), (0, u "()I"), (0, .methodref 27 33), (0, .nameAndType 34 35), (0, u "charAt"), (0, u "(I)C"), (20, u "MAX_SEGMENT_LENGTH"), (0, u "I")] 38

def k16c0 : Code := { maxStack := 2, maxLocals := 6, code := prog_12_method_2_code, exceptionTable := #[], attributes := #[] }
def k16m0 : Method := { name := "isPagePath", desc := "(Ljava/lang/String;)Z", sig := { parameters := [(.object "java/lang/String")], returnType := some .boolean }, accessFlags := 8, code := some k16c0 }
/-- com/example/presswright/presswright/publishing/PagePath -/
def k16 : Class := { plain "com/example/presswright/presswright/publishing/PagePath" (some 9) with
  accessFlags := 49
  interfaces := #[]
  cf := some (fileOf pool16 8 #[] #[{ accessFlags := 8, nameIndex := 11, descriptorIndex := 12, attributes := #[] }] 49 2 #[] #[{ accessFlags := 18, nameIndex := 24, descriptorIndex := 25, attributes := #[] }, { accessFlags := 24, nameIndex := 56, descriptorIndex := 57, attributes := #[] }])
  fields := #[{ name := "path", type := (.object "java/lang/String"), accessFlags := 18, slot := 0, constantValue := 0 }, { name := "MAX_SEGMENT_LENGTH", type := .int, accessFlags := 24, slot := 0, constantValue := 0 }]
  methods := #[k16m0]
  instanceTypes := #[(.object "java/lang/String")]
  staticTypes := #[.int]
  resolved := Array.replicate 96 none
  statics := none }

def pool17 : Array CpInfo := pool [(9, u "<init>"), (6, .class_ 18), (1, u "java/lang/Object"), (0, u "()V"), (1, .class_ 23), (1, u "jdk/internal/util/ArraysSupport"), (0, u "LOG2_ARRAY_LONG_INDEX_SCALE"), (0, u "I"), (2, u "U"), (0, u "Ljdk/internal/misc/Unsafe;"), (8, u "BIG_ENDIAN"), (0, u "Z"), (8, u "LOG2_BYTE_BIT_SIZE"), (4, u "LOG2_ARRAY_INT_INDEX_SCALE"), (54, u "JLA"), (0, u "Ljdk/internal/access/JavaLangAccess;"), (11, u "LOG2_ARRAY_BOOLEAN_INDEX_SCALE"), (9, u "LOG2_ARRAY_BYTE_INDEX_SCALE"), (5, u "LOG2_ARRAY_CHAR_INDEX_SCALE"), (5, u "LOG2_ARRAY_SHORT_INDEX_SCALE"), (18, u "LOG2_ARRAY_FLOAT_INDEX_SCALE"), (24, u "LOG2_ARRAY_DOUBLE_INDEX_SCALE"), (89, u "T_BOOLEAN"), (2, u "T_CHAR"), (1, u "T_FLOAT"), (1, u "T_DOUBLE"), (1, u "T_BYTE"), (1, u "T_SHORT"), (1, u "T_INT"), (1, u "T_LONG"), (1, u "SOFT_MAX_ARRAY_LENGTH")] 83

def k17m0 : Method := { name := "<init>", desc := "()V", sig := { parameters := [], returnType := none }, accessFlags := 2, code := none }
/-- jdk/internal/util/ArraysSupport -/
def k17 : Class := { plain "jdk/internal/util/ArraysSupport" (some 0) with
  accessFlags := 33
  interfaces := #[]
  cf := some (fileOf pool17 21 #[] #[{ accessFlags := 2, nameIndex := 9, descriptorIndex := 19, attributes := #[] }] 33 16 #[] #[{ accessFlags := 24, nameIndex := 28, descriptorIndex := 29, attributes := #[] }, { accessFlags := 26, nameIndex := 38, descriptorIndex := 39, attributes := #[] }, { accessFlags := 25, nameIndex := 121, descriptorIndex := 25, attributes := #[] }, { accessFlags := 25, nameIndex := 131, descriptorIndex := 25, attributes := #[] }, { accessFlags := 25, nameIndex := 137, descriptorIndex := 25, attributes := #[] }, { accessFlags := 25, nameIndex := 143, descriptorIndex := 25, attributes := #[] }, { accessFlags := 25, nameIndex := 53, descriptorIndex := 25, attributes := #[] }, { accessFlags := 25, nameIndex := 24, descriptorIndex := 25, attributes := #[] }, { accessFlags := 25, nameIndex := 162, descriptorIndex := 25, attributes := #[] }, { accessFlags := 25, nameIndex := 187, descriptorIndex := 25, attributes := #[] }, { accessFlags := 26, nameIndex := 48, descriptorIndex := 25, attributes := #[] }, { accessFlags := 25, nameIndex := 277, descriptorIndex := 25, attributes := #[] }, { accessFlags := 25, nameIndex := 280, descriptorIndex := 25, attributes := #[] }, { accessFlags := 25, nameIndex := 282, descriptorIndex := 25, attributes := #[] }, { accessFlags := 25, nameIndex := 284, descriptorIndex := 25, attributes := #[] }, { accessFlags := 25, nameIndex := 286, descriptorIndex := 25, attributes := #[] }, { accessFlags := 25, nameIndex := 288, descriptorIndex := 25, attributes := #[] }, { accessFlags := 25, nameIndex := 290, descriptorIndex := 25, attributes := #[] }, { accessFlags := 25, nameIndex := 292, descriptorIndex := 25, attributes := #[] }, { accessFlags := 26, nameIndex := 108, descriptorIndex := 109, attributes := #[] }, { accessFlags := 25, nameIndex := 294, descriptorIndex := 25, attributes := #[] }])
  fields := #[{ name := "U", type := (.object "jdk/internal/misc/Unsafe"), accessFlags := 24, slot := 0, constantValue := 0 }, { name := "BIG_ENDIAN", type := .boolean, accessFlags := 26, slot := 1, constantValue := 0 }, { name := "LOG2_ARRAY_BOOLEAN_INDEX_SCALE", type := .int, accessFlags := 25, slot := 2, constantValue := 0 }, { name := "LOG2_ARRAY_BYTE_INDEX_SCALE", type := .int, accessFlags := 25, slot := 3, constantValue := 0 }, { name := "LOG2_ARRAY_CHAR_INDEX_SCALE", type := .int, accessFlags := 25, slot := 4, constantValue := 0 }, { name := "LOG2_ARRAY_SHORT_INDEX_SCALE", type := .int, accessFlags := 25, slot := 5, constantValue := 0 }, { name := "LOG2_ARRAY_INT_INDEX_SCALE", type := .int, accessFlags := 25, slot := 6, constantValue := 0 }, { name := "LOG2_ARRAY_LONG_INDEX_SCALE", type := .int, accessFlags := 25, slot := 7, constantValue := 0 }, { name := "LOG2_ARRAY_FLOAT_INDEX_SCALE", type := .int, accessFlags := 25, slot := 8, constantValue := 0 }, { name := "LOG2_ARRAY_DOUBLE_INDEX_SCALE", type := .int, accessFlags := 25, slot := 9, constantValue := 0 }, { name := "LOG2_BYTE_BIT_SIZE", type := .int, accessFlags := 26, slot := 10, constantValue := 0 }, { name := "T_BOOLEAN", type := .int, accessFlags := 25, slot := 11, constantValue := 0 }, { name := "T_CHAR", type := .int, accessFlags := 25, slot := 12, constantValue := 0 }, { name := "T_FLOAT", type := .int, accessFlags := 25, slot := 13, constantValue := 0 }, { name := "T_DOUBLE", type := .int, accessFlags := 25, slot := 14, constantValue := 0 }, { name := "T_BYTE", type := .int, accessFlags := 25, slot := 15, constantValue := 0 }, { name := "T_SHORT", type := .int, accessFlags := 25, slot := 16, constantValue := 0 }, { name := "T_INT", type := .int, accessFlags := 25, slot := 17, constantValue := 0 }, { name := "T_LONG", type := .int, accessFlags := 25, slot := 18, constantValue := 0 }, { name := "JLA", type := (.object "jdk/internal/access/JavaLangAccess"), accessFlags := 26, slot := 19, constantValue := 0 }, { name := "SOFT_MAX_ARRAY_LENGTH", type := .int, accessFlags := 25, slot := 20, constantValue := 0 }]
  methods := #[k17m0]
  instanceTypes := #[]
  staticTypes := #[(.object "jdk/internal/misc/Unsafe"), .boolean, .int, .int, .int, .int, .int, .int, .int, .int, .int, .int, .int, .int, .int, .int, .int, .int, .int, (.object "jdk/internal/access/JavaLangAccess"), .int]
  resolved := Array.replicate 378 none
  statics := none }

def pool18 : Array CpInfo := pool [(1, u "java/lang/Cloneable"), (0, .class_ 1), (0, u "java/lang/Object"), (0, .class_ 3)] 3

/-- java/lang/Cloneable -/
def k18 : Class := { plain "java/lang/Cloneable" (some 0) with
  accessFlags := 1537
  interfaces := #[]
  cf := some (fileOf pool18 2 #[] #[] 1537 4 #[] #[])
  fields := #[]
  methods := #[]
  instanceTypes := #[]
  staticTypes := #[]
  resolved := Array.replicate 8 none
  statics := none }

/-- the primitive byte -/
def k19 : Class := { plain "byte" none with kind := .primitive 'B', accessFlags := 0x411 }
/-- [B -/
def k20 : Class := { plain "[B" (some 0) with kind := .array 19 .byte, interfaces := #[18, 2], accessFlags := 1041 }

/-- the primitive char -/
def k21 : Class := { plain "char" none with kind := .primitive 'C', accessFlags := 0x411 }
/-- [C -/
def k22 : Class := { plain "[C" (some 0) with kind := .array 21 .char, interfaces := #[18, 2], accessFlags := 1041 }

/-- the primitive int -/
def k23 : Class := { plain "int" none with kind := .primitive 'I', accessFlags := 0x411 }
/-- [I -/
def k24 : Class := { plain "[I" (some 0) with kind := .array 23 .int, interfaces := #[18, 2], accessFlags := 1041 }

def heap : Heap := #[{ cls := 7, slots := #[.long 0, .int 1, .null, .int 0, .null, .int 0, .int 0], vm := .statics 7 },
  { cls := 13, slots := #[.null, .null, .null], vm := .statics 13 }]
def classes : Array Class := #[k0, k1, k2, k3, k4, k5, k6, k7, k8, k9, k10, k11, k12, k13, k14, k15, k16, k17, k18, k19, k20, k21, k22, k23, k24]
def interned : List (Array UInt16 × Addr) := []
def slotsUsed : Nat := 10
def theMethod : MethodId := ⟨1, 4⟩
def args0 : Array Value := #[.int 25, .int 1, .int 2, .int 3, .long 5]
def aboutOver (below : List Frame) : State where
  vm := { classes := classes, interned := interned.toArray }
  heap := heap
  slotsUsed := slotsUsed
  threads := #[{ frames := .invoking theMethod args0 :: below }]
def below0 : List Frame := [.native { method := ⟨0, 0⟩, args := #[] }]
def about1 : State := aboutOver below0
def p0 : Program := .bare "" "" ""
def e0 : Env := launch0.env 0 0 0
theorem w_frames : about1.frames = Frame.invoking theMethod args0 :: below0 := rfl
set_option maxRecDepth 65536 in
theorem w_args : argsFit about1.vm theMethod args0 = true := by decide +kernel
set_option maxRecDepth 65536 in
theorem w_heap : heapFits about1 = true := by decide +kernel
set_option maxRecDepth 65536 in
theorem w_runnable : about1.curStatus? = some .runnable := by decide +kernel
set_option maxRecDepth 65536 in
theorem w_alone : about1.alone = true := by decide +kernel
set_option maxRecDepth 65536 in
theorem w_named : about1.methodNamed? x = some theMethod := by decide +kernel
set_option maxRecDepth 65536 in
theorem w_hears : about1.hears theMethod below0 = true := by decide +kernel
set_option maxRecDepth 65536 in
theorem w_ripe : about1.ripe theMethod args0 below0 = true := by decide +kernel
theorem w_running : about1.status = .running := rfl
set_option maxRecDepth 65536 in
theorem w_room : about1.hasRoom e0.platform room_1 = true :=
  launch0.hasRoom_least _ room_1 (by decide +kernel) (by decide +kernel) (by decide +kernel) (by decide +kernel) (by decide +kernel) (by decide +kernel)
theorem allAtoms_all (ts : List Jvm.Cond) (a : Array Jvm.Value) (st : Jvm.State) : (allAtoms ts).before a st = ts.all (fun c => c.before a st) := by
  induction ts with
  | nil => rfl
  | cons c t ih =>
    show (Jvm.Cond.and c (allAtoms t)).before a st = _
    rw [Jvm.Cond.before_and, ih, List.all_cons]
def words1 : List Jvm.Cond := Jvm.Cond.code x code maxLocals ret :: tables_1
/-- a 'code' word, met by the world's own term for the bytes: nothing is compared byte by byte -/
theorem code_word {y : MethodName} {bytes : ByteArray} {mx : Nat} {rt : Option FieldType} {a : Array Value} {s : State} {m : MethodId} {meth : Method} {c : Code} (h1 : s.methodNamed? y = some m) (h2 : s.vm.method? m = some meth) (h3 : meth.code = some c) (h4 : c.code = bytes)
    (h5 : (c.maxLocals == mx && c.exceptionTable.isEmpty && decide (c.maxStack ≤ mostOperands) && decide (meth.sig.returnType = rt) && !meth.locks && decide (parseMethodDescriptor y.desc = some meth.sig)) = true) : (Jvm.Cond.code y bytes mx rt).before a s = true := by
  simp only [Bool.and_eq_true, beq_iff_eq, Bool.not_eq_true', decide_eq_true_eq] at h5
  obtain ⟨⟨⟨⟨⟨g1, g2⟩, g3⟩, g4⟩, g5⟩, g6⟩ := h5
  simp [Cond.before, Cond.holds, Cond.value, h1, h2, h3, h4, g1, g2, g3, g4, g5, g6]
def isCode : Jvm.Cond → Bool
  | .code _ _ _ _ => true
  | _ => false
theorem all_split {L : List Jvm.Cond} {P : Jvm.Cond → Bool} (h1 : L.all (fun c => isCode c || P c) = true) (h2 : ∀ c ∈ L.filter isCode, P c = true) : L.all P = true := by
  refine List.all_eq_true.mpr fun c hc => ?_
  have h := List.all_eq_true.mp h1 c hc
  rcases Bool.eq_false_or_eq_true (isCode c) with hi | hi
  · exact h2 c (List.mem_filter.mpr ⟨hc, hi⟩)
  · simpa [hi] using h
set_option maxRecDepth 65536 in
theorem w_c0 : (Jvm.Cond.code x code maxLocals ret).before args0 about1 = true := code_word (m := ⟨1, 4⟩) (meth := k1m4) (c := k1c4) (by decide +kernel) rfl rfl rfl (by decide +kernel)
set_option maxRecDepth 65536 in
theorem w_c1 : (Jvm.Cond.code ({ cls := "com/example/presswright/presswright/publishing/FilePathExtensionPinLaw", name := "seg", desc := "(I)C" } : Jvm.MethodName) method_2_code (2 : Nat) (Option.some Jvm.ClassFile.FieldType.char)).before args0 about1 = true := code_word (m := ⟨1, 1⟩) (meth := k1m1) (c := k1c1) (by decide +kernel) rfl rfl rfl (by decide +kernel)
set_option maxRecDepth 65536 in
theorem w_c2 : (Jvm.Cond.code ({ cls := "com/example/presswright/presswright/publishing/FilePathExtensionPinLaw", name := "ext", desc := "(I)C" } : Jvm.MethodName) method_3_code (2 : Nat) (Option.some Jvm.ClassFile.FieldType.char)).before args0 about1 = true := code_word (m := ⟨1, 2⟩) (meth := k1m2) (c := k1c2) (by decide +kernel) rfl rfl rfl (by decide +kernel)
set_option maxRecDepth 65536 in
theorem w_c3 : (Jvm.Cond.code ({ cls := "com/example/presswright/presswright/publishing/FilePathExtensionPinLaw", name := "sized", desc := "(I)[C" } : Jvm.MethodName) method_4_code (1 : Nat) (Option.some (Jvm.ClassFile.FieldType.array Jvm.ClassFile.FieldType.char))).before args0 about1 = true := code_word (m := ⟨1, 3⟩) (meth := k1m3) (c := k1c3) (by decide +kernel) rfl rfl rfl (by decide +kernel)
set_option maxRecDepth 65536 in
theorem w_c4 : (Jvm.Cond.code ({ cls := "java/lang/String", name := "<init>", desc := "([C)V" } : Jvm.MethodName) jdk_42_method_3_code (2 : Nat) (Option.none : Option Jvm.ClassFile.FieldType)).before args0 about1 = true := code_word (m := ⟨7, 1⟩) (meth := k7m1) (c := k7c1) (by decide +kernel) rfl rfl rfl (by decide +kernel)
set_option maxRecDepth 65536 in
theorem w_c5 : (Jvm.Cond.code ({ cls := "java/lang/String", name := "<init>", desc := "([CIILjava/lang/Void;)V" } : Jvm.MethodName) jdk_42_method_149_code (6 : Nat) (Option.none : Option Jvm.ClassFile.FieldType)).before args0 about1 = true := code_word (m := ⟨7, 11⟩) (meth := k7m11) (c := k7c11) (by decide +kernel) rfl rfl rfl (by decide +kernel)
set_option maxRecDepth 65536 in
theorem w_c6 : (Jvm.Cond.code ({ cls := "java/lang/Object", name := "<init>", desc := "()V" } : Jvm.MethodName) object_method_1_code (1 : Nat) (Option.none : Option Jvm.ClassFile.FieldType)).before args0 about1 = true := code_word (m := ⟨0, 0⟩) (meth := k0m0) (c := k0c0) (by decide +kernel) rfl rfl rfl (by decide +kernel)
set_option maxRecDepth 65536 in
theorem w_c7 : (Jvm.Cond.code ({ cls := "java/lang/StringUTF16", name := "compress", desc := "([CII)[B" } : Jvm.MethodName) jdk_52_method_16_code (6 : Nat) (Option.some (Jvm.ClassFile.FieldType.array Jvm.ClassFile.FieldType.byte))).before args0 about1 = true := code_word (m := ⟨8, 2⟩) (meth := k8m2) (c := k8c2) (by decide +kernel) rfl rfl rfl (by decide +kernel)
set_option maxRecDepth 65536 in
theorem w_c8 : (Jvm.Cond.code ({ cls := "java/lang/StringUTF16", name := "compress", desc := "([CI[BII)I" } : Jvm.MethodName) jdk_52_method_21_code (7 : Nat) (Option.some Jvm.ClassFile.FieldType.int)).before args0 about1 = true := code_word (m := ⟨8, 3⟩) (meth := k8m3) (c := k8c3) (by decide +kernel) rfl rfl rfl (by decide +kernel)
set_option maxRecDepth 65536 in
theorem w_c9 : (Jvm.Cond.code ({ cls := "java/lang/StringUTF16", name := "coderFromArrayLen", desc := "([BI)B" } : Jvm.MethodName) jdk_52_method_15_code (2 : Nat) (Option.some Jvm.ClassFile.FieldType.byte)).before args0 about1 = true := code_word (m := ⟨8, 1⟩) (meth := k8m1) (c := k8c1) (by decide +kernel) rfl rfl rfl (by decide +kernel)
set_option maxRecDepth 65536 in
theorem w_c10 : (Jvm.Cond.code ({ cls := "com/example/presswright/presswright/publishing/FilePath", name := "<init>", desc := "(Ljava/lang/String;)V" } : Jvm.MethodName) prog_5_method_1_code (3 : Nat) (Option.none : Option Jvm.ClassFile.FieldType)).before args0 about1 = true := code_word (m := ⟨10, 0⟩) (meth := k10m0) (c := k10c0) (by decide +kernel) rfl rfl rfl (by decide +kernel)
set_option maxRecDepth 65536 in
theorem w_c11 : (Jvm.Cond.code ({ cls := "java/lang/Record", name := "<init>", desc := "()V" } : Jvm.MethodName) jdk_30_method_1_code (1 : Nat) (Option.none : Option Jvm.ClassFile.FieldType)).before args0 about1 = true := code_word (m := ⟨9, 0⟩) (meth := k9m0) (c := k9c0) (by decide +kernel) rfl rfl rfl (by decide +kernel)
set_option maxRecDepth 65536 in
theorem w_c12 : (Jvm.Cond.code ({ cls := "java/lang/String", name := "lastIndexOf", desc := "(I)I" } : Jvm.MethodName) jdk_42_method_82_code (2 : Nat) (Option.some Jvm.ClassFile.FieldType.int)).before args0 about1 = true := code_word (m := ⟨7, 7⟩) (meth := k7m7) (c := k7c7) (by decide +kernel) rfl rfl rfl (by decide +kernel)
set_option maxRecDepth 65536 in
theorem w_c13 : (Jvm.Cond.code ({ cls := "java/lang/String", name := "length", desc := "()I" } : Jvm.MethodName) jdk_42_method_54_code (1 : Nat) (Option.some Jvm.ClassFile.FieldType.int)).before args0 about1 = true := code_word (m := ⟨7, 2⟩) (meth := k7m2) (c := k7c2) (by decide +kernel) rfl rfl rfl (by decide +kernel)
set_option maxRecDepth 65536 in
theorem w_c14 : (Jvm.Cond.code ({ cls := "java/lang/String", name := "coder", desc := "()B" } : Jvm.MethodName) jdk_42_method_152_code (1 : Nat) (Option.some Jvm.ClassFile.FieldType.byte)).before args0 about1 = true := code_word (m := ⟨7, 13⟩) (meth := k7m13) (c := k7c13) (by decide +kernel) rfl rfl rfl (by decide +kernel)
set_option maxRecDepth 65536 in
theorem w_c15 : (Jvm.Cond.code ({ cls := "java/lang/String", name := "lastIndexOf", desc := "(II)I" } : Jvm.MethodName) jdk_42_method_83_code (3 : Nat) (Option.some Jvm.ClassFile.FieldType.int)).before args0 about1 = true := code_word (m := ⟨7, 8⟩) (meth := k7m8) (c := k7c8) (by decide +kernel) rfl rfl rfl (by decide +kernel)
set_option maxRecDepth 65536 in
theorem w_c16 : (Jvm.Cond.code ({ cls := "java/lang/String", name := "isLatin1", desc := "()Z" } : Jvm.MethodName) jdk_42_method_154_code (1 : Nat) (Option.some Jvm.ClassFile.FieldType.boolean)).before args0 about1 = true := code_word (m := ⟨7, 14⟩) (meth := k7m14) (c := k7c14) (by decide +kernel) rfl rfl rfl (by decide +kernel)
set_option maxRecDepth 65536 in
theorem w_c17 : (Jvm.Cond.code ({ cls := "java/lang/StringLatin1", name := "lastIndexOf", desc := "([BII)I" } : Jvm.MethodName) jdk_43_method_27_code (4 : Nat) (Option.some Jvm.ClassFile.FieldType.int)).before args0 about1 = true := code_word (m := ⟨11, 6⟩) (meth := k11m6) (c := k11c6) (by decide +kernel) rfl rfl rfl (by decide +kernel)
set_option maxRecDepth 65536 in
theorem w_c18 : (Jvm.Cond.code ({ cls := "java/lang/StringLatin1", name := "canEncode", desc := "(I)Z" } : Jvm.MethodName) jdk_43_method_4_code (1 : Nat) (Option.some Jvm.ClassFile.FieldType.boolean)).before args0 about1 = true := code_word (m := ⟨11, 2⟩) (meth := k11m2) (c := k11c2) (by decide +kernel) rfl rfl rfl (by decide +kernel)
set_option maxRecDepth 65536 in
theorem w_c19 : (Jvm.Cond.code ({ cls := "java/lang/Math", name := "min", desc := "(II)I" } : Jvm.MethodName) jdk_29_method_69_code (2 : Nat) (Option.some Jvm.ClassFile.FieldType.int)).before args0 about1 = true := code_word (m := ⟨12, 2⟩) (meth := k12m2) (c := k12c2) (by decide +kernel) rfl rfl rfl (by decide +kernel)
set_option maxRecDepth 65536 in
theorem w_c20 : (Jvm.Cond.code ({ cls := "java/lang/String", name := "substring", desc := "(II)Ljava/lang/String;" } : Jvm.MethodName) jdk_42_method_92_code (5 : Nat) (Option.some (Jvm.ClassFile.FieldType.object "java/lang/String"))).before args0 about1 = true := code_word (m := ⟨7, 10⟩) (meth := k7m10) (c := k7c10) (by decide +kernel) rfl rfl rfl (by decide +kernel)
set_option maxRecDepth 65536 in
theorem w_c21 : (Jvm.Cond.code ({ cls := "java/lang/String", name := "checkBoundsBeginEnd", desc := "(III)V" } : Jvm.MethodName) jdk_42_method_158_code (3 : Nat) (Option.none : Option Jvm.ClassFile.FieldType)).before args0 about1 = true := code_word (m := ⟨7, 16⟩) (meth := k7m16) (c := k7c16) (by decide +kernel) rfl rfl rfl (by decide +kernel)
set_option maxRecDepth 65536 in
theorem w_c22 : (Jvm.Cond.code ({ cls := "jdk/internal/util/Preconditions", name := "checkFromToIndex", desc := "(IIILjava/util/function/BiFunction;)I" } : Jvm.MethodName) jdk_41_method_12_code (4 : Nat) (Option.some Jvm.ClassFile.FieldType.int)).before args0 about1 = true := code_word (m := ⟨13, 2⟩) (meth := k13m2) (c := k13c2) (by decide +kernel) rfl rfl rfl (by decide +kernel)
set_option maxRecDepth 65536 in
theorem w_c23 : (Jvm.Cond.code ({ cls := "java/lang/StringLatin1", name := "newString", desc := "([BII)Ljava/lang/String;" } : Jvm.MethodName) jdk_43_method_47_code (3 : Nat) (Option.some (Jvm.ClassFile.FieldType.object "java/lang/String"))).before args0 about1 = true := code_word (m := ⟨11, 7⟩) (meth := k11m7) (c := k11c7) (by decide +kernel) rfl rfl rfl (by decide +kernel)
set_option maxRecDepth 65536 in
theorem w_c24 : (Jvm.Cond.code ({ cls := "java/util/Arrays", name := "copyOfRange", desc := "([BII)[B" } : Jvm.MethodName) jdk_65_method_132_code (3 : Nat) (Option.some (Jvm.ClassFile.FieldType.array Jvm.ClassFile.FieldType.byte))).before args0 about1 = true := code_word (m := ⟨14, 2⟩) (meth := k14m2) (c := k14c2) (by decide +kernel) rfl rfl rfl (by decide +kernel)
set_option maxRecDepth 65536 in
theorem w_c25 : (Jvm.Cond.code ({ cls := "java/util/Arrays", name := "copyOfRangeByte", desc := "([BII)[B" } : Jvm.MethodName) jdk_65_method_133_code (5 : Nat) (Option.some (Jvm.ClassFile.FieldType.array Jvm.ClassFile.FieldType.byte))).before args0 about1 = true := code_word (m := ⟨14, 3⟩) (meth := k14m3) (c := k14c3) (by decide +kernel) rfl rfl rfl (by decide +kernel)
set_option maxRecDepth 65536 in
theorem w_c26 : (Jvm.Cond.code ({ cls := "java/util/Arrays", name := "checkLength", desc := "(II)V" } : Jvm.MethodName) jdk_65_method_131_code (2 : Nat) (Option.none : Option Jvm.ClassFile.FieldType)).before args0 about1 = true := code_word (m := ⟨14, 1⟩) (meth := k14m1) (c := k14c1) (by decide +kernel) rfl rfl rfl (by decide +kernel)
set_option maxRecDepth 65536 in
theorem w_c27 : (Jvm.Cond.code ({ cls := "java/lang/String", name := "<init>", desc := "([BB)V" } : Jvm.MethodName) jdk_42_method_151_code (3 : Nat) (Option.none : Option Jvm.ClassFile.FieldType)).before args0 about1 = true := code_word (m := ⟨7, 12⟩) (meth := k7m12) (c := k7c12) (by decide +kernel) rfl rfl rfl (by decide +kernel)
set_option maxRecDepth 65536 in
theorem w_c28 : (Jvm.Cond.code ({ cls := "com/example/presswright/presswright/publishing/PagePath", name := "isPagePath", desc := "(Ljava/lang/String;)Z" } : Jvm.MethodName) prog_12_method_2_code (6 : Nat) (Option.some Jvm.ClassFile.FieldType.boolean)).before args0 about1 = true := code_word (m := ⟨16, 0⟩) (meth := k16m0) (c := k16c0) (by decide +kernel) rfl rfl rfl (by decide +kernel)
set_option maxRecDepth 65536 in
theorem w_c29 : (Jvm.Cond.code ({ cls := "java/lang/String", name := "charAt", desc := "(I)C" } : Jvm.MethodName) jdk_42_method_56_code (2 : Nat) (Option.some Jvm.ClassFile.FieldType.char)).before args0 about1 = true := code_word (m := ⟨7, 3⟩) (meth := k7m3) (c := k7c3) (by decide +kernel) rfl rfl rfl (by decide +kernel)
set_option maxRecDepth 65536 in
theorem w_c30 : (Jvm.Cond.code ({ cls := "java/lang/StringLatin1", name := "charAt", desc := "([BI)C" } : Jvm.MethodName) jdk_43_method_2_code (2 : Nat) (Option.some Jvm.ClassFile.FieldType.char)).before args0 about1 = true := code_word (m := ⟨11, 1⟩) (meth := k11m1) (c := k11c1) (by decide +kernel) rfl rfl rfl (by decide +kernel)
set_option maxRecDepth 65536 in
theorem w_c31 : (Jvm.Cond.code ({ cls := "java/lang/String", name := "checkIndex", desc := "(II)V" } : Jvm.MethodName) jdk_42_method_155_code (2 : Nat) (Option.none : Option Jvm.ClassFile.FieldType)).before args0 about1 = true := code_word (m := ⟨7, 15⟩) (meth := k7m15) (c := k7c15) (by decide +kernel) rfl rfl rfl (by decide +kernel)
set_option maxRecDepth 65536 in
theorem w_c32 : (Jvm.Cond.code ({ cls := "jdk/internal/util/Preconditions", name := "checkIndex", desc := "(IILjava/util/function/BiFunction;)I" } : Jvm.MethodName) jdk_41_method_11_code (3 : Nat) (Option.some Jvm.ClassFile.FieldType.int)).before args0 about1 = true := code_word (m := ⟨13, 1⟩) (meth := k13m1) (c := k13c1) (by decide +kernel) rfl rfl rfl (by decide +kernel)
set_option maxRecDepth 65536 in
theorem w_c33 : (Jvm.Cond.code ({ cls := "java/lang/String", name := "substring", desc := "(I)Ljava/lang/String;" } : Jvm.MethodName) jdk_42_method_91_code (2 : Nat) (Option.some (Jvm.ClassFile.FieldType.object "java/lang/String"))).before args0 about1 = true := code_word (m := ⟨7, 9⟩) (meth := k7m9) (c := k7c9) (by decide +kernel) rfl rfl rfl (by decide +kernel)
set_option maxRecDepth 65536 in
theorem w_c34 : (Jvm.Cond.code ({ cls := "com/example/presswright/presswright/publishing/FilePath", name := "isFileName", desc := "(Ljava/lang/String;)Z" } : Jvm.MethodName) prog_5_method_4_code (5 : Nat) (Option.some Jvm.ClassFile.FieldType.boolean)).before args0 about1 = true := code_word (m := ⟨10, 2⟩) (meth := k10m2) (c := k10c2) (by decide +kernel) rfl rfl rfl (by decide +kernel)
set_option maxRecDepth 65536 in
theorem w_c35 : (Jvm.Cond.code ({ cls := "java/lang/String", name := "indexOf", desc := "(I)I" } : Jvm.MethodName) jdk_42_method_79_code (2 : Nat) (Option.some Jvm.ClassFile.FieldType.int)).before args0 about1 = true := code_word (m := ⟨7, 5⟩) (meth := k7m5) (c := k7c5) (by decide +kernel) rfl rfl rfl (by decide +kernel)
set_option maxRecDepth 65536 in
theorem w_c36 : (Jvm.Cond.code ({ cls := "java/lang/String", name := "indexOf", desc := "(II)I" } : Jvm.MethodName) jdk_42_method_80_code (3 : Nat) (Option.some Jvm.ClassFile.FieldType.int)).before args0 about1 = true := code_word (m := ⟨7, 6⟩) (meth := k7m6) (c := k7c6) (by decide +kernel) rfl rfl rfl (by decide +kernel)
set_option maxRecDepth 65536 in
theorem w_c37 : (Jvm.Cond.code ({ cls := "java/lang/StringLatin1", name := "indexOf", desc := "([BIII)I" } : Jvm.MethodName) jdk_43_method_22_code (4 : Nat) (Option.some Jvm.ClassFile.FieldType.int)).before args0 about1 = true := code_word (m := ⟨11, 4⟩) (meth := k11m4) (c := k11c4) (by decide +kernel) rfl rfl rfl (by decide +kernel)
set_option maxRecDepth 65536 in
theorem w_c38 : (Jvm.Cond.code ({ cls := "java/lang/Math", name := "max", desc := "(II)I" } : Jvm.MethodName) jdk_29_method_65_code (2 : Nat) (Option.some Jvm.ClassFile.FieldType.int)).before args0 about1 = true := code_word (m := ⟨12, 1⟩) (meth := k12m1) (c := k12c1) (by decide +kernel) rfl rfl rfl (by decide +kernel)
set_option maxRecDepth 65536 in
theorem w_c39 : (Jvm.Cond.code ({ cls := "java/lang/StringLatin1", name := "indexOfChar", desc := "([BIII)I" } : Jvm.MethodName) jdk_43_method_23_code (6 : Nat) (Option.some Jvm.ClassFile.FieldType.int)).before args0 about1 = true := code_word (m := ⟨11, 5⟩) (meth := k11m5) (c := k11c5) (by decide +kernel) rfl rfl rfl (by decide +kernel)
set_option maxRecDepth 65536 in
theorem w_c40 : (Jvm.Cond.code ({ cls := "com/example/presswright/presswright/publishing/FilePath", name := "extension", desc := "()Ljava/lang/String;" } : Jvm.MethodName) prog_5_method_3_code (1 : Nat) (Option.some (Jvm.ClassFile.FieldType.object "java/lang/String"))).before args0 about1 = true := code_word (m := ⟨10, 1⟩) (meth := k10m1) (c := k10c1) (by decide +kernel) rfl rfl rfl (by decide +kernel)
set_option maxRecDepth 65536 in
theorem w_c41 : (Jvm.Cond.code ({ cls := "java/lang/String", name := "equals", desc := "(Ljava/lang/Object;)Z" } : Jvm.MethodName) jdk_42_method_66_code (3 : Nat) (Option.some Jvm.ClassFile.FieldType.boolean)).before args0 about1 = true := code_word (m := ⟨7, 4⟩) (meth := k7m4) (c := k7c4) (by decide +kernel) rfl rfl rfl (by decide +kernel)
set_option maxRecDepth 65536 in
theorem w_c42 : (Jvm.Cond.code ({ cls := "java/lang/StringLatin1", name := "equals", desc := "([B[B)Z" } : Jvm.MethodName) jdk_43_method_13_code (3 : Nat) (Option.some Jvm.ClassFile.FieldType.boolean)).before args0 about1 = true := code_word (m := ⟨11, 3⟩) (meth := k11m3) (c := k11c3) (by decide +kernel) rfl rfl rfl (by decide +kernel)
def codes1 : List Jvm.Cond := [Jvm.Cond.code x code maxLocals ret, Jvm.Cond.code ({ cls := "com/example/presswright/presswright/publishing/FilePathExtensionPinLaw", name := "seg", desc := "(I)C" } : Jvm.MethodName) method_2_code (2 : Nat) (Option.some Jvm.ClassFile.FieldType.char), Jvm.Cond.code ({ cls := "com/example/presswright/presswright/publishing/FilePathExtensionPinLaw", name := "ext", desc := "(I)C" } : Jvm.MethodName) method_3_code (2 : Nat) (Option.some Jvm.ClassFile.FieldType.char), Jvm.Cond.code ({ cls := "com/example/presswright/presswright/publishing/FilePathExtensionPinLaw", name := "sized", desc := "(I)[C" } : Jvm.MethodName) method_4_code (1 : Nat) (Option.some (Jvm.ClassFile.FieldType.array Jvm.ClassFile.FieldType.char)), Jvm.Cond.code ({ cls := "java/lang/String", name := "<init>", desc := "([C)V" } : Jvm.MethodName) jdk_42_method_3_code (2 : Nat) (Option.none : Option Jvm.ClassFile.FieldType), Jvm.Cond.code ({ cls := "java/lang/String", name := "<init>", desc := "([CIILjava/lang/Void;)V" } : Jvm.MethodName) jdk_42_method_149_code (6 : Nat) (Option.none : Option Jvm.ClassFile.FieldType), Jvm.Cond.code ({ cls := "java/lang/Object", name := "<init>", desc := "()V" } : Jvm.MethodName) object_method_1_code (1 : Nat) (Option.none : Option Jvm.ClassFile.FieldType), Jvm.Cond.code ({ cls := "java/lang/StringUTF16", name := "compress", desc := "([CII)[B" } : Jvm.MethodName) jdk_52_method_16_code (6 : Nat) (Option.some (Jvm.ClassFile.FieldType.array Jvm.ClassFile.FieldType.byte)), Jvm.Cond.code ({ cls := "java/lang/StringUTF16", name := "compress", desc := "([CI[BII)I" } : Jvm.MethodName) jdk_52_method_21_code (7 : Nat) (Option.some Jvm.ClassFile.FieldType.int), Jvm.Cond.code ({ cls := "java/lang/StringUTF16", name := "coderFromArrayLen", desc := "([BI)B" } : Jvm.MethodName) jdk_52_method_15_code (2 : Nat) (Option.some Jvm.ClassFile.FieldType.byte), Jvm.Cond.code ({ cls := "com/example/presswright/presswright/publishing/FilePath", name := "<init>", desc := "(Ljava/lang/String;)V" } : Jvm.MethodName) prog_5_method_1_code (3 : Nat) (Option.none : Option Jvm.ClassFile.FieldType), Jvm.Cond.code ({ cls := "java/lang/Record", name := "<init>", desc := "()V" } : Jvm.MethodName) jdk_30_method_1_code (1 : Nat) (Option.none : Option Jvm.ClassFile.FieldType), Jvm.Cond.code ({ cls := "java/lang/String", name := "lastIndexOf", desc := "(I)I" } : Jvm.MethodName) jdk_42_method_82_code (2 : Nat) (Option.some Jvm.ClassFile.FieldType.int), Jvm.Cond.code ({ cls := "java/lang/String", name := "length", desc := "()I" } : Jvm.MethodName) jdk_42_method_54_code (1 : Nat) (Option.some Jvm.ClassFile.FieldType.int), Jvm.Cond.code ({ cls := "java/lang/String", name := "coder", desc := "()B" } : Jvm.MethodName) jdk_42_method_152_code (1 : Nat) (Option.some Jvm.ClassFile.FieldType.byte), Jvm.Cond.code ({ cls := "java/lang/String", name := "lastIndexOf", desc := "(II)I" } : Jvm.MethodName) jdk_42_method_83_code (3 : Nat) (Option.some Jvm.ClassFile.FieldType.int), Jvm.Cond.code ({ cls := "java/lang/String", name := "isLatin1", desc := "()Z" } : Jvm.MethodName) jdk_42_method_154_code (1 : Nat) (Option.some Jvm.ClassFile.FieldType.boolean), Jvm.Cond.code ({ cls := "java/lang/StringLatin1", name := "lastIndexOf", desc := "([BII)I" } : Jvm.MethodName) jdk_43_method_27_code (4 : Nat) (Option.some Jvm.ClassFile.FieldType.int), Jvm.Cond.code ({ cls := "java/lang/StringLatin1", name := "canEncode", desc := "(I)Z" } : Jvm.MethodName) jdk_43_method_4_code (1 : Nat) (Option.some Jvm.ClassFile.FieldType.boolean), Jvm.Cond.code ({ cls := "java/lang/Math", name := "min", desc := "(II)I" } : Jvm.MethodName) jdk_29_method_69_code (2 : Nat) (Option.some Jvm.ClassFile.FieldType.int), Jvm.Cond.code ({ cls := "java/lang/String", name := "substring", desc := "(II)Ljava/lang/String;" } : Jvm.MethodName) jdk_42_method_92_code (5 : Nat) (Option.some (Jvm.ClassFile.FieldType.object "java/lang/String")), Jvm.Cond.code ({ cls := "java/lang/String", name := "checkBoundsBeginEnd", desc := "(III)V" } : Jvm.MethodName) jdk_42_method_158_code (3 : Nat) (Option.none : Option Jvm.ClassFile.FieldType), Jvm.Cond.code ({ cls := "jdk/internal/util/Preconditions", name := "checkFromToIndex", desc := "(IIILjava/util/function/BiFunction;)I" } : Jvm.MethodName) jdk_41_method_12_code (4 : Nat) (Option.some Jvm.ClassFile.FieldType.int), Jvm.Cond.code ({ cls := "java/lang/StringLatin1", name := "newString", desc := "([BII)Ljava/lang/String;" } : Jvm.MethodName) jdk_43_method_47_code (3 : Nat) (Option.some (Jvm.ClassFile.FieldType.object "java/lang/String")), Jvm.Cond.code ({ cls := "java/util/Arrays", name := "copyOfRange", desc := "([BII)[B" } : Jvm.MethodName) jdk_65_method_132_code (3 : Nat) (Option.some (Jvm.ClassFile.FieldType.array Jvm.ClassFile.FieldType.byte)), Jvm.Cond.code ({ cls := "java/util/Arrays", name := "copyOfRangeByte", desc := "([BII)[B" } : Jvm.MethodName) jdk_65_method_133_code (5 : Nat) (Option.some (Jvm.ClassFile.FieldType.array Jvm.ClassFile.FieldType.byte)), Jvm.Cond.code ({ cls := "java/util/Arrays", name := "checkLength", desc := "(II)V" } : Jvm.MethodName) jdk_65_method_131_code (2 : Nat) (Option.none : Option Jvm.ClassFile.FieldType), Jvm.Cond.code ({ cls := "java/lang/String", name := "<init>", desc := "([BB)V" } : Jvm.MethodName) jdk_42_method_151_code (3 : Nat) (Option.none : Option Jvm.ClassFile.FieldType), Jvm.Cond.code ({ cls := "com/example/presswright/presswright/publishing/PagePath", name := "isPagePath", desc := "(Ljava/lang/String;)Z" } : Jvm.MethodName) prog_12_method_2_code (6 : Nat) (Option.some Jvm.ClassFile.FieldType.boolean), Jvm.Cond.code ({ cls := "java/lang/String", name := "charAt", desc := "(I)C" } : Jvm.MethodName) jdk_42_method_56_code (2 : Nat) (Option.some Jvm.ClassFile.FieldType.char), Jvm.Cond.code ({ cls := "java/lang/StringLatin1", name := "charAt", desc := "([BI)C" } : Jvm.MethodName) jdk_43_method_2_code (2 : Nat) (Option.some Jvm.ClassFile.FieldType.char), Jvm.Cond.code ({ cls := "java/lang/String", name := "checkIndex", desc := "(II)V" } : Jvm.MethodName) jdk_42_method_155_code (2 : Nat) (Option.none : Option Jvm.ClassFile.FieldType), Jvm.Cond.code ({ cls := "jdk/internal/util/Preconditions", name := "checkIndex", desc := "(IILjava/util/function/BiFunction;)I" } : Jvm.MethodName) jdk_41_method_11_code (3 : Nat) (Option.some Jvm.ClassFile.FieldType.int), Jvm.Cond.code ({ cls := "java/lang/String", name := "substring", desc := "(I)Ljava/lang/String;" } : Jvm.MethodName) jdk_42_method_91_code (2 : Nat) (Option.some (Jvm.ClassFile.FieldType.object "java/lang/String")), Jvm.Cond.code ({ cls := "com/example/presswright/presswright/publishing/FilePath", name := "isFileName", desc := "(Ljava/lang/String;)Z" } : Jvm.MethodName) prog_5_method_4_code (5 : Nat) (Option.some Jvm.ClassFile.FieldType.boolean), Jvm.Cond.code ({ cls := "java/lang/String", name := "indexOf", desc := "(I)I" } : Jvm.MethodName) jdk_42_method_79_code (2 : Nat) (Option.some Jvm.ClassFile.FieldType.int), Jvm.Cond.code ({ cls := "java/lang/String", name := "indexOf", desc := "(II)I" } : Jvm.MethodName) jdk_42_method_80_code (3 : Nat) (Option.some Jvm.ClassFile.FieldType.int), Jvm.Cond.code ({ cls := "java/lang/StringLatin1", name := "indexOf", desc := "([BIII)I" } : Jvm.MethodName) jdk_43_method_22_code (4 : Nat) (Option.some Jvm.ClassFile.FieldType.int), Jvm.Cond.code ({ cls := "java/lang/Math", name := "max", desc := "(II)I" } : Jvm.MethodName) jdk_29_method_65_code (2 : Nat) (Option.some Jvm.ClassFile.FieldType.int), Jvm.Cond.code ({ cls := "java/lang/StringLatin1", name := "indexOfChar", desc := "([BIII)I" } : Jvm.MethodName) jdk_43_method_23_code (6 : Nat) (Option.some Jvm.ClassFile.FieldType.int), Jvm.Cond.code ({ cls := "com/example/presswright/presswright/publishing/FilePath", name := "extension", desc := "()Ljava/lang/String;" } : Jvm.MethodName) prog_5_method_3_code (1 : Nat) (Option.some (Jvm.ClassFile.FieldType.object "java/lang/String")), Jvm.Cond.code ({ cls := "java/lang/String", name := "equals", desc := "(Ljava/lang/Object;)Z" } : Jvm.MethodName) jdk_42_method_66_code (3 : Nat) (Option.some Jvm.ClassFile.FieldType.boolean), Jvm.Cond.code ({ cls := "java/lang/StringLatin1", name := "equals", desc := "([B[B)Z" } : Jvm.MethodName) jdk_43_method_13_code (3 : Nat) (Option.some Jvm.ClassFile.FieldType.boolean)]
set_option maxRecDepth 65536 in
theorem codes_eq : words1.filter isCode = codes1 := rfl
theorem w_codes : ∀ c ∈ words1.filter isCode, c.before args0 about1 = true := by
  rw [codes_eq]
  intro c hc
  simp only [codes1, List.mem_cons, List.not_mem_nil, or_false] at hc
  rcases hc with rfl | rfl | rfl | rfl | rfl | rfl | rfl | rfl | rfl | rfl | rfl | rfl | rfl | rfl | rfl | rfl | rfl | rfl | rfl | rfl | rfl | rfl | rfl | rfl | rfl | rfl | rfl | rfl | rfl | rfl | rfl | rfl | rfl | rfl | rfl | rfl | rfl | rfl | rfl | rfl | rfl | rfl | rfl
  · exact w_c0
  · exact w_c1
  · exact w_c2
  · exact w_c3
  · exact w_c4
  · exact w_c5
  · exact w_c6
  · exact w_c7
  · exact w_c8
  · exact w_c9
  · exact w_c10
  · exact w_c11
  · exact w_c12
  · exact w_c13
  · exact w_c14
  · exact w_c15
  · exact w_c16
  · exact w_c17
  · exact w_c18
  · exact w_c19
  · exact w_c20
  · exact w_c21
  · exact w_c22
  · exact w_c23
  · exact w_c24
  · exact w_c25
  · exact w_c26
  · exact w_c27
  · exact w_c28
  · exact w_c29
  · exact w_c30
  · exact w_c31
  · exact w_c32
  · exact w_c33
  · exact w_c34
  · exact w_c35
  · exact w_c36
  · exact w_c37
  · exact w_c38
  · exact w_c39
  · exact w_c40
  · exact w_c41
  · exact w_c42
set_option maxRecDepth 65536 in
theorem w_t1 : (words1.take 24).all (fun c => isCode c || c.before args0 about1) = true := by decide +kernel
set_option maxRecDepth 65536 in
theorem w_t2 : ((words1.drop 24).take 24).all (fun c => isCode c || c.before args0 about1) = true := by decide +kernel
set_option maxRecDepth 65536 in
theorem w_t3 : (((words1.drop 24).drop 24).take 24).all (fun c => isCode c || c.before args0 about1) = true := by decide +kernel
set_option maxRecDepth 65536 in
theorem w_t4 : ((((words1.drop 24).drop 24).drop 24).take 24).all (fun c => isCode c || c.before args0 about1) = true := by decide +kernel
set_option maxRecDepth 65536 in
theorem w_t5 : (((((words1.drop 24).drop 24).drop 24).drop 24).take 24).all (fun c => isCode c || c.before args0 about1) = true := by decide +kernel
set_option maxRecDepth 65536 in
theorem w_t6 : ((((((words1.drop 24).drop 24).drop 24).drop 24).drop 24).take 24).all (fun c => isCode c || c.before args0 about1) = true := by decide +kernel
set_option maxRecDepth 65536 in
theorem w_t7 : (((((((words1.drop 24).drop 24).drop 24).drop 24).drop 24).drop 24).take 24).all (fun c => isCode c || c.before args0 about1) = true := by decide +kernel
set_option maxRecDepth 65536 in
theorem w_t8 : (((((((words1.drop 24).drop 24).drop 24).drop 24).drop 24).drop 24).drop 24).all (fun c => isCode c || c.before args0 about1) = true := by decide +kernel
theorem w_tables : (allAtoms (Jvm.Cond.code x code maxLocals ret :: tables_1)).before args0 about1 = true := by
  rw [allAtoms_all]
  show words1.all (fun c => c.before args0 about1) = true
  refine all_split ?_ w_codes
  rw [← List.take_append_drop 24 words1, List.all_append, w_t1, ← List.take_append_drop 24 (words1.drop 24), List.all_append, w_t2, ← List.take_append_drop 24 ((words1.drop 24).drop 24), List.all_append, w_t3, ← List.take_append_drop 24 (((words1.drop 24).drop 24).drop 24), List.all_append, w_t4, ← List.take_append_drop 24 ((((words1.drop 24).drop 24).drop 24).drop 24), List.all_append, w_t5, ← List.take_append_drop 24 (((((words1.drop 24).drop 24).drop 24).drop 24).drop 24), List.all_append, w_t6, ← List.take_append_drop 24 ((((((words1.drop 24).drop 24).drop 24).drop 24).drop 24).drop 24), List.all_append, w_t7, w_t8]
  rfl
set_option maxRecDepth 65536 in
theorem w_rest : rest_1_c.before args0 about1 = true := by decide +kernel
set_option maxRecDepth 65536 in
theorem w_case : (Jvm.Cond.and given_1 narrow_1).before args0 about1 = true := by decide +kernel
theorem w_applies : (headSpec (Jvm.Cond.code x code maxLocals ret :: tables_1) room_1).applies x e0.platform about1 = true :=
  (Spec.applies_iff w_frames).mpr ⟨w_running, w_runnable, w_alone, w_named, w_hears, w_ripe, w_room, w_tables⟩
theorem atStart : AtStart classFile x code maxLocals ret World_1 tables_1 room_1 Calls_1 rest_1 Pre_1 launch0 p0 e0 about1 theMethod args0 below0 :=
  ⟨lists_1, trivial, launch0.admits_env _ _ _, launch0.least_env, fairChoices_fair.cas, fairChoices_fair.clock, w_frames, w_args, w_heap, w_applies, trivial, w_rest, w_case⟩
end start1
theorem witness_1 : WitnessClaimed_1 := ⟨start1.p0, start1.e0, start1.about1, start1.theMethod, start1.args0, start1.below0, start1.atStart⟩
end Jvm.Pilot.@@N@@
