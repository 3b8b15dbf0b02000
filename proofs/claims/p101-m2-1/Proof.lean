import JvmDerived
import JvmDerived.Pilot.@@N@@Statement
import JvmDerived.Pilot.@@N@@Code
set_option linter.unusedVariables false
set_option linter.unusedSimpArgs false
/- laws to paste: Road.backV (cut by pick.py; bodies as the Statement names them) -/
namespace Jvm.Pilot.@@N@@
namespace StrChars
open Jvm Sem ClassFile Op Lib Jvm.Stand Jvm.Free.XT Jvm.Free.ALB Jvm.Free.JM Jvm.Free
open Jvm.Lib.Cold (StaticIs)
/-- a char array whose places are chars -/
def Ch (a : Addr) (A : Cell) (U : State) : Prop := Arr .char a A U ∧ Typed .char A
theorem Ch.mv {a : Addr} {A : Cell} {U U' : State} (h : Ch a A U) (hal : U.vm.Alike U'.vm) (hh : U'.heap = U.heap) : Ch a A U' := ⟨h.1.mv hal hh, h.2⟩
theorem Ch.keep {a : Addr} {A : Cell} {U U' : State} (h : Ch a A U) (hal : U.vm.Alike U'.vm) (hk : U'.heap[a]? = some A) : Ch a A U' := ⟨h.1.keep hal hk, h.2⟩
/-- what place i of a char[]'s cell holds -/
def cv (A : Cell) (i : Nat) : Int32 := match A.slots[i]? with | some (.int x) => x | _ => 0
theorem Ch.get {a : Addr} {A : Cell} {U : State} (h : Ch a A U) {i : Nat} (hi : i < A.slots.size) : A.slots[i]? = some (.int (cv A i)) := by
  have e := Array.getElem?_eq_getElem hi
  have f := h.2 i _ e
  unfold cv; rw [e]
  generalize A.slots[i] = v at f
  cases v <;> simp [fits] at f ⊢
/-- the byte that i2b leaves of a char -/
def lo8 (x : Int32) : Int32 := x.toInt8.toInt32
theorem fits_lo8 (y : Int32) : fits .byte (.int (lo8 y)) = true := by
  have h1 := y.toInt8.le_toInt
  have h2 := y.toInt8.toInt_lt
  simp only [lo8, fits, Bool.and_eq_true, decide_eq_true_eq, Int32.le_iff_toInt_le, Int8.toInt_toInt32, show (-128 : Int32).toInt = -128 from by decide, show (127 : Int32).toInt = 127 from by decide]
  omega
/-- A' is A but that each place j of lo .. hi - 1 holds f j -/
def Laid (A A' : Cell) (lo hi : Nat) (f : Nat → Value) : Prop := A'.cls = A.cls ∧ A'.vm = A.vm ∧ A'.slots.size = A.slots.size ∧ ∀ i, A'.slots[i]? = if lo ≤ i ∧ i < hi then some (f i) else A.slots[i]?
theorem Laid.zero (A : Cell) (lo : Nat) (f : Nat → Value) : Laid A A lo (lo + 0) f := ⟨rfl, rfl, rfl, fun i => by rw [if_neg (by omega)]⟩
theorem Laid.step {A Ak : Cell} {lo k : Nat} {f : Nat → Value} {v : Value} (h : Laid A Ak lo k f) (hlo : lo ≤ k) (hk : k < Ak.slots.size) (hv : v = f k) : Laid A (Ak.setSlot k v) lo (k + 1) f := by
  refine ⟨h.1, h.2.1, by simpa [Cell.setSlot] using h.2.2.1, fun i => ?_⟩
  by_cases e : k = i
  · subst e; rw [Cell.slots_setSlot_self v hk, if_pos (by omega), hv]
  · rw [Cell.slots_setSlot_ne v e, h.2.2.2 i]
    by_cases q : lo ≤ i ∧ i < k
    · rw [if_pos q, if_pos (by omega)]
    · rw [if_neg q, if_neg (by omega)]
def U16 : String := "java/lang/StringUTF16"
namespace Cmp5
def yN : MethodName := ⟨"java/lang/StringUTF16", "compress", "([CI[BII)I"⟩
abbrev yB : ByteArray := jdk_52_method_21_code
theorem d0 : decode yB 0 = .ok (.iconst 0, 1) := by decide +kernel
theorem d1 : decode yB 1 = .ok (.istore 5, 2) := by decide +kernel
theorem d3 : decode yB 3 = .ok (.iload 5, 2) := by decide +kernel
theorem d5 : decode yB 5 = .ok (.iload 4, 2) := by decide +kernel
theorem d7 : decode yB 7 = .ok (.if_icmp (.ge) 37, 3) := by decide +kernel
theorem d10 : decode yB 10 = .ok (.aload_n 0, 1) := by decide +kernel
theorem d11 : decode yB 11 = .ok (.iload_n 1, 1) := by decide +kernel
theorem d12 : decode yB 12 = .ok (.caload, 1) := by decide +kernel
theorem d13 : decode yB 13 = .ok (.istore 6, 2) := by decide +kernel
theorem d15 : decode yB 15 = .ok (.iload 6, 2) := by decide +kernel
theorem d17 : decode yB 17 = .ok (.sipush 255, 3) := by decide +kernel
theorem d20 : decode yB 20 = .ok (.if_icmp (.le) 6, 3) := by decide +kernel
theorem d26 : decode yB 26 = .ok (.aload_n 2, 1) := by decide +kernel
theorem d27 : decode yB 27 = .ok (.iload_n 3, 1) := by decide +kernel
theorem d28 : decode yB 28 = .ok (.iload 6, 2) := by decide +kernel
theorem d30 : decode yB 30 = .ok (.i2b, 1) := by decide +kernel
theorem d31 : decode yB 31 = .ok (.bastore, 1) := by decide +kernel
theorem d32 : decode yB 32 = .ok (.iinc 1 1, 3) := by decide +kernel
theorem d35 : decode yB 35 = .ok (.iinc 3 1, 3) := by decide +kernel
theorem d38 : decode yB 38 = .ok (.iinc 5 1, 3) := by decide +kernel
theorem d41 : decode yB 41 = .ok (.goto (-38), 3) := by decide +kernel
theorem d44 : decode yB 44 = .ok (.iload 4, 2) := by decide +kernel
theorem d46 : decode yB 46 = .ok (.ireturn, 1) := by decide +kernel
def site : List Cond := []
def tab : Cond := tabOf yN yB 7 (some .int) site
def P (b : Addr) (A : Cell) (d : Addr) (B : Cell) (o q len : Nat) (args : Array Value) (s : State) : Prop := args = #[.ref b, .int (Int32.ofNat o), .ref d, .int (Int32.ofNat q), .int (Int32.ofNat len)] ∧ Ch b A s ∧ Arr .byte d B s ∧ b ≠ d ∧ o + len ≤ A.slots.size ∧ q + len ≤ B.slots.size ∧ ∀ i, i < len → ¬ 255 < cv A (o + i)
def E (b : Addr) (A : Cell) (d : Addr) (B : Cell) (o q len : Nat) (r : Option Value) (s u : State) : Prop := r = some (.int (Int32.ofNat len)) ∧ ∃ B', Put d B' s u ∧ Laid B B' q (q + len) (fun j => Value.int (lo8 (cv A (o + (j - q)))))
/-- no char of the range above 255: len; the places written hold each char's low byte -/
theorem law (l : Launch) (b : Addr) (A : Cell) (d : Addr) (B : Cell) (o q len : Nat) : Law l yN 5 5 0 0 yB 7 (some .int) site (P b A d B o q len) (E b A d B o q len) (copyLocs d q len) 0 0 := by
  refine Law.of_walk (plainFor_of_name (by decide +kernel)) (by decide +kernel) (by decide +kernel) (by decide) (fun _ _ h => by rw [h.1]; rfl) (fun _ U U' hal hh h => ⟨h.1, h.2.1.mv hal hh, h.2.2.1.mv hal hh, h.2.2.2⟩) (fun r U U' V V' h1 hal h2 h => ⟨h.1, h.2.elim fun B' q => ⟨B', q.1.mv h1 h2, q.2⟩⟩) ?_
  intro p e s m args below meth c s₁ X0 hexec hbytes hml hret hlk hnm hown hh0 W hP
  obtain ⟨rfl, hA, hB, hne, l1, l2, hp⟩ := hP
  have c1 : Steps p.tables e below (s₁.setTop (entryFrame m #[.ref b, .int (Int32.ofNat o), .ref d, .int (Int32.ofNat q), .int (Int32.ofNat len)] 7)) (s₁.setTop (mkF m 0 #[.val (.ref b), .val (.int (Int32.ofNat o)), .val (.ref d), .val (.int (Int32.ofNat q)), .val (.int (Int32.ofNat len)), .unset, .unset] [])) := entry rfl
  have hA0 := hA.1.mv X0.warmed.alike hh0
  have hB0 := hB.mv X0.warmed.alike hh0
  have a31 := hA.1.2.2.2
  have c2 : Steps p.tables e below (s₁.setTop (entryFrame m #[.ref b, .int (Int32.ofNat o), .ref d, .int (Int32.ofNat q), .int (Int32.ofNat len)] 7)) (s₁.setTop (mkF m 3 #[.val (.ref b), .val (.int (Int32.ofNat o)), .val (.ref d), .val (.int (Int32.ofNat q)), .val (.int (Int32.ofNat len)), .val (.int 0), .unset] [])) := c1.trans (by
    refine iconstV X0.here hexec rfl 0 (hb hbytes d0) (by decide) ?_
    refine XS.istore X0.here hexec rfl (hb hbytes d1) rfl rfl ?_
    exact Steps.refl _)
  have loop : ∀ (r i : Nat), i + r = len → ∀ (z : Slot), (z = .unset ∨ ∃ w, z = .val w ∧ w.category = 1) → ∀ (Tl : State) (Bk : Cell), Stand p l e { frames := 0, locals := 0, cells := 0, slots := 0 } s m #[.ref b, .int (Int32.ofNat o), .ref d, .int (Int32.ofNat q), .int (Int32.ofNat len)] below meth c Tl ([] ++ copyLocs d q i) 0 0 → Put d Bk s₁ Tl → Laid B Bk q (q + i) (fun j => Value.int (lo8 (cv A (o + (j - q))))) →
      Steps p.tables e below (s₁.setTop (entryFrame m #[.ref b, .int (Int32.ofNat o), .ref d, .int (Int32.ofNat q), .int (Int32.ofNat len)] 7)) (Tl.setTop (mkF m 3 #[.val (.ref b), .val (.int (Int32.ofNat (o + i))), .val (.ref d), .val (.int (Int32.ofNat (q + i))), .val (.int (Int32.ofNat len)), .val (.int (Int32.ofNat i)), z] [])) → ∃ (T' : State) (B' : Cell) (z' : Slot), Stand p l e { frames := 0, locals := 0, cells := 0, slots := 0 } s m #[.ref b, .int (Int32.ofNat o), .ref d, .int (Int32.ofNat q), .int (Int32.ofNat len)] below meth c T' ([] ++ copyLocs d q len) 0 0 ∧ Put d B' s₁ T' ∧ Laid B B' q (q + len) (fun j => Value.int (lo8 (cv A (o + (j - q))))) ∧
      Steps p.tables e below (s₁.setTop (entryFrame m #[.ref b, .int (Int32.ofNat o), .ref d, .int (Int32.ofNat q), .int (Int32.ofNat len)] 7)) (T'.setTop (mkF m 3 #[.val (.ref b), .val (.int (Int32.ofNat (o + len))), .val (.ref d), .val (.int (Int32.ofNat (q + len))), .val (.int (Int32.ofNat len)), .val (.int (Int32.ofNat len)), z'] [])) := by
    intro r
    induction r with
    | zero =>
      intro i hi z hz Tl Bk Xl pl fl cl
      have hil : i = len := by omega
      rw [hil] at Xl fl cl
      exact ⟨Tl, Bk, z, Xl, pl, fl, cl⟩
    | succ r ih =>
      intro i hi z hz Tl Bk Xl pl fl cl
      have all := X0.warmed.alike.symm.trans Xl.warmed.alike
      have hAl := hA0.keep all (pl.other hne hA0.1)
      have hBk := hB0.like all pl.1 fl.1 fl.2.1 fl.2.2.1
      have hlt : q + i < Bk.slots.size := by rw [fl.2.2.1]; omega
      have c3 : Steps p.tables e below (s₁.setTop (entryFrame m #[.ref b, .int (Int32.ofNat o), .ref d, .int (Int32.ofNat q), .int (Int32.ofNat len)] 7)) (Tl.setTop (mkF m 12 #[.val (.ref b), .val (.int (Int32.ofNat (o + i))), .val (.ref d), .val (.int (Int32.ofNat (q + i))), .val (.int (Int32.ofNat len)), .val (.int (Int32.ofNat i)), z] [.int (Int32.ofNat (o + i)), .ref b])) := cl.trans (by
        refine XS.iload Xl.here hexec rfl (hb hbytes d3) rfl ?_
        refine XS.iload Xl.here hexec rfl (hb hbytes d5) rfl ?_
        refine XS.icmpNo Xl.here hexec rfl (hb hbytes d7) rfl (ii_ge_f (lt32 (by omega) (by omega))) ?_
        refine XS.aloadN Xl.here hexec rfl (hb hbytes d10) rfl rfl ?_
        refine XS.iloadN Xl.here hexec rfl (hb hbytes d11) rfl ?_
        exact Steps.refl _)
      have c4 : Steps p.tables e below (s₁.setTop (entryFrame m #[.ref b, .int (Int32.ofNat o), .ref d, .int (Int32.ofNat q), .int (Int32.ofNat len)] 7)) (Tl.setTop (mkF m 13 #[.val (.ref b), .val (.int (Int32.ofNat (o + i))), .val (.ref d), .val (.int (Int32.ofNat (q + i))), .val (.int (Int32.ofNat len)), .val (.int (Int32.ofNat i)), z] [.int (cv A (o + i))])) := c3.trans (by
        refine Xl.aget hexec hAl rfl (hA.get (i := o + i) (by omega)) rfl rfl (hb hbytes d12) ?_
        exact Steps.refl _)
      have c5 : Steps p.tables e below (s₁.setTop (entryFrame m #[.ref b, .int (Int32.ofNat o), .ref d, .int (Int32.ofNat q), .int (Int32.ofNat len)] 7)) (Tl.setTop (mkF m 15 #[.val (.ref b), .val (.int (Int32.ofNat (o + i))), .val (.ref d), .val (.int (Int32.ofNat (q + i))), .val (.int (Int32.ofNat len)), .val (.int (Int32.ofNat i)), .val (.int (cv A (o + i)))] [])) := c4.trans (by
        refine XS.istoreS Xl.here hexec rfl (hb hbytes d13) rfl rfl hz ?_
        exact Steps.refl _)
      have c6 : Steps p.tables e below (s₁.setTop (entryFrame m #[.ref b, .int (Int32.ofNat o), .ref d, .int (Int32.ofNat q), .int (Int32.ofNat len)] 7)) (Tl.setTop (mkF m 31 #[.val (.ref b), .val (.int (Int32.ofNat (o + i))), .val (.ref d), .val (.int (Int32.ofNat (q + i))), .val (.int (Int32.ofNat len)), .val (.int (Int32.ofNat i)), .val (.int (cv A (o + i)))] [.int (lo8 (cv A (o + i))), .int (Int32.ofNat (q + i)), .ref d])) := c5.trans (by
        refine XS.iload Xl.here hexec rfl (hb hbytes d15) rfl ?_
        refine sipushV Xl.here hexec rfl 255 (hb hbytes d17) (by decide) ?_
        refine XS.icmpYes Xl.here hexec rfl (pc0 := 20) rfl (hb hbytes d20) rfl (ii_le_t (hp i (by omega))) (by decide) rfl ?_
        refine XS.aloadN Xl.here hexec rfl (hb hbytes d26) rfl rfl ?_
        refine XS.iloadN Xl.here hexec rfl (hb hbytes d27) rfl ?_
        refine XS.iload Xl.here hexec rfl (hb hbytes d28) rfl ?_
        refine i2b Xl.here hexec rfl (hb hbytes d30) rfl ?_
        exact Steps.refl _)
      obtain ⟨T7, X7, p7, st7⟩ := Xl.aput hexec hBk rfl hlt rfl (fits_lo8 (cv A (o + i))) (g := (mkF m 31 #[.val (.ref b), .val (.int (Int32.ofNat (o + i))), .val (.ref d), .val (.int (Int32.ofNat (q + i))), .val (.int (Int32.ofNat len)), .val (.int (Int32.ofNat i)), .val (.int (cv A (o + i)))] [.int (lo8 (cv A (o + i))), .int (Int32.ofNat (q + i)), .ref d])) rfl (rest := []) rfl (hb hbytes d31)
      have c8 : Steps p.tables e below (s₁.setTop (entryFrame m #[.ref b, .int (Int32.ofNat o), .ref d, .int (Int32.ofNat q), .int (Int32.ofNat len)] 7)) (T7.setTop (mkF m 32 #[.val (.ref b), .val (.int (Int32.ofNat (o + i))), .val (.ref d), .val (.int (Int32.ofNat (q + i))), .val (.int (Int32.ofNat len)), .val (.int (Int32.ofNat i)), .val (.int (cv A (o + i)))] [])) := c6.trans (st7 _ (Steps.refl _))
      have c9 : Steps p.tables e below (s₁.setTop (entryFrame m #[.ref b, .int (Int32.ofNat o), .ref d, .int (Int32.ofNat q), .int (Int32.ofNat len)] 7)) (T7.setTop (mkF m 3 #[.val (.ref b), .val (.int (Int32.ofNat (o + i) + 1)), .val (.ref d), .val (.int (Int32.ofNat (q + i) + 1)), .val (.int (Int32.ofNat len)), .val (.int (Int32.ofNat i + 1)), .val (.int (cv A (o + i)))] [])) := c8.trans (by
        refine iincV X7.here hexec rfl 1 (hb hbytes d32) (by decide) rfl rfl ?_
        refine iincV X7.here hexec rfl 1 (hb hbytes d35) (by decide) rfl rfl ?_
        refine iincV X7.here hexec rfl 1 (hb hbytes d38) (by decide) rfl rfl ?_
        refine XS.goto X7.here hexec rfl (pc0 := 41) rfl (hb hbytes d41) (by decide) rfl ?_
        exact Steps.refl _)
      have c10 : Steps p.tables e below (s₁.setTop (entryFrame m #[.ref b, .int (Int32.ofNat o), .ref d, .int (Int32.ofNat q), .int (Int32.ofNat len)] 7)) (T7.setTop (mkF m 3 #[.val (.ref b), .val (.int (Int32.ofNat (o + (i + 1)))), .val (.ref d), .val (.int (Int32.ofNat (q + (i + 1)))), .val (.int (Int32.ofNat len)), .val (.int (Int32.ofNat (i + 1))), .val (.int (cv A (o + i)))] [])) := by
        have := c9
        rw [succ32, succ32, succ32] at this
        exact this
      exact ih (i + 1) (by omega) _ (Or.inr ⟨_, rfl, rfl⟩) T7 _ (by rw [copyLocs_step, ← List.append_assoc]; exact X7) (pl.trans p7) (fl.step (by omega) hlt (by simp)) c10
  obtain ⟨T9, B9, z9, X9, p9, f9, g9⟩ := loop len 0 (by omega) .unset (Or.inl rfl) s₁ B (by simpa [copyLocs] using X0) ⟨hB0.1, fun _ _ => rfl, rfl⟩ (Laid.zero _ _ _) c2
  have c11 : Steps p.tables e below (s₁.setTop (entryFrame m #[.ref b, .int (Int32.ofNat o), .ref d, .int (Int32.ofNat q), .int (Int32.ofNat len)] 7)) (T9.setTop (mkF m 46 #[.val (.ref b), .val (.int (Int32.ofNat (o + len))), .val (.ref d), .val (.int (Int32.ofNat (q + len))), .val (.int (Int32.ofNat len)), .val (.int (Int32.ofNat len)), z9] [.int (Int32.ofNat len)])) := g9.trans (by
    refine XS.iload X9.here hexec rfl (hb hbytes d3) rfl ?_
    refine XS.iload X9.here hexec rfl (hb hbytes d5) rfl ?_
    refine XS.icmpYes X9.here hexec rfl (pc0 := 7) rfl (hb hbytes d7) rfl (ii_ge_t (nlt32 (by omega) (Nat.le_refl _))) (by decide) rfl ?_
    refine XS.iload X9.here hexec rfl (hb hbytes d44) rfl ?_
    exact Steps.refl _)
  exact ⟨T9, some (.int (Int32.ofNat len)), _, _, _, X9, by simp, rfl, rfl, (fun h => by cases h), ⟨rfl, B9, p9.from hh0, f9⟩, fun fs hl => c11.trans (X9.ireturnOut hexec hret rfl (Or.inl rfl) (hb hbytes d46) hl)⟩
end Cmp5
namespace Cmp3
def yN : MethodName := ⟨"java/lang/StringUTF16", "compress", "([CII)[B"⟩
abbrev yB : ByteArray := jdk_52_method_16_code
theorem d0 : decode yB 0 = .ok (.iload_n 2, 1) := by decide +kernel
theorem d1 : decode yB 1 = .ok (.newarray .byte, 2) := by decide +kernel
theorem d3 : decode yB 3 = .ok (.astore_n 3, 1) := by decide +kernel
theorem d4 : decode yB 4 = .ok (.aload_n 0, 1) := by decide +kernel
theorem d5 : decode yB 5 = .ok (.iload_n 1, 1) := by decide +kernel
theorem d6 : decode yB 6 = .ok (.aload_n 3, 1) := by decide +kernel
theorem d7 : decode yB 7 = .ok (.iconst 0, 1) := by decide +kernel
theorem d8 : decode yB 8 = .ok (.iload_n 2, 1) := by decide +kernel
theorem d9 : decode yB 9 = .ok (.invokestatic 115, 3) := by decide +kernel
theorem d12 : decode yB 12 = .ok (.istore 4, 2) := by decide +kernel
theorem d14 : decode yB 14 = .ok (.iload 4, 2) := by decide +kernel
theorem d16 : decode yB 16 = .ok (.iload_n 2, 1) := by decide +kernel
theorem d17 : decode yB 17 = .ok (.if_icmp (.eq) 40, 3) := by decide +kernel
theorem d57 : decode yB 57 = .ok (.aload_n 3, 1) := by decide +kernel
theorem d58 : decode yB 58 = .ok (.areturn, 1) := by decide +kernel
def site : List Cond := [.arrayClass .byte, Cmp5.tab] ++ staticW U16 115 Cmp5.yN
def tab : Cond := tabOf yN yB 6 (some (.array .byte)) site
def P (b : Addr) (A : Cell) (o len : Nat) (args : Array Value) (s : State) : Prop := args = #[.ref b, .int (Int32.ofNat o), .int (Int32.ofNat len)] ∧ Ch b A s ∧ o + len ≤ A.slots.size ∧ len ≤ 536870912 ∧ ∀ i, i < len → ¬ 255 < cv A (o + i)
def E (b : Addr) (A : Cell) (o len : Nat) (r : Option Value) (s u : State) : Prop := NewArr .byte "[B" len (fun j => .int (lo8 (cv A (o + j)))) r s u ∧ u.heap.size = s.heap.size + 1
/-- no char of the range above 255: a new byte[] of their low bytes -/
theorem law (l : Launch) (b : Addr) (A : Cell) (o len : Nat) : Law l yN 3 3 1 18 yB 6 (some (.array .byte)) site (P b A o len) (E b A o len) [] 1 len := by
  refine Law.of_walk (plainFor_of_name (by decide +kernel)) (by decide +kernel) (by decide +kernel) (by decide) (fun _ _ h => by rw [h.1]; rfl) (fun _ U U' hal hh h => ⟨h.1, h.2.1.mv hal hh, h.2.2⟩) (fun r U U' V V' h1 hal h2 h => ⟨NewArr.mv r U U' V V' h1 hal h2 h.1, by rw [h1, h2]; exact h.2⟩) ?_
  intro p e s m args below meth c s₁ X0 hexec hbytes hml hret hlk hnm hown hh0 W hP
  obtain ⟨rfl, hA, l1, l2, hp⟩ := hP
  have a31 := hA.1.2.2.2
  have c1 : Steps p.tables e below (s₁.setTop (entryFrame m #[.ref b, .int (Int32.ofNat o), .int (Int32.ofNat len)] 6)) (s₁.setTop (mkF m 0 #[.val (.ref b), .val (.int (Int32.ofNat o)), .val (.int (Int32.ofNat len)), .unset, .unset, .unset] [])) := entry rfl
  have c2 : Steps p.tables e below (s₁.setTop (entryFrame m #[.ref b, .int (Int32.ofNat o), .int (Int32.ofNat len)] 6)) (s₁.setTop (mkF m 1 #[.val (.ref b), .val (.int (Int32.ofNat o)), .val (.int (Int32.ofNat len)), .unset, .unset, .unset] [.int (Int32.ofNat len)])) := c1.trans (by
    refine XS.iloadN X0.here hexec rfl (hb hbytes d0) rfl ?_
    exact Steps.refl _)
  obtain ⟨T3, B3, X3, ba3, bs3, bv3, bh3, bf3, st3⟩ := X0.anew hexec (atype := .byte) (wk W (.arrayClass .byte)) rfl (by show len * 1 ≤ _; omega) (by omega) (g := (mkF m 1 #[.val (.ref b), .val (.int (Int32.ofNat o)), .val (.int (Int32.ofNat len)), .unset, .unset, .unset] [.int (Int32.ofNat len)])) rfl (hb hbytes d1) (rest := []) rfl (Nat.le_refl _) (by show 0 + len ≤ len; omega)
  rw [hh0] at ba3 st3
  have kp3 : XT.Kept s T3 := (XT.Kept.of_eq hh0).push bh3
  have hA3 := hA.keep X3.warmed.alike (kp3 _ _ hA.1.1)
  have hne : b ≠ s.heap.size := hA.1.ne
  have c4 : Steps p.tables e below (s₁.setTop (entryFrame m #[.ref b, .int (Int32.ofNat o), .int (Int32.ofNat len)] 6)) (T3.setTop (mkF m 3 #[.val (.ref b), .val (.int (Int32.ofNat o)), .val (.int (Int32.ofNat len)), .unset, .unset, .unset] [.ref s.heap.size])) := c2.trans (st3 _ (Steps.refl _))
  have c5 : Steps p.tables e below (s₁.setTop (entryFrame m #[.ref b, .int (Int32.ofNat o), .int (Int32.ofNat len)] 6)) (T3.setTop (mkF m 9 #[.val (.ref b), .val (.int (Int32.ofNat o)), .val (.int (Int32.ofNat len)), .val (.ref s.heap.size), .unset, .unset] [.int (Int32.ofNat len), .int 0, .ref s.heap.size, .int (Int32.ofNat o), .ref b])) := c4.trans (by
    refine XS.astoreN X3.here hexec rfl (hb hbytes d3) rfl rfl rfl ?_
    refine XS.aloadN X3.here hexec rfl (hb hbytes d4) rfl rfl ?_
    refine XS.iloadN X3.here hexec rfl (hb hbytes d5) rfl ?_
    refine XS.aloadN X3.here hexec rfl (hb hbytes d6) rfl rfl ?_
    refine iconstV X3.here hexec rfl 0 (hb hbytes d7) (by decide) ?_
    refine XS.iloadN X3.here hexec rfl (hb hbytes d8) rfl ?_
    exact Steps.refl _)
  obtain ⟨v6, T6, X6, E6, g6⟩ := X3.callS hexec (Cmp5.law l b A s.heap.size B3 o 0 len) hown (wks W (staticW U16 115 Cmp5.yN)) (wk W Cmp5.tab) (W := 0) (Nat.le_of_ble_eq_true rfl) (Nat.le_of_ble_eq_true rfl) (Nat.le_refl _) (by show 0 + len + 0 ≤ len; omega) (g := (mkF m 9 #[.val (.ref b), .val (.int (Int32.ofNat o)), .val (.int (Int32.ofNat len)), .val (.ref s.heap.size), .unset, .unset] [.int (Int32.ofNat len), .int (Int32.ofNat 0), .ref s.heap.size, .int (Int32.ofNat o), .ref b])) rfl (by rw [hml]; rfl) c5 (argsL := [.ref b, .int (Int32.ofNat o), .ref s.heap.size, .int (Int32.ofNat 0), .int (Int32.ofNat len)]) (rest := []) rfl rfl (by show 2 * 0 + 0 ≤ _; decide) (hb hbytes d9) (⟨rfl, hA3, ba3, hne, l1, by rw [bs3]; simp, hp⟩)
  obtain ⟨rfl, B6, p6, f6⟩ := E6
  have c7 : Steps p.tables e below (s₁.setTop (entryFrame m #[.ref b, .int (Int32.ofNat o), .int (Int32.ofNat len)] 6)) (T6.setTop (mkF m 12 #[.val (.ref b), .val (.int (Int32.ofNat o)), .val (.int (Int32.ofNat len)), .val (.ref s.heap.size), .unset, .unset] [.int (Int32.ofNat len)])) := g6
  have c8 : Steps p.tables e below (s₁.setTop (entryFrame m #[.ref b, .int (Int32.ofNat o), .int (Int32.ofNat len)] 6)) (T6.setTop (mkF m 58 #[.val (.ref b), .val (.int (Int32.ofNat o)), .val (.int (Int32.ofNat len)), .val (.ref s.heap.size), .val (.int (Int32.ofNat len)), .unset] [.ref s.heap.size])) := c7.trans (by
    refine XS.istore X6.here hexec rfl (hb hbytes d12) rfl rfl ?_
    refine XS.iload X6.here hexec rfl (hb hbytes d14) rfl ?_
    refine XS.iloadN X6.here hexec rfl (hb hbytes d16) rfl ?_
    refine XS.icmpYes X6.here hexec rfl (pc0 := 17) rfl (hb hbytes d17) rfl (ii_eq_t rfl) (by decide) rfl ?_
    refine XS.aloadN X6.here hexec rfl (hb hbytes d57) rfl rfl ?_
    exact Steps.refl _)
  have X8 := X6.wide (L' := []) (cells' := 1) (slots' := len) (fun x hx hlt => by
    simp only [List.nil_append, copyLocs, List.mem_map, List.mem_range] at hx
    obtain ⟨i, -, rfl⟩ := hx
    exact absurd hlt (Nat.lt_irrefl _)) (Nat.le_refl _) (by omega)
  exact ⟨T6, some (.ref s.heap.size), _, _, _, X8, rfl, rfl, rfl, (fun h => by cases h), ⟨⟨rfl, B6, ba3.like (X3.warmed.alike.symm.trans X6.warmed.alike) p6.1 f6.1 f6.2.1 f6.2.2.1, f6.2.1.trans bv3, by rw [X6.warmed.alike.findClass, f6.1]; exact bf3, by rw [f6.2.2.1, bs3]; simp, fun j hj => by rw [f6.2.2.2 j, if_pos (by omega)]; rfl, kp3.put p6 (Nat.le_refl _)⟩, by rw [p6.2.2, bh3, hh0]; simp⟩, fun fs hl => c8.trans (X8.areturnOut hexec rfl hret rfl (hb hbytes d58) hl)⟩
end Cmp3
namespace CodL
def yN : MethodName := ⟨"java/lang/StringUTF16", "coderFromArrayLen", "([BI)B"⟩
abbrev yB : ByteArray := jdk_52_method_15_code
theorem d0 : decode yB 0 = .ok (.iload_n 1, 1) := by decide +kernel
theorem d1 : decode yB 1 = .ok (.aload_n 0, 1) := by decide +kernel
theorem d2 : decode yB 2 = .ok (.arraylength, 1) := by decide +kernel
theorem d3 : decode yB 3 = .ok (.isub, 1) := by decide +kernel
theorem d4 : decode yB 4 = .ok (.bipush 31, 2) := by decide +kernel
theorem d6 : decode yB 6 = .ok (.iushr, 1) := by decide +kernel
theorem d7 : decode yB 7 = .ok (.i2b, 1) := by decide +kernel
theorem d8 : decode yB 8 = .ok (.ireturn, 1) := by decide +kernel
def site : List Cond := []
def tab : Cond := tabOf yN yB 2 (some .byte) site
def P (d : Addr) (B : Cell) (args : Array Value) (s : State) : Prop := args = #[.ref d, .int (Int32.ofNat B.slots.size)] ∧ Arr .byte d B s
def E (r : Option Value) (s u : State) : Prop := XT.PureE (some (.int 0)) r s u
/-- an array as long as the number of chars: LATIN1 -/
theorem law (l : Launch) (d : Addr) (B : Cell) : Law l yN 2 2 0 0 yB 2 (some .byte) site (P d B) E [] 0 0 := by
  refine Law.of_walk (plainFor_of_name (by decide +kernel)) (by decide +kernel) (by decide +kernel) (by decide) (fun _ _ h => by rw [h.1]; rfl) (fun _ U U' hal hh h => ⟨h.1, h.2.mv hal hh⟩) (fun r U U' V V' h1 hal h2 h => XT.PureE.mv r U U' V V' h1 hal h2 h) ?_
  intro p e s m args below meth c s₁ X0 hexec hbytes hml hret hlk hnm hown hh0 W hP
  obtain ⟨rfl, hB⟩ := hP
  have hB0 := hB.mv X0.warmed.alike hh0
  have c1 : Steps p.tables e below (s₁.setTop (entryFrame m #[.ref d, .int (Int32.ofNat B.slots.size)] 2)) (s₁.setTop (mkF m 0 #[.val (.ref d), .val (.int (Int32.ofNat B.slots.size))] [])) := entry rfl
  have c2 : Steps p.tables e below (s₁.setTop (entryFrame m #[.ref d, .int (Int32.ofNat B.slots.size)] 2)) (s₁.setTop (mkF m 2 #[.val (.ref d), .val (.int (Int32.ofNat B.slots.size))] [.ref d, .int (Int32.ofNat B.slots.size)])) := c1.trans (by
    refine XS.iloadN X0.here hexec rfl (hb hbytes d0) rfl ?_
    refine XS.aloadN X0.here hexec rfl (hb hbytes d1) rfl rfl ?_
    exact Steps.refl _)
  have c3 : Steps p.tables e below (s₁.setTop (entryFrame m #[.ref d, .int (Int32.ofNat B.slots.size)] 2)) (s₁.setTop (mkF m 8 #[.val (.ref d), .val (.int (Int32.ofNat B.slots.size))] [.int (lo8 (ushr (Int32.ofNat B.slots.size - Int32.ofNat B.slots.size) 31))])) := c2.trans (by
    refine X0.alen hexec hB0 rfl rfl (hb hbytes d2) ?_
    refine XS.isub X0.here hexec rfl (hb hbytes d3) rfl ?_
    refine bipushV X0.here hexec rfl 31 (hb hbytes d4) (by decide) ?_
    refine iushr X0.here hexec rfl (hb hbytes d6) rfl ?_
    refine i2b X0.here hexec rfl (hb hbytes d7) rfl ?_
    exact Steps.refl _)
  have e0 : lo8 (ushr (Int32.ofNat B.slots.size - Int32.ofNat B.slots.size) 31) = 0 := by rw [Int32.sub_self]; decide
  rw [e0] at c3
  exact ⟨s₁, some (.int 0), _, _, _, X0, rfl, rfl, rfl, (fun h => by cases h), ⟨rfl, hh0⟩, fun fs hl => c3.trans (X0.ireturnOut hexec hret rfl (Or.inr (Or.inr (Or.inl rfl))) (hb hbytes d8) hl)⟩
end CodL
/-- the String at a is Latin-1 over a new byte[] (the heap's one new cell): the low bytes of the len chars of A from o on; every cell but a is kept -/
def Got (a : Addr) (D : Cell) (fV fC : Field) (A : Cell) (o len : Nat) (r : Option Value) (s u : State) : Prop := r = none ∧ ∃ D' V : Cell, Blank "java/lang/String" a D' u ∧ Same D D' [fV.slot, fC.slot] ∧ D'.slots[fV.slot]? = some (.ref s.heap.size) ∧ D'.slots[fC.slot]? = some (.int 0) ∧ Arr .byte s.heap.size V u ∧ V.vm = .none ∧ u.vm.findClass "[B" = some V.cls ∧ V.slots.size = len ∧ (∀ j, j < len → V.slots[j]? = some (.int (lo8 (cv A (o + j))))) ∧ (∀ (y : Addr) (c : Cell), y ≠ a → s.heap[y]? = some c → u.heap[y]? = some c) ∧ u.heap.size = s.heap.size + 1
theorem Got.mv {a : Addr} {D A : Cell} {fV fC : Field} {o len : Nat} : ∀ r (U U' V V' : State), U'.heap = U.heap → V.vm.Alike V'.vm → V'.heap = V.heap → Got a D fV fC A o len r U V → Got a D fV fC A o len r U' V' :=
  fun r U U' V V' h1 hal h2 ⟨e0, D', X, a1, a2, a3, a4, a5, a6, a7, a8, a9, a10, a11⟩ => ⟨e0, D', X, a1.mv hal h2, a2, by rw [h1]; exact a3, a4, by rw [h1]; exact a5.mv hal h2, a6, by rw [hal.findClass]; exact a7, a8, a9, by rw [h1, h2]; exact a10, by rw [h1, h2]; exact a11⟩
namespace New4
def yN : MethodName := ⟨"java/lang/String", "<init>", "([CIILjava/lang/Void;)V"⟩
abbrev yB : ByteArray := jdk_42_method_149_code
theorem d0 : decode yB 0 = .ok (.aload_n 0, 1) := by decide +kernel
theorem d1 : decode yB 1 = .ok (.invokespecial 1, 3) := by decide +kernel
theorem d4 : decode yB 4 = .ok (.iload_n 3, 1) := by decide +kernel
theorem d5 : decode yB 5 = .ok (.ifCond (.ne) 22, 3) := by decide +kernel
theorem d27 : decode yB 27 = .ok (.getstatic 38, 3) := by decide +kernel
theorem d30 : decode yB 30 = .ok (.ifCond (.eq) 28, 3) := by decide +kernel
theorem d33 : decode yB 33 = .ok (.aload_n 1, 1) := by decide +kernel
theorem d34 : decode yB 34 = .ok (.iload_n 2, 1) := by decide +kernel
theorem d35 : decode yB 35 = .ok (.iload_n 3, 1) := by decide +kernel
theorem d36 : decode yB 36 = .ok (.invokestatic 177, 3) := by decide +kernel
theorem d39 : decode yB 39 = .ok (.astore 5, 2) := by decide +kernel
theorem d41 : decode yB 41 = .ok (.aload_n 0, 1) := by decide +kernel
theorem d42 : decode yB 42 = .ok (.aload 5, 2) := by decide +kernel
theorem d44 : decode yB 44 = .ok (.iload_n 3, 1) := by decide +kernel
theorem d45 : decode yB 45 = .ok (.invokestatic 47, 3) := by decide +kernel
theorem d48 : decode yB 48 = .ok (.putfield 15, 3) := by decide +kernel
theorem d51 : decode yB 51 = .ok (.aload_n 0, 1) := by decide +kernel
theorem d52 : decode yB 52 = .ok (.aload 5, 2) := by decide +kernel
theorem d54 : decode yB 54 = .ok (.putfield 9, 3) := by decide +kernel
theorem d57 : decode yB 57 = .ok (.return_, 1) := by decide +kernel
def site : List Cond := [.fieldLink "java/lang/String" 38 "java/lang/String" "COMPACT_STRINGS" "Z", Cmp3.tab, CodL.tab, .laysFinal "java/lang/String" "java/lang/String" "value" "[B", .fieldLink "java/lang/String" 9 "java/lang/String" "value" "[B", .laysFinal "java/lang/String" "java/lang/String" "coder" "B", .fieldLink "java/lang/String" 15 "java/lang/String" "coder" "B"] ++ objW "java/lang/String" 1 ++ staticW "java/lang/String" 177 Cmp3.yN ++ staticW "java/lang/String" 47 CodL.yN
def tab : Cond := tabOf yN yB 6 none site
def P (a : Addr) (D : Cell) (fV fC : Field) (b : Addr) (A : Cell) (z : Int32) (o len : Nat) (args : Array Value) (s : State) : Prop := args = #[.ref a, .ref b, .int (Int32.ofNat o), .int (Int32.ofNat len), .null] ∧ Blank "java/lang/String" a D s ∧ Found "java/lang/String" "value" "[B" fV s ∧ Found "java/lang/String" "coder" "B" fC s ∧ Ch b A s ∧ StaticIs s "java/lang/String" "COMPACT_STRINGS" "Z" (.int z) ∧ ¬ z = 0 ∧ 0 < len ∧ o + len ≤ A.slots.size ∧ len ≤ 536870912 ∧ ∀ i, i < len → ¬ 255 < cv A (o + i)
def E (a : Addr) (D : Cell) (fV fC : Field) (A : Cell) (o len : Nat) (r : Option Value) (s u : State) : Prop := Got a D fV fC A o len r s u
/-- len > 0, no char of the range above 255: a Latin-1 String of their low bytes -/
theorem law (l : Launch) (a : Addr) (D : Cell) (fV fC : Field) (b : Addr) (A : Cell) (z : Int32) (o len : Nat) : Law l yN 5 4 2 35 yB 6 none site (P a D fV fC b A z o len) (E a D fV fC A o len) [⟨a, fC.slot⟩, ⟨a, fV.slot⟩] 1 len := by
  refine Law.of_walk (plainFor_of_name (by decide +kernel)) (by decide +kernel) (by decide +kernel) (by decide) (fun _ _ h => by rw [h.1]; rfl) (fun _ U U' hal hh h => ⟨h.1, h.2.1.mv hal hh, h.2.2.1.al hal, h.2.2.2.1.al hal, h.2.2.2.2.1.mv hal hh, h.2.2.2.2.2.1.there hal hh, h.2.2.2.2.2.2⟩) (fun r U U' V V' h1 hal h2 h => Got.mv r U U' V V' h1 hal h2 h) ?_
  intro p e s m args below meth c s₁ X0 hexec hbytes hml hret hlk hnm hown hh0 W hP
  obtain ⟨rfl, hB, f1, f2, hA, s1, hz, l0, l1, l2, hp⟩ := hP
  have a31 := hA.1.2.2.2
  have c1 : Steps p.tables e below (s₁.setTop (entryFrame m #[.ref a, .ref b, .int (Int32.ofNat o), .int (Int32.ofNat len), .null] 6)) (s₁.setTop (mkF m 0 #[.val (.ref a), .val (.ref b), .val (.int (Int32.ofNat o)), .val (.int (Int32.ofNat len)), .val .null, .unset] [])) := entry rfl
  have c2 : Steps p.tables e below (s₁.setTop (entryFrame m #[.ref a, .ref b, .int (Int32.ofNat o), .int (Int32.ofNat len), .null] 6)) (s₁.setTop (mkF m 1 #[.val (.ref a), .val (.ref b), .val (.int (Int32.ofNat o)), .val (.int (Int32.ofNat len)), .val .null, .unset] [.ref a])) := c1.trans (by
    refine XS.aloadN X0.here hexec rfl (hb hbytes d0) rfl rfl ?_
    exact Steps.refl _)
  obtain ⟨T3, X3, q3, st3⟩ := X0.oinit hexec hown (wks W (objW "java/lang/String" 1)) (g := (mkF m 1 #[.val (.ref a), .val (.ref b), .val (.int (Int32.ofNat o)), .val (.int (Int32.ofNat len)), .val .null, .unset] [.ref a])) rfl (by rw [hml]; rfl) (rest := []) rfl (hb hbytes d1) (W := 0) (by show 2 * 0 + 0 ≤ _; decide) (Nat.le_of_ble_eq_true rfl) (Nat.le_of_ble_eq_true rfl)
  have hh3 := q3.trans hh0
  have c4 : Steps p.tables e below (s₁.setTop (entryFrame m #[.ref a, .ref b, .int (Int32.ofNat o), .int (Int32.ofNat len), .null] 6)) (T3.setTop (mkF m 27 #[.val (.ref a), .val (.ref b), .val (.int (Int32.ofNat o)), .val (.int (Int32.ofNat len)), .val .null, .unset] [])) := (c2.trans (st3 _ (Steps.refl _))).trans (by
    refine XS.iloadN X3.here hexec rfl (hb hbytes d4) rfl ?_
    refine XS.ifYes X3.here hexec rfl (pc0 := 5) rfl (hb hbytes d5) rfl (i0_ne_t (nz32 (by omega) l0)) (by decide) rfl ?_
    exact Steps.refl _)
  obtain ⟨T5, X5, q5, st5⟩ := X3.sget hexec hown (wk W (.fieldLink "java/lang/String" 38 "java/lang/String" "COMPACT_STRINGS" "Z")) s1 (fun _ _ h => by rw [hh3]; exact h) (g := (mkF m 27 #[.val (.ref a), .val (.ref b), .val (.int (Int32.ofNat o)), .val (.int (Int32.ofNat len)), .val .null, .unset] [])) rfl (hb hbytes d27)
  have hh5 := q5.trans hh3
  have c6 : Steps p.tables e below (s₁.setTop (entryFrame m #[.ref a, .ref b, .int (Int32.ofNat o), .int (Int32.ofNat len), .null] 6)) (T5.setTop (mkF m 30 #[.val (.ref a), .val (.ref b), .val (.int (Int32.ofNat o)), .val (.int (Int32.ofNat len)), .val .null, .unset] [.int z])) := c4.trans (st5 _ (Steps.refl _))
  have c7 : Steps p.tables e below (s₁.setTop (entryFrame m #[.ref a, .ref b, .int (Int32.ofNat o), .int (Int32.ofNat len), .null] 6)) (T5.setTop (mkF m 36 #[.val (.ref a), .val (.ref b), .val (.int (Int32.ofNat o)), .val (.int (Int32.ofNat len)), .val .null, .unset] [.int (Int32.ofNat len), .int (Int32.ofNat o), .ref b])) := c6.trans (by
    refine XS.ifNo X5.here hexec rfl (hb hbytes d30) rfl (i0_eq_f hz) ?_
    refine XS.aloadN X5.here hexec rfl (hb hbytes d33) rfl rfl ?_
    refine XS.iloadN X5.here hexec rfl (hb hbytes d34) rfl ?_
    refine XS.iloadN X5.here hexec rfl (hb hbytes d35) rfl ?_
    exact Steps.refl _)
  obtain ⟨v8, T8, X8, E8, g8⟩ := X5.callS hexec (Cmp3.law l b A o len) hown (wks W (staticW "java/lang/String" 177 Cmp3.yN)) (wk W Cmp3.tab) (W := 0) (Nat.le_of_ble_eq_true rfl) (Nat.le_of_ble_eq_true rfl) (Nat.le_refl _) (by show 0 + len ≤ len; omega) (g := (mkF m 36 #[.val (.ref a), .val (.ref b), .val (.int (Int32.ofNat o)), .val (.int (Int32.ofNat len)), .val .null, .unset] [.int (Int32.ofNat len), .int (Int32.ofNat o), .ref b])) rfl (by rw [hml]; rfl) c7 (argsL := [.ref b, .int (Int32.ofNat o), .int (Int32.ofNat len)]) (rest := []) rfl rfl (by show 2 * 0 + 0 ≤ _; decide) (hb hbytes d36) (⟨rfl, hA.mv X5.warmed.alike hh5, l1, l2, hp⟩)
  obtain ⟨e8, z8⟩ := E8
  obtain ⟨rfl, N, n1, n2, n3, n4, n5, n6⟩ := NewArr.mv _ T5 s _ _ hh5.symm (Vm.Alike.refl _) rfl e8
  rw [hh5] at z8
  have hB1 := hB.keep X8.warmed.alike (n6 _ _ hB.1)
  have hne : s.heap.size ≠ a := (Nat.ne_of_lt (Array.getElem?_eq_some_iff.mp hB.1).1).symm
  have c9 : Steps p.tables e below (s₁.setTop (entryFrame m #[.ref a, .ref b, .int (Int32.ofNat o), .int (Int32.ofNat len), .null] 6)) (T8.setTop (mkF m 39 #[.val (.ref a), .val (.ref b), .val (.int (Int32.ofNat o)), .val (.int (Int32.ofNat len)), .val .null, .unset] [.ref s.heap.size])) := g8
  have c10 : Steps p.tables e below (s₁.setTop (entryFrame m #[.ref a, .ref b, .int (Int32.ofNat o), .int (Int32.ofNat len), .null] 6)) (T8.setTop (mkF m 45 #[.val (.ref a), .val (.ref b), .val (.int (Int32.ofNat o)), .val (.int (Int32.ofNat len)), .val .null, .val (.ref s.heap.size)] [.int (Int32.ofNat N.slots.size), .ref s.heap.size, .ref a])) := by
    have hc : Steps p.tables e below (s₁.setTop (entryFrame m #[.ref a, .ref b, .int (Int32.ofNat o), .int (Int32.ofNat len), .null] 6)) (T8.setTop (mkF m 45 #[.val (.ref a), .val (.ref b), .val (.int (Int32.ofNat o)), .val (.int (Int32.ofNat len)), .val .null, .val (.ref s.heap.size)] [.int (Int32.ofNat len), .ref s.heap.size, .ref a])) := c9.trans (by
      refine XS.astore X8.here hexec rfl (hb hbytes d39) rfl rfl rfl ?_
      refine XS.aloadN X8.here hexec rfl (hb hbytes d41) rfl rfl ?_
      refine XS.aload X8.here hexec rfl (hb hbytes d42) rfl rfl ?_
      refine XS.iloadN X8.here hexec rfl (hb hbytes d44) rfl ?_
      exact Steps.refl _)
    rw [n4]; exact hc
  obtain ⟨v11, T11, X11, E11, g11⟩ := X8.callS hexec (CodL.law l s.heap.size N) hown (wks W (staticW "java/lang/String" 47 CodL.yN)) (wk W CodL.tab) (W := 1) (Nat.le_of_ble_eq_true rfl) (Nat.le_of_ble_eq_true rfl) (Nat.le_refl _) (by show 0 + len + 0 ≤ len; omega) (g := (mkF m 45 #[.val (.ref a), .val (.ref b), .val (.int (Int32.ofNat o)), .val (.int (Int32.ofNat len)), .val .null, .val (.ref s.heap.size)] [.int (Int32.ofNat N.slots.size), .ref s.heap.size, .ref a])) rfl (by rw [hml]; rfl) c10 (argsL := [.ref s.heap.size, .int (Int32.ofNat N.slots.size)]) (rest := [.ref a]) rfl rfl (by show 2 * 0 + (1 + 0) ≤ _; decide) (hb hbytes d45) (⟨rfl, n1⟩)
  obtain ⟨rfl, q11⟩ := E11
  have hB11 := hB1.mv (X8.warmed.alike.symm.trans X11.warmed.alike) q11
  have c12 : Steps p.tables e below (s₁.setTop (entryFrame m #[.ref a, .ref b, .int (Int32.ofNat o), .int (Int32.ofNat len), .null] 6)) (T11.setTop (mkF m 48 #[.val (.ref a), .val (.ref b), .val (.int (Int32.ofNat o)), .val (.int (Int32.ofNat len)), .val .null, .val (.ref s.heap.size)] [.int 0, .ref a])) := g11
  obtain ⟨T13, X13, p13, bl13, sl13, st13⟩ := X11.finit hexec hown (wk W (.fieldLink "java/lang/String" 15 "java/lang/String" "coder" "B")) (Or.inr ⟨_, (wk W (.laysFinal "java/lang/String" "java/lang/String" "coder" "B"))⟩) (Or.inl ⟨rfl, hnm⟩) f2 (Or.inl rfl) hB11 (t := .byte) (by decide +kernel) rfl (g := (mkF m 48 #[.val (.ref a), .val (.ref b), .val (.int (Int32.ofNat o)), .val (.int (Int32.ofNat len)), .val .null, .val (.ref s.heap.size)] [.int 0, .ref a])) rfl (rest := []) rfl (hb hbytes d48)
  have c14 : Steps p.tables e below (s₁.setTop (entryFrame m #[.ref a, .ref b, .int (Int32.ofNat o), .int (Int32.ofNat len), .null] 6)) (T13.setTop (mkF m 54 #[.val (.ref a), .val (.ref b), .val (.int (Int32.ofNat o)), .val (.int (Int32.ofNat len)), .val .null, .val (.ref s.heap.size)] [.ref s.heap.size, .ref a])) := (c12.trans (st13 _ (Steps.refl _))).trans (by
    refine XS.aloadN X13.here hexec rfl (hb hbytes d51) rfl rfl ?_
    refine XS.aload X13.here hexec rfl (hb hbytes d52) rfl rfl ?_
    exact Steps.refl _)
  obtain ⟨T15, X15, p15, bl15, sl15, st15⟩ := X13.finit hexec hown (wk W (.fieldLink "java/lang/String" 9 "java/lang/String" "value" "[B")) (Or.inr ⟨_, (wk W (.laysFinal "java/lang/String" "java/lang/String" "value" "[B"))⟩) (Or.inl ⟨rfl, hnm⟩) f1 (Or.inl rfl) bl13 (t := (.array .byte)) (by decide +kernel) rfl (g := (mkF m 54 #[.val (.ref a), .val (.ref b), .val (.int (Int32.ofNat o)), .val (.int (Int32.ofNat len)), .val .null, .val (.ref s.heap.size)] [.ref s.heap.size, .ref a])) rfl (rest := []) rfl (hb hbytes d54)
  have c16 : Steps p.tables e below (s₁.setTop (entryFrame m #[.ref a, .ref b, .int (Int32.ofNat o), .int (Int32.ofNat len), .null] 6)) (T15.setTop (mkF m 57 #[.val (.ref a), .val (.ref b), .val (.int (Int32.ofNat o)), .val (.int (Int32.ofNat len)), .val .null, .val (.ref s.heap.size)] [])) := c14.trans (st15 _ (Steps.refl _))
  have ap := apart (Or.inr ⟨_, (wk W (.laysFinal "java/lang/String" "java/lang/String" "value" "[B"))⟩) (Or.inr ⟨_, (wk W (.laysFinal "java/lang/String" "java/lang/String" "coder" "B"))⟩) f1 f2 (t₁ := .array .byte) (t₂ := .byte) (by decide +kernel) (by decide +kernel) (by decide)
  have al := X8.warmed.alike.symm.trans X15.warmed.alike
  have n7 : T11.heap[s.heap.size]? = some N := by rw [q11]; exact n1.1
  exact ⟨T15, none, _, _, _, X15, by simp, rfl, by omega, (fun _ => rfl), ⟨rfl, _, N, bl15, ((Same.refl D _).set _ (by simp)).set _ (by simp), sl15, (Cell.slots_setSlot_ne _ ap).trans sl13, n1.keep al (p15.other hne (p13.other hne n7)), n2, by rw [al.findClass]; exact n3, n4, n5, fun y c h1 h2 => p15.other h1 (p13.other h1 (by rw [q11]; exact n6 y c h2)), by rw [p15.2.2, p13.2.2, q11]; exact z8⟩, fun fs hl => c16.trans (X15.returnOut hexec hret (hb hbytes d57) hl)⟩
end New4
namespace New1
def yN : MethodName := ⟨"java/lang/String", "<init>", "([C)V"⟩
abbrev yB : ByteArray := jdk_42_method_3_code
theorem d0 : decode yB 0 = .ok (.aload_n 0, 1) := by decide +kernel
theorem d1 : decode yB 1 = .ok (.aload_n 1, 1) := by decide +kernel
theorem d2 : decode yB 2 = .ok (.iconst 0, 1) := by decide +kernel
theorem d3 : decode yB 3 = .ok (.aload_n 1, 1) := by decide +kernel
theorem d4 : decode yB 4 = .ok (.arraylength, 1) := by decide +kernel
theorem d5 : decode yB 5 = .ok (.aconst_null, 1) := by decide +kernel
theorem d6 : decode yB 6 = .ok (.invokespecial 27, 3) := by decide +kernel
theorem d9 : decode yB 9 = .ok (.return_, 1) := by decide +kernel
def site : List Cond := [New4.tab] ++ initW "java/lang/String" 27 New4.yN
def tab : Cond := tabOf yN yB 2 none site
def P (a : Addr) (D : Cell) (fV fC : Field) (b : Addr) (A : Cell) (z : Int32) (args : Array Value) (s : State) : Prop := args = #[.ref a, .ref b] ∧ Blank "java/lang/String" a D s ∧ Found "java/lang/String" "value" "[B" fV s ∧ Found "java/lang/String" "coder" "B" fC s ∧ Ch b A s ∧ StaticIs s "java/lang/String" "COMPACT_STRINGS" "Z" (.int z) ∧ ¬ z = 0 ∧ 0 < A.slots.size ∧ A.slots.size ≤ 536870912 ∧ ∀ i, i < A.slots.size → ¬ 255 < cv A i
def E (a : Addr) (D : Cell) (fV fC : Field) (A : Cell) (r : Option Value) (s u : State) : Prop := Got a D fV fC A 0 A.slots.size r s u
/-- new String(chars), not empty, no char above 255: a Latin-1 String of their low bytes -/
theorem law (l : Launch) (a : Addr) (D : Cell) (fV fC : Field) (b : Addr) (A : Cell) (z : Int32) : Law l yN 2 1 3 52 yB 2 none site (P a D fV fC b A z) (E a D fV fC A) [⟨a, fC.slot⟩, ⟨a, fV.slot⟩] 1 A.slots.size := by
  refine Law.of_walk (plainFor_of_name (by decide +kernel)) (by decide +kernel) (by decide +kernel) (by decide) (fun _ _ h => by rw [h.1]; rfl) (fun _ U U' hal hh h => ⟨h.1, h.2.1.mv hal hh, h.2.2.1.al hal, h.2.2.2.1.al hal, h.2.2.2.2.1.mv hal hh, h.2.2.2.2.2.1.there hal hh, h.2.2.2.2.2.2⟩) (fun r U U' V V' h1 hal h2 h => Got.mv r U U' V V' h1 hal h2 h) ?_
  intro p e s m args below meth c s₁ X0 hexec hbytes hml hret hlk hnm hown hh0 W hP
  obtain ⟨rfl, hB, f1, f2, hA, s1, hz, l0, l2, hp⟩ := hP
  have c1 : Steps p.tables e below (s₁.setTop (entryFrame m #[.ref a, .ref b] 2)) (s₁.setTop (mkF m 0 #[.val (.ref a), .val (.ref b)] [])) := entry rfl
  have c2 : Steps p.tables e below (s₁.setTop (entryFrame m #[.ref a, .ref b] 2)) (s₁.setTop (mkF m 6 #[.val (.ref a), .val (.ref b)] [.null, .int (Int32.ofNat A.slots.size), .int 0, .ref b, .ref a])) := c1.trans (by
    refine XS.aloadN X0.here hexec rfl (hb hbytes d0) rfl rfl ?_
    refine XS.aloadN X0.here hexec rfl (hb hbytes d1) rfl rfl ?_
    refine iconstV X0.here hexec rfl 0 (hb hbytes d2) (by decide) ?_
    refine XS.aloadN X0.here hexec rfl (hb hbytes d3) rfl rfl ?_
    refine X0.alen hexec (hA.1.mv X0.warmed.alike hh0) rfl rfl (hb hbytes d4) ?_
    refine XS.aconstNull X0.here hexec rfl (hb hbytes d5) ?_
    exact Steps.refl _)
  obtain ⟨v3, T3, X3, E3, g3⟩ := X0.callN hexec (New4.law l a D fV fC b A z 0 A.slots.size) rfl hown (wks W (initW "java/lang/String" 27 New4.yN)) (W New4.tab (by simp only [site, List.mem_cons, List.mem_append, true_or, or_true])) (W := 0) (Nat.le_of_ble_eq_true rfl) (Nat.le_of_ble_eq_true rfl) (Nat.le_refl _) (by show 0 + A.slots.size ≤ A.slots.size; omega) (g := (mkF m 6 #[.val (.ref a), .val (.ref b)] [.null, .int (Int32.ofNat A.slots.size), .int (Int32.ofNat 0), .ref b, .ref a])) rfl (by rw [hml]; rfl) c2 (argsL := [.ref b, .int (Int32.ofNat 0), .int (Int32.ofNat A.slots.size), .null]) (rest := []) rfl rfl (by show 2 * 0 + 0 ≤ _; decide) (hb hbytes d6) (⟨rfl, hB.mv X0.warmed.alike hh0, f1.al X0.warmed.alike, f2.al X0.warmed.alike, hA.mv X0.warmed.alike hh0, s1.there X0.warmed.alike hh0, hz, l0, by omega, l2, fun i hi => by rw [Nat.zero_add]; exact hp i hi⟩)
  have e0 := Got.mv _ s₁ s _ _ hh0.symm (Vm.Alike.refl _) rfl E3
  obtain rfl := e0.1
  have c4 : Steps p.tables e below (s₁.setTop (entryFrame m #[.ref a, .ref b] 2)) (T3.setTop (mkF m 9 #[.val (.ref a), .val (.ref b)] [])) := g3
  exact ⟨T3, none, _, _, _, X3, by simp, rfl, by omega, (fun _ => rfl), e0, fun fs hl => c4.trans (X3.returnOut hexec hret (hb hbytes d9) hl)⟩
theorem pays {l : Launch} {R : Room} {p : Program} {e : Env} {below : List Frame} {s : State} {sargs : Array Value} {len W : Nat} (a : Addr) (D : Cell) (fV fC : Field) (b : Addr) (A : Cell) (z : Int32) (htab : tab.before sargs s = true) (hfr : 4 ≤ R.frames) (hlo : W + 65 ≤ R.locals) :
    Back l R p e below s sargs yN len W (fun A₁ a₁ => A₁.cells + 1 ≤ R.cells ∧ A₁.slots + A.slots.size ≤ R.slots ∧ P a D fV fC b A z a₁ A₁.U) (fun A₁ _ v₁ B₁ => E a D fV fC A v₁ A₁.U B₁.U ∧ B₁.locs = A₁.locs ++ [⟨a, fC.slot⟩, ⟨a, fV.slot⟩] ∧ B₁.cells = A₁.cells + 1 ∧ B₁.slots = A₁.slots + A.slots.size) :=
  (law l a D fV fC b A z).pays htab hfr (by omega)
end New1
end StrChars
namespace StrChars.Road
open Jvm Sem ClassFile Op Lib Jvm.Stand Jvm.Free Jvm.Free.XT
open Jvm.Lib.Cold (StaticIs)
abbrev ST : String := "java/lang/String"
/-- every table word that New1's law asks, flat -/
abbrev words : List Jvm.Cond := [.code New1.yN New1.yB 2 none, .initialized ST, .methodLink ST 27 New4.yN, .instanceMethod New4.yN,
  .code New4.yN New4.yB 6 none, .fieldLink ST 38 ST "COMPACT_STRINGS" "Z", .laysFinal ST ST "value" "[B", .fieldLink ST 9 ST "value" "[B", .laysFinal ST ST "coder" "B", .fieldLink ST 15 ST "coder" "B",
  .methodLink ST 1 Lib.objectInit, .instanceMethod Lib.objectInit, .code Lib.objectInit ⟨#[0xb1]⟩ 1 none, .methodLink ST 177 Cmp3.yN, .static Cmp3.yN, .methodLink ST 47 CodL.yN, .static CodL.yN,
  .code Cmp3.yN Cmp3.yB 6 (some (.array .byte)), .initialized U16, .arrayClass .byte, .methodLink U16 115 Cmp5.yN, .static Cmp5.yN, .code Cmp5.yN Cmp5.yB 7 (some .int), .code CodL.yN CodL.yB 2 (some .byte)]
theorem tab_of {a : Array Value} {s : State} (h : ∀ w ∈ words, w.before a s = true) : New1.tab.before a s = true := by
  have h5 : Cmp5.tab.before a s = true := unparts (wk h (.code Cmp5.yN Cmp5.yB 7 (some .int))) (wks h (.initialized Cmp5.yN.cls :: Cmp5.site))
  have hc : CodL.tab.before a s = true := unparts (wk h (.code CodL.yN CodL.yB 2 (some .byte))) (wks h (.initialized CodL.yN.cls :: CodL.site))
  have q5 : ∀ w ∈ Cmp5.tab :: words, w.before a s = true := fun w hw => (List.mem_cons.mp hw).elim (fun e => e ▸ h5) (h w)
  have h3 : Cmp3.tab.before a s = true := unparts (wk q5 (.code Cmp3.yN Cmp3.yB 6 (some (.array .byte)))) (wks q5 (.initialized Cmp3.yN.cls :: Cmp3.site))
  have q3 : ∀ w ∈ Cmp3.tab :: CodL.tab :: words, w.before a s = true := fun w hw => (List.mem_cons.mp hw).elim (fun e => e ▸ h3) fun hw => (List.mem_cons.mp hw).elim (fun e => e ▸ hc) (h w)
  have h4 : New4.tab.before a s = true := unparts (wk q3 (.code New4.yN New4.yB 6 none)) (wks q3 (.initialized New4.yN.cls :: New4.site))
  have q4 : ∀ w ∈ New4.tab :: words, w.before a s = true := fun w hw => (List.mem_cons.mp hw).elim (fun e => e ▸ h4) (h w)
  exact unparts (wk q4 (.code New1.yN New1.yB 2 none)) (wks q4 (.initialized New1.yN.cls :: New1.site))
/-- the words ride from the start Z to the walk's own state -/
theorem moved {Z s : State} {a0 args : Array Value} (hZ : Z.Warmed39 s.vm) (hw : ∀ d ∈ words, d.before a0 Z = true) : ∀ d ∈ words, d.before args s = true := fun d hd => by
  have q := hw d hd
  have t : ∀ d ∈ words, d = .arrayClass .byte ∨ (d.onTables && d.keepsFace) = true := by decide +kernel
  rcases t d hd with rfl | t
  · exact RoadKit.mvA hZ q
  · exact RoadKit.mv hZ q t
/-- WHAT COMES BACK, over the tables of the start Z: h the heap at the call, h' behind it -/
def Q (Z : State) (x : Addr) (A : Cell) (h : Heap) (v : Option Value) (h' : Heap) (L : List Loc) : Prop := v = none ∧ (∀ y ∈ L, y.base = x) ∧ RoadKit.Keep h h' [x] ∧ h'.size = h.size + 1 ∧ RoadKit.Exa Z h' x ST ∧ RoadKit.Fld Z h' x ST "value" "[B" (.ref h.size) ∧ RoadKit.Fld Z h' x ST "coder" "B" (.int 0) ∧
  (∃ V : Cell, RoadKit.Arr Z h' h.size V .byte ∧ V.vm = .none ∧ Z.vm.findClass "[B" = some V.cls ∧ V.slots.size = A.slots.size ∧ ∀ j, j < A.slots.size → V.slots[j]? = some (.int (lo8 (cv A j)))) ∧
  ∀ (O n d : String) (w : Value), RoadKit.Fld Z h x O n d w → RoadKit.slotOf Z O n d ≠ RoadKit.slotOf Z ST "value" "[B" → RoadKit.slotOf Z O n d ≠ RoadKit.slotOf Z ST "coder" "B" → RoadKit.Fld Z h' x O n d w
/-- **new String(chars) AT A CALL, IN THE ROAD'S FORM**: for specialBack behind newO: x the fresh String, b the char[] with the cell A -/
theorem back {p : Program} {l : Launch} {e : Env} {R : Room} {s : State} {args : Array Value} {below : List Frame} {len W : Nat} {Z : State} {a0 : Array Value} {h : Heap} (hZ : Z.Warmed39 s.vm) (hw : ∀ d ∈ words, d.before a0 Z = true) {kI : Nat} (wi : (Jvm.Cond.instantiable ST kI).before a0 Z = true)
    {x b : Addr} {A : Cell} {z : Int32} {v0 c0 : Value} (E : RoadKit.Exa Z h x ST) (V : RoadKit.Fld Z h x ST "value" "[B" v0) (C : RoadKit.Fld Z h x ST "coder" "B" c0) (K : RoadKit.Arr Z h b A .char) (hty : Typed .char A) (S : RoadKit.Sta Z h ST "COMPACT_STRINGS" "Z" (.int z)) (hz : ¬ z = 0)
    (l0 : 0 < A.slots.size) (l2 : A.slots.size ≤ 536870912) (hp : ∀ i, i < A.slots.size → ¬ 255 < cv A i) (hfr : 4 ≤ R.frames) (hlo : W + 65 ≤ R.locals) :
    Back l R p e below s args New1.yN len W (fun P a => a = #[.ref x, .ref b] ∧ P.U.heap = h ∧ P.cells + 1 ≤ R.cells ∧ P.slots + A.slots.size ≤ R.slots)
      (fun P _ v B => ∃ L, Q Z x A h v B.U.heap L ∧ B.locs = P.locs ++ L ∧ B.cells = P.cells + 1 ∧ B.slots = P.slots + A.slots.size) := by
  intro m meth c P g ig mk a X hg hsize hdg hW hn hp'
  obtain ⟨rfl, rfl, r1, r2⟩ := hp'
  have al : Z.vm.Alike P.U.vm := hZ.alike.trans X.warmed.alike
  obtain ⟨D, cfV, kV, iV, fV, hD, gV, stV, knV, obV, asV, slV⟩ := id V
  obtain ⟨D', cfC, kC, iC, fC, hD', gC, stC, -, -, asC, slC⟩ := id C
  cases hD.symm.trans hD'
  obtain ⟨D2, kD, e1, e2, e3, e4, e5⟩ := id E
  cases hD.symm.trans e1
  obtain ⟨c2, k2, i1, i2, i3, -⟩ := Cond.instantiable_spec wi
  cases e2.symm.trans i1
  cases e3.symm.trans i2
  obtain ⟨kU, u1, u2⟩ := al.2.2 _ _ e3
  have hB : Blank ST x D P.U := ⟨hD, ⟨knV, fun q hq => by rw [hq] at obV; cases obV⟩, by rw [al.findClass]; exact e2, kU, u1, by rw [u2]; exact i3, by rw [u2]; exact e5 i3⟩
  have F1 : Found ST "value" "[B" fV P.U := ⟨SBG.found_only al ⟨cfV, kV, iV, gV⟩, stV⟩
  have F2 : Found ST "coder" "B" fC P.U := ⟨SBG.found_only al ⟨cfC, kC, iC, gC⟩, stC⟩
  have hA : Ch b A P.U := ⟨⟨K.1, State.isArrayOf_alike al K.2.1, K.2.2, by omega⟩, hty⟩
  have hS : StaticIs P.U ST "COMPACT_STRINGS" "Z" (.int z) := by
    obtain ⟨cfS, iS, kS, fS, st, cS, t1, t2, t3, t4, t5, t6, t7⟩ := S
    exact StaticIs.there (s := { Z with heap := P.U.heap }) ⟨cfS, iS, kS, fS, st, cS, t1, t2, t3, t4, t5, (fun q => by rw [q] at t6; cases t6), t7⟩ al rfl
  obtain ⟨v, B, X', ⟨⟨hv, E', V', q1, q2, q3, q4, q5, q6, q7, q8, q9, q10, q11⟩, hl, hc, hs⟩, st⟩ := New1.pays x D fV fC b A z (tab_of (moved hZ hw)) hfr hlo m meth c P g ig mk _ X hg hsize hdg hW hn ⟨r1, r2, rfl, hB, F1, F2, hA, hS, hz, l0, l2, hp⟩
  have al' : Z.vm.Alike B.U.vm := hZ.alike.trans X'.warmed.alike
  have hsz : E'.slots.size = D.slots.size := by
    obtain ⟨-, -, -, kB, w1, w2, w3⟩ := q1
    obtain ⟨kB', y1, y2⟩ := al'.2.2 _ _ e3
    rw [q2.2.1] at w1
    cases w1.symm.trans y1
    rw [w3, e5 i3, y2]
  refine ⟨v, B, X', ⟨_, ⟨hv, ?_, ⟨by omega, fun y cy hy hn' => q10 y cy (by simpa using hn') hy, fun y cy hy => ?_⟩, q11, ⟨E', _, q1.1, by rw [q2.2.1]; exact e2, by rw [q2.2.1]; exact e3, by rw [q2.1]; exact obV, fun _ => by rw [hsz]; exact e5 i3⟩,
    ⟨E', cfV, kV, iV, fV, q1.1, gV, stV, by rw [q2.1]; exact knV, by rw [q2.1]; exact obV, by rw [q2.2.1]; exact asV, q3⟩, ⟨E', cfC, kC, iC, fC, q1.1, gC, stC, by rw [q2.1]; exact knV, by rw [q2.1]; exact obV, by rw [q2.2.1]; exact asC, q4⟩,
    ⟨V', ⟨q5.1, State.isArrayOf_alike al'.symm q5.2.1, q5.2.2.1⟩, q6, by rw [← al'.findClass]; exact q7, q8, fun j hj => by have := q9 j hj; rwa [Nat.zero_add] at this⟩, fun O n d w F n1 n2 => ?_⟩, hl, hc, hs⟩, st⟩
  · intro y hy
    simp only [List.mem_cons, List.not_mem_nil, or_false] at hy
    rcases hy with rfl | rfl <;> rfl
  · by_cases q : y = x
    · subst q
      cases hD.symm.trans hy
      exact ⟨E', q1.1, q2.2.1, q2.1, hsz⟩
    · exact ⟨cy, q10 y cy q hy, rfl, rfl, rfl⟩
  · obtain ⟨D3, cf, k, i, f, g1, g2, g3, g4, g5, g6, g7⟩ := F
    cases hD.symm.trans g1
    simp only [RoadKit.slotOf, g2, gV, gC, Option.map_some, Option.getD_some] at n1 n2
    exact ⟨E', cf, k, i, f, q1.1, g2, g3, by rw [q2.1]; exact g4, by rw [q2.1]; exact g5, by rw [q2.2.1]; exact g6, by rw [q2.2.2 f.slot (by simp [n1, n2])]; exact g7⟩
end StrChars.Road
namespace StrChars.Road
open Jvm Sem ClassFile Op Lib Jvm.Stand Jvm.Free Jvm.Free.XT
/-- WHAT COMES BACK, the byte[] as a list of values -/
def QA (Z : State) (x : Addr) (zn : Int32) (cs : List Int32) (h : Heap) (v : Option Value) (h' : Heap) (L : List Loc) : Prop := v = none ∧ (∀ y ∈ L, y.base = x) ∧ RoadKit.Keep h h' [x] ∧ h'.size = h.size + 1 ∧ RoadKit.Exa Z h' x ST ∧ RoadKit.Fld Z h' x ST "value" "[B" (.ref h.size) ∧ RoadKit.Fld Z h' x ST "coder" "B" (.int 0) ∧
  (∃ kb, Z.vm.findClass "[B" = some kb ∧ RoadKit.Arv Z h' h.size kb .byte zn (cs.map fun c => .int (lo8 c)) (.int 0)) ∧
  ∀ (O n d : String) (w : Value), RoadKit.Fld Z h x O n d w → RoadKit.slotOf Z O n d ≠ RoadKit.slotOf Z ST "value" "[B" → RoadKit.slotOf Z O n d ≠ RoadKit.slotOf Z ST "coder" "B" → RoadKit.Fld Z h' x O n d w
/-- **new String(chars) AT A CALL, THE ARRAYS AS LISTS**: the char[] at b holds cs, not empty, no char above 255 -/
theorem backArv {p : Program} {l : Launch} {e : Env} {R : Room} {s : State} {args : Array Value} {below : List Frame} {len W : Nat} {Z : State} {a0 : Array Value} {h : Heap} (hZ : Z.Warmed39 s.vm) (hw : ∀ d ∈ words, d.before a0 Z = true) {kI : Nat} (wi : (Jvm.Cond.instantiable ST kI).before a0 Z = true)
    {x b : Addr} {k : ClassId} {zn z : Int32} {cs : List Int32} {dv v0 c0 : Value} (E : RoadKit.Exa Z h x ST) (V : RoadKit.Fld Z h x ST "value" "[B" v0) (C : RoadKit.Fld Z h x ST "coder" "B" c0) (K : RoadKit.Arv Z h b k .char zn (cs.map Value.int) dv) (S : RoadKit.Sta Z h ST "COMPACT_STRINGS" "Z" (.int z)) (hz : ¬ z = 0)
    (hlen : zn.toNatClampNeg = cs.length) (h0 : 0 < cs.length) (hbig : cs.length ≤ 536870912) (hall : ∀ c ∈ cs, ¬ 255 < c) (hfr : 4 ≤ R.frames) (hlo : W + 65 ≤ R.locals) :
    Back l R p e below s args New1.yN len W (fun P a => a = #[.ref x, .ref b] ∧ P.U.heap = h ∧ P.cells + 1 ≤ R.cells ∧ P.slots + cs.length ≤ R.slots)
      (fun P _ v B => ∃ L, QA Z x zn cs h v B.U.heap L ∧ B.locs = P.locs ++ L ∧ B.cells = P.cells + 1 ∧ B.slots = P.slots + cs.length) := by
  obtain ⟨A, K1, K2, K3, K4, K5, K6⟩ := K
  have e : A.slots.size = cs.length := K3.trans hlen
  have hat : ∀ (i : Nat) (hi : i < cs.length), A.slots[i]? = some (.int cs[i]) := fun i hi => by rw [K5 i (by omega)]; simp [List.getD_eq_getElem?_getD, hi]
  have hcv : ∀ (i : Nat) (hi : i < cs.length), cv A i = cs[i] := fun i hi => by unfold cv; rw [hat i hi]
  have hty : Typed .char A := fun i v hv => by
    have hi : i < A.slots.size := (Array.getElem?_eq_some_iff.mp hv).1
    have q := K5 i hi
    rw [hv] at q
    rw [Option.some.inj q]
    exact K6 i hi
  refine Back.mono (back hZ hw wi E V C K1 hty S hz (by omega) (by omega) (fun i hi => by rw [hcv i (by omega)]; exact hall _ (List.getElem_mem _)) hfr hlo) (fun P a hp => ⟨hp.1, hp.2.1, hp.2.2.1, by rw [e]; exact hp.2.2.2⟩) (fun P a v B hp hq => ?_)
  obtain ⟨L, ⟨q1, q2, q3, q4, q5, q6, q7, ⟨V', v1, v2, v3, v4, v5⟩, q9⟩, hl, hc, hs⟩ := hq
  refine ⟨L, ⟨q1, q2, q3, q4, q5, q6, q7, ⟨V'.cls, v3, V', v1, rfl, by rw [v4, e, hlen], K4, fun i hi => ?_, fun i hi => ?_⟩, q9⟩, hl, hc, by rw [hs, e]⟩
  · have hi' : i < cs.length := by omega
    rw [v5 i (by omega), hcv i hi']; simp [List.getD_eq_getElem?_getD, hi']
  · have hi' : i < cs.length := by omega
    simp only [List.getD_eq_getElem?_getD, List.getElem?_map, List.getElem?_eq_getElem hi', Option.map_some, Option.getD_some]
    exact fits_lo8 _
end StrChars.Road
namespace StrChars.Road
open Jvm Sem ClassFile Op Lib Jvm.Stand Jvm.Free Jvm.Free.XT
/-- WHAT COMES BACK, in the writer's own shape -/
def QV (Z : State) (x : Addr) (N : Int32) (bs : List Int32) (h : Heap) (n0 : Nat) (v : Option Value) (h' : Heap) (L : List Loc) : Prop := v = none ∧ RoadKit.Fr n0 L ∧ RoadKit.Keep h h' [x] ∧ RoadKit.Exa Z h' x ST ∧ RoadKit.Fld Z h' x ST "coder" "B" (.int 0) ∧
  ∃ (t : Addr) (kb : ClassId), n0 ≤ t ∧ h.size ≤ t ∧ ¬ t = x ∧ RoadKit.Fld Z h' x ST "value" "[B" (.ref t) ∧ RoadKit.Arv Z h' t kb .byte N (bs.map Value.int) (.int 0)
/-- **new String(chars) AT A CALL, FOR THE WRITER**: a char[] of n known ints, each 0 to 255 -/
theorem backV {p : Program} {l : Launch} {e : Env} {R : Room} {s : State} {args : Array Value} {below : List Frame} {len W : Nat} {Z : State} {a0 : Array Value} {h : Heap} (hZ : Z.Warmed39 s.vm) (hw : ∀ d ∈ words, d.before a0 Z = true) {kI : Nat} (wi : (Jvm.Cond.instantiable ST kI).before a0 Z = true)
    {x b : Addr} {kC : ClassId} {cs bs : List Int32} {d v0 c0 : Value} {z N : Int32} {n n0 : Nat} (hx0 : n0 ≤ x) (hh0 : n0 ≤ h.size) (E : RoadKit.Exa Z h x ST) (V : RoadKit.Fld Z h x ST "value" "[B" v0) (C : RoadKit.Fld Z h x ST "coder" "B" c0) (K : RoadKit.Arv Z h b kC .char N (cs.map Value.int) d) (S : RoadKit.Sta Z h ST "COMPACT_STRINGS" "Z" (.int z)) (hz : ¬ z = 0)
    (hn : cs.length = n) (hN : N = Int32.ofNat n) (l0 : 0 < n) (l2 : n ≤ 4000) (hp : ∀ c ∈ cs, ¬ c < 0 ∧ ¬ (255 : Int32) < c) (hb : bs = cs.map (fun c => c.toInt8.toInt32)) (hfr : 4 ≤ R.frames) (hlo : W + 65 ≤ R.locals) :
    Back l R p e below s args (⟨"java/lang/String", "<init>", "([C)V"⟩ : MethodName) len W (fun P a => a = #[.ref x, .ref b] ∧ P.U.heap = h ∧ P.cells + 1 ≤ R.cells ∧ P.slots + n ≤ R.slots)
      (fun P _ v B => ∃ L, QV Z x N bs h n0 v B.U.heap L ∧ B.locs = P.locs ++ L ∧ B.cells = P.cells + 1 ∧ B.slots = P.slots + n) := by
  subst hn hN hb
  refine Back.mono (backArv hZ hw wi E V C K S hz (n32 (by omega)) l0 (by omega) (fun c hc => (hp c hc).2) hfr hlo) (fun P a hp => hp) (fun P a v B hp hq => ?_)
  obtain ⟨L, ⟨q1, q2, q3, q4, q5, q6, q7, ⟨kb, v1, v2⟩, q9⟩, hl, hc, hs⟩ := hq
  exact ⟨L, ⟨q1, fun y hy => by rw [q2 y hy]; exact hx0, q3, q5, q7, h.size, kb, hh0, Nat.le_refl _, Nat.ne_of_gt E.lt, q6, by rw [List.map_map]; exact v2⟩, hl, hc, hs⟩
end StrChars.Road
end Jvm.Pilot.@@N@@
namespace Jvm.Pilot.@@N@@
open Jvm Jvm.ClassFile Sem Op Lib Jvm.Free Jvm.Stand Jvm.LawKit Jvm.RoadKit Bundle Jvm.Pilot.@@N@@.Jvm.D
theorem ow {Z : State} {a0 : Array Value} (hw : ∀ d ∈ tables_1, d.before a0 Z = true) {i : Nat} {d : Jvm.Cond} (h : tables_1[i]? = some d) : d.before a0 Z = true := hw d (List.mem_of_getElem? h)
theorem oLt {n m : Nat} (h : Nat.blt n m = true) : n < m := by simpa [Nat.blt_eq] using h
theorem oLe {n m : Nat} (h : Nat.ble n m = true) : n ≤ m := Nat.le_of_ble_eq_true h
theorem ogeI (x : Int32) : -2147483648 ≤ x.toInt := by have := Int32.le_toInt x; omega
theorem oltI' (x : Int32) : x.toInt < 2147483648 := by have := Int32.toInt_lt x; omega
theorem ogeL (x : Int64) : -9223372036854775808 ≤ x.toInt := by have := Int64.le_toInt x; omega
theorem oltL' (x : Int64) : x.toInt < 9223372036854775808 := by have := Int64.toInt_lt x; omega
theorem orI (x : Int32) : -2147483648 ≤ x.toInt ∧ x.toInt < 2147483648 := ⟨ogeI x, oltI' x⟩
theorem orL (x : Int64) : -9223372036854775808 ≤ x.toInt ∧ x.toInt < 9223372036854775808 := ⟨ogeL x, oltL' x⟩
theorem oiadd (x y : Int32) : ((x + y).toInt - (x.toInt + y.toInt)) % 4294967296 = 0 ∧ -2147483648 ≤ (x + y).toInt ∧ (x + y).toInt < 2147483648 := ⟨c_iadd x y, orI _⟩
theorem oisub (x y : Int32) : ((x - y).toInt - (x.toInt - y.toInt)) % 4294967296 = 0 ∧ -2147483648 ≤ (x - y).toInt ∧ (x - y).toInt < 2147483648 := ⟨c_isub x y, orI _⟩
theorem oladd (x y : Int64) : ((x + y).toInt - (x.toInt + y.toInt)) % 18446744073709551616 = 0 ∧ -9223372036854775808 ≤ (x + y).toInt ∧ (x + y).toInt < 9223372036854775808 := ⟨c_ladd x y, orL _⟩
theorem olsub (x y : Int64) : ((x - y).toInt - (x.toInt - y.toInt)) % 18446744073709551616 = 0 ∧ -9223372036854775808 ≤ (x - y).toInt ∧ (x - y).toInt < 9223372036854775808 := ⟨c_lsub x y, orL _⟩
theorem oltI {x y : Int32} (h : x < y) : x.toInt < y.toInt := Int32.lt_iff_toInt_lt.mp h
theorem oltL {x y : Int64} (h : x < y) : x.toInt < y.toInt := Int64.lt_iff_toInt_lt.mp h
theorem onltI {x y : Int32} (h : ¬ x < y) : y.toInt ≤ x.toInt := by rw [Int32.lt_iff_toInt_lt] at h; omega
theorem onltL {x y : Int64} (h : ¬ x < y) : y.toInt ≤ x.toInt := by rw [Int64.lt_iff_toInt_lt] at h; omega
theorem oeqI {x y : Int32} (h : x = y) : x.toInt = y.toInt := congrArg _ h
theorem oeqL {x y : Int64} (h : x = y) : x.toInt = y.toInt := congrArg _ h
theorem oneI {x y : Int32} (h : ¬ x = y) : x.toInt ≠ y.toInt := fun q => h (Int32.toInt_inj.mp q)
theorem oneL {x y : Int64} (h : ¬ x = y) : x.toInt ≠ y.toInt := fun q => h (Int64.toInt_inj.mp q)
theorem oltI_i {x y : Int32} (h : x.toInt < y.toInt) : x < y := Int32.lt_iff_toInt_lt.mpr h
theorem oltL_i {x y : Int64} (h : x.toInt < y.toInt) : x < y := Int64.lt_iff_toInt_lt.mpr h
theorem onltI_i {x y : Int32} (h : y.toInt ≤ x.toInt) : ¬ x < y := by rw [Int32.lt_iff_toInt_lt]; omega
theorem onltL_i {x y : Int64} (h : y.toInt ≤ x.toInt) : ¬ x < y := by rw [Int64.lt_iff_toInt_lt]; omega
theorem oeqI_i {x y : Int32} (h : x.toInt = y.toInt) : x = y := Int32.toInt_inj.mp h
theorem oeqL_i {x y : Int64} (h : x.toInt = y.toInt) : x = y := Int64.toInt_inj.mp h
theorem oneI_i {x y : Int32} (h : x.toInt ≠ y.toInt) : ¬ x = y := fun q => h (congrArg _ q)
theorem oneL_i {x y : Int64} (h : x.toInt ≠ y.toInt) : ¬ x = y := fun q => h (congrArg _ q)
theorem otoI {x y : Int32} (h : x.toInt = y.toInt) : x = y := Int32.toInt_inj.mp h
theorem otoL {x y : Int64} (h : x.toInt = y.toInt) : x = y := Int64.toInt_inj.mp h
theorem omaskI (x m : Int32) (k : Nat) (P : Int) (hk : k ≤ 31) (hm : m.toBitVec.toNat = 2 ^ k - 1) (hP : P = ((2 ^ k : Nat) : Int)) : (x &&& m).toInt = x.toInt % P := by rw [hP]; exact c_mask x m k hk hm
theorem omaskL (x m : Int64) (k : Nat) (P : Int) (hk : k ≤ 63) (hm : m.toBitVec.toNat = 2 ^ k - 1) (hP : P = ((2 ^ k : Nat) : Int)) : (x &&& m).toInt = x.toInt % P := by rw [hP]; exact c_maskL x m k hk hm
theorem oandI (x m : Int32) (hm : 0 ≤ m.toInt) : 0 ≤ (x &&& m).toInt ∧ (x &&& m).toInt ≤ m.toInt := c_and x m hm
theorem oishr (x q : Int32) (k : Nat) (P : Int) (hk : q.toBitVec.toNat % 32 = k) (hP : P = ((2 ^ k : Nat) : Int)) : (x >>> (q &&& 31)).toInt = x.toInt / P := by rw [hP]; exact c_ishr x q k hk
theorem oishl (x q : Int32) (k : Nat) (P : Int) (hk : q.toBitVec.toNat % 32 = k) (hP : P = ((2 ^ k : Nat) : Int)) : ((x <<< (q &&& 31)).toInt - x.toInt * P) % 4294967296 = 0 := by rw [hP]; exact c_ishl x q k hk
theorem oiushr (x q : Int32) (k : Nat) (P : Int) (hk : q.toBitVec.toNat % 32 = k) (hP : P = ((2 ^ k : Nat) : Int)) (h0 : 0 < k) : ((x.toUInt32 >>> (q &&& 31).toUInt32).toInt32).toInt = (x.toInt % 4294967296) / P := by rw [hP]; exact c_iushr x q k hk h0
theorem olshr (x : Int64) (q : Int32) (k : Nat) (P : Int) (hk : q.toBitVec.toNat % 64 = k) (hP : P = ((2 ^ k : Nat) : Int)) : (x >>> (q &&& 0x3f).toInt64).toInt = x.toInt / P := by rw [hP]; exact c_lshr x q k hk
theorem olshl (x : Int64) (q : Int32) (k : Nat) (P : Int) (hk : q.toBitVec.toNat % 64 = k) (hP : P = ((2 ^ k : Nat) : Int)) : ((x <<< (q &&& 0x3f).toInt64).toInt - x.toInt * P) % 18446744073709551616 = 0 := by rw [hP]; exact c_lshl x q k hk
theorem olushr (x : Int64) (q : Int32) (k : Nat) (P : Int) (hk : q.toBitVec.toNat % 64 = k) (hP : P = ((2 ^ k : Nat) : Int)) (h0 : 0 < k) : ((x.toUInt64 >>> (q &&& 0x3f).toInt64.toUInt64).toInt64).toInt = (x.toInt % 18446744073709551616) / P := by rw [hP]; exact c_lushr x q k hk h0
theorem oirem (x y : Int32) (d : Int) (hy : y.toInt = d) (h0 : 0 < d) (h1 : y ≠ -1) : (0 ≤ x.toInt → (x % y).toInt = x.toInt % d) ∧ (x.toInt < 0 → (x % y).toInt = -((-x.toInt) % d)) := c_irem x y d hy
theorem olrem (x y : Int64) (d : Int) (hy : y.toInt = d) (h0 : 0 < d) (h1 : y ≠ -1) : (0 ≤ x.toInt → (x - (x / y) * y).toInt = x.toInt % d) ∧ (x.toInt < 0 → (x - (x / y) * y).toInt = -((-x.toInt) % d)) := c_lrem x y d hy
theorem oidiv (x y : Int32) (d : Int) (hy : y.toInt = d) (h0 : 0 < d) (h1 : y ≠ -1) : (0 ≤ x.toInt → (x / y).toInt = x.toInt / d) ∧ (x.toInt < 0 → (x / y).toInt = -((-x.toInt) / d)) := c_idiv x y d hy h1
theorem oldiv (x y : Int64) (d : Int) (hy : y.toInt = d) (h0 : 0 < d) (h1 : y ≠ -1) : (0 ≤ x.toInt → (x / y).toInt = x.toInt / d) ∧ (x.toInt < 0 → (x / y).toInt = -((-x.toInt) / d)) := c_ldiv x y d hy h1
theorem olremV (x y : Int64) : 0 ≤ x.toInt → 0 < y.toInt → 0 ≤ (x - (x / y) * y).toInt ∧ (x - (x / y) * y).toInt < y.toInt ∧ (x - (x / y) * y).toInt ≤ x.toInt := by
  intro h1 h2
  rw [(c_lrem x y y.toInt rfl).1 h1]
  exact ⟨Int.emod_nonneg _ (by omega), Int.emod_lt_of_pos _ h2, by have q1 := Int.mul_ediv_add_emod x.toInt y.toInt; have q2 := Int.mul_nonneg (Int.le_of_lt h2) (Int.ediv_nonneg h1 (Int.le_of_lt h2)); omega⟩
theorem oiremV (x y : Int32) : 0 ≤ x.toInt → 0 < y.toInt → 0 ≤ (x % y).toInt ∧ (x % y).toInt < y.toInt ∧ (x % y).toInt ≤ x.toInt := by
  intro h1 h2
  rw [(c_irem x y y.toInt rfl).1 h1]
  exact ⟨Int.emod_nonneg _ (by omega), Int.emod_lt_of_pos _ h2, by have q1 := Int.mul_ediv_add_emod x.toInt y.toInt; have q2 := Int.mul_nonneg (Int.le_of_lt h2) (Int.ediv_nonneg h1 (Int.le_of_lt h2)); omega⟩
abbrev o0 : Value := .int (0 : Int32)
abbrev oFK : Type := String × String × String
abbrev oD : Type := Sum (FieldType × List Value) (String × List (oFK × Value))
abbrev oA (ty : FieldType) (vs : List Value) : oD := .inl (ty, vs)
abbrev oO (C : String) (fs : List (oFK × Value)) : oD := .inr (C, fs)
abbrev oDs : Type := List (Addr × oD)
def oSl (Z : State) (f : oFK) : Nat := Jvm.RoadKit.slotOf Z f.1 f.2.1 f.2.2
def oIs (Z : State) (h : Heap) (a : Addr) (d : oD) : Prop :=
  match d with
  | .inl x => ∃ c : Cell, Arr Z h a c x.1 ∧ c.slots = x.2.toArray ∧ (∀ C, x.1 = .object C → Ovr Z c.cls C) ∧ Exa Z h a ("[" ++ x.1.toString) ∧ ∀ v ∈ x.2, fits x.1 v = true
  | .inr x => Exa Z h a x.1 ∧ (∀ f ∈ x.2, Fld Z h a f.1.1 f.1.2.1 f.1.2.2 f.2) ∧ x.2.Pairwise (fun f g => oSl Z f.1 ≠ oSl Z g.1)
def oHP (Z : State) (h0 : Heap) (lo : Nat) (h : Heap) (ds : oDs) : Prop := (Ext h0 h ∧ lo ≤ h.size) ∧ (ds.map (·.1)).Nodup ∧ ∀ x ∈ ds, h0.size ≤ x.1 ∧ oIs Z h x.1 x.2
theorem oExt.refl (h : Heap) : Ext h h := ⟨Nat.le_refl _, fun _ _ q => q⟩
theorem oExt.trans {h h' h'' : Heap} (E : Ext h h') (E' : Ext h' h'') : Ext h h'' := ⟨Nat.le_trans E.1 E'.1, fun a c q => E'.2 a c (E.2 a c q)⟩
theorem oHP.nil (Z : State) (h : Heap) : oHP Z h h.size h [] := ⟨⟨oExt.refl h, Nat.le_refl _⟩, List.nodup_nil, fun x hx => nomatch hx⟩
theorem oIs.lt {Z : State} {h : Heap} {a : Addr} {d : oD} (I : oIs Z h a d) : a < h.size := by
  cases d with
  | inl x => obtain ⟨c, A, -⟩ := I; exact A.lt
  | inr x => exact I.1.lt
theorem oIs.ext {Z : State} {h h' : Heap} {a : Addr} {d : oD} (E : Ext h h') (I : oIs Z h a d) : oIs Z h' a d := by
  cases d with
  | inl x => obtain ⟨c, A, r1, r2, r3, r4⟩ := I; exact ⟨c, A.ext E, r1, r2, r3.ext E, r4⟩
  | inr x => exact ⟨I.1.ext E, fun f hf => (I.2.1 f hf).ext E, I.2.2⟩
theorem oIs.other {Z : State} {h h' : Heap} {a b : Addr} {sl : Nat} {v : Value} {d : oD} (W : Wr h h' a sl v) (ne : b ≠ a) (I : oIs Z h b d) : oIs Z h' b d := by
  cases d with
  | inl x => obtain ⟨c, A, r1, r2, r3, r4⟩ := I; exact ⟨c, A.other W ne, r1, r2, r3.wr W, r4⟩
  | inr x => exact ⟨I.1.wr W, fun f hf => (I.2.1 f hf).other W (Or.inl ne), I.2.2⟩
theorem oHP.at {Z : State} {h0 h : Heap} {lo : Nat} {ds : oDs} (H : oHP Z h0 lo h ds) {i : Nat} {a : Addr} {d : oD} (hi : ds[i]? = some (a, d)) : h0.size ≤ a ∧ oIs Z h a d := H.2.2 (a, d) (List.mem_of_getElem? hi)
theorem oHP.more {Z : State} {h0 h h' : Heap} {lo : Nat} {ds : oDs} (H : oHP Z h0 lo h ds) (E : Ext h h') {lo' : Nat} (hlo : lo' ≤ h'.size) : oHP Z h0 lo' h' ds := ⟨⟨oExt.trans H.1.1 E, hlo⟩, H.2.1, fun x hx => ⟨(H.2.2 x hx).1, (H.2.2 x hx).2.ext E⟩⟩
theorem oHP.new {Z : State} {h0 h h' : Heap} {lo : Nat} {ds : oDs} (H : oHP Z h0 lo h ds) (E : Ext h h') {d : oD} (I : oIs Z h' h.size d) : oHP Z h0 lo h' ((h.size, d) :: ds) := by
  refine ⟨⟨oExt.trans H.1.1 E, Nat.le_trans H.1.2 E.1⟩, ?_, ?_⟩
  · rw [List.map_cons, List.nodup_cons]
    refine ⟨fun q => ?_, H.2.1⟩
    obtain ⟨x, hx, e⟩ := List.mem_map.mp q
    exact absurd e (Nat.ne_of_lt (H.2.2 x hx).2.lt)
  · intro x hx
    rcases List.mem_cons.mp hx with rfl | hx
    · exact ⟨H.1.1.1, I⟩
    · exact ⟨(H.2.2 x hx).1, (H.2.2 x hx).2.ext E⟩
theorem oHP.ne {Z : State} {h0 h : Heap} {lo : Nat} {ds : oDs} (H : oHP Z h0 lo h ds) {i j : Nat} {x y : Addr × oD} (hi : ds[i]? = some x) (hj : ds[j]? = some y) (ne : i ≠ j) : x.1 ≠ y.1 := by
  intro q
  have h1 : (ds.map (·.1))[i]? = some x.1 := by rw [List.getElem?_map, hi]; rfl
  have h2 : (ds.map (·.1))[j]? = some x.1 := by rw [List.getElem?_map, hj, q]; rfl
  obtain ⟨l1, e1⟩ := List.getElem?_eq_some_iff.mp h1
  obtain ⟨l2, e2⟩ := List.getElem?_eq_some_iff.mp h2
  have P := List.pairwise_iff_getElem.mp (List.nodup_iff_pairwise_ne.mp H.2.1)
  rcases Nat.lt_or_gt_of_ne ne with r | r
  · exact P i j l1 l2 r (e1.trans e2.symm)
  · exact P j i l2 l1 r (e2.trans e1.symm)
theorem oHP.wr {Z : State} {h0 h h' : Heap} {lo : Nat} {ds : oDs} (H : oHP Z h0 lo h ds) {i : Nat} {a : Addr} {d d' : oD} {sl : Nat} {v : Value} (hi : ds[i]? = some (a, d)) (W : Wr h h' a sl v) (I : oIs Z h' a d') : oHP Z h0 lo h' (ds.set i (a, d')) := by
  have hl : i < ds.length := (List.getElem?_eq_some_iff.mp hi).1
  have ha := (H.at hi).1
  refine ⟨?_, ?_, ?_⟩
  · obtain ⟨cell, w1, w2, w3, w4⟩ := W
    refine ⟨⟨by rw [w4]; simpa using H.1.1.1, fun b cb hb => ?_⟩, by rw [w4]; simpa using H.1.2⟩
    have hb' := H.1.1.2 b cb hb
    have hlt : b < h0.size := (Array.getElem?_eq_some_iff.mp hb).1
    rw [w4, Array.getElem?_setIfInBounds_ne (Nat.ne_of_gt (Nat.lt_of_lt_of_le hlt ha))]
    exact hb'
  · have e : (ds.set i (a, d')).map (·.1) = ds.map (·.1) := by
      rw [List.map_set]
      have h1 : (ds.map (·.1))[i]? = some a := by rw [List.getElem?_map, hi]; rfl
      obtain ⟨l1, e1⟩ := List.getElem?_eq_some_iff.mp h1
      show (ds.map (·.1)).set i a = _
      rw [← e1, List.set_getElem_self]
    rw [e]; exact H.2.1
  · intro x hx
    obtain ⟨j, hj⟩ := List.mem_iff_getElem?.mp hx
    rw [List.getElem?_set] at hj
    by_cases q : i = j
    · rw [if_pos q, if_pos hl] at hj
      cases hj; exact ⟨ha, I⟩
    · rw [if_neg q] at hj
      have ne : x.1 ≠ a := H.ne hj hi (Ne.symm q)
      obtain ⟨g1, g2⟩ := H.2.2 x (List.mem_of_getElem? hj)
      exact ⟨g1, g2.other W ne⟩
def oB (p : Program) (l : Launch) (e : Env) (R : Room) (s : State) (m : MethodId) (args : Array Value) (below : List Frame) (meth : Method) (c : Code) (Z : State) (h0 : Heap) (lo : Nat) (T : State) (cells slots : Nat) (ds : oDs) : Prop :=
  p.tables.exec = Jvm.exec ∧ Z.Warmed39 s.vm ∧ meth.locks = false ∧ ∃ locs, Stand p l e R s m args below meth c T locs cells slots ∧ Fr h0.size locs ∧ oHP Z h0 lo T.heap ds
def oWin (p : Program) (e : Env) (below : List Frame) (Z : State) (h0 : Heap) (Q : Option Value → oDs → Prop) (E : Outcome → State → List Loc → Prop) (S : State) : Prop :=
  ∃ U o, Steps p.tables e below S U ∧ U.status = .running ∧ Ended U below o ∧ ∃ v L, o = .returned v ∧ (Fr h0.size L ∧ ∃ lo ds, oHP Z h0 lo U.heap ds ∧ Q v ds) ∧ E o U L
/-- the end of a walk, said of the walk's start: the plain frame; the wide one (a String constant may have been interned) -/
def oFE (s : State) (lo kc ks : Nat) (o : Outcome) (U : State) (L : List Loc) : Prop := lo ≤ U.heap.size ∧ FrameEnd s o U L kc ks
def oFW (s : State) (kc ks : Nat) (o : Outcome) (U : State) (L : List Loc) : Prop := ReturnedEndW s o U L kc ks
def oMet (l : Launch) (Z : State) (h0 : Heap) (lo : Nat) (y : MethodName) (bytes : ByteArray) (maxL : Nat) (ret : Option FieldType) (ws : List Jvm.Cond) (rm : Room) (as : Array Value) (ds : oDs) (Q : Option Value → oDs → Prop) : Prop :=
  ∀ h, oHP Z h0 lo h ds → MetFree l y (head1 (Jvm.Cond.code y bytes maxL ret :: ws) rm) (fun a U => a = as ∧ Z.Warmed39 U.vm ∧ U.heap = h) (fun _ _ _ _ _ => True) (fun _ U o U' => ∃ v L, o = .returned v ∧ (Fr h0.size L ∧ ∃ ds', oHP Z h0 lo U'.heap ds' ∧ Q v ds') ∧ FrameEnd U o U' L rm.cells rm.slots)
def oMetW (l : Launch) (Z : State) (h0 : Heap) (lo : Nat) (y : MethodName) (bytes : ByteArray) (maxL : Nat) (ret : Option FieldType) (ws : List Jvm.Cond) (rm : Room) (as : Array Value) (ds : oDs) (Q : Option Value → oDs → Prop) : Prop :=
  ∀ h, oHP Z h0 lo h ds → MetFree l y (head1 (Jvm.Cond.code y bytes maxL ret :: ws) rm) (fun a U => a = as ∧ Z.Warmed39 U.vm ∧ U.heap = h) (fun _ _ _ _ _ => True) (fun _ U o U' => ∃ v L, o = .returned v ∧ (Fr h0.size L ∧ ∃ lo' ds', oHP Z h0 lo' U'.heap ds' ∧ Q v ds') ∧ ReturnedEndW U o U' L rm.cells rm.slots)
theorem oMet.of_body {l : Launch} {Z : State} {h0 : Heap} {lo : Nat} {y : MethodName} {bytes : ByteArray} {maxL : Nat} {ret : Option FieldType} {ws : List Jvm.Cond} {rm : Room} {as : Array Value} {ds : oDs} {Q : Option Value → oDs → Prop} (hpl : plainFor y = true)
    (body : ∀ p e s m below meth c T, oB p l e rm s m as below meth c Z h0 lo T 0 0 ds → c.code = bytes → c.maxLocals = maxL → s.vm.findClass y.cls = some m.cls → meth.name = y.name → meth.sig.returnType = ret → oWin p e below Z h0 Q (oFE s lo rm.cells rm.slots) (T.setTop (entryFrame m as maxL))) : oMet l Z h0 lo y bytes maxL ret ws rm as ds Q := by
  intro h hH
  refine MetFree.of_bodySF hpl hisR ?_
  intro p e s m args below meth c s₁ Bd hml hP hK
  obtain ⟨rfl, hZ, hh⟩ := hP
  have e0 : s₁.heap = h := by rw [← hh, Bd.state]; rfl
  obtain ⟨U, o, h1, h2, h3, v, L, h4, ⟨h5, lo', ds', h6, h7⟩, h8, h9⟩ := body p e s m below meth c s₁ ⟨Bd.exec, hZ, Bd.notSynchronized, [], Stand.of_body Bd, Fr.nil _, e0 ▸ hH⟩ Bd.bytes hml (findClass_of_methodNamed Bd.named) (name_of_methodNamed Bd.named Bd.method).1 Bd.returns
  exact ⟨U, o, h1, h2, h3, v, L, h4, ⟨h5, ds', ⟨⟨h6.1.1, h8⟩, h6.2⟩, h7⟩, h9⟩
theorem oMetW.of_body {l : Launch} {Z : State} {h0 : Heap} {lo : Nat} {y : MethodName} {bytes : ByteArray} {maxL : Nat} {ret : Option FieldType} {ws : List Jvm.Cond} {rm : Room} {as : Array Value} {ds : oDs} {Q : Option Value → oDs → Prop} (hpl : plainFor y = true)
    (body : ∀ p e s m below meth c T (vm : Vm), oB p l e rm (s.setVm vm) m as below meth c Z h0 lo T 0 0 ds → s.Since vm lo → c.code = bytes → c.maxLocals = maxL → (s.setVm vm).vm.findClass y.cls = some m.cls → meth.name = y.name → meth.sig.returnType = ret → oWin p e below Z h0 Q (oFW s rm.cells rm.slots) (T.setTop (entryFrame m as maxL))) : oMetW l Z h0 lo y bytes maxL ret ws rm as ds Q := by
  intro h hH
  refine MetFree.of_bodySF hpl hisR ?_
  intro p e s m args below meth c s₁ Bd hml hP hK
  obtain ⟨rfl, hZ, hh⟩ := hP
  have e0 : s₁.heap = h := by rw [← hh, Bd.state]; rfl
  exact body p e s m below meth c s₁ s.vm ⟨Bd.exec, hZ, Bd.notSynchronized, [], Stand.of_body Bd, Fr.nil _, e0 ▸ hH⟩ ((State.WarmedH.refl s).since lo) Bd.bytes hml (findClass_of_methodNamed Bd.named) (name_of_methodNamed Bd.named Bd.method).1 Bd.returns
section Wlaws
variable {p : Program} {l : Launch} {e : Env} {R : Room} {s : State} {m : MethodId} {args : Array Value} {below : List Frame} {meth : Method} {c : Code} {Z : State} {a0 : Array Value} {h0 : Heap} {lo : Nat} {T : State} {cells slots : Nat} {ds ds' : oDs} {Q : Option Value → oDs → Prop} {E : Outcome → State → List Loc → Prop} {kc ks : Nat} {pc pc' : Nat} {ls ls' : Array Slot} {st : List Value}
theorem oWin.step {S S' : State} (w : oWin p e below Z h0 Q E S') (k : ∀ t, Steps p.tables e below S' t → Steps p.tables e below S t) : oWin p e below Z h0 Q E S := by
  obtain ⟨U, o, h1, r⟩ := w; exact ⟨U, o, k _ h1, r⟩
theorem oWin.steps {S S' : State} (w : oWin p e below Z h0 Q E S') (k : Steps p.tables e below S S') : oWin p e below Z h0 Q E S := by
  obtain ⟨U, o, h1, r⟩ := w; exact ⟨U, o, k.trans h1, r⟩
theorem W_entry {as : Array Value} {maxL : Nat} (h : entryFrame m as maxL = mkF m 0 ls []) (w : oWin p e below Z h0 Q E (T.setTop (mkF m 0 ls []))) : oWin p e below Z h0 Q E (T.setTop (entryFrame m as maxL)) := by rw [h]; exact w
theorem W_iload (B : oB p l e R s m args below meth c Z h0 lo T cells slots ds) {i : Nat} {v : Int32} (hd : decode c.code pc = .ok (.iload i, 2)) (hp : pc + 2 = pc') (hl : ls[i]? = some (.val (.int v))) (w : oWin p e below Z h0 Q E (T.setTop (mkF m pc' ls (.int v :: st)))) : oWin p e below Z h0 Q E (T.setTop (mkF m pc ls (st))) := by
  subst hp
  obtain ⟨hx, hZ, hlk, locs, X, N, H⟩ := B
  exact w.step fun t k => XS.iload X.here hx rfl hd hl k
theorem W_iloadN (B : oB p l e R s m args below meth c Z h0 lo T cells slots ds) {i : Fin 4} {v : Int32} (hd : decode c.code pc = .ok (.iload_n i, 1)) (hp : pc + 1 = pc') (hl : ls[i.val]? = some (.val (.int v))) (w : oWin p e below Z h0 Q E (T.setTop (mkF m pc' ls (.int v :: st)))) : oWin p e below Z h0 Q E (T.setTop (mkF m pc ls (st))) := by
  subst hp
  obtain ⟨hx, hZ, hlk, locs, X, N, H⟩ := B
  exact w.step fun t k => XS.iloadN X.here hx rfl hd hl k
theorem W_istore (B : oB p l e R s m args below meth c Z h0 lo T cells slots ds) {i : Nat} {x v : Int32} (hd : decode c.code pc = .ok (.istore i, 2)) (hp : pc + 2 = pc') (hz : x = v) (hl : storeLocals ls i (.int v) = some ls') (w : oWin p e below Z h0 Q E (T.setTop (mkF m pc' ls' (st)))) : oWin p e below Z h0 Q E (T.setTop (mkF m pc ls (.int x :: st))) := by
  subst hp hz
  obtain ⟨hx, hZ, hlk, locs, X, N, H⟩ := B
  exact w.step fun t k => XS.istore X.here hx rfl hd rfl hl k
theorem W_istoreN (B : oB p l e R s m args below meth c Z h0 lo T cells slots ds) {i : Fin 4} {x v : Int32} (hd : decode c.code pc = .ok (.istore_n i, 1)) (hp : pc + 1 = pc') (hz : x = v) (hl : storeLocals ls i.val (.int v) = some ls') (w : oWin p e below Z h0 Q E (T.setTop (mkF m pc' ls' (st)))) : oWin p e below Z h0 Q E (T.setTop (mkF m pc ls (.int x :: st))) := by
  subst hp hz
  obtain ⟨hx, hZ, hlk, locs, X, N, H⟩ := B
  exact w.step fun t k => XS.istoreN X.here hx rfl hd rfl hl k
theorem W_iadd (B : oB p l e R s m args below meth c Z h0 lo T cells slots ds) {x y z : Int32} (hd : decode c.code pc = .ok (.iadd, 1)) (hp : pc + 1 = pc') (hz : x + y = z) (w : oWin p e below Z h0 Q E (T.setTop (mkF m pc' ls (.int z :: st)))) : oWin p e below Z h0 Q E (T.setTop (mkF m pc ls (.int y :: .int x :: st))) := by
  subst hp hz
  obtain ⟨hx, hZ, hlk, locs, X, N, H⟩ := B
  exact w.step fun t k => XS.iadd X.here hx rfl hd rfl k
theorem W_isub (B : oB p l e R s m args below meth c Z h0 lo T cells slots ds) {x y z : Int32} (hd : decode c.code pc = .ok (.isub, 1)) (hp : pc + 1 = pc') (hz : x - y = z) (w : oWin p e below Z h0 Q E (T.setTop (mkF m pc' ls (.int z :: st)))) : oWin p e below Z h0 Q E (T.setTop (mkF m pc ls (.int y :: .int x :: st))) := by
  subst hp hz
  obtain ⟨hx, hZ, hlk, locs, X, N, H⟩ := B
  exact w.step fun t k => XS.isub X.here hx rfl hd rfl k
theorem W_imul (B : oB p l e R s m args below meth c Z h0 lo T cells slots ds) {x y z : Int32} (hd : decode c.code pc = .ok (.imul, 1)) (hp : pc + 1 = pc') (hz : x * y = z) (w : oWin p e below Z h0 Q E (T.setTop (mkF m pc' ls (.int z :: st)))) : oWin p e below Z h0 Q E (T.setTop (mkF m pc ls (.int y :: .int x :: st))) := by
  subst hp hz
  obtain ⟨hx, hZ, hlk, locs, X, N, H⟩ := B
  exact w.step fun t k => XS.imul X.here hx rfl hd rfl k
theorem W_iand (B : oB p l e R s m args below meth c Z h0 lo T cells slots ds) {x y z : Int32} (hd : decode c.code pc = .ok (.iand, 1)) (hp : pc + 1 = pc') (hz : x &&& y = z) (w : oWin p e below Z h0 Q E (T.setTop (mkF m pc' ls (.int z :: st)))) : oWin p e below Z h0 Q E (T.setTop (mkF m pc ls (.int y :: .int x :: st))) := by
  subst hp hz
  obtain ⟨hx, hZ, hlk, locs, X, N, H⟩ := B
  exact w.step fun t k => XS.iand X.here hx rfl hd rfl k
theorem W_ior (B : oB p l e R s m args below meth c Z h0 lo T cells slots ds) {x y z : Int32} (hd : decode c.code pc = .ok (.ior, 1)) (hp : pc + 1 = pc') (hz : x ||| y = z) (w : oWin p e below Z h0 Q E (T.setTop (mkF m pc' ls (.int z :: st)))) : oWin p e below Z h0 Q E (T.setTop (mkF m pc ls (.int y :: .int x :: st))) := by
  subst hp hz
  obtain ⟨hx, hZ, hlk, locs, X, N, H⟩ := B
  exact w.step fun t k => XS.ior X.here hx rfl hd rfl k
theorem W_ixor (B : oB p l e R s m args below meth c Z h0 lo T cells slots ds) {x y z : Int32} (hd : decode c.code pc = .ok (.ixor, 1)) (hp : pc + 1 = pc') (hz : x ^^^ y = z) (w : oWin p e below Z h0 Q E (T.setTop (mkF m pc' ls (.int z :: st)))) : oWin p e below Z h0 Q E (T.setTop (mkF m pc ls (.int y :: .int x :: st))) := by
  subst hp hz
  obtain ⟨hx, hZ, hlk, locs, X, N, H⟩ := B
  exact w.step fun t k => XS.ixor X.here hx rfl hd rfl k
theorem W_ineg (B : oB p l e R s m args below meth c Z h0 lo T cells slots ds) {x z : Int32} (hd : decode c.code pc = .ok (.ineg, 1)) (hp : pc + 1 = pc') (hz : -x = z) (w : oWin p e below Z h0 Q E (T.setTop (mkF m pc' ls (.int z :: st)))) : oWin p e below Z h0 Q E (T.setTop (mkF m pc ls (.int x :: st))) := by
  subst hp hz
  obtain ⟨hx, hZ, hlk, locs, X, N, H⟩ := B
  exact w.step fun t k => XS.ineg X.here hx rfl hd rfl k
theorem W_idiv (B : oB p l e R s m args below meth c Z h0 lo T cells slots ds) {x y z : Int32} (hd : decode c.code pc = .ok (.idiv, 1)) (hp : pc + 1 = pc') (hy : y ≠ 0) (hz : x / y = z) (w : oWin p e below Z h0 Q E (T.setTop (mkF m pc' ls (.int z :: st)))) : oWin p e below Z h0 Q E (T.setTop (mkF m pc ls (.int y :: .int x :: st))) := by
  subst hp hz
  obtain ⟨hx, hZ, hlk, locs, X, N, H⟩ := B
  exact w.step fun t k => XS.idiv X.here hx rfl hd rfl hy k
theorem W_lload (B : oB p l e R s m args below meth c Z h0 lo T cells slots ds) {i : Nat} {v : Int64} (hd : decode c.code pc = .ok (.lload i, 2)) (hp : pc + 2 = pc') (hl : ls[i]? = some (.val (.long v))) (w : oWin p e below Z h0 Q E (T.setTop (mkF m pc' ls (.long v :: st)))) : oWin p e below Z h0 Q E (T.setTop (mkF m pc ls (st))) := by
  subst hp
  obtain ⟨hx, hZ, hlk, locs, X, N, H⟩ := B
  exact w.step fun t k => XS.lload X.here hx rfl hd hl k
theorem W_lloadN (B : oB p l e R s m args below meth c Z h0 lo T cells slots ds) {i : Fin 4} {v : Int64} (hd : decode c.code pc = .ok (.lload_n i, 1)) (hp : pc + 1 = pc') (hl : ls[i.val]? = some (.val (.long v))) (w : oWin p e below Z h0 Q E (T.setTop (mkF m pc' ls (.long v :: st)))) : oWin p e below Z h0 Q E (T.setTop (mkF m pc ls (st))) := by
  subst hp
  obtain ⟨hx, hZ, hlk, locs, X, N, H⟩ := B
  exact w.step fun t k => XS.lloadN X.here hx rfl hd hl k
theorem W_lstore (B : oB p l e R s m args below meth c Z h0 lo T cells slots ds) {i : Nat} {x v : Int64} (hd : decode c.code pc = .ok (.lstore i, 2)) (hp : pc + 2 = pc') (hz : x = v) (hl : storeLocals ls i (.long v) = some ls') (w : oWin p e below Z h0 Q E (T.setTop (mkF m pc' ls' (st)))) : oWin p e below Z h0 Q E (T.setTop (mkF m pc ls (.long x :: st))) := by
  subst hp hz
  obtain ⟨hx, hZ, hlk, locs, X, N, H⟩ := B
  exact w.step fun t k => XS.lstore X.here hx rfl hd rfl hl k
theorem W_lstoreN (B : oB p l e R s m args below meth c Z h0 lo T cells slots ds) {i : Fin 4} {x v : Int64} (hd : decode c.code pc = .ok (.lstore_n i, 1)) (hp : pc + 1 = pc') (hz : x = v) (hl : storeLocals ls i.val (.long v) = some ls') (w : oWin p e below Z h0 Q E (T.setTop (mkF m pc' ls' (st)))) : oWin p e below Z h0 Q E (T.setTop (mkF m pc ls (.long x :: st))) := by
  subst hp hz
  obtain ⟨hx, hZ, hlk, locs, X, N, H⟩ := B
  exact w.step fun t k => XS.lstoreN X.here hx rfl hd rfl hl k
theorem W_ladd (B : oB p l e R s m args below meth c Z h0 lo T cells slots ds) {x y z : Int64} (hd : decode c.code pc = .ok (.ladd, 1)) (hp : pc + 1 = pc') (hz : x + y = z) (w : oWin p e below Z h0 Q E (T.setTop (mkF m pc' ls (.long z :: st)))) : oWin p e below Z h0 Q E (T.setTop (mkF m pc ls (.long y :: .long x :: st))) := by
  subst hp hz
  obtain ⟨hx, hZ, hlk, locs, X, N, H⟩ := B
  exact w.step fun t k => XS.ladd X.here hx rfl hd rfl k
theorem W_lsub (B : oB p l e R s m args below meth c Z h0 lo T cells slots ds) {x y z : Int64} (hd : decode c.code pc = .ok (.lsub, 1)) (hp : pc + 1 = pc') (hz : x - y = z) (w : oWin p e below Z h0 Q E (T.setTop (mkF m pc' ls (.long z :: st)))) : oWin p e below Z h0 Q E (T.setTop (mkF m pc ls (.long y :: .long x :: st))) := by
  subst hp hz
  obtain ⟨hx, hZ, hlk, locs, X, N, H⟩ := B
  exact w.step fun t k => XS.lsub X.here hx rfl hd rfl k
theorem W_lmul (B : oB p l e R s m args below meth c Z h0 lo T cells slots ds) {x y z : Int64} (hd : decode c.code pc = .ok (.lmul, 1)) (hp : pc + 1 = pc') (hz : x * y = z) (w : oWin p e below Z h0 Q E (T.setTop (mkF m pc' ls (.long z :: st)))) : oWin p e below Z h0 Q E (T.setTop (mkF m pc ls (.long y :: .long x :: st))) := by
  subst hp hz
  obtain ⟨hx, hZ, hlk, locs, X, N, H⟩ := B
  exact w.step fun t k => XS.lmul X.here hx rfl hd rfl k
theorem W_land (B : oB p l e R s m args below meth c Z h0 lo T cells slots ds) {x y z : Int64} (hd : decode c.code pc = .ok (.land, 1)) (hp : pc + 1 = pc') (hz : x &&& y = z) (w : oWin p e below Z h0 Q E (T.setTop (mkF m pc' ls (.long z :: st)))) : oWin p e below Z h0 Q E (T.setTop (mkF m pc ls (.long y :: .long x :: st))) := by
  subst hp hz
  obtain ⟨hx, hZ, hlk, locs, X, N, H⟩ := B
  exact w.step fun t k => XS.land X.here hx rfl hd rfl k
theorem W_lor (B : oB p l e R s m args below meth c Z h0 lo T cells slots ds) {x y z : Int64} (hd : decode c.code pc = .ok (.lor, 1)) (hp : pc + 1 = pc') (hz : x ||| y = z) (w : oWin p e below Z h0 Q E (T.setTop (mkF m pc' ls (.long z :: st)))) : oWin p e below Z h0 Q E (T.setTop (mkF m pc ls (.long y :: .long x :: st))) := by
  subst hp hz
  obtain ⟨hx, hZ, hlk, locs, X, N, H⟩ := B
  exact w.step fun t k => XS.lor X.here hx rfl hd rfl k
theorem W_lxor (B : oB p l e R s m args below meth c Z h0 lo T cells slots ds) {x y z : Int64} (hd : decode c.code pc = .ok (.lxor, 1)) (hp : pc + 1 = pc') (hz : x ^^^ y = z) (w : oWin p e below Z h0 Q E (T.setTop (mkF m pc' ls (.long z :: st)))) : oWin p e below Z h0 Q E (T.setTop (mkF m pc ls (.long y :: .long x :: st))) := by
  subst hp hz
  obtain ⟨hx, hZ, hlk, locs, X, N, H⟩ := B
  exact w.step fun t k => XS.lxor X.here hx rfl hd rfl k
theorem W_lneg (B : oB p l e R s m args below meth c Z h0 lo T cells slots ds) {x z : Int64} (hd : decode c.code pc = .ok (.lneg, 1)) (hp : pc + 1 = pc') (hz : -x = z) (w : oWin p e below Z h0 Q E (T.setTop (mkF m pc' ls (.long z :: st)))) : oWin p e below Z h0 Q E (T.setTop (mkF m pc ls (.long x :: st))) := by
  subst hp hz
  obtain ⟨hx, hZ, hlk, locs, X, N, H⟩ := B
  exact w.step fun t k => XS.lneg X.here hx rfl hd rfl k
theorem W_ldiv (B : oB p l e R s m args below meth c Z h0 lo T cells slots ds) {x y z : Int64} (hd : decode c.code pc = .ok (.ldiv, 1)) (hp : pc + 1 = pc') (hy : y ≠ 0) (hz : x / y = z) (w : oWin p e below Z h0 Q E (T.setTop (mkF m pc' ls (.long z :: st)))) : oWin p e below Z h0 Q E (T.setTop (mkF m pc ls (.long y :: .long x :: st))) := by
  subst hp hz
  obtain ⟨hx, hZ, hlk, locs, X, N, H⟩ := B
  exact w.step fun t k => XS.ldiv X.here hx rfl hd rfl hy k
theorem W_irem (B : oB p l e R s m args below meth c Z h0 lo T cells slots ds) {x y z : Int32} (hd : decode c.code pc = .ok (.irem, 1)) (hp : pc + 1 = pc') (hy : y ≠ 0) (hz : x % y = z) (w : oWin p e below Z h0 Q E (T.setTop (mkF m pc' ls (.int z :: st)))) : oWin p e below Z h0 Q E (T.setTop (mkF m pc ls (.int y :: .int x :: st))) := by
  subst hp hz
  obtain ⟨hx, hZ, hlk, locs, X, N, H⟩ := B
  exact w.step fun t k => iremM X hx rfl hd rfl hy k
theorem W_lrem (B : oB p l e R s m args below meth c Z h0 lo T cells slots ds) {x y z : Int64} (hd : decode c.code pc = .ok (.lrem, 1)) (hp : pc + 1 = pc') (hy : y ≠ 0) (hz : x - (x / y) * y = z) (w : oWin p e below Z h0 Q E (T.setTop (mkF m pc' ls (.long z :: st)))) : oWin p e below Z h0 Q E (T.setTop (mkF m pc ls (.long y :: .long x :: st))) := by
  subst hp hz
  obtain ⟨hx, hZ, hlk, locs, X, N, H⟩ := B
  exact w.step fun t k => XS.lrem X.here hx rfl hd rfl hy k
theorem W_ishl (B : oB p l e R s m args below meth c Z h0 lo T cells slots ds) {x y z : Int32} (hd : decode c.code pc = .ok (.ishl, 1)) (hp : pc + 1 = pc') (hz : x <<< (y &&& 31) = z) (w : oWin p e below Z h0 Q E (T.setTop (mkF m pc' ls (.int z :: st)))) : oWin p e below Z h0 Q E (T.setTop (mkF m pc ls (.int y :: .int x :: st))) := by
  subst hp hz
  obtain ⟨hx, hZ, hlk, locs, X, N, H⟩ := B
  exact w.step fun t k => XS.ishl X.here hx rfl hd rfl k
theorem W_ishr (B : oB p l e R s m args below meth c Z h0 lo T cells slots ds) {x y z : Int32} (hd : decode c.code pc = .ok (.ishr, 1)) (hp : pc + 1 = pc') (hz : x >>> (y &&& 31) = z) (w : oWin p e below Z h0 Q E (T.setTop (mkF m pc' ls (.int z :: st)))) : oWin p e below Z h0 Q E (T.setTop (mkF m pc ls (.int y :: .int x :: st))) := by
  subst hp hz
  obtain ⟨hx, hZ, hlk, locs, X, N, H⟩ := B
  exact w.step fun t k => XS.ishr X.here hx rfl hd rfl k
theorem W_iushr (B : oB p l e R s m args below meth c Z h0 lo T cells slots ds) {x y z : Int32} (hd : decode c.code pc = .ok (.iushr, 1)) (hp : pc + 1 = pc') (hz : (x.toUInt32 >>> (y &&& 31).toUInt32).toInt32 = z) (w : oWin p e below Z h0 Q E (T.setTop (mkF m pc' ls (.int z :: st)))) : oWin p e below Z h0 Q E (T.setTop (mkF m pc ls (.int y :: .int x :: st))) := by
  subst hp hz
  obtain ⟨hx, hZ, hlk, locs, X, N, H⟩ := B
  exact w.step fun t k => XS.iushr X.here hx rfl hd rfl k
theorem W_lshl (B : oB p l e R s m args below meth c Z h0 lo T cells slots ds) {x : Int64} {y : Int32} {z : Int64} (hd : decode c.code pc = .ok (.lshl, 1)) (hp : pc + 1 = pc') (hz : x <<< (y &&& 0x3f).toInt64 = z) (w : oWin p e below Z h0 Q E (T.setTop (mkF m pc' ls (.long z :: st)))) : oWin p e below Z h0 Q E (T.setTop (mkF m pc ls (.int y :: .long x :: st))) := by
  subst hp hz
  obtain ⟨hx, hZ, hlk, locs, X, N, H⟩ := B
  exact w.step fun t k => XS.lshl X.here hx rfl hd rfl k
theorem W_lshr (B : oB p l e R s m args below meth c Z h0 lo T cells slots ds) {x : Int64} {y : Int32} {z : Int64} (hd : decode c.code pc = .ok (.lshr, 1)) (hp : pc + 1 = pc') (hz : x >>> (y &&& 0x3f).toInt64 = z) (w : oWin p e below Z h0 Q E (T.setTop (mkF m pc' ls (.long z :: st)))) : oWin p e below Z h0 Q E (T.setTop (mkF m pc ls (.int y :: .long x :: st))) := by
  subst hp hz
  obtain ⟨hx, hZ, hlk, locs, X, N, H⟩ := B
  exact w.step fun t k => XS.lshr X.here hx rfl hd rfl k
theorem W_lushr (B : oB p l e R s m args below meth c Z h0 lo T cells slots ds) {x : Int64} {y : Int32} {z : Int64} (hd : decode c.code pc = .ok (.lushr, 1)) (hp : pc + 1 = pc') (hz : (x.toUInt64 >>> (y &&& 0x3f).toInt64.toUInt64).toInt64 = z) (w : oWin p e below Z h0 Q E (T.setTop (mkF m pc' ls (.long z :: st)))) : oWin p e below Z h0 Q E (T.setTop (mkF m pc ls (.int y :: .long x :: st))) := by
  subst hp hz
  obtain ⟨hx, hZ, hlk, locs, X, N, H⟩ := B
  exact w.step fun t k => XS.lushr X.here hx rfl hd rfl k
theorem W_i2b (B : oB p l e R s m args below meth c Z h0 lo T cells slots ds) {x : Int32} {z : Int32} (hd : decode c.code pc = .ok (.i2b, 1)) (hp : pc + 1 = pc') (hz : x.toInt8.toInt32 = z) (w : oWin p e below Z h0 Q E (T.setTop (mkF m pc' ls (.int z :: st)))) : oWin p e below Z h0 Q E (T.setTop (mkF m pc ls (.int x :: st))) := by
  subst hp hz
  obtain ⟨hx, hZ, hlk, locs, X, N, H⟩ := B
  exact w.step fun t k => XS.i2b X.here hx rfl hd rfl k
theorem W_i2c (B : oB p l e R s m args below meth c Z h0 lo T cells slots ds) {x : Int32} {z : Int32} (hd : decode c.code pc = .ok (.i2c, 1)) (hp : pc + 1 = pc') (hz : x.toUInt32.toUInt16.toUInt32.toInt32 = z) (w : oWin p e below Z h0 Q E (T.setTop (mkF m pc' ls (.int z :: st)))) : oWin p e below Z h0 Q E (T.setTop (mkF m pc ls (.int x :: st))) := by
  subst hp hz
  obtain ⟨hx, hZ, hlk, locs, X, N, H⟩ := B
  exact w.step fun t k => XS.i2c X.here hx rfl hd rfl k
theorem W_i2s (B : oB p l e R s m args below meth c Z h0 lo T cells slots ds) {x : Int32} {z : Int32} (hd : decode c.code pc = .ok (.i2s, 1)) (hp : pc + 1 = pc') (hz : x.toInt16.toInt32 = z) (w : oWin p e below Z h0 Q E (T.setTop (mkF m pc' ls (.int z :: st)))) : oWin p e below Z h0 Q E (T.setTop (mkF m pc ls (.int x :: st))) := by
  subst hp hz
  obtain ⟨hx, hZ, hlk, locs, X, N, H⟩ := B
  exact w.step fun t k => XS.i2s X.here hx rfl hd rfl k
theorem W_i2l (B : oB p l e R s m args below meth c Z h0 lo T cells slots ds) {x : Int32} {z : Int64} (hd : decode c.code pc = .ok (.i2l, 1)) (hp : pc + 1 = pc') (hz : x.toInt64 = z) (w : oWin p e below Z h0 Q E (T.setTop (mkF m pc' ls (.long z :: st)))) : oWin p e below Z h0 Q E (T.setTop (mkF m pc ls (.int x :: st))) := by
  subst hp hz
  obtain ⟨hx, hZ, hlk, locs, X, N, H⟩ := B
  exact w.step fun t k => XS.i2l X.here hx rfl hd rfl k
theorem W_l2i (B : oB p l e R s m args below meth c Z h0 lo T cells slots ds) {x : Int64} {z : Int32} (hd : decode c.code pc = .ok (.l2i, 1)) (hp : pc + 1 = pc') (hz : x.toInt32 = z) (w : oWin p e below Z h0 Q E (T.setTop (mkF m pc' ls (.int z :: st)))) : oWin p e below Z h0 Q E (T.setTop (mkF m pc ls (.long x :: st))) := by
  subst hp hz
  obtain ⟨hx, hZ, hlk, locs, X, N, H⟩ := B
  exact w.step fun t k => XS.l2i X.here hx rfl hd rfl k
theorem W_iconst (B : oB p l e R s m args below meth c Z h0 lo T cells slots ds) {i : Int} {z : Int32} (hd : decode c.code pc = .ok (.iconst i, 1)) (hp : pc + 1 = pc') (hz : Int32.ofInt i = z) (w : oWin p e below Z h0 Q E (T.setTop (mkF m pc' ls (.int z :: st)))) : oWin p e below Z h0 Q E (T.setTop (mkF m pc ls (st))) := by
  subst hp hz
  obtain ⟨hx, hZ, hlk, locs, X, N, H⟩ := B
  exact w.step fun t k => XS.iconst X.here hx rfl hd k
theorem W_bipush (B : oB p l e R s m args below meth c Z h0 lo T cells slots ds) {i : Int} {z : Int32} (hd : decode c.code pc = .ok (.bipush i, 2)) (hp : pc + 2 = pc') (hz : (Int8.ofInt i).toInt32 = z) (w : oWin p e below Z h0 Q E (T.setTop (mkF m pc' ls (.int z :: st)))) : oWin p e below Z h0 Q E (T.setTop (mkF m pc ls (st))) := by
  subst hp hz
  obtain ⟨hx, hZ, hlk, locs, X, N, H⟩ := B
  exact w.step fun t k => XS.bipush X.here hx rfl hd k
theorem W_sipush (B : oB p l e R s m args below meth c Z h0 lo T cells slots ds) {i : Int} {z : Int32} (hd : decode c.code pc = .ok (.sipush i, 3)) (hp : pc + 3 = pc') (hz : (Int16.ofInt i).toInt32 = z) (w : oWin p e below Z h0 Q E (T.setTop (mkF m pc' ls (.int z :: st)))) : oWin p e below Z h0 Q E (T.setTop (mkF m pc ls (st))) := by
  subst hp hz
  obtain ⟨hx, hZ, hlk, locs, X, N, H⟩ := B
  exact w.step fun t k => XS.sipush X.here hx rfl hd k
theorem W_lconst (B : oB p l e R s m args below meth c Z h0 lo T cells slots ds) {i : Fin 2} {z : Int64} (hd : decode c.code pc = .ok (.lconst i, 1)) (hp : pc + 1 = pc') (hz : Int64.ofNat i = z) (w : oWin p e below Z h0 Q E (T.setTop (mkF m pc' ls (.long z :: st)))) : oWin p e below Z h0 Q E (T.setTop (mkF m pc ls (st))) := by
  subst hp hz
  obtain ⟨hx, hZ, hlk, locs, X, N, H⟩ := B
  exact w.step fun t k => XS.lconst X.here hx rfl hd k
theorem W_aconstNull (B : oB p l e R s m args below meth c Z h0 lo T cells slots ds)  (hd : decode c.code pc = .ok (.aconst_null, 1)) (hp : pc + 1 = pc')  (w : oWin p e below Z h0 Q E (T.setTop (mkF m pc' ls (.null :: st)))) : oWin p e below Z h0 Q E (T.setTop (mkF m pc ls (st))) := by
  subst hp
  obtain ⟨hx, hZ, hlk, locs, X, N, H⟩ := B
  exact w.step fun t k => XS.aconstNull X.here hx rfl hd k
theorem W_aload (B : oB p l e R s m args below meth c Z h0 lo T cells slots ds) {i : Nat} {v : Value} (hd : decode c.code pc = .ok (.aload i, 2)) (hp : pc + 2 = pc') (hl : ls[i]? = some (.val v)) (hv : v.isRef = true) (w : oWin p e below Z h0 Q E (T.setTop (mkF m pc' ls (v :: st)))) : oWin p e below Z h0 Q E (T.setTop (mkF m pc ls (st))) := by
  subst hp
  obtain ⟨hx, hZ, hlk, locs, X, N, H⟩ := B
  exact w.step fun t k => XS.aload X.here hx rfl hd hl hv k
theorem W_aloadN (B : oB p l e R s m args below meth c Z h0 lo T cells slots ds) {i : Fin 4} {v : Value} (hd : decode c.code pc = .ok (.aload_n i, 1)) (hp : pc + 1 = pc') (hl : ls[i.val]? = some (.val v)) (hv : v.isRef = true) (w : oWin p e below Z h0 Q E (T.setTop (mkF m pc' ls (v :: st)))) : oWin p e below Z h0 Q E (T.setTop (mkF m pc ls (st))) := by
  subst hp
  obtain ⟨hx, hZ, hlk, locs, X, N, H⟩ := B
  exact w.step fun t k => XS.aloadN X.here hx rfl hd hl hv k
theorem W_astore (B : oB p l e R s m args below meth c Z h0 lo T cells slots ds) {i : Nat} {x : Value} (hd : decode c.code pc = .ok (.astore i, 2)) (hp : pc + 2 = pc') (hv : x.isRef = true) (hl : storeLocals ls i x = some ls') (w : oWin p e below Z h0 Q E (T.setTop (mkF m pc' ls' (st)))) : oWin p e below Z h0 Q E (T.setTop (mkF m pc ls (x :: st))) := by
  subst hp
  obtain ⟨hx, hZ, hlk, locs, X, N, H⟩ := B
  exact w.step fun t k => XS.astore X.here hx rfl hd rfl hv hl k
theorem W_astoreN (B : oB p l e R s m args below meth c Z h0 lo T cells slots ds) {i : Fin 4} {x : Value} (hd : decode c.code pc = .ok (.astore_n i, 1)) (hp : pc + 1 = pc') (hv : x.isRef = true) (hl : storeLocals ls i.val x = some ls') (w : oWin p e below Z h0 Q E (T.setTop (mkF m pc' ls' (st)))) : oWin p e below Z h0 Q E (T.setTop (mkF m pc ls (x :: st))) := by
  subst hp
  obtain ⟨hx, hZ, hlk, locs, X, N, H⟩ := B
  exact w.step fun t k => XS.astoreN X.here hx rfl hd rfl hv hl k
theorem W_dup (B : oB p l e R s m args below meth c Z h0 lo T cells slots ds) {x : Value} (hd : decode c.code pc = .ok (.dup, 1)) (hp : pc + 1 = pc') (hc : x.category = 1) (w : oWin p e below Z h0 Q E (T.setTop (mkF m pc' ls (x :: x :: st)))) : oWin p e below Z h0 Q E (T.setTop (mkF m pc ls (x :: st))) := by
  subst hp
  obtain ⟨hx, hZ, hlk, locs, X, N, H⟩ := B
  exact w.step fun t k => XS.dup X.here hx rfl hd rfl hc k
theorem W_pop (B : oB p l e R s m args below meth c Z h0 lo T cells slots ds) {x : Value} (hd : decode c.code pc = .ok (.pop, 1)) (hp : pc + 1 = pc') (hc : x.category = 1) (w : oWin p e below Z h0 Q E (T.setTop (mkF m pc' ls (st)))) : oWin p e below Z h0 Q E (T.setTop (mkF m pc ls (x :: st))) := by
  subst hp
  obtain ⟨hx, hZ, hlk, locs, X, N, H⟩ := B
  exact w.step fun t k => XS.pop X.here hx rfl hd rfl hc k
theorem W_dupX1 (B : oB p l e R s m args below meth c Z h0 lo T cells slots ds) {x y : Value} (hd : decode c.code pc = .ok (.dup_x1, 1)) (hp : pc + 1 = pc') (hc : x.category = 1) (hc2 : y.category = 1) (w : oWin p e below Z h0 Q E (T.setTop (mkF m pc' ls (x :: y :: x :: st)))) : oWin p e below Z h0 Q E (T.setTop (mkF m pc ls (x :: y :: st))) := by
  subst hp
  obtain ⟨hx, hZ, hlk, locs, X, N, H⟩ := B
  exact w.step fun t k => XS.dupX1 X.here hx rfl hd rfl hc hc2 k
theorem W_dup2 (B : oB p l e R s m args below meth c Z h0 lo T cells slots ds) {x y : Value} (hd : decode c.code pc = .ok (.dup2, 1)) (hp : pc + 1 = pc') (hc : x.category = 1) (hc2 : y.category = 1) (w : oWin p e below Z h0 Q E (T.setTop (mkF m pc' ls (x :: y :: x :: y :: st)))) : oWin p e below Z h0 Q E (T.setTop (mkF m pc ls (x :: y :: st))) := by
  subst hp
  obtain ⟨hx, hZ, hlk, locs, X, N, H⟩ := B
  refine w.step fun t k => ?_
  show Steps p.tables e below (T.setTop { method := m, pc := pc, locals := ls, stack := x :: y :: st, locked := none }) _
  jvm_step X.here [X.here.top, hx, hd, hc, hc2]
  exact k
theorem W_iinc (B : oB p l e R s m args below meth c Z h0 lo T cells slots ds) {i : Nat} {d : Int} {x z : Int32} (hd : decode c.code pc = .ok (.iinc i d, 3)) (hp : pc + 3 = pc') (hl : ls[i]? = some (.val (.int x))) (hz : x + Int32.ofInt d = z) (hl' : storeLocals ls i (.int z) = some ls') (w : oWin p e below Z h0 Q E (T.setTop (mkF m pc' ls' (st)))) : oWin p e below Z h0 Q E (T.setTop (mkF m pc ls (st))) := by
  subst hp hz
  obtain ⟨hx, hZ, hlk, locs, X, N, H⟩ := B
  exact w.step fun t k => XS.iinc X.here hx rfl hd hl hl' k
theorem W_goto (B : oB p l e R s m args below meth c Z h0 lo T cells slots ds) {o : Int} (hd : decode c.code pc = .ok (.goto o, 3)) (ho : 0 ≤ (pc : Int) + o) (hp : ((pc : Int) + o).toNat = pc') (w : oWin p e below Z h0 Q E (T.setTop (mkF m pc' ls st))) : oWin p e below Z h0 Q E (T.setTop (mkF m pc ls st)) := by
  obtain ⟨hx, hZ, hlk, locs, X, N, H⟩ := B
  exact w.step fun t k => XS.goto X.here hx rfl rfl hd ho hp k
theorem W_icmpY (B : oB p l e R s m args below meth c Z h0 lo T cells slots ds) {cd : ClassFile.Cond} {x y : Int32} {o : Int} (hd : decode c.code pc = .ok (.if_icmp cd o, 3)) (ho : 0 ≤ (pc : Int) + o) (hp : ((pc : Int) + o).toNat = pc') (hc : if_icmp.holds cd x y = true) (w : oWin p e below Z h0 Q E (T.setTop (mkF m pc' ls st))) : oWin p e below Z h0 Q E (T.setTop (mkF m pc ls (.int y :: .int x :: st))) := by
  obtain ⟨hx, hZ, hlk, locs, X, N, H⟩ := B
  exact w.step fun t k => XS.icmpYes X.here hx rfl rfl hd rfl hc ho hp k
theorem W_icmpN (B : oB p l e R s m args below meth c Z h0 lo T cells slots ds) {cd : ClassFile.Cond} {x y : Int32} {o : Int} (hd : decode c.code pc = .ok (.if_icmp cd o, 3)) (hp : pc + 3 = pc') (hc : if_icmp.holds cd x y = false) (w : oWin p e below Z h0 Q E (T.setTop (mkF m pc' ls st))) : oWin p e below Z h0 Q E (T.setTop (mkF m pc ls (.int y :: .int x :: st))) := by
  subst hp
  obtain ⟨hx, hZ, hlk, locs, X, N, H⟩ := B
  exact w.step fun t k => XS.icmpNo X.here hx rfl hd rfl hc k
theorem W_ifY (B : oB p l e R s m args below meth c Z h0 lo T cells slots ds) {cd : ClassFile.Cond} {x : Int32} {o : Int} (hd : decode c.code pc = .ok (.ifCond cd o, 3)) (ho : 0 ≤ (pc : Int) + o) (hp : ((pc : Int) + o).toNat = pc') (hc : if_icmp.holds cd x 0 = true) (w : oWin p e below Z h0 Q E (T.setTop (mkF m pc' ls st))) : oWin p e below Z h0 Q E (T.setTop (mkF m pc ls (.int x :: st))) := by
  obtain ⟨hx, hZ, hlk, locs, X, N, H⟩ := B
  exact w.step fun t k => XS.ifYes X.here hx rfl rfl hd rfl ((if0 _ _).trans hc) ho hp k
theorem W_ifN (B : oB p l e R s m args below meth c Z h0 lo T cells slots ds) {cd : ClassFile.Cond} {x : Int32} {o : Int} (hd : decode c.code pc = .ok (.ifCond cd o, 3)) (hp : pc + 3 = pc') (hc : if_icmp.holds cd x 0 = false) (w : oWin p e below Z h0 Q E (T.setTop (mkF m pc' ls st))) : oWin p e below Z h0 Q E (T.setTop (mkF m pc ls (.int x :: st))) := by
  subst hp
  obtain ⟨hx, hZ, hlk, locs, X, N, H⟩ := B
  exact w.step fun t k => XS.ifNo X.here hx rfl hd rfl ((if0 _ _).trans hc) k
theorem W_icmp_eq (B : oB p l e R s m args below meth c Z h0 lo T cells slots ds) {x y : Int32} {o : Int} {pt : Nat} (hd : decode c.code pc = .ok (.if_icmp .eq o, 3)) (ho : 0 ≤ (pc : Int) + o) (ht : ((pc : Int) + o).toNat = pt) (hp : pc + 3 = pc') (w1 : x = y → oWin p e below Z h0 Q E (T.setTop (mkF m pt ls st))) (w2 : ¬ x = y → oWin p e below Z h0 Q E (T.setTop (mkF m pc' ls st))) : oWin p e below Z h0 Q E (T.setTop (mkF m pc ls (.int y :: .int x :: st))) := by
  by_cases h : x = y
  · exact W_icmpY B hd ho ht (teq h).1 (w1 h)
  · exact W_icmpN B hd hp (feq h).1 (w2 h)
theorem W_if_eq (B : oB p l e R s m args below meth c Z h0 lo T cells slots ds) {x : Int32} {o : Int} {pt : Nat} (hd : decode c.code pc = .ok (.ifCond .eq o, 3)) (ho : 0 ≤ (pc : Int) + o) (ht : ((pc : Int) + o).toNat = pt) (hp : pc + 3 = pc') (w1 : x = 0 → oWin p e below Z h0 Q E (T.setTop (mkF m pt ls st))) (w2 : ¬ x = 0 → oWin p e below Z h0 Q E (T.setTop (mkF m pc' ls st))) : oWin p e below Z h0 Q E (T.setTop (mkF m pc ls (.int x :: st))) := by
  by_cases h : x = 0
  · exact W_ifY B hd ho ht (teq h).1 (w1 h)
  · exact W_ifN B hd hp (feq h).1 (w2 h)
theorem W_lcmpY_eq (B : oB p l e R s m args below meth c Z h0 lo T cells slots ds) {x y : Int64} {o : Int} (hd : decode c.code pc = .ok (.lcmp, 1)) (hd' : decode c.code (pc + 1) = .ok (.ifCond .eq o, 3)) (ho : 0 ≤ ((pc + 1 : Nat) : Int) + o) (ht : (((pc + 1 : Nat) : Int) + o).toNat = pc') (hc : x = y) (w : oWin p e below Z h0 Q E (T.setTop (mkF m pc' ls st))) : oWin p e below Z h0 Q E (T.setTop (mkF m pc ls (.long y :: .long x :: st))) := by
  have w' := W_ifY (x := lcmpV x y) (st := st) B hd' ho ht (by have h : lcmpV x y = 0 := (lc_eq x y).mpr hc; exact (teq h).1) w
  obtain ⟨hx, hZ, hlk, locs, X, N, H⟩ := B
  exact w'.step fun t k => XS.lcmp X.here hx rfl hd rfl (by show Steps p.tables e below (T.setTop (mkF m (pc + 1) ls (.int (lcmpW x y) :: st))) t; rw [lcW]; exact k)
theorem W_lcmpN_eq (B : oB p l e R s m args below meth c Z h0 lo T cells slots ds) {x y : Int64} {o : Int} (hd : decode c.code pc = .ok (.lcmp, 1)) (hd' : decode c.code (pc + 1) = .ok (.ifCond .eq o, 3)) (hp : pc + 1 + 3 = pc') (hc : ¬ x = y) (w : oWin p e below Z h0 Q E (T.setTop (mkF m pc' ls st))) : oWin p e below Z h0 Q E (T.setTop (mkF m pc ls (.long y :: .long x :: st))) := by
  have w' := W_ifN (x := lcmpV x y) (st := st) B hd' hp (by have h : ¬ lcmpV x y = 0 := fun q => hc ((lc_eq x y).mp q); exact (feq h).1) w
  obtain ⟨hx, hZ, hlk, locs, X, N, H⟩ := B
  exact w'.step fun t k => XS.lcmp X.here hx rfl hd rfl (by show Steps p.tables e below (T.setTop (mkF m (pc + 1) ls (.int (lcmpW x y) :: st))) t; rw [lcW]; exact k)
theorem W_lcmp_eq (B : oB p l e R s m args below meth c Z h0 lo T cells slots ds) {x y : Int64} {o : Int} {pt : Nat} (hd : decode c.code pc = .ok (.lcmp, 1)) (hd' : decode c.code (pc + 1) = .ok (.ifCond .eq o, 3)) (ho : 0 ≤ ((pc + 1 : Nat) : Int) + o) (ht : (((pc + 1 : Nat) : Int) + o).toNat = pt) (hp : pc + 1 + 3 = pc') (w1 : x = y → oWin p e below Z h0 Q E (T.setTop (mkF m pt ls st))) (w2 : ¬ x = y → oWin p e below Z h0 Q E (T.setTop (mkF m pc' ls st))) : oWin p e below Z h0 Q E (T.setTop (mkF m pc ls (.long y :: .long x :: st))) := by
  by_cases h : x = y
  · exact W_lcmpY_eq B hd hd' ho ht h (w1 h)
  · exact W_lcmpN_eq B hd hd' hp h (w2 h)
theorem W_icmp_ne (B : oB p l e R s m args below meth c Z h0 lo T cells slots ds) {x y : Int32} {o : Int} {pt : Nat} (hd : decode c.code pc = .ok (.if_icmp .ne o, 3)) (ho : 0 ≤ (pc : Int) + o) (ht : ((pc : Int) + o).toNat = pt) (hp : pc + 3 = pc') (w1 : ¬ x = y → oWin p e below Z h0 Q E (T.setTop (mkF m pt ls st))) (w2 : x = y → oWin p e below Z h0 Q E (T.setTop (mkF m pc' ls st))) : oWin p e below Z h0 Q E (T.setTop (mkF m pc ls (.int y :: .int x :: st))) := by
  by_cases h : x = y
  · exact W_icmpN B hd hp (teq h).2 (w2 h)
  · exact W_icmpY B hd ho ht (feq h).2 (w1 h)
theorem W_if_ne (B : oB p l e R s m args below meth c Z h0 lo T cells slots ds) {x : Int32} {o : Int} {pt : Nat} (hd : decode c.code pc = .ok (.ifCond .ne o, 3)) (ho : 0 ≤ (pc : Int) + o) (ht : ((pc : Int) + o).toNat = pt) (hp : pc + 3 = pc') (w1 : ¬ x = 0 → oWin p e below Z h0 Q E (T.setTop (mkF m pt ls st))) (w2 : x = 0 → oWin p e below Z h0 Q E (T.setTop (mkF m pc' ls st))) : oWin p e below Z h0 Q E (T.setTop (mkF m pc ls (.int x :: st))) := by
  by_cases h : x = 0
  · exact W_ifN B hd hp (teq h).2 (w2 h)
  · exact W_ifY B hd ho ht (feq h).2 (w1 h)
theorem W_lcmpY_ne (B : oB p l e R s m args below meth c Z h0 lo T cells slots ds) {x y : Int64} {o : Int} (hd : decode c.code pc = .ok (.lcmp, 1)) (hd' : decode c.code (pc + 1) = .ok (.ifCond .ne o, 3)) (ho : 0 ≤ ((pc + 1 : Nat) : Int) + o) (ht : (((pc + 1 : Nat) : Int) + o).toNat = pc') (hc : ¬ x = y) (w : oWin p e below Z h0 Q E (T.setTop (mkF m pc' ls st))) : oWin p e below Z h0 Q E (T.setTop (mkF m pc ls (.long y :: .long x :: st))) := by
  have w' := W_ifY (x := lcmpV x y) (st := st) B hd' ho ht (by have h : ¬ lcmpV x y = 0 := fun q => hc ((lc_eq x y).mp q); exact (feq h).2) w
  obtain ⟨hx, hZ, hlk, locs, X, N, H⟩ := B
  exact w'.step fun t k => XS.lcmp X.here hx rfl hd rfl (by show Steps p.tables e below (T.setTop (mkF m (pc + 1) ls (.int (lcmpW x y) :: st))) t; rw [lcW]; exact k)
theorem W_lcmpN_ne (B : oB p l e R s m args below meth c Z h0 lo T cells slots ds) {x y : Int64} {o : Int} (hd : decode c.code pc = .ok (.lcmp, 1)) (hd' : decode c.code (pc + 1) = .ok (.ifCond .ne o, 3)) (hp : pc + 1 + 3 = pc') (hc : x = y) (w : oWin p e below Z h0 Q E (T.setTop (mkF m pc' ls st))) : oWin p e below Z h0 Q E (T.setTop (mkF m pc ls (.long y :: .long x :: st))) := by
  have w' := W_ifN (x := lcmpV x y) (st := st) B hd' hp (by have h : lcmpV x y = 0 := (lc_eq x y).mpr hc; exact (teq h).2) w
  obtain ⟨hx, hZ, hlk, locs, X, N, H⟩ := B
  exact w'.step fun t k => XS.lcmp X.here hx rfl hd rfl (by show Steps p.tables e below (T.setTop (mkF m (pc + 1) ls (.int (lcmpW x y) :: st))) t; rw [lcW]; exact k)
theorem W_lcmp_ne (B : oB p l e R s m args below meth c Z h0 lo T cells slots ds) {x y : Int64} {o : Int} {pt : Nat} (hd : decode c.code pc = .ok (.lcmp, 1)) (hd' : decode c.code (pc + 1) = .ok (.ifCond .ne o, 3)) (ho : 0 ≤ ((pc + 1 : Nat) : Int) + o) (ht : (((pc + 1 : Nat) : Int) + o).toNat = pt) (hp : pc + 1 + 3 = pc') (w1 : ¬ x = y → oWin p e below Z h0 Q E (T.setTop (mkF m pt ls st))) (w2 : x = y → oWin p e below Z h0 Q E (T.setTop (mkF m pc' ls st))) : oWin p e below Z h0 Q E (T.setTop (mkF m pc ls (.long y :: .long x :: st))) := by
  by_cases h : x = y
  · exact W_lcmpN_ne B hd hd' hp h (w2 h)
  · exact W_lcmpY_ne B hd hd' ho ht h (w1 h)
theorem W_icmp_lt (B : oB p l e R s m args below meth c Z h0 lo T cells slots ds) {x y : Int32} {o : Int} {pt : Nat} (hd : decode c.code pc = .ok (.if_icmp .lt o, 3)) (ho : 0 ≤ (pc : Int) + o) (ht : ((pc : Int) + o).toNat = pt) (hp : pc + 3 = pc') (w1 : x < y → oWin p e below Z h0 Q E (T.setTop (mkF m pt ls st))) (w2 : ¬ x < y → oWin p e below Z h0 Q E (T.setTop (mkF m pc' ls st))) : oWin p e below Z h0 Q E (T.setTop (mkF m pc ls (.int y :: .int x :: st))) := by
  by_cases h : x < y
  · exact W_icmpY B hd ho ht (tlt h).1 (w1 h)
  · exact W_icmpN B hd hp (flt h).1 (w2 h)
theorem W_if_lt (B : oB p l e R s m args below meth c Z h0 lo T cells slots ds) {x : Int32} {o : Int} {pt : Nat} (hd : decode c.code pc = .ok (.ifCond .lt o, 3)) (ho : 0 ≤ (pc : Int) + o) (ht : ((pc : Int) + o).toNat = pt) (hp : pc + 3 = pc') (w1 : x < 0 → oWin p e below Z h0 Q E (T.setTop (mkF m pt ls st))) (w2 : ¬ x < 0 → oWin p e below Z h0 Q E (T.setTop (mkF m pc' ls st))) : oWin p e below Z h0 Q E (T.setTop (mkF m pc ls (.int x :: st))) := by
  by_cases h : x < 0
  · exact W_ifY B hd ho ht (tlt h).1 (w1 h)
  · exact W_ifN B hd hp (flt h).1 (w2 h)
theorem W_lcmpY_lt (B : oB p l e R s m args below meth c Z h0 lo T cells slots ds) {x y : Int64} {o : Int} (hd : decode c.code pc = .ok (.lcmp, 1)) (hd' : decode c.code (pc + 1) = .ok (.ifCond .lt o, 3)) (ho : 0 ≤ ((pc + 1 : Nat) : Int) + o) (ht : (((pc + 1 : Nat) : Int) + o).toNat = pc') (hc : x < y) (w : oWin p e below Z h0 Q E (T.setTop (mkF m pc' ls st))) : oWin p e below Z h0 Q E (T.setTop (mkF m pc ls (.long y :: .long x :: st))) := by
  have w' := W_ifY (x := lcmpV x y) (st := st) B hd' ho ht (by have h : lcmpV x y < 0 := (lc_lt x y).mpr hc; exact (tlt h).1) w
  obtain ⟨hx, hZ, hlk, locs, X, N, H⟩ := B
  exact w'.step fun t k => XS.lcmp X.here hx rfl hd rfl (by show Steps p.tables e below (T.setTop (mkF m (pc + 1) ls (.int (lcmpW x y) :: st))) t; rw [lcW]; exact k)
theorem W_lcmpN_lt (B : oB p l e R s m args below meth c Z h0 lo T cells slots ds) {x y : Int64} {o : Int} (hd : decode c.code pc = .ok (.lcmp, 1)) (hd' : decode c.code (pc + 1) = .ok (.ifCond .lt o, 3)) (hp : pc + 1 + 3 = pc') (hc : ¬ x < y) (w : oWin p e below Z h0 Q E (T.setTop (mkF m pc' ls st))) : oWin p e below Z h0 Q E (T.setTop (mkF m pc ls (.long y :: .long x :: st))) := by
  have w' := W_ifN (x := lcmpV x y) (st := st) B hd' hp (by have h : ¬ lcmpV x y < 0 := fun q => hc ((lc_lt x y).mp q); exact (flt h).1) w
  obtain ⟨hx, hZ, hlk, locs, X, N, H⟩ := B
  exact w'.step fun t k => XS.lcmp X.here hx rfl hd rfl (by show Steps p.tables e below (T.setTop (mkF m (pc + 1) ls (.int (lcmpW x y) :: st))) t; rw [lcW]; exact k)
theorem W_lcmp_lt (B : oB p l e R s m args below meth c Z h0 lo T cells slots ds) {x y : Int64} {o : Int} {pt : Nat} (hd : decode c.code pc = .ok (.lcmp, 1)) (hd' : decode c.code (pc + 1) = .ok (.ifCond .lt o, 3)) (ho : 0 ≤ ((pc + 1 : Nat) : Int) + o) (ht : (((pc + 1 : Nat) : Int) + o).toNat = pt) (hp : pc + 1 + 3 = pc') (w1 : x < y → oWin p e below Z h0 Q E (T.setTop (mkF m pt ls st))) (w2 : ¬ x < y → oWin p e below Z h0 Q E (T.setTop (mkF m pc' ls st))) : oWin p e below Z h0 Q E (T.setTop (mkF m pc ls (.long y :: .long x :: st))) := by
  by_cases h : x < y
  · exact W_lcmpY_lt B hd hd' ho ht h (w1 h)
  · exact W_lcmpN_lt B hd hd' hp h (w2 h)
theorem W_icmp_ge (B : oB p l e R s m args below meth c Z h0 lo T cells slots ds) {x y : Int32} {o : Int} {pt : Nat} (hd : decode c.code pc = .ok (.if_icmp .ge o, 3)) (ho : 0 ≤ (pc : Int) + o) (ht : ((pc : Int) + o).toNat = pt) (hp : pc + 3 = pc') (w1 : ¬ x < y → oWin p e below Z h0 Q E (T.setTop (mkF m pt ls st))) (w2 : x < y → oWin p e below Z h0 Q E (T.setTop (mkF m pc' ls st))) : oWin p e below Z h0 Q E (T.setTop (mkF m pc ls (.int y :: .int x :: st))) := by
  by_cases h : x < y
  · exact W_icmpN B hd hp (tlt h).2.1 (w2 h)
  · exact W_icmpY B hd ho ht (flt h).2.1 (w1 h)
theorem W_if_ge (B : oB p l e R s m args below meth c Z h0 lo T cells slots ds) {x : Int32} {o : Int} {pt : Nat} (hd : decode c.code pc = .ok (.ifCond .ge o, 3)) (ho : 0 ≤ (pc : Int) + o) (ht : ((pc : Int) + o).toNat = pt) (hp : pc + 3 = pc') (w1 : ¬ x < 0 → oWin p e below Z h0 Q E (T.setTop (mkF m pt ls st))) (w2 : x < 0 → oWin p e below Z h0 Q E (T.setTop (mkF m pc' ls st))) : oWin p e below Z h0 Q E (T.setTop (mkF m pc ls (.int x :: st))) := by
  by_cases h : x < 0
  · exact W_ifN B hd hp (tlt h).2.1 (w2 h)
  · exact W_ifY B hd ho ht (flt h).2.1 (w1 h)
theorem W_lcmpY_ge (B : oB p l e R s m args below meth c Z h0 lo T cells slots ds) {x y : Int64} {o : Int} (hd : decode c.code pc = .ok (.lcmp, 1)) (hd' : decode c.code (pc + 1) = .ok (.ifCond .ge o, 3)) (ho : 0 ≤ ((pc + 1 : Nat) : Int) + o) (ht : (((pc + 1 : Nat) : Int) + o).toNat = pc') (hc : ¬ x < y) (w : oWin p e below Z h0 Q E (T.setTop (mkF m pc' ls st))) : oWin p e below Z h0 Q E (T.setTop (mkF m pc ls (.long y :: .long x :: st))) := by
  have w' := W_ifY (x := lcmpV x y) (st := st) B hd' ho ht (by have h : ¬ lcmpV x y < 0 := fun q => hc ((lc_lt x y).mp q); exact (flt h).2.1) w
  obtain ⟨hx, hZ, hlk, locs, X, N, H⟩ := B
  exact w'.step fun t k => XS.lcmp X.here hx rfl hd rfl (by show Steps p.tables e below (T.setTop (mkF m (pc + 1) ls (.int (lcmpW x y) :: st))) t; rw [lcW]; exact k)
theorem W_lcmpN_ge (B : oB p l e R s m args below meth c Z h0 lo T cells slots ds) {x y : Int64} {o : Int} (hd : decode c.code pc = .ok (.lcmp, 1)) (hd' : decode c.code (pc + 1) = .ok (.ifCond .ge o, 3)) (hp : pc + 1 + 3 = pc') (hc : x < y) (w : oWin p e below Z h0 Q E (T.setTop (mkF m pc' ls st))) : oWin p e below Z h0 Q E (T.setTop (mkF m pc ls (.long y :: .long x :: st))) := by
  have w' := W_ifN (x := lcmpV x y) (st := st) B hd' hp (by have h : lcmpV x y < 0 := (lc_lt x y).mpr hc; exact (tlt h).2.1) w
  obtain ⟨hx, hZ, hlk, locs, X, N, H⟩ := B
  exact w'.step fun t k => XS.lcmp X.here hx rfl hd rfl (by show Steps p.tables e below (T.setTop (mkF m (pc + 1) ls (.int (lcmpW x y) :: st))) t; rw [lcW]; exact k)
theorem W_lcmp_ge (B : oB p l e R s m args below meth c Z h0 lo T cells slots ds) {x y : Int64} {o : Int} {pt : Nat} (hd : decode c.code pc = .ok (.lcmp, 1)) (hd' : decode c.code (pc + 1) = .ok (.ifCond .ge o, 3)) (ho : 0 ≤ ((pc + 1 : Nat) : Int) + o) (ht : (((pc + 1 : Nat) : Int) + o).toNat = pt) (hp : pc + 1 + 3 = pc') (w1 : ¬ x < y → oWin p e below Z h0 Q E (T.setTop (mkF m pt ls st))) (w2 : x < y → oWin p e below Z h0 Q E (T.setTop (mkF m pc' ls st))) : oWin p e below Z h0 Q E (T.setTop (mkF m pc ls (.long y :: .long x :: st))) := by
  by_cases h : x < y
  · exact W_lcmpN_ge B hd hd' hp h (w2 h)
  · exact W_lcmpY_ge B hd hd' ho ht h (w1 h)
theorem W_icmp_gt (B : oB p l e R s m args below meth c Z h0 lo T cells slots ds) {x y : Int32} {o : Int} {pt : Nat} (hd : decode c.code pc = .ok (.if_icmp .gt o, 3)) (ho : 0 ≤ (pc : Int) + o) (ht : ((pc : Int) + o).toNat = pt) (hp : pc + 3 = pc') (w1 : y < x → oWin p e below Z h0 Q E (T.setTop (mkF m pt ls st))) (w2 : ¬ y < x → oWin p e below Z h0 Q E (T.setTop (mkF m pc' ls st))) : oWin p e below Z h0 Q E (T.setTop (mkF m pc ls (.int y :: .int x :: st))) := by
  by_cases h : y < x
  · exact W_icmpY B hd ho ht (tlt h).2.2.1 (w1 h)
  · exact W_icmpN B hd hp (flt h).2.2.1 (w2 h)
theorem W_if_gt (B : oB p l e R s m args below meth c Z h0 lo T cells slots ds) {x : Int32} {o : Int} {pt : Nat} (hd : decode c.code pc = .ok (.ifCond .gt o, 3)) (ho : 0 ≤ (pc : Int) + o) (ht : ((pc : Int) + o).toNat = pt) (hp : pc + 3 = pc') (w1 : 0 < x → oWin p e below Z h0 Q E (T.setTop (mkF m pt ls st))) (w2 : ¬ 0 < x → oWin p e below Z h0 Q E (T.setTop (mkF m pc' ls st))) : oWin p e below Z h0 Q E (T.setTop (mkF m pc ls (.int x :: st))) := by
  by_cases h : 0 < x
  · exact W_ifY B hd ho ht (tlt h).2.2.1 (w1 h)
  · exact W_ifN B hd hp (flt h).2.2.1 (w2 h)
theorem W_lcmpY_gt (B : oB p l e R s m args below meth c Z h0 lo T cells slots ds) {x y : Int64} {o : Int} (hd : decode c.code pc = .ok (.lcmp, 1)) (hd' : decode c.code (pc + 1) = .ok (.ifCond .gt o, 3)) (ho : 0 ≤ ((pc + 1 : Nat) : Int) + o) (ht : (((pc + 1 : Nat) : Int) + o).toNat = pc') (hc : y < x) (w : oWin p e below Z h0 Q E (T.setTop (mkF m pc' ls st))) : oWin p e below Z h0 Q E (T.setTop (mkF m pc ls (.long y :: .long x :: st))) := by
  have w' := W_ifY (x := lcmpV x y) (st := st) B hd' ho ht (by have h : 0 < lcmpV x y := (lc_gt x y).mpr hc; exact (tlt h).2.2.1) w
  obtain ⟨hx, hZ, hlk, locs, X, N, H⟩ := B
  exact w'.step fun t k => XS.lcmp X.here hx rfl hd rfl (by show Steps p.tables e below (T.setTop (mkF m (pc + 1) ls (.int (lcmpW x y) :: st))) t; rw [lcW]; exact k)
theorem W_lcmpN_gt (B : oB p l e R s m args below meth c Z h0 lo T cells slots ds) {x y : Int64} {o : Int} (hd : decode c.code pc = .ok (.lcmp, 1)) (hd' : decode c.code (pc + 1) = .ok (.ifCond .gt o, 3)) (hp : pc + 1 + 3 = pc') (hc : ¬ y < x) (w : oWin p e below Z h0 Q E (T.setTop (mkF m pc' ls st))) : oWin p e below Z h0 Q E (T.setTop (mkF m pc ls (.long y :: .long x :: st))) := by
  have w' := W_ifN (x := lcmpV x y) (st := st) B hd' hp (by have h : ¬ 0 < lcmpV x y := fun q => hc ((lc_gt x y).mp q); exact (flt h).2.2.1) w
  obtain ⟨hx, hZ, hlk, locs, X, N, H⟩ := B
  exact w'.step fun t k => XS.lcmp X.here hx rfl hd rfl (by show Steps p.tables e below (T.setTop (mkF m (pc + 1) ls (.int (lcmpW x y) :: st))) t; rw [lcW]; exact k)
theorem W_lcmp_gt (B : oB p l e R s m args below meth c Z h0 lo T cells slots ds) {x y : Int64} {o : Int} {pt : Nat} (hd : decode c.code pc = .ok (.lcmp, 1)) (hd' : decode c.code (pc + 1) = .ok (.ifCond .gt o, 3)) (ho : 0 ≤ ((pc + 1 : Nat) : Int) + o) (ht : (((pc + 1 : Nat) : Int) + o).toNat = pt) (hp : pc + 1 + 3 = pc') (w1 : y < x → oWin p e below Z h0 Q E (T.setTop (mkF m pt ls st))) (w2 : ¬ y < x → oWin p e below Z h0 Q E (T.setTop (mkF m pc' ls st))) : oWin p e below Z h0 Q E (T.setTop (mkF m pc ls (.long y :: .long x :: st))) := by
  by_cases h : y < x
  · exact W_lcmpY_gt B hd hd' ho ht h (w1 h)
  · exact W_lcmpN_gt B hd hd' hp h (w2 h)
theorem W_icmp_le (B : oB p l e R s m args below meth c Z h0 lo T cells slots ds) {x y : Int32} {o : Int} {pt : Nat} (hd : decode c.code pc = .ok (.if_icmp .le o, 3)) (ho : 0 ≤ (pc : Int) + o) (ht : ((pc : Int) + o).toNat = pt) (hp : pc + 3 = pc') (w1 : ¬ y < x → oWin p e below Z h0 Q E (T.setTop (mkF m pt ls st))) (w2 : y < x → oWin p e below Z h0 Q E (T.setTop (mkF m pc' ls st))) : oWin p e below Z h0 Q E (T.setTop (mkF m pc ls (.int y :: .int x :: st))) := by
  by_cases h : y < x
  · exact W_icmpN B hd hp (tlt h).2.2.2 (w2 h)
  · exact W_icmpY B hd ho ht (flt h).2.2.2 (w1 h)
theorem W_if_le (B : oB p l e R s m args below meth c Z h0 lo T cells slots ds) {x : Int32} {o : Int} {pt : Nat} (hd : decode c.code pc = .ok (.ifCond .le o, 3)) (ho : 0 ≤ (pc : Int) + o) (ht : ((pc : Int) + o).toNat = pt) (hp : pc + 3 = pc') (w1 : ¬ 0 < x → oWin p e below Z h0 Q E (T.setTop (mkF m pt ls st))) (w2 : 0 < x → oWin p e below Z h0 Q E (T.setTop (mkF m pc' ls st))) : oWin p e below Z h0 Q E (T.setTop (mkF m pc ls (.int x :: st))) := by
  by_cases h : 0 < x
  · exact W_ifN B hd hp (tlt h).2.2.2 (w2 h)
  · exact W_ifY B hd ho ht (flt h).2.2.2 (w1 h)
theorem W_lcmpY_le (B : oB p l e R s m args below meth c Z h0 lo T cells slots ds) {x y : Int64} {o : Int} (hd : decode c.code pc = .ok (.lcmp, 1)) (hd' : decode c.code (pc + 1) = .ok (.ifCond .le o, 3)) (ho : 0 ≤ ((pc + 1 : Nat) : Int) + o) (ht : (((pc + 1 : Nat) : Int) + o).toNat = pc') (hc : ¬ y < x) (w : oWin p e below Z h0 Q E (T.setTop (mkF m pc' ls st))) : oWin p e below Z h0 Q E (T.setTop (mkF m pc ls (.long y :: .long x :: st))) := by
  have w' := W_ifY (x := lcmpV x y) (st := st) B hd' ho ht (by have h : ¬ 0 < lcmpV x y := fun q => hc ((lc_gt x y).mp q); exact (flt h).2.2.2) w
  obtain ⟨hx, hZ, hlk, locs, X, N, H⟩ := B
  exact w'.step fun t k => XS.lcmp X.here hx rfl hd rfl (by show Steps p.tables e below (T.setTop (mkF m (pc + 1) ls (.int (lcmpW x y) :: st))) t; rw [lcW]; exact k)
theorem W_lcmpN_le (B : oB p l e R s m args below meth c Z h0 lo T cells slots ds) {x y : Int64} {o : Int} (hd : decode c.code pc = .ok (.lcmp, 1)) (hd' : decode c.code (pc + 1) = .ok (.ifCond .le o, 3)) (hp : pc + 1 + 3 = pc') (hc : y < x) (w : oWin p e below Z h0 Q E (T.setTop (mkF m pc' ls st))) : oWin p e below Z h0 Q E (T.setTop (mkF m pc ls (.long y :: .long x :: st))) := by
  have w' := W_ifN (x := lcmpV x y) (st := st) B hd' hp (by have h : 0 < lcmpV x y := (lc_gt x y).mpr hc; exact (tlt h).2.2.2) w
  obtain ⟨hx, hZ, hlk, locs, X, N, H⟩ := B
  exact w'.step fun t k => XS.lcmp X.here hx rfl hd rfl (by show Steps p.tables e below (T.setTop (mkF m (pc + 1) ls (.int (lcmpW x y) :: st))) t; rw [lcW]; exact k)
theorem W_lcmp_le (B : oB p l e R s m args below meth c Z h0 lo T cells slots ds) {x y : Int64} {o : Int} {pt : Nat} (hd : decode c.code pc = .ok (.lcmp, 1)) (hd' : decode c.code (pc + 1) = .ok (.ifCond .le o, 3)) (ho : 0 ≤ ((pc + 1 : Nat) : Int) + o) (ht : (((pc + 1 : Nat) : Int) + o).toNat = pt) (hp : pc + 1 + 3 = pc') (w1 : ¬ y < x → oWin p e below Z h0 Q E (T.setTop (mkF m pt ls st))) (w2 : y < x → oWin p e below Z h0 Q E (T.setTop (mkF m pc' ls st))) : oWin p e below Z h0 Q E (T.setTop (mkF m pc ls (.long y :: .long x :: st))) := by
  by_cases h : y < x
  · exact W_lcmpN_le B hd hd' hp h (w2 h)
  · exact W_lcmpY_le B hd hd' ho ht h (w1 h)
theorem W_ifnullY (B : oB p l e R s m args below meth c Z h0 lo T cells slots ds) {o : Int} (hd : decode c.code pc = .ok (.ifnull o, 3)) (ho : 0 ≤ (pc : Int) + o) (hp : ((pc : Int) + o).toNat = pc') (w : oWin p e below Z h0 Q E (T.setTop (mkF m pc' ls st))) : oWin p e below Z h0 Q E (T.setTop (mkF m pc ls (.null :: st))) := by
  obtain ⟨hx, hZ, hlk, locs, X, N, H⟩ := B
  exact w.step fun t k => XS.ifnullYes X.here hx rfl rfl hd rfl ho hp k
theorem W_ifnullN (B : oB p l e R s m args below meth c Z h0 lo T cells slots ds) {o : Int} {a : Addr} (hd : decode c.code pc = .ok (.ifnull o, 3)) (hp : pc + 3 = pc') (w : oWin p e below Z h0 Q E (T.setTop (mkF m pc' ls st))) : oWin p e below Z h0 Q E (T.setTop (mkF m pc ls (.ref a :: st))) := by
  subst hp
  obtain ⟨hx, hZ, hlk, locs, X, N, H⟩ := B
  exact w.step fun t k => XS.ifnullNo X.here hx rfl hd rfl k
theorem W_ifnonnullY (B : oB p l e R s m args below meth c Z h0 lo T cells slots ds) {o : Int} {a : Addr} (hd : decode c.code pc = .ok (.ifnonnull o, 3)) (ho : 0 ≤ (pc : Int) + o) (hp : ((pc : Int) + o).toNat = pc') (w : oWin p e below Z h0 Q E (T.setTop (mkF m pc' ls st))) : oWin p e below Z h0 Q E (T.setTop (mkF m pc ls (.ref a :: st))) := by
  obtain ⟨hx, hZ, hlk, locs, X, N, H⟩ := B
  exact w.step fun t k => XS.ifnonnullYes X.here hx rfl rfl hd rfl ho hp k
theorem W_ifnonnullN (B : oB p l e R s m args below meth c Z h0 lo T cells slots ds) {o : Int} (hd : decode c.code pc = .ok (.ifnonnull o, 3)) (hp : pc + 3 = pc') (w : oWin p e below Z h0 Q E (T.setTop (mkF m pc' ls st))) : oWin p e below Z h0 Q E (T.setTop (mkF m pc ls (.null :: st))) := by
  subst hp
  obtain ⟨hx, hZ, hlk, locs, X, N, H⟩ := B
  exact w.step fun t k => XS.ifnonnullNo X.here hx rfl hd rfl k
theorem W_acmp (B : oB p l e R s m args below meth c Z h0 lo T cells slots ds) {cd : ACond} {o : Int} {x y : Value} {same : Bool} (hd : decode c.code pc = .ok (.if_acmp cd o, 3)) (h1 : x.isRef = true) (h2 : y.isRef = true) (hq : decide (x = y) = same) (ho : 0 ≤ (pc : Int) + o) (hp : pc' = if acV cd same = true then ((pc : Int) + o).toNat else pc + 3) (w : oWin p e below Z h0 Q E (T.setTop (mkF m pc' ls st))) : oWin p e below Z h0 Q E (T.setTop (mkF m pc ls (y :: x :: st))) := by
  obtain ⟨hx, hZ, hlk, locs, X, N, H⟩ := B
  exact w.step fun t k => Jvm.RoadKit.acmp (g := mkF m pc ls (y :: x :: st)) X hx rfl h1 h2 rfl hd rfl hq ho hp k
theorem W_ldcInt (B : oB p l e R s m args below meth c Z h0 lo T cells slots ds) {own : String} {i : Nat} {v : Int32} (hown : s.vm.findClass own = some m.cls) (w : (Jvm.Cond.constant own i v).before a0 Z = true) (hd : decode c.code pc = .ok (.ldc i, 2)) (hp : pc + 2 = pc') (k : oWin p e below Z h0 Q E (T.setTop (mkF m pc' ls (.int v :: st)))) : oWin p e below Z h0 Q E (T.setTop (mkF m pc ls st)) := by
  subst hp
  obtain ⟨hx, hZ, hlk, locs, X, N, H⟩ := B
  exact k.step (X.ldcInt hx hown (mvT hZ w) (g := mkF m pc ls st) rfl hd)
theorem W_ldc2Long (B : oB p l e R s m args below meth c Z h0 lo T cells slots ds) {own : String} {i : Nat} {v : Int64} (hown : s.vm.findClass own = some m.cls) (w : (Jvm.Cond.constantLong own i v).before a0 Z = true) (hd : decode c.code pc = .ok (.ldc2_w i, 3)) (hp : pc + 3 = pc') (k : oWin p e below Z h0 Q E (T.setTop (mkF m pc' ls (.long v :: st)))) : oWin p e below Z h0 Q E (T.setTop (mkF m pc ls st)) := by
  subst hp
  obtain ⟨hx, hZ, hlk, locs, X, N, H⟩ := B
  exact k.step (X.ldc2Long hx hown (mvT hZ w) (g := mkF m pc ls st) rfl hd)
theorem W_getstatic (B : oB p l e R s m args below meth c Z h0 lo T cells slots ds) {own R0 O n d host : String} {i : Nat} {v : Value} (hown : s.vm.findClass own = some m.cls) (w : (Jvm.Cond.fieldLink own i R0 n d).before a0 Z = true ∨ (Jvm.Cond.fieldLinkNest own i R0 n d host).before a0 Z = true) (via : Via Z R0 O n d) (F : Sta Z h0 O n d v) (hd : decode c.code pc = .ok (.getstatic i, 3)) (hp : pc + 3 = pc')
    (k : ∀ T, oB p l e R s m args below meth c Z h0 lo T cells slots ds → oWin p e below Z h0 Q E (T.setTop (mkF m pc' ls (v :: st)))) : oWin p e below Z h0 Q E (T.setTop (mkF m pc ls st)) := by
  subst hp
  obtain ⟨hx, hZ, hlk, locs, X, N, H⟩ := B
  obtain ⟨T', X', e', stp⟩ := getS2 X hx hZ hown w via rfl (F.ext H.1.1) (g := mkF m pc ls st) rfl hd
  exact (k T' ⟨hx, hZ, hlk, locs, X', N, e' ▸ H⟩).step stp
theorem W_getfield (B : oB p l e R s m args below meth c Z h0 lo T cells slots ds) {own R0 O n d host : String} {i j q : Nat} {a : Addr} {C : String} {fs : List (oFK × Value)} {v : Value} (hown : s.vm.findClass own = some m.cls) (w : (Jvm.Cond.fieldLink own i R0 n d).before a0 Z = true ∨ (Jvm.Cond.fieldLinkNest own i R0 n d host).before a0 Z = true) (via : Via Z R0 O n d) (hd : decode c.code pc = .ok (.getfield i, 3)) (hp : pc + 3 = pc')
    (hi : ds[j]? = some (a, oO C fs)) (hf : fs[q]? = some ((O, n, d), v))
    (k : ∀ T, oB p l e R s m args below meth c Z h0 lo T cells slots ds → oWin p e below Z h0 Q E (T.setTop (mkF m pc' ls (v :: st)))) : oWin p e below Z h0 Q E (T.setTop (mkF m pc ls (.ref a :: st))) := by
  subst hp
  obtain ⟨hx, hZ, hlk, locs, X, N, H⟩ := B
  have F := (H.at hi).2.2.1 _ (List.mem_of_getElem? hf)
  obtain ⟨T', X', e', stp⟩ := getF X hx hZ hown w via rfl F (g := mkF m pc ls (.ref a :: st)) rfl rfl hd
  exact (k T' ⟨hx, hZ, hlk, locs, X', N, e' ▸ H⟩).step stp
theorem oIs.put {h h' : Heap} {a : Addr} {C : String} {fs : List (oFK × Value)} {q : Nat} {f : oFK} {old v : Value} (I : oIs Z h a (oO C fs)) (hf : fs[q]? = some (f, old)) (W : Wr h h' a (oSl Z f) v) : oIs Z h' a (oO C (fs.set q (f, v))) := by
  obtain ⟨E, F, P⟩ := I
  have hq : q < fs.length := (List.getElem?_eq_some_iff.mp hf).1
  refine ⟨E.wr W, fun g hg => ?_, ?_⟩
  · obtain ⟨j, hj⟩ := List.mem_iff_getElem?.mp hg
    rw [List.getElem?_set] at hj
    by_cases e : q = j
    · rw [if_pos e, if_pos hq] at hj
      cases hj
      exact Fld.same (Z := Z) (C := f.1) (n := f.2.1) (d := f.2.2) W (F _ (List.mem_of_getElem? hf))
    · rw [if_neg e] at hj
      refine (F g (List.mem_of_getElem? hj)).other W (Or.inr ?_)
      obtain ⟨lj, ej⟩ := List.getElem?_eq_some_iff.mp hj
      obtain ⟨lq, eq⟩ := List.getElem?_eq_some_iff.mp hf
      have P' := List.pairwise_iff_getElem.mp P
      rcases Nat.lt_or_gt_of_ne e with r | r
      · have := P' q j lq lj r
        rw [ej, eq] at this; exact fun z => this z.symm
      · have := P' j q lj lq r
        rw [ej, eq] at this; exact this
  · refine List.pairwise_iff_getElem.mpr fun i j li lj r => ?_
    rw [List.length_set] at li lj
    have P' := List.pairwise_iff_getElem.mp P i j li lj r
    have key : ∀ k (lk : k < fs.length) (lk' : k < (fs.set q (f, v)).length), ((fs.set q (f, v))[k]'lk').1 = (fs[k]).1 := fun k lk lk' => by
      rw [List.getElem_set]
      split
      · rename_i hk; subst hk; obtain ⟨_, eq⟩ := List.getElem?_eq_some_iff.mp hf; rw [eq]
      · rfl
    rw [key i li, key j lj]; exact P'
theorem W_putfield (B : oB p l e R s m args below meth c Z h0 lo T cells slots ds) {own R0 O n d host : String} {i j q kk : Nat} {a : Addr} {C : String} {fs : List (oFK × Value)} {old v : Value} {ty : FieldType} (hown : s.vm.findClass own = some m.cls) (w : (Jvm.Cond.fieldLink own i R0 n d).before a0 Z = true ∨ (Jvm.Cond.fieldLinkNest own i R0 n d host).before a0 Z = true) (via : Via Z R0 O n d) (hd : decode c.code pc = .ok (.putfield i, 3)) (hp : pc + 3 = pc')
    (L : (Jvm.Cond.lays C O n d).before a0 Z = true ∨ ((Jvm.Cond.laysFinal C O n d).before a0 Z = true ∧ own = O ∧ meth.name = "<init>")) (wi : (Jvm.Cond.instantiable C kk).before a0 Z = true) (hty : parseFieldDescriptor d = some ty) (hn : narrow ty v = v) (hft : fits ty v = true)
    (hi : ds[j]? = some (a, oO C fs)) (hf : fs[q]? = some ((O, n, d), old)) (hds : ds.set j (a, oO C (fs.set q ((O, n, d), v))) = ds')
    (k : ∀ T, oB p l e R s m args below meth c Z h0 lo T cells slots ds' → oWin p e below Z h0 Q E (T.setTop (mkF m pc' ls st))) : oWin p e below Z h0 Q E (T.setTop (mkF m pc ls (v :: .ref a :: st))) := by
  subst hp hds
  obtain ⟨hx, hZ, hlk, locs, X, N, H⟩ := B
  obtain ⟨ha, I⟩ := H.at hi
  obtain ⟨T', h', X', e', W, stp⟩ := putF X hx hZ hown w via rfl (I.2.1 _ (List.mem_of_getElem? hf)) I.1 L wi hty hn hft (g := mkF m pc ls (v :: .ref a :: st)) rfl rfl hd
  subst e'
  exact (k T' ⟨hx, hZ, hlk, _, X', Fr.snoc X' N ha, H.wr hi W (I.put hf W)⟩).step stp
def oLaid (Z : State) (a0 : Array Value) (C : String) (f : oFK × Value) : Prop := Laid Z a0 C f.1.1 f.1.2.1 f.1.2.2 ∧ ∃ ty, parseFieldDescriptor f.1.2.2 = some ty ∧ f.2 = defaultValue ty
theorem oAll_nil {P : oFK × Value → Prop} : ∀ f ∈ ([] : List (oFK × Value)), P f := fun _ h => nomatch h
theorem oAll_cons {P : oFK × Value → Prop} {f : oFK × Value} {fs : List (oFK × Value)} (h : P f) (h' : ∀ g ∈ fs, P g) : ∀ g ∈ f :: fs, P g := fun g hg => (List.mem_cons.mp hg).elim (fun e => e ▸ h) (h' g)
theorem W_new (B : oB p l e R s m args below meth c Z h0 lo T cells slots ds) {own C : String} {i n : Nat} {fs : List (oFK × Value)} (hown : s.vm.findClass own = some m.cls) (w : (Jvm.Cond.classLink own i C).before a0 Z = true) (wi : (Jvm.Cond.instantiable C n).before a0 Z = true) (wz : (Jvm.Cond.initialized C).before a0 Z = true) (hd : decode c.code pc = .ok (.new i, 3)) (hp : pc + 3 = pc')
    (hr : cells + 1 ≤ R.cells ∧ slots + n ≤ R.slots) {cells' slots' : Nat} (hc' : cells + 1 = cells') (hs' : slots + n = slots')
    (hfs : ∀ f ∈ fs, oLaid Z a0 C f) (hnd : (fs.map fun f => f.1.2.1).Nodup)
    (k : ∀ T a, oB p l e R s m args below meth c Z h0 lo T cells' slots' ((a, oO C fs) :: ds) → oWin p e below Z h0 Q E (T.setTop (mkF m pc' ls (.ref a :: st)))) : oWin p e below Z h0 Q E (T.setTop (mkF m pc ls st)) := by
  subst hp hc' hs'
  obtain ⟨hx, hZ, hlk, locs, X, N, H⟩ := B
  obtain ⟨T', h', X', e', E, A, D, -, stp⟩ := newO X hx hZ hown w wi wz rfl (g := mkF m pc ls st) rfl hd hr.1 hr.2
  subst e'
  refine (k T' T.heap.size ⟨hx, hZ, hlk, _, X', N, H.new E ⟨A, fun f hf => ?_, ?_⟩⟩).step stp
  · obtain ⟨L, ty, h1, h2⟩ := hfs f hf
    rw [h2]; exact D L h1
  · have P := List.pairwise_map.mp (List.nodup_iff_pairwise_ne.mp hnd)
    refine P.imp_of_mem fun {f g} hf hg ne => ?_
    obtain ⟨L, ty, h1, h2⟩ := hfs f hf
    obtain ⟨L', ty', h1', h2'⟩ := hfs g hg
    exact Jvm.RoadKit.slot_ne L L' ne h1 h1'
theorem W_newarray (B : oB p l e R s m args below meth c Z h0 lo T cells slots ds) {aty : ArrayType} {n : Int32} {cap : Nat} {vs : List Value} (w : (Jvm.Cond.arrayClass (newarray.typeOf aty)).before a0 Z = true) (hd : decode c.code pc = .ok (.newarray aty, 2)) (hp : pc + 2 = pc') (hn : ¬ n < 0) (hcap : n.toNatClampNeg ≤ cap)
    (hr : cap * 8 ≤ 536870912 ∧ cells + 1 ≤ R.cells ∧ slots + cap ≤ R.slots) {cells' slots' : Nat} (hc' : cells + 1 = cells') (hs' : slots + cap = slots') (hvs : List.replicate n.toNatClampNeg (defaultValue (newarray.typeOf aty)) = vs) {ty : FieldType} (hty : newarray.typeOf aty = ty)
    (k : ∀ T a, oB p l e R s m args below meth c Z h0 lo T cells' slots' ((a, oA ty vs) :: ds) → oWin p e below Z h0 Q E (T.setTop (mkF m pc' ls (.ref a :: st)))) : oWin p e below Z h0 Q E (T.setTop (mkF m pc ls (.int n :: st))) := by
  subst hp hc' hs' hvs hty
  obtain ⟨hx, hZ, hlk, locs, X, N, H⟩ := B
  obtain ⟨T', h', cA, X', e', E, A, EA, stp⟩ := newPE X hx hZ w rfl (g := mkF m pc ls (.int n :: st)) rfl hd rfl hn hcap hr.1 hr.2.1 hr.2.2 rfl
  subst e'
  exact (k T' T.heap.size ⟨hx, hZ, hlk, _, X', N, H.new E ⟨_, A, by simp [newA], (fun C hC => by cases aty <;> cases hC), EA, fun v hv => by rw [(List.mem_replicate.mp hv).2]; cases aty <;> rfl⟩⟩).step stp
theorem W_anewarray (B : oB p l e R s m args below meth c Z h0 lo T cells slots ds) {own C : String} {i : Nat} {n : Int32} {cap : Nat} {vs : List Value} (hown : s.vm.findClass own = some m.cls) (w : (Jvm.Cond.classLink own i C).before a0 Z = true) (w2 : (Jvm.Cond.arrayOver (.object C)).before a0 Z = true) (hd : decode c.code pc = .ok (.anewarray i, 3)) (hp : pc + 3 = pc') (hn : ¬ n < 0) (hcap : n.toNatClampNeg ≤ cap)
    (hr : cap * 8 ≤ 536870912 ∧ cells + 1 ≤ R.cells ∧ slots + cap ≤ R.slots) {cells' slots' : Nat} (hc' : cells + 1 = cells') (hs' : slots + cap = slots') (hvs : List.replicate n.toNatClampNeg Value.null = vs)
    (k : ∀ T a, oB p l e R s m args below meth c Z h0 lo T cells' slots' ((a, oA (.object C) vs) :: ds) → oWin p e below Z h0 Q E (T.setTop (mkF m pc' ls (.ref a :: st)))) : oWin p e below Z h0 Q E (T.setTop (mkF m pc ls (.int n :: st))) := by
  subst hp hc' hs' hvs
  obtain ⟨hx, hZ, hlk, locs, X, N, H⟩ := B
  obtain ⟨T', h', cA, X', e', E, A, EA, O, stp⟩ := newRE X hx hZ hown w w2 rfl (g := mkF m pc ls (.int n :: st)) rfl hd rfl hn hcap hr.1 hr.2.1 hr.2.2 rfl
  subst e'
  exact (k T' T.heap.size ⟨hx, hZ, hlk, _, X', N, H.new E ⟨_, A, by simp [newA, defaultValue], (fun C' hC => by cases hC; exact O), EA, fun v hv => by rw [(List.mem_replicate.mp hv).2]; rfl⟩⟩).step stp
theorem W_arraylength (B : oB p l e R s m args below meth c Z h0 lo T cells slots ds) {j : Nat} {a : Addr} {ty : FieldType} {vs : List Value} {z : Int32} (hd : decode c.code pc = .ok (.arraylength, 1)) (hp : pc + 1 = pc') (hi : ds[j]? = some (a, oA ty vs)) (hz : vs.length.toInt32 = z) (w : oWin p e below Z h0 Q E (T.setTop (mkF m pc' ls (.int z :: st)))) : oWin p e below Z h0 Q E (T.setTop (mkF m pc ls (.ref a :: st))) := by
  subst hp hz
  obtain ⟨hx, hZ, hlk, locs, X, N, H⟩ := B
  obtain ⟨-, c', A, e, -⟩ := H.at hi
  have e2 : c'.slots.size = vs.length := by rw [e]; simp
  refine w.step fun t k => X.arraylength hx A.1 (State.isArrayOf_alike hZ.alike A.2.1) (g := mkF m pc ls (.ref a :: st)) rfl rfl hd t ?_
  rw [e2]; exact k
theorem oIn {vs : List Value} {j : Int32} {v : Value} {c' : Cell} (e : c'.slots = vs.toArray) (hj : ¬ j < 0) (hv : vs[j.toNatClampNeg]? = some v) : ¬ (j < 0 ∨ c'.slots.size ≤ j.toNatClampNeg) ∧ c'.slots[j.toNatClampNeg]? = some v := by
  have h1 : j.toNatClampNeg < vs.length := (List.getElem?_eq_some_iff.mp hv).1
  refine ⟨fun q => ?_, by rw [e]; simpa using hv⟩
  rcases q with q | q
  · exact hj q
  · rw [e] at q; simp at q; omega
theorem oIs.store {h h' : Heap} {a : Addr} {ty : FieldType} {vs : List Value} {i : Nat} {v : Value} (I : oIs Z h a (oA ty vs)) (W : Wr h h' a i v) (hv : fits ty v = true) : oIs Z h' a (oA ty (vs.set i v)) := by
  obtain ⟨c', A, e, O, E, F⟩ := I
  refine ⟨_, A.same W, ?_, O, E.wr W, fun w hw => ?_⟩
  · show c'.slots.setIfInBounds i v = _
    rw [e]; simp
  · rcases List.mem_or_eq_of_mem_set hw with q | q
    · exact F w q
    · rw [q]; exact hv
theorem W_clone (B : oB p l e R s m args below meth c Z h0 lo T cells slots ds) {own ad : String} {i j : Nat} {a : Addr} {ty : FieldType} {vs : List Value} {cap W : Nat} (hown : s.vm.findClass own = some m.cls) (w1 : (Jvm.Cond.methodLink own i ⟨ad, "clone", "()Ljava/lang/Object;"⟩).before a0 Z = true) (w2 : (Jvm.Cond.sameMethod ad "java/lang/Object" "clone" "()Ljava/lang/Object;").before a0 Z = true) (w3 : (Jvm.Cond.native ⟨"java/lang/Object", "clone", "()Ljava/lang/Object;"⟩).before a0 Z = true)
    (w4 : (Jvm.Cond.instanceMethod ⟨"java/lang/Object", "clone", "()Ljava/lang/Object;"⟩).before a0 Z = true) (w5 : (Jvm.Cond.selects ad ⟨ad, "clone", "()Ljava/lang/Object;"⟩ ⟨"java/lang/Object", "clone", "()Ljava/lang/Object;"⟩).before a0 Z = true) (w6 : (Jvm.Cond.castable ad "java/lang/Cloneable").before a0 Z = true)
    (had : "[" ++ ty.toString = ad) (hi : ds[j]? = some (a, oA ty vs)) (hd : decode c.code pc = .ok (.invokevirtual i, 3)) (hp : pc + 3 = pc') (hsz : ls.size = c.maxLocals) (hW : (st.map fun v => v.category).sum ≤ W) (hcap : vs.length ≤ cap) (hr : 1 ≤ R.frames ∧ W + 14 ≤ R.locals ∧ cells + 1 ≤ R.cells ∧ slots + cap ≤ R.slots) {cells' slots' : Nat} (hc' : cells + 1 = cells') (hs' : slots + cap = slots')
    (k : ∀ T b, oB p l e R s m args below meth c Z h0 lo T cells' slots' ((b, oA ty vs) :: ds) → oWin p e below Z h0 Q E (T.setTop (mkF m pc' ls (.ref b :: st)))) : oWin p e below Z h0 Q E (T.setTop (mkF m pc ls (.ref a :: st))) := by
  subst hp hc' hs' had
  obtain ⟨hx, hZ, hlk, locs, X, N, H⟩ := B
  obtain ⟨-, c', A, e1, O, E, F⟩ := H.at hi
  have FC : FitC Z c' := fitC_of A fun i hi v hv => F v (by rw [e1] at hv; simpa using List.mem_of_getElem? (l := vs) (by simpa using hv))
  obtain ⟨T', h', X', e', ex, A', E', stp⟩ := cloneA X hx hZ hown w1 w2 w3 w4 w5 w6 rfl A E FC (g := mkF m pc ls (.ref a :: st)) rfl hsz rfl hd hr.1 (W := W) (cap := cap) (by simpa using hW) hr.2.1 (by rw [e1]; simpa using hcap) hr.2.2.1 hr.2.2.2
  subst e'
  exact (k T' T.heap.size ⟨hx, hZ, hlk, _, X', N, H.new ex ⟨_, A', e1, O, E', F⟩⟩).step stp
theorem W_castArr (B : oB p l e R s m args below meth c Z h0 lo T cells slots ds) {own ad : String} {i j : Nat} {a : Addr} {ty : FieldType} {vs : List Value} (hown : s.vm.findClass own = some m.cls) (w : (Jvm.Cond.classLink own i ad).before a0 Z = true) (had : "[" ++ ty.toString = ad) (hi : ds[j]? = some (a, oA ty vs)) (hd : decode c.code pc = .ok (.checkcast i, 3)) (hp : pc + 3 = pc')
    (k : ∀ T, oB p l e R s m args below meth c Z h0 lo T cells slots ds → oWin p e below Z h0 Q E (T.setTop (mkF m pc' ls (.ref a :: st)))) : oWin p e below Z h0 Q E (T.setTop (mkF m pc ls (.ref a :: st))) := by
  subst hp had
  obtain ⟨hx, hZ, hlk, locs, X, N, H⟩ := B
  obtain ⟨-, c', A, e1, O, E, F⟩ := H.at hi
  obtain ⟨T', X', e', stp⟩ := castY X hx hZ hown w rfl (Ins.self E) (g := mkF m pc ls (.ref a :: st)) rfl rfl hd
  exact (k T' ⟨hx, hZ, hlk, locs, X', N, e' ▸ H⟩).step stp
theorem W_iaload (B : oB p l e R s m args below meth c Z h0 lo T cells slots ds) {i : Nat} {a : Addr} {vs : List Value} {j : Int32} {v : Value} (hd : decode c.code pc = .ok (.iaload, 1)) (hp : pc + 1 = pc') (hi : ds[i]? = some (a, oA .int vs)) (hj : ¬ j < 0) (hv : vs[j.toNatClampNeg]? = some v) (w : oWin p e below Z h0 Q E (T.setTop (mkF m pc' ls (v :: st)))) : oWin p e below Z h0 Q E (T.setTop (mkF m pc ls (.int j :: .ref a :: st))) := by
  subst hp
  obtain ⟨hx, hZ, hlk, locs, X, N, H⟩ := B
  obtain ⟨-, c', A, e, -⟩ := H.at hi
  obtain ⟨q1, q2⟩ := oIn e hj hv
  exact w.step fun t k => X.iaload hx A.1 (State.isArrayOf_alike hZ.alike A.2.1) A.2.2 q1 q2 (g := mkF m pc ls (.int j :: .ref a :: st)) rfl rfl hd t k
theorem W_laload (B : oB p l e R s m args below meth c Z h0 lo T cells slots ds) {i : Nat} {a : Addr} {vs : List Value} {j : Int32} {v : Value} (hd : decode c.code pc = .ok (.laload, 1)) (hp : pc + 1 = pc') (hi : ds[i]? = some (a, oA .long vs)) (hj : ¬ j < 0) (hv : vs[j.toNatClampNeg]? = some v) (w : oWin p e below Z h0 Q E (T.setTop (mkF m pc' ls (v :: st)))) : oWin p e below Z h0 Q E (T.setTop (mkF m pc ls (.int j :: .ref a :: st))) := by
  subst hp
  obtain ⟨hx, hZ, hlk, locs, X, N, H⟩ := B
  obtain ⟨-, c', A, e, -⟩ := H.at hi
  obtain ⟨q1, q2⟩ := oIn e hj hv
  exact w.step fun t k => X.laload hx A.1 (State.isArrayOf_alike hZ.alike A.2.1) A.2.2 q1 q2 (g := mkF m pc ls (.int j :: .ref a :: st)) rfl rfl hd t k
theorem W_baload (B : oB p l e R s m args below meth c Z h0 lo T cells slots ds) {i : Nat} {a : Addr} {vs : List Value} {j : Int32} {v : Value} (hd : decode c.code pc = .ok (.baload, 1)) (hp : pc + 1 = pc') (hi : ds[i]? = some (a, oA .byte vs)) (hj : ¬ j < 0) (hv : vs[j.toNatClampNeg]? = some v) (w : oWin p e below Z h0 Q E (T.setTop (mkF m pc' ls (v :: st)))) : oWin p e below Z h0 Q E (T.setTop (mkF m pc ls (.int j :: .ref a :: st))) := by
  subst hp
  obtain ⟨hx, hZ, hlk, locs, X, N, H⟩ := B
  obtain ⟨-, c', A, e, -⟩ := H.at hi
  obtain ⟨q1, q2⟩ := oIn e hj hv
  exact w.step fun t k => X.baloadBytes hx A.1 (State.isArrayOf_alike hZ.alike A.2.1) A.2.2 q1 q2 (g := mkF m pc ls (.int j :: .ref a :: st)) rfl rfl hd t k
theorem W_caload (B : oB p l e R s m args below meth c Z h0 lo T cells slots ds) {i : Nat} {a : Addr} {vs : List Value} {j : Int32} {v : Value} (hd : decode c.code pc = .ok (.caload, 1)) (hp : pc + 1 = pc') (hi : ds[i]? = some (a, oA .char vs)) (hj : ¬ j < 0) (hv : vs[j.toNatClampNeg]? = some v) (w : oWin p e below Z h0 Q E (T.setTop (mkF m pc' ls (v :: st)))) : oWin p e below Z h0 Q E (T.setTop (mkF m pc ls (.int j :: .ref a :: st))) := by
  subst hp
  obtain ⟨hx, hZ, hlk, locs, X, N, H⟩ := B
  obtain ⟨-, c', A, e, -⟩ := H.at hi
  obtain ⟨q1, q2⟩ := oIn e hj hv
  exact w.step fun t k => X.caload hx A.1 (State.isArrayOf_alike hZ.alike A.2.1) A.2.2 q1 q2 (g := mkF m pc ls (.int j :: .ref a :: st)) rfl rfl hd t k
theorem W_aaload (B : oB p l e R s m args below meth c Z h0 lo T cells slots ds) {i : Nat} {a : Addr} {ty : FieldType} {vs : List Value} {j : Int32} {v : Value} (hd : decode c.code pc = .ok (.aaload, 1)) (hp : pc + 1 = pc') (hi : ds[i]? = some (a, oA ty vs)) (hty : ty.isReference = true) (hj : ¬ j < 0) (hv : vs[j.toNatClampNeg]? = some v) (w : oWin p e below Z h0 Q E (T.setTop (mkF m pc' ls (v :: st)))) : oWin p e below Z h0 Q E (T.setTop (mkF m pc ls (.int j :: .ref a :: st))) := by
  subst hp
  obtain ⟨hx, hZ, hlk, locs, X, N, H⟩ := B
  obtain ⟨-, c', A, e, -⟩ := H.at hi
  obtain ⟨q1, q2⟩ := oIn e hj hv
  exact w.step fun t k => X.aaload hx A.1 (State.isArrayOf_alike hZ.alike A.2.1) hty A.2.2 q1 q2 (g := mkF m pc ls (.int j :: .ref a :: st)) rfl rfl hd t k
theorem W_iastore (B : oB p l e R s m args below meth c Z h0 lo T cells slots ds) {i : Nat} {a : Addr} {vs : List Value} {j : Int32} {x : Int32} (hd : decode c.code pc = .ok (.iastore, 1)) (hp : pc + 1 = pc') (hi : ds[i]? = some (a, oA .int vs)) (hj : ¬ j < 0) (hv : j.toNatClampNeg < vs.length) (hds : ds.set i (a, oA .int (vs.set j.toNatClampNeg (.int x))) = ds') (k : ∀ T, oB p l e R s m args below meth c Z h0 lo T cells slots ds' → oWin p e below Z h0 Q E (T.setTop (mkF m pc' ls st))) : oWin p e below Z h0 Q E (T.setTop (mkF m pc ls (.int x :: .int j :: .ref a :: st))) := by
  subst hp hds
  obtain ⟨hx, hZ, hlk, locs, X, N, H⟩ := B
  obtain ⟨ha, I⟩ := H.at hi
  have I' := I
  obtain ⟨c', A, e, -⟩ := I'
  obtain ⟨q1, -⟩ := oIn e hj (List.getElem?_eq_getElem hv)
  obtain ⟨T', h', X', e', W, stp⟩ := stI X hx hZ rfl A q1 (g := mkF m pc ls (.int x :: .int j :: .ref a :: st)) rfl rfl hd
  subst e'
  exact (k T' ⟨hx, hZ, hlk, _, X', Fr.snoc X' N ha, H.wr hi W (I.store W rfl)⟩).step stp
theorem W_lastore (B : oB p l e R s m args below meth c Z h0 lo T cells slots ds) {i : Nat} {a : Addr} {vs : List Value} {j : Int32} {x : Int64} (hd : decode c.code pc = .ok (.lastore, 1)) (hp : pc + 1 = pc') (hi : ds[i]? = some (a, oA .long vs)) (hj : ¬ j < 0) (hv : j.toNatClampNeg < vs.length) (hds : ds.set i (a, oA .long (vs.set j.toNatClampNeg (.long x))) = ds') (k : ∀ T, oB p l e R s m args below meth c Z h0 lo T cells slots ds' → oWin p e below Z h0 Q E (T.setTop (mkF m pc' ls st))) : oWin p e below Z h0 Q E (T.setTop (mkF m pc ls (.long x :: .int j :: .ref a :: st))) := by
  subst hp hds
  obtain ⟨hx, hZ, hlk, locs, X, N, H⟩ := B
  obtain ⟨ha, I⟩ := H.at hi
  have I' := I
  obtain ⟨c', A, e, -⟩ := I'
  obtain ⟨q1, -⟩ := oIn e hj (List.getElem?_eq_getElem hv)
  obtain ⟨T', h', X', e', W, stp⟩ := stJ X hx hZ rfl A q1 (g := mkF m pc ls (.long x :: .int j :: .ref a :: st)) rfl rfl hd
  subst e'
  exact (k T' ⟨hx, hZ, hlk, _, X', Fr.snoc X' N ha, H.wr hi W (I.store W rfl)⟩).step stp
theorem W_bastore (B : oB p l e R s m args below meth c Z h0 lo T cells slots ds) {i : Nat} {a : Addr} {vs : List Value} {j : Int32} {x : Int32} (hd : decode c.code pc = .ok (.bastore, 1)) (hp : pc + 1 = pc') (hi : ds[i]? = some (a, oA .byte vs)) (hj : ¬ j < 0) (hv : j.toNatClampNeg < vs.length) (hds : ds.set i (a, oA .byte (vs.set j.toNatClampNeg (.int (nar .byte x)))) = ds') (k : ∀ T, oB p l e R s m args below meth c Z h0 lo T cells slots ds' → oWin p e below Z h0 Q E (T.setTop (mkF m pc' ls st))) : oWin p e below Z h0 Q E (T.setTop (mkF m pc ls (.int x :: .int j :: .ref a :: st))) := by
  subst hp hds
  obtain ⟨hx, hZ, hlk, locs, X, N, H⟩ := B
  obtain ⟨ha, I⟩ := H.at hi
  have I' := I
  obtain ⟨c', A, e, -⟩ := I'
  obtain ⟨q1, -⟩ := oIn e hj (List.getElem?_eq_getElem hv)
  obtain ⟨T', h', X', e', W, stp⟩ := stB X hx hZ rfl A q1 (g := mkF m pc ls (.int x :: .int j :: .ref a :: st)) rfl rfl hd
  subst e'
  exact (k T' ⟨hx, hZ, hlk, _, X', Fr.snoc X' N ha, H.wr hi W (I.store W (fits_nar_byte x))⟩).step stp
theorem W_castore (B : oB p l e R s m args below meth c Z h0 lo T cells slots ds) {i : Nat} {a : Addr} {vs : List Value} {j : Int32} {x : Int32} (hd : decode c.code pc = .ok (.castore, 1)) (hp : pc + 1 = pc') (hi : ds[i]? = some (a, oA .char vs)) (hj : ¬ j < 0) (hv : j.toNatClampNeg < vs.length) (hds : ds.set i (a, oA .char (vs.set j.toNatClampNeg (.int (nar .char x)))) = ds') (k : ∀ T, oB p l e R s m args below meth c Z h0 lo T cells slots ds' → oWin p e below Z h0 Q E (T.setTop (mkF m pc' ls st))) : oWin p e below Z h0 Q E (T.setTop (mkF m pc ls (.int x :: .int j :: .ref a :: st))) := by
  subst hp hds
  obtain ⟨hx, hZ, hlk, locs, X, N, H⟩ := B
  obtain ⟨ha, I⟩ := H.at hi
  have I' := I
  obtain ⟨c', A, e, -⟩ := I'
  obtain ⟨q1, -⟩ := oIn e hj (List.getElem?_eq_getElem hv)
  obtain ⟨T', h', X', e', W, stp⟩ := stC X hx hZ rfl A q1 (g := mkF m pc ls (.int x :: .int j :: .ref a :: st)) rfl rfl hd
  subst e'
  exact (k T' ⟨hx, hZ, hlk, _, X', Fr.snoc X' N ha, H.wr hi W (I.store W (fits_nar_char x))⟩).step stp
theorem W_aastore (B : oB p l e R s m args below meth c Z h0 lo T cells slots ds) {i i2 : Nat} {a b : Addr} {C C2 : String} {fs : List (oFK × Value)} {vs : List Value} {j : Int32} (hd : decode c.code pc = .ok (.aastore, 1)) (hp : pc + 1 = pc') (hi : ds[i]? = some (a, oA (.object C) vs)) (hj : ¬ j < 0) (hv : j.toNatClampNeg < vs.length) (hb : ds[i2]? = some (b, oO C2 fs)) (hins : C2 = C ∨ (Jvm.Cond.castable C2 C).before a0 Z = true) (hds : ds.set i (a, oA (.object C) (vs.set j.toNatClampNeg (.ref b))) = ds') (k : ∀ T, oB p l e R s m args below meth c Z h0 lo T cells slots ds' → oWin p e below Z h0 Q E (T.setTop (mkF m pc' ls st))) : oWin p e below Z h0 Q E (T.setTop (mkF m pc ls (.ref b :: .int j :: .ref a :: st))) := by
  subst hp hds
  obtain ⟨hx, hZ, hlk, locs, X, N, H⟩ := B
  obtain ⟨ha, I⟩ := H.at hi
  have I' := I
  obtain ⟨c', A, e, O, -⟩ := I'
  obtain ⟨q1, -⟩ := oIn e hj (List.getElem?_eq_getElem hv)
  have E2 := (H.at hb).2.1
  have J : Ins Z T.heap b C true := by
    rcases hins with q | q
    · subst q; exact Ins.self E2
    · exact Ins.of_exa E2 q
  obtain ⟨T', h', X', e', W, stp⟩ := stR X hx hZ rfl A q1 rfl (Sto.of A (O C rfl) J) (g := mkF m pc ls (.ref b :: .int j :: .ref a :: st)) rfl rfl hd
  subst e'
  exact (k T' ⟨hx, hZ, hlk, _, X', Fr.snoc X' N ha, H.wr hi W (I.store W rfl)⟩).step stp
theorem W_initO (B : oB p l e R s m args below meth c Z h0 lo T cells slots ds) {own : String} {i : Nat} {a : Addr} {W : Nat} (hown : s.vm.findClass own = some m.cls) (w1 : (Jvm.Cond.methodLink own i Lib.objectInit).before a0 Z = true) (w2 : (Jvm.Cond.instanceMethod Lib.objectInit).before a0 Z = true) (w3 : (Jvm.Cond.code Lib.objectInit ⟨#[0xb1]⟩ 1 none).before a0 Z = true) (hd : decode c.code pc = .ok (.invokespecial i, 3)) (hp : pc + 3 = pc') (hsz : ls.size = c.maxLocals) (hW : (st.map fun v => v.category).sum ≤ W) (hr : 1 ≤ R.frames ∧ W + 12 ≤ R.locals)
    (k : ∀ T, oB p l e R s m args below meth c Z h0 lo T cells slots ds → oWin p e below Z h0 Q E (T.setTop (mkF m pc' ls st))) : oWin p e below Z h0 Q E (T.setTop (mkF m pc ls (.ref a :: st))) := by
  subst hp
  obtain ⟨hx, hZ, hlk, locs, X, N, H⟩ := B
  obtain ⟨T', X', e', stp⟩ := initO X hx hZ hown w1 w2 w3 rfl (g := mkF m pc ls (.ref a :: st)) rfl hsz rfl hd hr.1 (W := W) (by simpa using hW) hr.2
  exact (k T' ⟨hx, hZ, hlk, locs, X', N, e' ▸ H⟩).step stp
theorem W_callS (B : oB p l e R s m args below meth c Z h0 lo T cells slots ds) {own : String} {i : Nat} {y : MethodName} {bytes : ByteArray} {maxL : Nat} {ret : Option FieldType} {rm : Room} {Q' : Option Value → oDs → Prop} {argsL rest : List Value} {W : Nat} (hown : s.vm.findClass own = some m.cls) (w1 : (Jvm.Cond.methodLink own i y).before a0 Z = true) (w2 : (Jvm.Cond.static y).before a0 Z = true) (w3 : (Jvm.Cond.initialized y.cls).before a0 Z = true) (w4 : (Jvm.Cond.code y bytes maxL ret).before a0 Z = true) (hy : y.cls ≠ "java/lang/invoke/MethodHandle" ∧ y.cls ≠ "java/lang/invoke/VarHandle")
    (hM : oMet l Z h0 lo y bytes maxL ret [] rm argsL.toArray ds Q') (hlen : ∀ sig, parseMethodDescriptor y.desc = some sig → argsL.length = sig.parameters.length) (hd : decode c.code pc = .ok (.invokestatic i, 3)) (hp : pc + 3 = pc') (hst : st = argsL.reverse ++ rest) (hsz : ls.size = c.maxLocals) (hW : (rest.map fun v => v.category).sum ≤ W)
    (hr : rm.frames + 1 ≤ R.frames ∧ W + (maxL + 11) + rm.locals ≤ R.locals ∧ cells + rm.cells ≤ R.cells ∧ slots + rm.slots ≤ R.slots) {cells' slots' : Nat} (hc' : cells + rm.cells = cells') (hs' : slots + rm.slots = slots')
    (k : ∀ T v ds', Q' v ds' → oB p l e R s m args below meth c Z h0 lo T cells' slots' ds' → oWin p e below Z h0 Q E (T.setTop (mkF m pc' ls (v.toList ++ rest)))) : oWin p e below Z h0 Q E (T.setTop (mkF m pc ls st)) := by
  subst hp hst hc' hs'
  obtain ⟨hx, hZ, hlk, locs, X, N, H⟩ := B
  obtain ⟨v, vm1, ⟨T', L', k', n'⟩, -, X', ⟨Lc, ⟨N', ds', H', hQ⟩, e1, e2, e3⟩, stp⟩ := Jvm.LawKit.callS X hx (y := y) hown (mvT hZ w1) (mvT hZ w2) (mvT hZ w3) (mvT hZ w4) hy (backOf (W := W) (Q := fun v h L => Fr h0.size L ∧ ∃ ds', oHP Z h0 lo h ds' ∧ Q' v ds') (hM _ H) hZ w4 w3 hr.1 hr.2.1) (g := mkF m pc ls (argsL.reverse ++ rest)) rfl hsz hlen rfl (by simpa using hW) hd (fun _ _ => ⟨rfl, rfl, hr.2.2.1, hr.2.2.2⟩)
  dsimp only [Pt.U, Pt.locs, Pt.cells, Pt.slots] at X' e1 e2 e3 stp H'
  subst e1 e2 e3
  exact (k T' v ds' hQ ⟨hx, hZ, hlk, _, X', N.app N', H'⟩).step stp
theorem W_init (B : oB p l e R s m args below meth c Z h0 lo T cells slots ds) {own : String} {i : Nat} {y : MethodName} {bytes : ByteArray} {maxL : Nat} {rm : Room} {Q' : Option Value → oDs → Prop} {a : Addr} {argsL rest : List Value} {W : Nat} (hown : s.vm.findClass own = some m.cls) (hy1 : y.name = "<init>") (w1 : (Jvm.Cond.methodLink own i y).before a0 Z = true) (w2 : (Jvm.Cond.instanceMethod y).before a0 Z = true) (w3 : (Jvm.Cond.initialized y.cls).before a0 Z = true) (w4 : (Jvm.Cond.code y bytes maxL none).before a0 Z = true) (hy : y.cls ≠ "java/lang/invoke/MethodHandle" ∧ y.cls ≠ "java/lang/invoke/VarHandle")
    (hM : oMet l Z h0 lo y bytes maxL none [] rm (.ref a :: argsL).toArray ds Q') (hlen : ∀ sig, parseMethodDescriptor y.desc = some sig → argsL.length = sig.parameters.length) (hd : decode c.code pc = .ok (.invokespecial i, 3)) (hp : pc + 3 = pc') (hst : st = argsL.reverse ++ .ref a :: rest) (hsz : ls.size = c.maxLocals) (hW : (rest.map fun v => v.category).sum ≤ W)
    (hr : rm.frames + 1 ≤ R.frames ∧ W + (maxL + 11) + rm.locals ≤ R.locals ∧ cells + rm.cells ≤ R.cells ∧ slots + rm.slots ≤ R.slots) {cells' slots' : Nat} (hc' : cells + rm.cells = cells') (hs' : slots + rm.slots = slots')
    (k : ∀ T v ds', Q' v ds' → oB p l e R s m args below meth c Z h0 lo T cells' slots' ds' → oWin p e below Z h0 Q E (T.setTop (mkF m pc' ls (v.toList ++ rest)))) : oWin p e below Z h0 Q E (T.setTop (mkF m pc ls st)) := by
  subst hp hst hc' hs'
  obtain ⟨hx, hZ, hlk, locs, X, N, H⟩ := B
  obtain ⟨v, vm1, ⟨T', L', k', n'⟩, -, X', ⟨Lc, ⟨N', ds', H', hQ⟩, e1, e2, e3⟩, stp⟩ := X.specialBack hx (y := y) hy1 hown (mvT hZ w1) (mvT hZ w2) (mvT hZ w4) hy (backOf (W := W) (Q := fun v h L => Fr h0.size L ∧ ∃ ds', oHP Z h0 lo h ds' ∧ Q' v ds') (hM _ H) hZ w4 w3 hr.1 hr.2.1) (g := mkF m pc ls (argsL.reverse ++ .ref a :: rest)) rfl hsz (Steps.refl _) (a := a) hlen rfl (by simpa using hW) hd (fun _ _ => ⟨rfl, rfl, hr.2.2.1, hr.2.2.2⟩)
  dsimp only [Pt.U, Pt.locs, Pt.cells, Pt.slots] at X' e1 e2 e3 stp H'
  subst e1 e2 e3
  exact (k T' v ds' hQ ⟨hx, hZ, hlk, _, X', N.app N', H'⟩).steps stp
theorem W_virtual (B : oB p l e R s m args below meth c Z h0 lo T cells slots ds) {own C : String} {i j : Nat} {y z : MethodName} {bytes : ByteArray} {maxL : Nat} {ret : Option FieldType} {rm : Room} {Q' : Option Value → oDs → Prop} {a : Addr} {fs : List (oFK × Value)} {argsL rest : List Value} {W : Nat} (hown : s.vm.findClass own = some m.cls) (w1 : (Jvm.Cond.methodLink own i y).before a0 Z = true) (w2 : (Jvm.Cond.declares y).before a0 Z = true) (hnf : NotFace s y) (ws : (Jvm.Cond.selects C y z).before a0 Z = true) (wm : (Jvm.Cond.instanceMethod z).before a0 Z = true) (w3 : (Jvm.Cond.initialized z.cls).before a0 Z = true) (w4 : (Jvm.Cond.code z bytes maxL ret).before a0 Z = true) (hy : y.cls ≠ "java/lang/invoke/MethodHandle" ∧ y.cls ≠ "java/lang/invoke/VarHandle")
    (hM : oMet l Z h0 lo z bytes maxL ret [] rm (.ref a :: argsL).toArray ds Q') (hlen : ∀ sig, parseMethodDescriptor y.desc = some sig → argsL.length = sig.parameters.length) (hd : decode c.code pc = .ok (.invokevirtual i, 3)) (hp : pc + 3 = pc') (hst : st = argsL.reverse ++ .ref a :: rest) (hsz : ls.size = c.maxLocals) (hW : (rest.map fun v => v.category).sum ≤ W) (hi : ds[j]? = some (a, oO C fs))
    (hr : rm.frames + 1 ≤ R.frames ∧ W + (maxL + 11) + rm.locals ≤ R.locals ∧ cells + rm.cells ≤ R.cells ∧ slots + rm.slots ≤ R.slots) {cells' slots' : Nat} (hc' : cells + rm.cells = cells') (hs' : slots + rm.slots = slots')
    (k : ∀ T v ds', Q' v ds' → oB p l e R s m args below meth c Z h0 lo T cells' slots' ds' → oWin p e below Z h0 Q E (T.setTop (mkF m pc' ls (v.toList ++ rest)))) : oWin p e below Z h0 Q E (T.setTop (mkF m pc ls st)) := by
  subst hp hst hc' hs'
  obtain ⟨hx, hZ, hlk, locs, X, N, H⟩ := B
  obtain ⟨cq, kq, q1, q2, q3⟩ := isOf (T := T) hZ rfl (H.at hi).2.1
  obtain ⟨v, vm1, ⟨T', L', k', n'⟩, -, X', ⟨Lc, ⟨N', ds', H', hQ⟩, e1, e2, e3⟩, stp⟩ := X.virtualBack hx (y := y) (z := z) hown (mvT hZ w1) (mvT hZ w2) hnf (mvT hZ ws) (mvT hZ wm) hy (backOf (W := W) (Q := fun v h L => Fr h0.size L ∧ ∃ ds', oHP Z h0 lo h ds' ∧ Q' v ds') (hM _ H) hZ w4 w3 hr.1 hr.2.1) q1 q3 (g := mkF m pc ls (argsL.reverse ++ .ref a :: rest)) rfl hsz (Steps.refl _) hlen rfl (by simpa using hW) hd (fun _ _ => ⟨rfl, rfl, hr.2.2.1, hr.2.2.2⟩)
  dsimp only [Pt.U, Pt.locs, Pt.cells, Pt.slots] at X' e1 e2 e3 stp H'
  subst e1 e2 e3
  exact (k T' v ds' hQ ⟨hx, hZ, hlk, _, X', N.app N', H'⟩).steps stp
theorem oNotFace (B : oB p l e R s m args below meth c Z h0 lo T cells slots ds) {C : String} {y z : MethodName} (ws : (Jvm.Cond.selects C y z).before a0 Z = true) (hyz : y = z) : NotFace s y := by
  subst hyz; exact notFace_of_selects (args := #[]) (mvT B.2.1 ws)
theorem oWin.leave (B : oB p l e R s m args below meth c Z h0 lo T cells slots ds) {v : Option Value} {S : State} (hv : meth.sig.returnType = none → v = none) (hq : Q v ds) (hr : cells ≤ kc ∧ slots ≤ ks) (hstep : ∀ fs, (∀ (f : JFrame) (acts : List Action), f.method = m → f.locked = none → f.entered = [] → (doReturn e (T.setTop f) acts v).1 = T.setFrames fs) → Steps p.tables e below S (T.setFrames fs)) : oWin p e below Z h0 Q (oFE s lo kc ks) S := by
  obtain ⟨hx, hZ, hlk, locs, X, N, H⟩ := B
  obtain ⟨fs, hrr, hrun, hended, hW, hsame⟩ := X.leave (v := v) hv hlk
  exact ⟨_, _, hstep fs hrr, hrun, hended, v, locs, rfl, ⟨N, lo, ds, H, hq⟩, H.1.2, ⟨_, rfl⟩, hW, hsame.mono hr.1 hr.2⟩
theorem oWin.leaveW {vm₁ : Vm} (B : oB p l e R (s.setVm vm₁) m args below meth c Z h0 lo T cells slots ds) (hS : s.Since vm₁ lo) {v : Option Value} {S : State} (hv : meth.sig.returnType = none → v = none) (hq : Q v ds) (hr : cells ≤ kc ∧ slots ≤ ks) (hstep : ∀ fs, (∀ (f : JFrame) (acts : List Action), f.method = m → f.locked = none → f.entered = [] → (doReturn e (T.setTop f) acts v).1 = T.setFrames fs) → Steps p.tables e below S (T.setFrames fs)) : oWin p e below Z h0 Q (oFW s kc ks) S := by
  obtain ⟨hx, hZ, hlk, locs, X, N, H⟩ := B
  obtain ⟨fs, hrr, hrun, hended, h1, h2, h3, h4⟩ := X.leaveW hS H.1.2 (v := v) hv hlk
  exact ⟨_, _, hstep fs hrr, hrun, hended, v, locs, rfl, ⟨N, lo, ds, H, hq⟩, h1, h2, h3, h4.mono hr.1 hr.2⟩
theorem W_retNW {vm₁ : Vm} (B : oB p l e R (s.setVm vm₁) m args below meth c Z h0 lo T cells slots ds) (hS : s.Since vm₁ lo) {z : Int32} {t : FieldType} (hret : meth.sig.returnType = some t) (ht : t = .boolean ∨ t = .byte ∨ t = .char ∨ t = .short) (hd : decode c.code pc = .ok (.ireturn, 1)) (hr : cells ≤ kc ∧ slots ≤ ks) (hq : Q (some (.int (nar t z))) ds) : oWin p e below Z h0 Q (oFW s kc ks) (T.setTop (mkF m pc ls (.int z :: st))) := by
  have B' := B
  obtain ⟨hx, hZ, hlk, locs, X, N, H⟩ := B'
  exact oWin.leaveW B hS (v := some (.int (nar t z))) (fun h => by rw [hret] at h; cases h) hq hr fun fs hl => retN X hx hret ht hd hl
theorem W_ldcStr {vm₀ : Vm} (B : oB p l e R (s.setVm vm₀) m args below meth c Z h0 lo T cells slots ds) (hS : s.Since vm₀ lo) {own text : String} {i n : Nat} (hown : (s.setVm vm₀).vm.findClass own = some m.cls) (w : (Jvm.Cond.stringLink own i text).before a0 Z = true) (wS : ∀ a ∈ Bundle.stringAtoms, a.before a0 Z = true) (hd : decode c.code pc = .ok (.ldc i, 2)) (hp : pc + 2 = pc') (hn : 4 * text.toList.length ≤ n) (hr : n ≤ 536870912 ∧ cells + 2 ≤ R.cells ∧ slots + (n + 4) ≤ R.slots) {cells' slots' : Nat} (hc' : cells + 2 = cells') (hs' : slots + (n + 4) = slots')
    (k : ∀ T a vm₁ lo', oB p l e R (s.setVm vm₁) m args below meth c Z h0 lo' T cells' slots' ds → s.Since vm₁ lo' → (s.setVm vm₁).vm.findClass own = some m.cls → oWin p e below Z h0 Q E (T.setTop (mkF m pc' ls (.ref a :: st)))) : oWin p e below Z h0 Q E (T.setTop (mkF m pc ls st)) := by
  subst hp hc' hs'
  obtain ⟨hx, hZ, hlk, locs, X, N, H⟩ := B
  obtain ⟨a, T', h', k1, X', e', E1, hS', hk1, hZ', hown', stp⟩ := ldcS X hx hZ hown w wS rfl hS H.1.2 (g := mkF m pc ls st) rfl hd hn hr.1 hr.2.1 hr.2.2
  subst e'
  exact (k T' a T'.vm k1 ⟨hx, hZ', hlk, locs, X', N, H.more E1 hk1⟩ hS' hown').step stp
theorem W_retI (B : oB p l e R s m args below meth c Z h0 lo T cells slots ds) {z : Int32} (hret : meth.sig.returnType = some .int) (hd : decode c.code pc = .ok (.ireturn, 1)) (hr : cells ≤ kc ∧ slots ≤ ks) (hq : Q (some (.int z)) ds) : oWin p e below Z h0 Q (oFE s lo kc ks) (T.setTop (mkF m pc ls (.int z :: st))) := by
  have B' := B
  obtain ⟨hx, hZ, hlk, locs, X, N, H⟩ := B'
  refine oWin.leave B (v := some (.int z)) (fun h => by rw [hret] at h; cases h) hq hr fun fs hl => ?_
  have hm' : T.vm.method? m = some meth := X.method'
  have hn : narrow .int (.int z) = .int z := rfl
  show Steps p.tables e below (T.setTop { method := m, pc := pc, locals := ls, stack := _ :: st, locked := none }) _
  jvm_step X.here [X.here.top, hx, hd, hm', hret, hn]
  first | (intro acts; rw [hl _ acts rfl rfl rfl]) | rw [hl _ _ rfl rfl rfl]
  exact Steps.refl _
theorem W_retL (B : oB p l e R s m args below meth c Z h0 lo T cells slots ds) {z : Int64} (hret : meth.sig.returnType = some .long) (hd : decode c.code pc = .ok (.lreturn, 1)) (hr : cells ≤ kc ∧ slots ≤ ks) (hq : Q (some (.long z)) ds) : oWin p e below Z h0 Q (oFE s lo kc ks) (T.setTop (mkF m pc ls (.long z :: st))) := by
  have B' := B
  obtain ⟨hx, hZ, hlk, locs, X, N, H⟩ := B'
  refine oWin.leave B (v := some (.long z)) (fun h => by rw [hret] at h; cases h) hq hr fun fs hl => ?_
  have hm' : T.vm.method? m = some meth := X.method'
  show Steps p.tables e below (T.setTop { method := m, pc := pc, locals := ls, stack := _ :: st, locked := none }) _
  jvm_step X.here [X.here.top, hx, hd, hm', hret, narrow]
  first | (intro acts; rw [hl _ acts rfl rfl rfl]) | rw [hl _ _ rfl rfl rfl]
  exact Steps.refl _
theorem W_retN (B : oB p l e R s m args below meth c Z h0 lo T cells slots ds) {z : Int32} {t : FieldType} (hret : meth.sig.returnType = some t) (ht : t = .boolean ∨ t = .byte ∨ t = .char ∨ t = .short) (hd : decode c.code pc = .ok (.ireturn, 1)) (hr : cells ≤ kc ∧ slots ≤ ks) (hq : Q (some (.int (nar t z))) ds) : oWin p e below Z h0 Q (oFE s lo kc ks) (T.setTop (mkF m pc ls (.int z :: st))) := by
  have B' := B
  obtain ⟨hx, hZ, hlk, locs, X, N, H⟩ := B'
  exact oWin.leave B (v := some (.int (nar t z))) (fun h => by rw [hret] at h; cases h) hq hr fun fs hl => retN X hx hret ht hd hl
theorem W_retV (B : oB p l e R s m args below meth c Z h0 lo T cells slots ds) (hret : meth.sig.returnType = none) (hd : decode c.code pc = .ok (.return_, 1)) (hr : cells ≤ kc ∧ slots ≤ ks) (hq : Q none ds) : oWin p e below Z h0 Q (oFE s lo kc ks) (T.setTop (mkF m pc ls [])) := by
  have B' := B
  obtain ⟨hx, hZ, hlk, locs, X, N, H⟩ := B'
  exact oWin.leave B (v := none) (fun _ => rfl) hq hr fun fs hl => X.returnOut hx hret hd hl
theorem W_retA (B : oB p l e R s m args below meth c Z h0 lo T cells slots ds) {v : Value} {t : FieldType} (hret : meth.sig.returnType = some t) (ht : t.isReference = true) (hv : v.isRef = true) (hd : decode c.code pc = .ok (.areturn, 1)) (hr : cells ≤ kc ∧ slots ≤ ks) (hq : Q (some v) ds) : oWin p e below Z h0 Q (oFE s lo kc ks) (T.setTop (mkF m pc ls (v :: st))) := by
  have B' := B
  obtain ⟨hx, hZ, hlk, locs, X, N, H⟩ := B'
  refine oWin.leave B (v := some v) (fun h => by rw [hret] at h; cases h) hq hr fun fs hl => ?_
  have hm' : T.vm.method? m = some meth := X.method'
  show Steps p.tables e below (T.setTop { method := m, pc := pc, locals := ls, stack := _ :: st, locked := none }) _
  cases v <;> simp [Value.isRef] at hv
  all_goals
    jvm_step X.here [X.here.top, hx, hd, hm', hret, Value.isRef, FieldType.isReference, ht]
    refine ⟨ht, fun acts => ?_⟩
    rw [hl _ acts rfl rfl rfl]
    exact Steps.refl _
theorem oB_ne (B : oB p l e R s m args below meth c Z h0 lo T cells slots ds) {i j : Nat} {x y : Addr × oD} (hi : ds[i]? = some x) (hj : ds[j]? = some y) (ne : i ≠ j) : x.1 ≠ y.1 := by
  obtain ⟨hx, hZ, hlk, locs, X, N, H⟩ := B
  exact H.ne hi hj ne
theorem oB_new (B : oB p l e R s m args below meth c Z h0 lo T cells slots ds) {i : Nat} {x : Addr × oD} (hi : ds[i]? = some x) : h0.size ≤ x.1 := by
  obtain ⟨hx, hZ, hlk, locs, X, N, H⟩ := B
  exact (H.at (a := x.1) (d := x.2) hi).1
theorem oJoin (B : oB p l e R s m args below meth c Z h0 lo T cells slots ds) {α : Type} (P : α → Prop) (f : α → JFrame) {g : JFrame} (h1 : (∀ z T', P z → oB p l e R s m args below meth c Z h0 lo T' cells slots ds → oWin p e below Z h0 Q E (T'.setTop (f z))) → oWin p e below Z h0 Q E (T.setTop g)) (h2 : ∀ z T', P z → oB p l e R s m args below meth c Z h0 lo T' cells slots ds → oWin p e below Z h0 Q E (T'.setTop (f z))) : oWin p e below Z h0 Q E (T.setTop g) := h1 h2
theorem oJoinD (B : oB p l e R s m args below meth c Z h0 lo T cells slots ds) {α : Type} (cells' slots' : Nat) (P : α → Prop) (f : α → JFrame) (D : α → oDs) {g : JFrame} (h1 : (∀ z T', P z → oB p l e R s m args below meth c Z h0 lo T' cells' slots' (D z) → oWin p e below Z h0 Q E (T'.setTop (f z))) → oWin p e below Z h0 Q E (T.setTop g)) (h2 : ∀ z T', P z → oB p l e R s m args below meth c Z h0 lo T' cells' slots' (D z) → oWin p e below Z h0 Q E (T'.setTop (f z))) : oWin p e below Z h0 Q E (T.setTop g) := h1 h2
theorem oNatLt {x : Int32} {k : Nat} (h : x.toInt < k) (hk : 0 < k) : x.toNatClampNeg < k := by
  show x.toInt.toNat < k
  omega
theorem W_virtualOld (B : oB p l e R s m args below meth c Z h0 lo T cells slots ds) {own C : String} {i : Nat} {y z : MethodName} {bytes : ByteArray} {maxL : Nat} {ret : Option FieldType} {rm : Room} {Q' : Option Value → oDs → Prop} {a : Addr} {argsL rest : List Value} {W : Nat} (hown : s.vm.findClass own = some m.cls) (w1 : (Jvm.Cond.methodLink own i y).before a0 Z = true) (w2 : (Jvm.Cond.declares y).before a0 Z = true) (hnf : NotFace s y) (ws : (Jvm.Cond.selects C y z).before a0 Z = true) (wm : (Jvm.Cond.instanceMethod z).before a0 Z = true) (w3 : (Jvm.Cond.initialized z.cls).before a0 Z = true) (w4 : (Jvm.Cond.code z bytes maxL ret).before a0 Z = true) (hy : y.cls ≠ "java/lang/invoke/MethodHandle" ∧ y.cls ≠ "java/lang/invoke/VarHandle")
    (hM : oMet l Z h0 lo z bytes maxL ret [] rm (.ref a :: argsL).toArray ds Q') (hlen : ∀ sig, parseMethodDescriptor y.desc = some sig → argsL.length = sig.parameters.length) (hd : decode c.code pc = .ok (.invokevirtual i, 3)) (hp : pc + 3 = pc') (hst : st = argsL.reverse ++ .ref a :: rest) (hsz : ls.size = c.maxLocals) (hW : (rest.map fun v => v.category).sum ≤ W) (hE : Exa Z h0 a C)
    (hr : rm.frames + 1 ≤ R.frames ∧ W + (maxL + 11) + rm.locals ≤ R.locals ∧ cells + rm.cells ≤ R.cells ∧ slots + rm.slots ≤ R.slots) {cells' slots' : Nat} (hc' : cells + rm.cells = cells') (hs' : slots + rm.slots = slots')
    (k : ∀ T v ds', Q' v ds' → oB p l e R s m args below meth c Z h0 lo T cells' slots' ds' → oWin p e below Z h0 Q E (T.setTop (mkF m pc' ls (v.toList ++ rest)))) : oWin p e below Z h0 Q E (T.setTop (mkF m pc ls st)) := by
  subst hp hst hc' hs'
  obtain ⟨hx, hZ, hlk, locs, X, N, H⟩ := B
  obtain ⟨cq, kq, q1, q2, q3⟩ := isOf (T := T) hZ rfl (hE.ext H.1.1)
  obtain ⟨v, vm1, ⟨T', L', k', n'⟩, -, X', ⟨Lc, ⟨N', ds', H', hQ⟩, e1, e2, e3⟩, stp⟩ := X.virtualBack hx (y := y) (z := z) hown (mvT hZ w1) (mvT hZ w2) hnf (mvT hZ ws) (mvT hZ wm) hy (backOf (W := W) (Q := fun v h L => Fr h0.size L ∧ ∃ ds', oHP Z h0 lo h ds' ∧ Q' v ds') (hM _ H) hZ w4 w3 hr.1 hr.2.1) q1 q3 (g := mkF m pc ls (argsL.reverse ++ .ref a :: rest)) rfl hsz (Steps.refl _) hlen rfl (by simpa using hW) hd (fun _ _ => ⟨rfl, rfl, hr.2.2.1, hr.2.2.2⟩)
  dsimp only [Pt.U, Pt.locs, Pt.cells, Pt.slots] at X' e1 e2 e3 stp H'
  subst e1 e2 e3
  exact (k T' v ds' hQ ⟨hx, hZ, hlk, _, X', N.app N', H'⟩).steps stp
theorem W_private (B : oB p l e R s m args below meth c Z h0 lo T cells slots ds) {own C : String} {i j : Nat} {y : MethodName} {bytes : ByteArray} {maxL : Nat} {ret : Option FieldType} {rm : Room} {Q' : Option Value → oDs → Prop} {a : Addr} {fs : List (oFK × Value)} {argsL rest : List Value} {W : Nat} (hown : s.vm.findClass own = some m.cls) (w1 : (Jvm.Cond.methodLink own i y).before a0 Z = true) (w2 : (Jvm.Cond.instanceMethod y).before a0 Z = true) (ws : (Jvm.Cond.selects y.cls y y).before a0 Z = true) (wp : (Jvm.Cond.privateMethod y).before a0 Z = true) (w3 : (Jvm.Cond.initialized y.cls).before a0 Z = true) (w4 : (Jvm.Cond.code y bytes maxL ret).before a0 Z = true) (hy : y.cls ≠ "java/lang/invoke/MethodHandle" ∧ y.cls ≠ "java/lang/invoke/VarHandle")
    (hM : oMet l Z h0 lo y bytes maxL ret [] rm (.ref a :: argsL).toArray ds Q') (hlen : ∀ sig, parseMethodDescriptor y.desc = some sig → argsL.length = sig.parameters.length) (hd : decode c.code pc = .ok (.invokevirtual i, 3)) (hp : pc + 3 = pc') (hst : st = argsL.reverse ++ .ref a :: rest) (hsz : ls.size = c.maxLocals) (hW : (rest.map fun v => v.category).sum ≤ W) (hi : ds[j]? = some (a, oO C fs))
    (hr : rm.frames + 1 ≤ R.frames ∧ W + (maxL + 11) + rm.locals ≤ R.locals ∧ cells + rm.cells ≤ R.cells ∧ slots + rm.slots ≤ R.slots) {cells' slots' : Nat} (hc' : cells + rm.cells = cells') (hs' : slots + rm.slots = slots')
    (k : ∀ T v ds', Q' v ds' → oB p l e R s m args below meth c Z h0 lo T cells' slots' ds' → oWin p e below Z h0 Q E (T.setTop (mkF m pc' ls (v.toList ++ rest)))) : oWin p e below Z h0 Q E (T.setTop (mkF m pc ls st)) := by
  subst hp hst hc' hs'
  obtain ⟨hx, hZ, hlk, locs, X, N, H⟩ := B
  obtain ⟨cq, q1, q2⟩ := (H.at hi).2.1.cell
  obtain ⟨v, vm1, ⟨T', L', k', n'⟩, -, X', ⟨Lc, ⟨N', ds', H', hQ⟩, e1, e2, e3⟩, stp⟩ := X.privateBack hx (y := y) hown (mvT hZ w1) (mvT hZ w2) (mvT hZ ws) (Cond.privateMethod_at (mvP hZ wp (args := #[]))) (mvT hZ w4) hy (backOf (W := W) (Q := fun v h L => Fr h0.size L ∧ ∃ ds', oHP Z h0 lo h ds' ∧ Q' v ds') (hM _ H) hZ w4 w3 hr.1 hr.2.1) (g := mkF m pc ls (argsL.reverse ++ .ref a :: rest)) rfl hsz (Steps.refl _) (a := a) q1 q2 hlen rfl (by simpa using hW) hd (fun _ _ => ⟨rfl, rfl, hr.2.2.1, hr.2.2.2⟩)
  dsimp only [Pt.U, Pt.locs, Pt.cells, Pt.slots] at X' e1 e2 e3 stp H'
  subst e1 e2 e3
  exact (k T' v ds' hQ ⟨hx, hZ, hlk, _, X', N.app N', H'⟩).steps stp
end Wlaws
theorem oIs.kept {Z : State} {h h' : Heap} {a : Addr} {d : oD} (hk : ∀ c, h[a]? = some c → h'[a]? = some c) (I : oIs Z h a d) : oIs Z h' a d := by
  have exa : ∀ {C : String}, Exa Z h a C → Exa Z h' a C := fun {C} F => by obtain ⟨cell, k, h1, r⟩ := F; exact ⟨cell, k, hk _ h1, r⟩
  cases d with
  | inl x => obtain ⟨c, A, r1, r2, r3, r4⟩ := I; exact ⟨c, ⟨hk _ A.1, A.2⟩, r1, r2, exa r3, r4⟩
  | inr x => exact ⟨exa I.1, fun f hf => by obtain ⟨cell, cf, k, i, f', h1, r⟩ := I.2.1 f hf; exact ⟨cell, cf, k, i, f', hk _ h1, r⟩, I.2.2⟩
theorem oHP.dropKeep {Z : State} {h0 h h' : Heap} {lo : Nat} {x : Addr} {d : oD} {ds : oDs} (H : oHP Z h0 lo h ((x, d) :: ds)) (K : Keep h h' [x]) : oHP Z h0 lo h' ds := by
  obtain ⟨⟨E, hlo⟩, hnd, hall⟩ := H
  have hx := (hall (x, d) List.mem_cons_self).1
  rw [List.map_cons, List.nodup_cons] at hnd
  refine ⟨⟨⟨Nat.le_trans E.1 K.1, fun a c q => K.2.1 a c (E.2 a c q) fun z => ?_⟩, Nat.le_trans hlo K.1⟩, hnd.2, fun y hy => ⟨(hall y (List.mem_cons_of_mem _ hy)).1, (hall y (List.mem_cons_of_mem _ hy)).2.kept fun c q => K.2.1 _ c q fun z => ?_⟩⟩
  · have e := List.mem_singleton.mp z
    have r := Nat.lt_of_lt_of_le (Array.getElem?_eq_some_iff.mp q).1 hx
    rw [e] at r
    exact Nat.lt_irrefl _ r
  · refine hnd.1 (List.mem_map.mpr ⟨y, hy, ?_⟩)
    exact List.mem_singleton.mp z
section OwnStr
variable {p : Program} {l : Launch} {e : Env} {R : Room} {s : State} {m : MethodId} {args : Array Value} {below : List Frame} {meth : Method} {c : Code} {Z : State} {a0 : Array Value} {h0 : Heap} {lo : Nat} {T : State} {cells slots : Nat} {ds ds' : oDs} {Q : Option Value → oDs → Prop} {E : Outcome → State → List Loc → Prop} {kc ks : Nat} {pc pc' : Nat} {ls ls' : Array Slot} {st : List Value}
theorem own_newStr {x b : Addr} {v0 c0 : Value} {ch z : Int32} (B : oB p l e R s m args below meth c Z h0 lo T cells slots ((x, oO "java/lang/String" [(("java/lang/String", "value", "[B"), v0), (("java/lang/String", "coder", "B"), c0)]) :: ds)) {own : String} {i j W : Nat} {bytes : ByteArray} {maxL : Nat} {rest : List Value} (hown : s.vm.findClass own = some m.cls) (w1 : (Jvm.Cond.methodLink own i ⟨"java/lang/String", "<init>", "([C)V"⟩).before a0 Z = true) (w2 : (Jvm.Cond.instanceMethod ⟨"java/lang/String", "<init>", "([C)V"⟩).before a0 Z = true) (w4 : (Jvm.Cond.code ⟨"java/lang/String", "<init>", "([C)V"⟩ bytes maxL none).before a0 Z = true) (hws : ∀ d ∈ StrChars.Road.words, d.before a0 Z = true) (wi : (Jvm.Cond.instantiable "java/lang/String" 4).before a0 Z = true)
    (S : Sta Z h0 "java/lang/String" "COMPACT_STRINGS" "Z" (.int z)) (hz : ¬ z = 0) (hj : ds[j]? = some (b, oA .char [.int ch])) (hch : ¬ ch < 0 ∧ ¬ (255 : Int32) < ch) (hlen : ∀ sig, parseMethodDescriptor "([C)V" = some sig → [Value.ref b].length = sig.parameters.length) (hd : decode c.code pc = .ok (.invokespecial i, 3)) (hp : pc + 3 = pc') (hsz : ls.size = c.maxLocals) (hW : (rest.map fun v => v.category).sum ≤ W) (hr : 4 ≤ R.frames ∧ W + 65 ≤ R.locals ∧ cells + 1 ≤ R.cells ∧ slots + 1 ≤ R.slots) {cells' slots' : Nat} (hc' : cells + 1 = cells') (hs' : slots + 1 = slots')
    (k : ∀ T, oB p l e R s m args below meth c Z h0 lo T cells' slots' ds → oWin p e below Z h0 Q E (T.setTop (mkF m pc' ls rest))) : oWin p e below Z h0 Q E (T.setTop (mkF m pc ls (.ref b :: .ref x :: rest))) := by
  subst hp hc' hs'
  obtain ⟨hx, hZ, hlk, locs, X, N, H⟩ := B
  obtain ⟨hx0, I⟩ := H.2.2 _ List.mem_cons_self
  have F1 := I.2.1 _ (List.mem_of_getElem? (i := 0) rfl)
  have F2 := I.2.1 _ (List.mem_of_getElem? (i := 1) rfl)
  obtain ⟨-, c', A, e1, -, -, Fi⟩ := H.at (i := j + 1) (a := b) (d := oA .char [.int ch]) hj
  have hK : Arv Z T.heap b c'.cls .char (Int32.ofNat 1) ([ch].map Value.int) (.int 0) := by
    refine ⟨c', A, rfl, by rw [e1]; rfl, by decide, fun k hk => ?_, fun k hk => ?_⟩
    · rw [e1] at hk ⊢
      match k, hk with
      | 0, _ => rfl
    · rw [e1] at hk
      match k, hk with
      | 0, _ => exact Fi _ List.mem_cons_self
  obtain ⟨v, vm1, ⟨T', L', k', n'⟩, -, X', ⟨Lc, ⟨hv, N', Kp, -⟩, q1, q2, q3⟩, stp⟩ := X.specialBack hx (y := ⟨"java/lang/String", "<init>", "([C)V"⟩) rfl hown (mvT hZ w1) (mvT hZ w2) (mvT hZ w4) (by decide) (StrChars.Road.backV (W := W) hZ hws (kI := 4) wi (cs := [ch]) (bs := [ch.toInt8.toInt32]) (n := 1) (n0 := h0.size) hx0 H.1.1.1 I.1 F1 F2 hK (S.ext H.1.1) hz rfl rfl (by decide) (by decide) (fun q hq => by cases List.mem_singleton.mp hq; exact hch) rfl hr.1 hr.2.1) (g := mkF m pc ls (.ref b :: .ref x :: rest)) rfl hsz (Steps.refl _) (a := x) (argsL := [.ref b]) (rest := rest) hlen rfl (by simpa using hW) hd (fun _ _ => ⟨rfl, rfl, hr.2.2.1, hr.2.2.2⟩)
  dsimp only [Pt.U, Pt.locs, Pt.cells, Pt.slots] at X' q1 q2 q3 stp Kp
  subst q1 q2 q3 hv
  exact (k T' ⟨hx, hZ, hlk, _, X', N.app N', H.dropKeep Kp⟩).steps stp
end OwnStr
theorem own_ch (x : Int32) : ¬ (nar .char ((x &&& (255 : Int32)).toUInt32.toUInt16.toUInt32.toInt32)) < 0 ∧ ¬ (255 : Int32) < (nar .char ((x &&& (255 : Int32)).toUInt32.toUInt16.toUInt32.toInt32)) := by
  rw [show nar .char ((x &&& (255 : Int32)).toUInt32.toUInt16.toUInt32.toInt32) = x &&& 255 from by simp only [nar, i2c_mask]]
  have q := c_and x 255 (by decide)
  have e3 : (255 : Int32).toInt = 255 := rfl
  have e0 : (0 : Int32).toInt = 0 := rfl
  exact ⟨onltI_i (by omega), onltI_i (by omega)⟩
theorem d2_0 : decode jdk_30_method_1_code 0 = .ok (.aload_n 0, 1) := by decide +kernel
theorem d2_1 : decode jdk_30_method_1_code 1 = .ok (.invokespecial 1, 3) := by decide +kernel
theorem d2_4 : decode jdk_30_method_1_code 4 = .ok (.return_, 1) := by decide +kernel
theorem ef_rm_rec (m : MethodId) (x0 : Addr) : entryFrame m #[(.ref x0)] 1 = mkF m 0 #[.val (.ref x0)] [] := by first | (simp [entryFrame, mkF, argsToLocals, Value.category]; done) | rfl
theorem pn_0 : plainName "java/lang/Record" = true := by first | (simp [plainName, overriddenIn]; done) | decide +kernel
set_option maxRecDepth 65536 in
set_option maxHeartbeats 40000000 in
theorem rm_rec (l : Launch) (Z : State) (a0 : Array Value) (hw : ∀ d ∈ tables_1, d.before a0 Z = true) (h0 : Heap) {lo : Nat} (a1 : Addr) (ds : oDs) :
    oMet l Z h0 lo (⟨"java/lang/Record", "<init>", "()V"⟩ : MethodName) jdk_30_method_1_code 1 none [] ({ frames := 1, cells := 0, slots := 0, locals := 12 } : Room) #[(.ref a1)] (ds) (fun (v : Option Value) (d : oDs) => (v = none ∧ (ds) = d)) := by
  refine oMet.of_body (plainFor_of_name pn_0) ?_
  intro p e s m below meth c T B hby hml hown hnm hret
  refine W_entry (ef_rm_rec m a1) ?_
  refine W_aloadN B (hb hby d2_0) (pc' := 1) rfl rfl rfl ?_
  refine W_initO B hown (ow hw (i := 20) rfl) (ow hw (i := 21) rfl) (ow hw (i := 22) rfl) (hb hby d2_1) (pc' := 4) rfl (by rw [hml]; rfl) (W := 0) (oLe rfl) (by decide) ?_
  intro T B
  refine W_retV B hret (hb hby d2_4) (by decide) ?_
  exact ⟨rfl, rfl⟩
theorem d1_0 : decode prog_3_method_1_code 0 = .ok (.aload_n 0, 1) := by decide +kernel
theorem d1_1 : decode prog_3_method_1_code 1 = .ok (.invokespecial 1, 3) := by decide +kernel
abbrev cn0 : String := "com/example/mitosis/mitosis/core/Change"
abbrev fk0 : oFK := ("com/example/mitosis/mitosis/core/Change", "id", "Ljava/lang/String;")
abbrev fk1 : oFK := ("com/example/mitosis/mitosis/core/Change", "hash", "J")
abbrev fk2 : oFK := ("com/example/mitosis/mitosis/core/Change", "source", "[B")
theorem pd_0 : parseMethodDescriptor "()V" = some ⟨[], none⟩ := by decide +kernel
theorem d1_4 : decode prog_3_method_1_code 4 = .ok (.aload_n 0, 1) := by decide +kernel
theorem d1_5 : decode prog_3_method_1_code 5 = .ok (.aload_n 1, 1) := by decide +kernel
theorem d1_6 : decode prog_3_method_1_code 6 = .ok (.putfield 7, 3) := by decide +kernel
theorem d1_9 : decode prog_3_method_1_code 9 = .ok (.aload_n 0, 1) := by decide +kernel
theorem d1_10 : decode prog_3_method_1_code 10 = .ok (.lload_n 2, 1) := by decide +kernel
theorem d1_11 : decode prog_3_method_1_code 11 = .ok (.putfield 13, 3) := by decide +kernel
theorem d1_14 : decode prog_3_method_1_code 14 = .ok (.aload_n 0, 1) := by decide +kernel
theorem d1_15 : decode prog_3_method_1_code 15 = .ok (.aload 4, 2) := by decide +kernel
theorem d1_17 : decode prog_3_method_1_code 17 = .ok (.putfield 17, 3) := by decide +kernel
theorem d1_20 : decode prog_3_method_1_code 20 = .ok (.return_, 1) := by decide +kernel
theorem ef_rm_inin (m : MethodId) (x0 : Addr) (x1 : Addr) (x2 : Int64) : entryFrame m #[(.ref x0), (.ref x1), (.long x2), .null] 5 = mkF m 0 #[.val (.ref x0), .val (.ref x1), .val (.long x2), .second, .val .null] [] := by first | (simp [entryFrame, mkF, argsToLocals, Value.category]; done) | rfl
theorem pn_1 : plainName "com/example/mitosis/mitosis/core/Change" = true := by first | (simp [plainName, overriddenIn]; done) | decide +kernel
set_option maxRecDepth 65536 in
set_option maxHeartbeats 40000000 in
theorem rm_inin (l : Launch) (Z : State) (a0 : Array Value) (hw : ∀ d ∈ tables_1, d.before a0 Z = true) (h0 : Heap) {lo : Nat} (a1 : Addr) (s1 : Addr) (q1 : Int64) (ds : oDs) :
    oMet l Z h0 lo (⟨"com/example/mitosis/mitosis/core/Change", "<init>", "(Ljava/lang/String;J[B)V"⟩ : MethodName) prog_3_method_1_code 5 none [] ({ frames := 2, cells := 0, slots := 0, locals := 24 } : Room) #[(.ref a1), (.ref s1), (.long q1), .null] ((a1, oO cn0 [(fk0, .null), (fk1, (.long (0 : Int64))), (fk2, .null)]) :: ds) (fun (v : Option Value) (d : oDs) => (v = none ∧ ((a1, oO cn0 [(fk0, (.ref s1)), (fk1, (.long q1)), (fk2, .null)]) :: ds) = d)) := by
  refine oMet.of_body (plainFor_of_name pn_1) ?_
  intro p e s m below meth c T B hby hml hown hnm hret
  refine W_entry (ef_rm_inin m a1 s1 q1) ?_
  refine W_aloadN B (hb hby d1_0) (pc' := 1) rfl rfl rfl ?_
  refine W_init B (y := (⟨"java/lang/Record", "<init>", "()V"⟩ : MethodName)) hown rfl (ow hw (i := 15) rfl) (ow hw (i := 16) rfl) (ow hw (i := 18) rfl) (ow hw (i := 19) rfl) (by decide) (a := a1) (rm_rec l Z a0 hw h0 a1 ((a1, oO cn0 [(fk0, .null), (fk1, (.long (0 : Int64))), (fk2, .null)]) :: ds)) (lenOf pd_0 rfl) (hb hby d1_1) (pc' := 4) rfl (argsL := []) (rest := []) rfl (by rw [hml]; rfl) (W := 0) (oLe rfl) (by decide) (cells' := 0) rfl (slots' := 0) rfl ?_
  intro T v_ d_ q_ B
  obtain ⟨rfl, rfl⟩ := q_
  show oWin p e below Z h0 _ _ (T.setTop (mkF m 4 #[.val (.ref a1), .val (.ref s1), .val (.long q1), .second, .val .null] []))
  refine W_aloadN B (hb hby d1_4) (pc' := 5) rfl rfl rfl ?_
  refine W_aloadN B (hb hby d1_5) (pc' := 6) rfl rfl rfl ?_
  refine W_putfield B hown (host := "") (Or.inl (ow hw (i := 23) rfl)) Via.refl (hb hby d1_6) (pc' := 9) rfl (Or.inr ⟨(ow hw (i := 24) rfl), rfl, hnm⟩) (ow hw (i := 10) rfl) (ty := (.object "java/lang/String")) (by decide) rfl rfl (j := 0) rfl (q := 0) rfl (ds' := ((a1, oO cn0 [(fk0, (.ref s1)), (fk1, (.long (0 : Int64))), (fk2, .null)]) :: ds)) rfl ?_
  intro T B
  refine W_aloadN B (hb hby d1_9) (pc' := 10) rfl rfl rfl ?_
  refine W_lloadN B (hb hby d1_10) (pc' := 11) rfl rfl ?_
  refine W_putfield B hown (host := "") (Or.inl (ow hw (i := 25) rfl)) Via.refl (hb hby d1_11) (pc' := 14) rfl (Or.inr ⟨(ow hw (i := 26) rfl), rfl, hnm⟩) (ow hw (i := 10) rfl) (ty := .long) (by decide) rfl rfl (j := 0) rfl (q := 1) rfl (ds' := ((a1, oO cn0 [(fk0, (.ref s1)), (fk1, (.long q1)), (fk2, .null)]) :: ds)) rfl ?_
  intro T B
  refine W_aloadN B (hb hby d1_14) (pc' := 15) rfl rfl rfl ?_
  refine W_aload B (hb hby d1_15) (pc' := 17) rfl rfl rfl ?_
  refine W_putfield B hown (host := "") (Or.inl (ow hw (i := 27) rfl)) Via.refl (hb hby d1_17) (pc' := 20) rfl (Or.inr ⟨(ow hw (i := 28) rfl), rfl, hnm⟩) (ow hw (i := 10) rfl) (ty := (.array .byte)) (by decide) rfl rfl (j := 0) rfl (q := 2) rfl (ds' := ((a1, oO cn0 [(fk0, (.ref s1)), (fk1, (.long q1)), (fk2, .null)]) :: ds)) rfl ?_
  intro T B
  refine W_retV B hret (hb hby d1_20) (by decide) ?_
  exact ⟨rfl, rfl⟩
theorem ef_rm_inia (m : MethodId) (x0 : Addr) (x1 : Addr) (x2 : Int64) (x3 : Addr) : entryFrame m #[(.ref x0), (.ref x1), (.long x2), (.ref x3)] 5 = mkF m 0 #[.val (.ref x0), .val (.ref x1), .val (.long x2), .second, .val (.ref x3)] [] := by first | (simp [entryFrame, mkF, argsToLocals, Value.category]; done) | rfl
set_option maxRecDepth 65536 in
set_option maxHeartbeats 40000000 in
theorem rm_inia (l : Launch) (Z : State) (a0 : Array Value) (hw : ∀ d ∈ tables_1, d.before a0 Z = true) (h0 : Heap) {lo : Nat} (a1 : Addr) (s1 : Addr) (q1 : Int64) (k1 : Addr) (ds : oDs) :
    oMet l Z h0 lo (⟨"com/example/mitosis/mitosis/core/Change", "<init>", "(Ljava/lang/String;J[B)V"⟩ : MethodName) prog_3_method_1_code 5 none [] ({ frames := 2, cells := 0, slots := 0, locals := 24 } : Room) #[(.ref a1), (.ref s1), (.long q1), (.ref k1)] ((a1, oO cn0 [(fk0, .null), (fk1, (.long (0 : Int64))), (fk2, .null)]) :: ds) (fun (v : Option Value) (d : oDs) => (v = none ∧ ((a1, oO cn0 [(fk0, (.ref s1)), (fk1, (.long q1)), (fk2, (.ref k1))]) :: ds) = d)) := by
  refine oMet.of_body (plainFor_of_name pn_1) ?_
  intro p e s m below meth c T B hby hml hown hnm hret
  refine W_entry (ef_rm_inia m a1 s1 q1 k1) ?_
  refine W_aloadN B (hb hby d1_0) (pc' := 1) rfl rfl rfl ?_
  refine W_init B (y := (⟨"java/lang/Record", "<init>", "()V"⟩ : MethodName)) hown rfl (ow hw (i := 15) rfl) (ow hw (i := 16) rfl) (ow hw (i := 18) rfl) (ow hw (i := 19) rfl) (by decide) (a := a1) (rm_rec l Z a0 hw h0 a1 ((a1, oO cn0 [(fk0, .null), (fk1, (.long (0 : Int64))), (fk2, .null)]) :: ds)) (lenOf pd_0 rfl) (hb hby d1_1) (pc' := 4) rfl (argsL := []) (rest := []) rfl (by rw [hml]; rfl) (W := 0) (oLe rfl) (by decide) (cells' := 0) rfl (slots' := 0) rfl ?_
  intro T v_ d_ q_ B
  obtain ⟨rfl, rfl⟩ := q_
  show oWin p e below Z h0 _ _ (T.setTop (mkF m 4 #[.val (.ref a1), .val (.ref s1), .val (.long q1), .second, .val (.ref k1)] []))
  refine W_aloadN B (hb hby d1_4) (pc' := 5) rfl rfl rfl ?_
  refine W_aloadN B (hb hby d1_5) (pc' := 6) rfl rfl rfl ?_
  refine W_putfield B hown (host := "") (Or.inl (ow hw (i := 23) rfl)) Via.refl (hb hby d1_6) (pc' := 9) rfl (Or.inr ⟨(ow hw (i := 24) rfl), rfl, hnm⟩) (ow hw (i := 10) rfl) (ty := (.object "java/lang/String")) (by decide) rfl rfl (j := 0) rfl (q := 0) rfl (ds' := ((a1, oO cn0 [(fk0, (.ref s1)), (fk1, (.long (0 : Int64))), (fk2, .null)]) :: ds)) rfl ?_
  intro T B
  refine W_aloadN B (hb hby d1_9) (pc' := 10) rfl rfl rfl ?_
  refine W_lloadN B (hb hby d1_10) (pc' := 11) rfl rfl ?_
  refine W_putfield B hown (host := "") (Or.inl (ow hw (i := 25) rfl)) Via.refl (hb hby d1_11) (pc' := 14) rfl (Or.inr ⟨(ow hw (i := 26) rfl), rfl, hnm⟩) (ow hw (i := 10) rfl) (ty := .long) (by decide) rfl rfl (j := 0) rfl (q := 1) rfl (ds' := ((a1, oO cn0 [(fk0, (.ref s1)), (fk1, (.long q1)), (fk2, .null)]) :: ds)) rfl ?_
  intro T B
  refine W_aloadN B (hb hby d1_14) (pc' := 15) rfl rfl rfl ?_
  refine W_aload B (hb hby d1_15) (pc' := 17) rfl rfl rfl ?_
  refine W_putfield B hown (host := "") (Or.inl (ow hw (i := 27) rfl)) Via.refl (hb hby d1_17) (pc' := 20) rfl (Or.inr ⟨(ow hw (i := 28) rfl), rfl, hnm⟩) (ow hw (i := 10) rfl) (ty := (.array .byte)) (by decide) rfl rfl (j := 0) rfl (q := 2) rfl (ds' := ((a1, oO cn0 [(fk0, (.ref s1)), (fk1, (.long q1)), (fk2, (.ref k1))]) :: ds)) rfl ?_
  intro T B
  refine W_retV B hret (hb hby d1_20) (by decide) ?_
  exact ⟨rfl, rfl⟩
theorem d4_0 : decode prog_3_method_3_code 0 = .ok (.new 8, 3) := by decide +kernel
theorem d4_3 : decode prog_3_method_3_code 3 = .ok (.dup, 1) := by decide +kernel
theorem d4_4 : decode prog_3_method_3_code 4 = .ok (.aload_n 0, 1) := by decide +kernel
theorem d4_5 : decode prog_3_method_3_code 5 = .ok (.lload_n 1, 1) := by decide +kernel
theorem d4_6 : decode prog_3_method_3_code 6 = .ok (.aconst_null, 1) := by decide +kernel
theorem d4_7 : decode prog_3_method_3_code 7 = .ok (.invokespecial 30, 3) := by decide +kernel
theorem pd_1 : parseMethodDescriptor "(Ljava/lang/String;J[B)V" = some ⟨[(.object "java/lang/String"), .long, (.array .byte)], none⟩ := by decide +kernel
theorem d4_10 : decode prog_3_method_3_code 10 = .ok (.areturn, 1) := by decide +kernel
theorem ef_rm_del (m : MethodId) (x0 : Addr) (x1 : Int64) : entryFrame m #[(.ref x0), (.long x1)] 3 = mkF m 0 #[.val (.ref x0), .val (.long x1), .second] [] := by first | (simp [entryFrame, mkF, argsToLocals, Value.category]; done) | rfl
set_option maxRecDepth 65536 in
set_option maxHeartbeats 40000000 in
theorem rm_del (l : Launch) (Z : State) (a0 : Array Value) (hw : ∀ d ∈ tables_1, d.before a0 Z = true) (h0 : Heap) {lo : Nat} (s1 : Addr) (q1 : Int64) (ds : oDs) :
    oMet l Z h0 lo (⟨"com/example/mitosis/mitosis/core/Change", "delete", "(Ljava/lang/String;J)Lcom/example/mitosis/mitosis/core/Change;"⟩ : MethodName) prog_3_method_3_code 3 (some (.object "com/example/mitosis/mitosis/core/Change")) [] ({ frames := 3, cells := 1, slots := 3, locals := 41 } : Room) #[(.ref s1), (.long q1)] (ds) (fun (v : Option Value) (d : oDs) => (∃ (b : Addr), v = some (.ref b) ∧ ((b, oO cn0 [(fk0, (.ref s1)), (fk1, (.long q1)), (fk2, .null)]) :: ds) = d)) := by
  refine oMet.of_body (plainFor_of_name pn_1) ?_
  intro p e s m below meth c T B hby hml hown hnm hret
  refine W_entry (ef_rm_del m s1 q1) ?_
  refine W_new B hown (ow hw (i := 32) rfl) (ow hw (i := 10) rfl) (ow hw (i := 11) rfl) (hb hby d4_0) (pc' := 3) rfl (by decide) (cells' := 1) rfl (slots' := 3) rfl (fs := [(fk0, .null), (fk1, (.long (0 : Int64))), (fk2, .null)]) (oAll_cons ⟨Or.inr (ow hw (i := 24) rfl), (.object "java/lang/String"), by decide, rfl⟩ (oAll_cons ⟨Or.inr (ow hw (i := 26) rfl), .long, by decide, rfl⟩ (oAll_cons ⟨Or.inr (ow hw (i := 28) rfl), (.array .byte), by decide, rfl⟩ oAll_nil))) (by decide) ?_
  intro T b1 B
  refine W_dup B (hb hby d4_3) (pc' := 4) rfl rfl ?_
  refine W_aloadN B (hb hby d4_4) (pc' := 5) rfl rfl rfl ?_
  refine W_lloadN B (hb hby d4_5) (pc' := 6) rfl rfl ?_
  refine W_aconstNull B (hb hby d4_6) (pc' := 7) rfl  ?_
  refine W_init B (y := (⟨"com/example/mitosis/mitosis/core/Change", "<init>", "(Ljava/lang/String;J[B)V"⟩ : MethodName)) hown rfl (ow hw (i := 33) rfl) (ow hw (i := 13) rfl) (ow hw (i := 11) rfl) (ow hw (i := 14) rfl) (by decide) (a := b1) (rm_inin l Z a0 hw h0 b1 s1 q1 (ds)) (lenOf pd_1 rfl) (hb hby d4_7) (pc' := 10) rfl (argsL := [(.ref s1), (.long q1), .null]) (rest := [(.ref b1)]) rfl (by rw [hml]; rfl) (W := 1) (oLe rfl) (by decide) (cells' := 1) rfl (slots' := 3) rfl ?_
  intro T v_ d_ q_ B
  obtain ⟨rfl, rfl⟩ := q_
  show oWin p e below Z h0 _ _ (T.setTop (mkF m 10 #[.val (.ref s1), .val (.long q1), .second] [(.ref b1)]))
  refine W_retA B hret rfl rfl (hb hby d4_10) (by decide) ?_
  exact ⟨_, rfl, rfl⟩
theorem d5_0 : decode prog_3_method_2_code 0 = .ok (.aload_n 3, 1) := by decide +kernel
theorem d5_1 : decode prog_3_method_2_code 1 = .ok (.ifnonnull 17, 3) := by decide +kernel
theorem d5_18 : decode prog_3_method_2_code 18 = .ok (.new 8, 3) := by decide +kernel
theorem d5_21 : decode prog_3_method_2_code 21 = .ok (.dup, 1) := by decide +kernel
theorem d5_22 : decode prog_3_method_2_code 22 = .ok (.aload_n 0, 1) := by decide +kernel
theorem d5_23 : decode prog_3_method_2_code 23 = .ok (.lload_n 1, 1) := by decide +kernel
theorem d5_24 : decode prog_3_method_2_code 24 = .ok (.aload_n 3, 1) := by decide +kernel
theorem d5_25 : decode prog_3_method_2_code 25 = .ok (.invokespecial 30, 3) := by decide +kernel
theorem d5_28 : decode prog_3_method_2_code 28 = .ok (.areturn, 1) := by decide +kernel
theorem ef_rm_put (m : MethodId) (x0 : Addr) (x1 : Int64) (x2 : Addr) : entryFrame m #[(.ref x0), (.long x1), (.ref x2)] 4 = mkF m 0 #[.val (.ref x0), .val (.long x1), .second, .val (.ref x2)] [] := by first | (simp [entryFrame, mkF, argsToLocals, Value.category]; done) | rfl
set_option maxRecDepth 65536 in
set_option maxHeartbeats 40000000 in
theorem rm_put (l : Launch) (Z : State) (a0 : Array Value) (hw : ∀ d ∈ tables_1, d.before a0 Z = true) (h0 : Heap) {lo : Nat} (s1 : Addr) (q1 : Int64) (k1 : Addr) (ds : oDs) :
    oMet l Z h0 lo (⟨"com/example/mitosis/mitosis/core/Change", "put", "(Ljava/lang/String;J[B)Lcom/example/mitosis/mitosis/core/Change;"⟩ : MethodName) prog_3_method_2_code 4 (some (.object "com/example/mitosis/mitosis/core/Change")) [] ({ frames := 3, cells := 1, slots := 3, locals := 41 } : Room) #[(.ref s1), (.long q1), (.ref k1)] (ds) (fun (v : Option Value) (d : oDs) => (∃ (b : Addr), v = some (.ref b) ∧ ((b, oO cn0 [(fk0, (.ref s1)), (fk1, (.long q1)), (fk2, (.ref k1))]) :: ds) = d)) := by
  refine oMet.of_body (plainFor_of_name pn_1) ?_
  intro p e s m below meth c T B hby hml hown hnm hret
  refine W_entry (ef_rm_put m s1 q1 k1) ?_
  refine W_aloadN B (hb hby d5_0) (pc' := 1) rfl rfl rfl ?_
  refine W_ifnonnullY B (hb hby d5_1) (by decide) (pc' := 18) (by decide) ?_
  refine W_new B hown (ow hw (i := 32) rfl) (ow hw (i := 10) rfl) (ow hw (i := 11) rfl) (hb hby d5_18) (pc' := 21) rfl (by decide) (cells' := 1) rfl (slots' := 3) rfl (fs := [(fk0, .null), (fk1, (.long (0 : Int64))), (fk2, .null)]) (oAll_cons ⟨Or.inr (ow hw (i := 24) rfl), (.object "java/lang/String"), by decide, rfl⟩ (oAll_cons ⟨Or.inr (ow hw (i := 26) rfl), .long, by decide, rfl⟩ (oAll_cons ⟨Or.inr (ow hw (i := 28) rfl), (.array .byte), by decide, rfl⟩ oAll_nil))) (by decide) ?_
  intro T b2 B
  refine W_dup B (hb hby d5_21) (pc' := 22) rfl rfl ?_
  refine W_aloadN B (hb hby d5_22) (pc' := 23) rfl rfl rfl ?_
  refine W_lloadN B (hb hby d5_23) (pc' := 24) rfl rfl ?_
  refine W_aloadN B (hb hby d5_24) (pc' := 25) rfl rfl rfl ?_
  refine W_init B (y := (⟨"com/example/mitosis/mitosis/core/Change", "<init>", "(Ljava/lang/String;J[B)V"⟩ : MethodName)) hown rfl (ow hw (i := 33) rfl) (ow hw (i := 13) rfl) (ow hw (i := 11) rfl) (ow hw (i := 14) rfl) (by decide) (a := b2) (rm_inia l Z a0 hw h0 b2 s1 q1 k1 (ds)) (lenOf pd_1 rfl) (hb hby d5_25) (pc' := 28) rfl (argsL := [(.ref s1), (.long q1), (.ref k1)]) (rest := [(.ref b2)]) rfl (by rw [hml]; rfl) (W := 1) (oLe rfl) (by decide) (cells' := 1) rfl (slots' := 3) rfl ?_
  intro T v_ d_ q_ B
  obtain ⟨rfl, rfl⟩ := q_
  show oWin p e below Z h0 _ _ (T.setTop (mkF m 28 #[.val (.ref s1), .val (.long q1), .second, .val (.ref k1)] [(.ref b2)]))
  refine W_retA B hret rfl rfl (hb hby d5_28) (by decide) ?_
  exact ⟨_, rfl, rfl⟩
theorem d6_0 : decode prog_3_method_4_code 0 = .ok (.aload_n 0, 1) := by decide +kernel
theorem d6_1 : decode prog_3_method_4_code 1 = .ok (.getfield 17, 3) := by decide +kernel
theorem d6_4 : decode prog_3_method_4_code 4 = .ok (.ifnonnull 7, 3) := by decide +kernel
theorem d6_7 : decode prog_3_method_4_code 7 = .ok (.iconst 1, 1) := by decide +kernel
theorem d6_8 : decode prog_3_method_4_code 8 = .ok (.goto 4, 3) := by decide +kernel
theorem d6_12 : decode prog_3_method_4_code 12 = .ok (.ireturn, 1) := by decide +kernel
theorem ef_rm_isd2n (m : MethodId) (x0 : Addr) : entryFrame m #[(.ref x0)] 1 = mkF m 0 #[.val (.ref x0)] [] := by first | (simp [entryFrame, mkF, argsToLocals, Value.category]; done) | rfl
set_option maxRecDepth 65536 in
set_option maxHeartbeats 40000000 in
theorem rm_isd2n (l : Launch) (Z : State) (a0 : Array Value) (hw : ∀ d ∈ tables_1, d.before a0 Z = true) (h0 : Heap) {lo : Nat} (a1 : Addr) (s1 : Addr) (q1 : Int64) (e0 : Addr × oD) (e1 : Addr × oD) (ds : oDs) :
    oMet l Z h0 lo (⟨"com/example/mitosis/mitosis/core/Change", "isDelete", "()Z"⟩ : MethodName) prog_3_method_4_code 1 (some .boolean) [] ({ frames := 0, cells := 0, slots := 0, locals := 0 } : Room) #[(.ref a1)] (e0 :: e1 :: (a1, oO cn0 [(fk0, (.ref s1)), (fk1, (.long q1)), (fk2, .null)]) :: ds) (fun (v : Option Value) (d : oDs) => (v = some (.int (1 : Int32)) ∧ (e0 :: e1 :: (a1, oO cn0 [(fk0, (.ref s1)), (fk1, (.long q1)), (fk2, .null)]) :: ds) = d)) := by
  refine oMet.of_body (plainFor_of_name pn_1) ?_
  intro p e s m below meth c T B hby hml hown hnm hret
  refine W_entry (ef_rm_isd2n m a1) ?_
  refine W_aloadN B (hb hby d6_0) (pc' := 1) rfl rfl rfl ?_
  refine W_getfield B hown (host := "") (Or.inl (ow hw (i := 27) rfl)) Via.refl (hb hby d6_1) (pc' := 4) rfl (j := 2) rfl (q := 2) rfl ?_
  intro T B
  refine W_ifnonnullN B (hb hby d6_4) (pc' := 7) rfl ?_
  refine W_iconst B (hb hby d6_7) (pc' := 8) rfl (z := (1 : Int32)) (by decide) ?_
  refine W_goto B (hb hby d6_8) (by decide) (pc' := 12) (by decide) ?_
  refine W_retN B hret (by simp) (hb hby d6_12) (by decide) ?_
  exact ⟨rfl, rfl⟩
theorem d6_11 : decode prog_3_method_4_code 11 = .ok (.iconst 0, 1) := by decide +kernel
theorem ef_rm_isd2a (m : MethodId) (x0 : Addr) : entryFrame m #[(.ref x0)] 1 = mkF m 0 #[.val (.ref x0)] [] := by first | (simp [entryFrame, mkF, argsToLocals, Value.category]; done) | rfl
set_option maxRecDepth 65536 in
set_option maxHeartbeats 40000000 in
theorem rm_isd2a (l : Launch) (Z : State) (a0 : Array Value) (hw : ∀ d ∈ tables_1, d.before a0 Z = true) (h0 : Heap) {lo : Nat} (a1 : Addr) (s1 : Addr) (q1 : Int64) (k1 : Addr) (e0 : Addr × oD) (e1 : Addr × oD) (ds : oDs) :
    oMet l Z h0 lo (⟨"com/example/mitosis/mitosis/core/Change", "isDelete", "()Z"⟩ : MethodName) prog_3_method_4_code 1 (some .boolean) [] ({ frames := 0, cells := 0, slots := 0, locals := 0 } : Room) #[(.ref a1)] (e0 :: e1 :: (a1, oO cn0 [(fk0, (.ref s1)), (fk1, (.long q1)), (fk2, (.ref k1))]) :: ds) (fun (v : Option Value) (d : oDs) => (v = some (.int (0 : Int32)) ∧ (e0 :: e1 :: (a1, oO cn0 [(fk0, (.ref s1)), (fk1, (.long q1)), (fk2, (.ref k1))]) :: ds) = d)) := by
  refine oMet.of_body (plainFor_of_name pn_1) ?_
  intro p e s m below meth c T B hby hml hown hnm hret
  refine W_entry (ef_rm_isd2a m a1) ?_
  refine W_aloadN B (hb hby d6_0) (pc' := 1) rfl rfl rfl ?_
  refine W_getfield B hown (host := "") (Or.inl (ow hw (i := 27) rfl)) Via.refl (hb hby d6_1) (pc' := 4) rfl (j := 2) rfl (q := 2) rfl ?_
  intro T B
  refine W_ifnonnullY B (hb hby d6_4) (by decide) (pc' := 11) (by decide) ?_
  refine W_iconst B (hb hby d6_11) (pc' := 12) rfl (z := (0 : Int32)) (by decide) ?_
  refine W_retN B hret (by simp) (hb hby d6_12) (by decide) ?_
  exact ⟨rfl, rfl⟩
theorem ef_rm_isd1n (m : MethodId) (x0 : Addr) : entryFrame m #[(.ref x0)] 1 = mkF m 0 #[.val (.ref x0)] [] := by first | (simp [entryFrame, mkF, argsToLocals, Value.category]; done) | rfl
set_option maxRecDepth 65536 in
set_option maxHeartbeats 40000000 in
theorem rm_isd1n (l : Launch) (Z : State) (a0 : Array Value) (hw : ∀ d ∈ tables_1, d.before a0 Z = true) (h0 : Heap) {lo : Nat} (a1 : Addr) (s1 : Addr) (q1 : Int64) (e0 : Addr × oD) (ds : oDs) :
    oMet l Z h0 lo (⟨"com/example/mitosis/mitosis/core/Change", "isDelete", "()Z"⟩ : MethodName) prog_3_method_4_code 1 (some .boolean) [] ({ frames := 0, cells := 0, slots := 0, locals := 0 } : Room) #[(.ref a1)] (e0 :: (a1, oO cn0 [(fk0, (.ref s1)), (fk1, (.long q1)), (fk2, .null)]) :: ds) (fun (v : Option Value) (d : oDs) => (v = some (.int (1 : Int32)) ∧ (e0 :: (a1, oO cn0 [(fk0, (.ref s1)), (fk1, (.long q1)), (fk2, .null)]) :: ds) = d)) := by
  refine oMet.of_body (plainFor_of_name pn_1) ?_
  intro p e s m below meth c T B hby hml hown hnm hret
  refine W_entry (ef_rm_isd1n m a1) ?_
  refine W_aloadN B (hb hby d6_0) (pc' := 1) rfl rfl rfl ?_
  refine W_getfield B hown (host := "") (Or.inl (ow hw (i := 27) rfl)) Via.refl (hb hby d6_1) (pc' := 4) rfl (j := 1) rfl (q := 2) rfl ?_
  intro T B
  refine W_ifnonnullN B (hb hby d6_4) (pc' := 7) rfl ?_
  refine W_iconst B (hb hby d6_7) (pc' := 8) rfl (z := (1 : Int32)) (by decide) ?_
  refine W_goto B (hb hby d6_8) (by decide) (pc' := 12) (by decide) ?_
  refine W_retN B hret (by simp) (hb hby d6_12) (by decide) ?_
  exact ⟨rfl, rfl⟩
theorem ef_rm_isd0a (m : MethodId) (x0 : Addr) : entryFrame m #[(.ref x0)] 1 = mkF m 0 #[.val (.ref x0)] [] := by first | (simp [entryFrame, mkF, argsToLocals, Value.category]; done) | rfl
set_option maxRecDepth 65536 in
set_option maxHeartbeats 40000000 in
theorem rm_isd0a (l : Launch) (Z : State) (a0 : Array Value) (hw : ∀ d ∈ tables_1, d.before a0 Z = true) (h0 : Heap) {lo : Nat} (a1 : Addr) (s1 : Addr) (q1 : Int64) (k1 : Addr) (ds : oDs) :
    oMet l Z h0 lo (⟨"com/example/mitosis/mitosis/core/Change", "isDelete", "()Z"⟩ : MethodName) prog_3_method_4_code 1 (some .boolean) [] ({ frames := 0, cells := 0, slots := 0, locals := 0 } : Room) #[(.ref a1)] ((a1, oO cn0 [(fk0, (.ref s1)), (fk1, (.long q1)), (fk2, (.ref k1))]) :: ds) (fun (v : Option Value) (d : oDs) => (v = some (.int (0 : Int32)) ∧ ((a1, oO cn0 [(fk0, (.ref s1)), (fk1, (.long q1)), (fk2, (.ref k1))]) :: ds) = d)) := by
  refine oMet.of_body (plainFor_of_name pn_1) ?_
  intro p e s m below meth c T B hby hml hown hnm hret
  refine W_entry (ef_rm_isd0a m a1) ?_
  refine W_aloadN B (hb hby d6_0) (pc' := 1) rfl rfl rfl ?_
  refine W_getfield B hown (host := "") (Or.inl (ow hw (i := 27) rfl)) Via.refl (hb hby d6_1) (pc' := 4) rfl (j := 0) rfl (q := 2) rfl ?_
  intro T B
  refine W_ifnonnullY B (hb hby d6_4) (by decide) (pc' := 11) (by decide) ?_
  refine W_iconst B (hb hby d6_11) (pc' := 12) rfl (z := (0 : Int32)) (by decide) ?_
  refine W_retN B hret (by simp) (hb hby d6_12) (by decide) ?_
  exact ⟨rfl, rfl⟩
theorem own_strAtoms {Z : State} {a0 : Array Value} (hw : ∀ d ∈ tables_1, d.before a0 Z = true) : ∀ a ∈ Bundle.stringAtoms, a.before a0 Z = true := by
  intro d hd
  simp only [Bundle.stringAtoms, List.mem_cons, List.not_mem_nil, or_false] at hd
  rcases hd with rfl | rfl | rfl | rfl | rfl | rfl | rfl
  · exact (ow hw (i := 2) rfl)
  · exact (ow hw (i := 3) rfl)
  · exact (ow hw (i := 4) rfl)
  · exact (ow hw (i := 5) rfl)
  · exact (ow hw (i := 6) rfl)
  · exact (ow hw (i := 7) rfl)
  · exact (ow hw (i := 8) rfl)
theorem pd_2 : parseMethodDescriptor "(Ljava/lang/String;J)Lcom/example/mitosis/mitosis/core/Change;" = some ⟨[(.object "java/lang/String"), .long], some (.object "com/example/mitosis/mitosis/core/Change")⟩ := by decide +kernel
theorem pd_3 : parseMethodDescriptor "(Ljava/lang/String;J[B)Lcom/example/mitosis/mitosis/core/Change;" = some ⟨[(.object "java/lang/String"), .long, (.array .byte)], some (.object "com/example/mitosis/mitosis/core/Change")⟩ := by decide +kernel
theorem pd_4 : parseMethodDescriptor "()Z" = some ⟨[], some .boolean⟩ := by decide +kernel
abbrev fk3 : oFK := ("java/lang/String", "value", "[B")
abbrev fk4 : oFK := ("java/lang/String", "coder", "B")
theorem pd_5 : parseMethodDescriptor "([C)V" = some ⟨[(.array .char)], none⟩ := by decide +kernel
theorem ef_rm0 (m : MethodId) (x0 : Int32) (x1 : Int64) (x2 : Int32) (x3 : Int32) : entryFrame m #[(.int x0), (.long x1), (.int x2), (.int x3)] maxLocals = mkF m 0 #[.val (.int x0), .val (.long x1), .second, .val (.int x2), .val (.int x3), .unset, .unset, .unset, .unset, .unset, .unset, .unset, .unset, .unset] [] := by first | (simp [entryFrame, mkF, argsToLocals, Value.category, maxLocals]; done) | rfl
theorem pn_2 : plainName "com/example/mitosis/mitosis/core/ChangeIsDeletePinLaw" = true := by first | (simp [plainName, overriddenIn]; done) | decide +kernel
set_option maxRecDepth 65536 in
set_option maxHeartbeats 40000000 in
theorem rm0 (l : Launch) (Z : State) (a0 : Array Value) (hw : ∀ d ∈ tables_1, d.before a0 Z = true) (h0 : Heap) {lo : Nat} (a1 : Int32) (a2 : Int64) (a3 : Int32) (a4 : Int32) (gz : Int32) (Scs : Sta Z h0 "java/lang/String" "COMPACT_STRINGS" "Z" (.int gz)) (hcs : ¬ gz = (0 : Int32)) :
    oMetW l Z h0 lo x code maxLocals ret tables_1 room_1 #[(.int a1), (.long a2), (.int a3), (.int a4)] [] (fun (v : Option Value) (_ : oDs) => v = some (.int 1)) := by
  refine oMetW.of_body (plainFor_of_name pn_2) ?_
  intro p e s m below meth c T vm_ B hS hby hml hown hnm hret
  refine W_entry (ef_rm0 m a1 a2 a3 a4) ?_
  have hml : c.maxLocals = 14 := hml
  refine W_iconst B (hb hby at_0) (pc' := 1) rfl (z := (1 : Int32)) (by decide) ?_
  refine W_newarray B (ow hw (i := 0) rfl) (hb hby at_1) (pc' := 3) rfl (by decide) (cap := 1) (by decide) (by decide) (cells' := 1) rfl (slots' := 1) rfl (vs := [(.int (0 : Int32))]) rfl (ty := .char) rfl ?_
  intro T b3 B
  refine W_dup B (hb hby at_3) (pc' := 4) rfl rfl ?_
  refine W_iconst B (hb hby at_4) (pc' := 5) rfl (z := (0 : Int32)) (by decide) ?_
  refine W_iloadN B (hb hby at_5) (pc' := 6) rfl rfl ?_
  refine W_sipush B (hb hby at_6) (pc' := 9) rfl (z := (255 : Int32)) (by decide) ?_
  refine W_iand B (hb hby at_9) (pc' := 10) rfl (z := (a1 &&& (255 : Int32))) rfl ?_
  refine W_i2c B (hb hby at_10) (pc' := 11) rfl (z := ((a1 &&& (255 : Int32)).toUInt32.toUInt16.toUInt32.toInt32)) rfl ?_
  refine W_castore B (hb hby at_11) (pc' := 12) rfl (i := 0) rfl (by decide) (oLt rfl) (ds' := [(b3, oA .char [(.int (nar .char ((a1 &&& (255 : Int32)).toUInt32.toUInt16.toUInt32.toInt32)))])]) rfl ?_
  intro T B
  refine W_astore B (hb hby at_12) (pc' := 14) rfl rfl (ls' := #[.val (.int a1), .val (.long a2), .second, .val (.int a3), .val (.int a4), .val (.ref b3), .unset, .unset, .unset, .unset, .unset, .unset, .unset, .unset]) rfl ?_
  refine W_iloadN B (hb hby at_14) (pc' := 15) rfl rfl ?_
  refine W_bipush B (hb hby at_15) (pc' := 17) rfl (z := (8 : Int32)) (by decide) ?_
  refine W_iand B (hb hby at_17) (pc' := 18) rfl (z := (a3 &&& (8 : Int32))) rfl ?_
  refine W_if_eq B (hb hby at_18) (by decide) (pt := 33) (by decide) (pc' := 21) rfl (fun (c4 : (a3 &&& (8 : Int32)) = (0 : Int32)) => ?_) (fun (c4 : ¬ (a3 &&& (8 : Int32)) = (0 : Int32)) => ?_)
  · refine W_ldcStr B hS (n := 0) hown (ow hw (i := 1) rfl) (own_strAtoms hw) (hb hby at_33) (pc' := 35) rfl (by decide) (by decide) (cells' := 3) rfl (slots' := 5) rfl ?_
    intro T sa5 vm_ lo B hS hown
    refine W_astore B (hb hby at_35) (pc' := 37) rfl rfl (ls' := #[.val (.int a1), .val (.long a2), .second, .val (.int a3), .val (.int a4), .val (.ref b3), .val (.ref sa5), .unset, .unset, .unset, .unset, .unset, .unset, .unset]) rfl ?_
    refine W_iloadN B (hb hby at_37) (pc' := 38) rfl rfl ?_
    refine W_iconst B (hb hby at_38) (pc' := 39) rfl (z := (1 : Int32)) (by decide) ?_
    refine W_iand B (hb hby at_39) (pc' := 40) rfl (z := (a3 &&& (1 : Int32))) rfl ?_
    refine W_if_eq B (hb hby at_40) (by decide) (pt := 47) (by decide) (pc' := 43) rfl (fun (c6 : (a3 &&& (1 : Int32)) = (0 : Int32)) => ?_) (fun (c6 : ¬ (a3 &&& (1 : Int32)) = (0 : Int32)) => ?_)
    · refine W_iconst B (hb hby at_47) (pc' := 48) rfl (z := (0 : Int32)) (by decide) ?_
      refine W_istore B (hb hby at_48) (pc' := 50) rfl (v := (0 : Int32)) rfl (ls' := #[.val (.int a1), .val (.long a2), .second, .val (.int a3), .val (.int a4), .val (.ref b3), .val (.ref sa5), .val (.int (0 : Int32)), .unset, .unset, .unset, .unset, .unset, .unset]) rfl ?_
      refine W_iloadN B (hb hby at_50) (pc' := 51) rfl rfl ?_
      refine W_iconst B (hb hby at_51) (pc' := 52) rfl (z := (2 : Int32)) (by decide) ?_
      refine W_iand B (hb hby at_52) (pc' := 53) rfl (z := (a3 &&& (2 : Int32))) rfl ?_
      refine W_if_eq B (hb hby at_53) (by decide) (pt := 62) (by decide) (pc' := 56) rfl (fun (c7 : (a3 &&& (2 : Int32)) = (0 : Int32)) => ?_) (fun (c7 : ¬ (a3 &&& (2 : Int32)) = (0 : Int32)) => ?_)
      · refine W_iconst B (hb hby at_62) (pc' := 63) rfl (z := (2 : Int32)) (by decide) ?_
        refine W_newarray B (ow hw (i := 4) rfl) (hb hby at_63) (pc' := 65) rfl (by decide) (cap := 2) (by decide) (by decide) (cells' := 4) rfl (slots' := 7) rfl (vs := [(.int (0 : Int32)), (.int (0 : Int32))]) rfl (ty := .byte) rfl ?_
        intro T b8 B
        refine W_dup B (hb hby at_65) (pc' := 66) rfl rfl ?_
        refine W_iconst B (hb hby at_66) (pc' := 67) rfl (z := (0 : Int32)) (by decide) ?_
        refine W_iload B (hb hby at_67) (pc' := 69) rfl rfl ?_
        refine W_i2b B (hb hby at_69) (pc' := 70) rfl (z := (a4.toInt8.toInt32)) rfl ?_
        refine W_bastore B (hb hby at_70) (pc' := 71) rfl (i := 0) rfl (by decide) (oLt rfl) (ds' := [(b8, oA .byte [(.int (nar .byte (a4.toInt8.toInt32))), o0]), (b3, oA .char [(.int (nar .char ((a1 &&& (255 : Int32)).toUInt32.toUInt16.toUInt32.toInt32)))])]) rfl ?_
        intro T B
        refine W_dup B (hb hby at_71) (pc' := 72) rfl rfl ?_
        refine W_iconst B (hb hby at_72) (pc' := 73) rfl (z := (1 : Int32)) (by decide) ?_
        refine W_iload B (hb hby at_73) (pc' := 75) rfl rfl ?_
        refine W_bipush B (hb hby at_75) (pc' := 77) rfl (z := (8 : Int32)) (by decide) ?_
        refine W_ishr B (hb hby at_77) (pc' := 78) rfl (z := (a4 >>> ((8 : Int32) &&& 31))) rfl ?_
        refine W_i2b B (hb hby at_78) (pc' := 79) rfl (z := ((a4 >>> ((8 : Int32) &&& 31)).toInt8.toInt32)) rfl ?_
        refine W_bastore B (hb hby at_79) (pc' := 80) rfl (i := 0) rfl (by decide) (oLt rfl) (ds' := [(b8, oA .byte [(.int (nar .byte (a4.toInt8.toInt32))), (.int (nar .byte ((a4 >>> ((8 : Int32) &&& 31)).toInt8.toInt32)))]), (b3, oA .char [(.int (nar .char ((a1 &&& (255 : Int32)).toUInt32.toUInt16.toUInt32.toInt32)))])]) rfl ?_
        intro T B
        refine W_astore B (hb hby at_80) (pc' := 82) rfl rfl (ls' := #[.val (.int a1), .val (.long a2), .second, .val (.int a3), .val (.int a4), .val (.ref b3), .val (.ref sa5), .val (.int (0 : Int32)), .val (.ref b8), .unset, .unset, .unset, .unset, .unset]) rfl ?_
        refine W_iloadN B (hb hby at_82) (pc' := 83) rfl rfl ?_
        refine W_iconst B (hb hby at_83) (pc' := 84) rfl (z := (4 : Int32)) (by decide) ?_
        refine W_iand B (hb hby at_84) (pc' := 85) rfl (z := (a3 &&& (4 : Int32))) rfl ?_
        refine W_if_eq B (hb hby at_85) (by decide) (pt := 94) (by decide) (pc' := 88) rfl (fun (c9 : (a3 &&& (4 : Int32)) = (0 : Int32)) => ?_) (fun (c9 : ¬ (a3 &&& (4 : Int32)) = (0 : Int32)) => ?_)
        · refine W_iconst B (hb hby at_94) (pc' := 95) rfl (z := (1 : Int32)) (by decide) ?_
          refine W_newarray B (ow hw (i := 4) rfl) (hb hby at_95) (pc' := 97) rfl (by decide) (cap := 1) (by decide) (by decide) (cells' := 5) rfl (slots' := 8) rfl (vs := [(.int (0 : Int32))]) rfl (ty := .byte) rfl ?_
          intro T b10 B
          refine W_dup B (hb hby at_97) (pc' := 98) rfl rfl ?_
          refine W_iconst B (hb hby at_98) (pc' := 99) rfl (z := (0 : Int32)) (by decide) ?_
          refine W_iload B (hb hby at_99) (pc' := 101) rfl rfl ?_
          refine W_bipush B (hb hby at_101) (pc' := 103) rfl (z := (16 : Int32)) (by decide) ?_
          refine W_ishr B (hb hby at_103) (pc' := 104) rfl (z := (a4 >>> ((16 : Int32) &&& 31))) rfl ?_
          refine W_i2b B (hb hby at_104) (pc' := 105) rfl (z := ((a4 >>> ((16 : Int32) &&& 31)).toInt8.toInt32)) rfl ?_
          refine W_bastore B (hb hby at_105) (pc' := 106) rfl (i := 0) rfl (by decide) (oLt rfl) (ds' := [(b10, oA .byte [(.int (nar .byte ((a4 >>> ((16 : Int32) &&& 31)).toInt8.toInt32)))]), (b8, oA .byte [(.int (nar .byte (a4.toInt8.toInt32))), (.int (nar .byte ((a4 >>> ((8 : Int32) &&& 31)).toInt8.toInt32)))]), (b3, oA .char [(.int (nar .char ((a1 &&& (255 : Int32)).toUInt32.toUInt16.toUInt32.toInt32)))])]) rfl ?_
          intro T B
          refine W_astore B (hb hby at_106) (pc' := 108) rfl rfl (ls' := #[.val (.int a1), .val (.long a2), .second, .val (.int a3), .val (.int a4), .val (.ref b3), .val (.ref sa5), .val (.int (0 : Int32)), .val (.ref b8), .val (.ref b10), .unset, .unset, .unset, .unset]) rfl ?_
          refine W_iload B (hb hby at_108) (pc' := 110) rfl rfl ?_
          refine W_ifY B (hb hby at_110) (by decide) (pc' := 117) (by decide) (by decide) ?_
          refine W_aload B (hb hby at_117) (pc' := 119) rfl rfl rfl ?_
          refine W_astore B (hb hby at_119) (pc' := 121) rfl rfl (ls' := #[.val (.int a1), .val (.long a2), .second, .val (.int a3), .val (.int a4), .val (.ref b3), .val (.ref sa5), .val (.int (0 : Int32)), .val (.ref b8), .val (.ref b10), .val (.ref b8), .unset, .unset, .unset]) rfl ?_
          refine W_new B hown (ow hw (i := 9) rfl) (ow hw (i := 10) rfl) (ow hw (i := 11) rfl) (hb hby at_121) (pc' := 124) rfl (by decide) (cells' := 6) rfl (slots' := 11) rfl (fs := [(fk0, .null), (fk1, (.long (0 : Int64))), (fk2, .null)]) (oAll_cons ⟨Or.inr (ow hw (i := 24) rfl), (.object "java/lang/String"), by decide, rfl⟩ (oAll_cons ⟨Or.inr (ow hw (i := 26) rfl), .long, by decide, rfl⟩ (oAll_cons ⟨Or.inr (ow hw (i := 28) rfl), (.array .byte), by decide, rfl⟩ oAll_nil))) (by decide) ?_
          intro T b11 B
          refine W_dup B (hb hby at_124) (pc' := 125) rfl rfl ?_
          refine W_aload B (hb hby at_125) (pc' := 127) rfl rfl rfl ?_
          refine W_lloadN B (hb hby at_127) (pc' := 128) rfl rfl ?_
          refine W_aload B (hb hby at_128) (pc' := 130) rfl rfl rfl ?_
          refine W_init B (y := (⟨"com/example/mitosis/mitosis/core/Change", "<init>", "(Ljava/lang/String;J[B)V"⟩ : MethodName)) hown rfl (ow hw (i := 12) rfl) (ow hw (i := 13) rfl) (ow hw (i := 11) rfl) (ow hw (i := 14) rfl) (by decide) (a := b11) (rm_inia l Z a0 hw h0 b11 sa5 a2 b8 [(b10, oA .byte [(.int (nar .byte ((a4 >>> ((16 : Int32) &&& 31)).toInt8.toInt32)))]), (b8, oA .byte [(.int (nar .byte (a4.toInt8.toInt32))), (.int (nar .byte ((a4 >>> ((8 : Int32) &&& 31)).toInt8.toInt32)))]), (b3, oA .char [(.int (nar .char ((a1 &&& (255 : Int32)).toUInt32.toUInt16.toUInt32.toInt32)))])]) (lenOf pd_1 rfl) (hb hby at_130) (pc' := 133) rfl (argsL := [(.ref sa5), (.long a2), (.ref b8)]) (rest := [(.ref b11)]) rfl (by rw [hml]; rfl) (W := 1) (oLe rfl) (by decide) (cells' := 6) rfl (slots' := 11) rfl ?_
          intro T v_ d_ q_ B
          obtain ⟨rfl, rfl⟩ := q_
          show oWin p e below Z h0 _ _ (T.setTop (mkF m 133 #[.val (.int a1), .val (.long a2), .second, .val (.int a3), .val (.int a4), .val (.ref b3), .val (.ref sa5), .val (.int (0 : Int32)), .val (.ref b8), .val (.ref b10), .val (.ref b8), .unset, .unset, .unset] [(.ref b11)]))
          refine W_astore B (hb hby at_133) (pc' := 135) rfl rfl (ls' := #[.val (.int a1), .val (.long a2), .second, .val (.int a3), .val (.int a4), .val (.ref b3), .val (.ref sa5), .val (.int (0 : Int32)), .val (.ref b8), .val (.ref b10), .val (.ref b8), .val (.ref b11), .unset, .unset]) rfl ?_
          refine W_aload B (hb hby at_135) (pc' := 137) rfl rfl rfl ?_
          refine W_lloadN B (hb hby at_137) (pc' := 138) rfl rfl ?_
          refine W_callS B (y := (⟨"com/example/mitosis/mitosis/core/Change", "delete", "(Ljava/lang/String;J)Lcom/example/mitosis/mitosis/core/Change;"⟩ : MethodName)) hown (ow hw (i := 29) rfl) (ow hw (i := 30) rfl) (ow hw (i := 11) rfl) (ow hw (i := 31) rfl) (by decide) (rm_del l Z a0 hw h0 sa5 a2 [(b11, oO cn0 [(fk0, (.ref sa5)), (fk1, (.long a2)), (fk2, (.ref b8))]), (b10, oA .byte [(.int (nar .byte ((a4 >>> ((16 : Int32) &&& 31)).toInt8.toInt32)))]), (b8, oA .byte [(.int (nar .byte (a4.toInt8.toInt32))), (.int (nar .byte ((a4 >>> ((8 : Int32) &&& 31)).toInt8.toInt32)))]), (b3, oA .char [(.int (nar .char ((a1 &&& (255 : Int32)).toUInt32.toUInt16.toUInt32.toInt32)))])]) (lenOf pd_2 rfl) (hb hby at_138) (pc' := 141) rfl (argsL := [(.ref sa5), (.long a2)]) (rest := []) rfl (by rw [hml]; rfl) (W := 0) (oLe rfl) (by decide) (cells' := 7) rfl (slots' := 14) rfl ?_
          intro T v_ d_ q_ B
          obtain ⟨b12, rfl, rfl⟩ := q_
          show oWin p e below Z h0 _ _ (T.setTop (mkF m 141 #[.val (.int a1), .val (.long a2), .second, .val (.int a3), .val (.int a4), .val (.ref b3), .val (.ref sa5), .val (.int (0 : Int32)), .val (.ref b8), .val (.ref b10), .val (.ref b8), .val (.ref b11), .unset, .unset] [(.ref b12)]))
          refine W_astore B (hb hby at_141) (pc' := 143) rfl rfl (ls' := #[.val (.int a1), .val (.long a2), .second, .val (.int a3), .val (.int a4), .val (.ref b3), .val (.ref sa5), .val (.int (0 : Int32)), .val (.ref b8), .val (.ref b10), .val (.ref b8), .val (.ref b11), .val (.ref b12), .unset]) rfl ?_
          refine W_aload B (hb hby at_143) (pc' := 145) rfl rfl rfl ?_
          refine W_lloadN B (hb hby at_145) (pc' := 146) rfl rfl ?_
          refine W_aload B (hb hby at_146) (pc' := 148) rfl rfl rfl ?_
          refine W_callS B (y := (⟨"com/example/mitosis/mitosis/core/Change", "put", "(Ljava/lang/String;J[B)Lcom/example/mitosis/mitosis/core/Change;"⟩ : MethodName)) hown (ow hw (i := 34) rfl) (ow hw (i := 35) rfl) (ow hw (i := 11) rfl) (ow hw (i := 36) rfl) (by decide) (rm_put l Z a0 hw h0 sa5 a2 b10 [(b12, oO cn0 [(fk0, (.ref sa5)), (fk1, (.long a2)), (fk2, .null)]), (b11, oO cn0 [(fk0, (.ref sa5)), (fk1, (.long a2)), (fk2, (.ref b8))]), (b10, oA .byte [(.int (nar .byte ((a4 >>> ((16 : Int32) &&& 31)).toInt8.toInt32)))]), (b8, oA .byte [(.int (nar .byte (a4.toInt8.toInt32))), (.int (nar .byte ((a4 >>> ((8 : Int32) &&& 31)).toInt8.toInt32)))]), (b3, oA .char [(.int (nar .char ((a1 &&& (255 : Int32)).toUInt32.toUInt16.toUInt32.toInt32)))])]) (lenOf pd_3 rfl) (hb hby at_148) (pc' := 151) rfl (argsL := [(.ref sa5), (.long a2), (.ref b10)]) (rest := []) rfl (by rw [hml]; rfl) (W := 0) (oLe rfl) (by decide) (cells' := 8) rfl (slots' := 17) rfl ?_
          intro T v_ d_ q_ B
          obtain ⟨b13, rfl, rfl⟩ := q_
          show oWin p e below Z h0 _ _ (T.setTop (mkF m 151 #[.val (.int a1), .val (.long a2), .second, .val (.int a3), .val (.int a4), .val (.ref b3), .val (.ref sa5), .val (.int (0 : Int32)), .val (.ref b8), .val (.ref b10), .val (.ref b8), .val (.ref b11), .val (.ref b12), .unset] [(.ref b13)]))
          refine W_astore B (hb hby at_151) (pc' := 153) rfl rfl (ls' := #[.val (.int a1), .val (.long a2), .second, .val (.int a3), .val (.int a4), .val (.ref b3), .val (.ref sa5), .val (.int (0 : Int32)), .val (.ref b8), .val (.ref b10), .val (.ref b8), .val (.ref b11), .val (.ref b12), .val (.ref b13)]) rfl ?_
          refine W_aload B (hb hby at_153) (pc' := 155) rfl rfl rfl ?_
          refine W_virtual B (y := (⟨"com/example/mitosis/mitosis/core/Change", "isDelete", "()Z"⟩ : MethodName)) (z := (⟨"com/example/mitosis/mitosis/core/Change", "isDelete", "()Z"⟩ : MethodName)) hown (ow hw (i := 37) rfl) (ow hw (i := 38) rfl) (oNotFace B (ow hw (i := 40) rfl) rfl) (ow hw (i := 40) rfl) (ow hw (i := 39) rfl) (ow hw (i := 11) rfl) (ow hw (i := 41) rfl) (by decide) (a := b11) (rm_isd2a l Z a0 hw h0 b11 sa5 a2 b8 (b13, oO cn0 [(fk0, (.ref sa5)), (fk1, (.long a2)), (fk2, (.ref b10))]) (b12, oO cn0 [(fk0, (.ref sa5)), (fk1, (.long a2)), (fk2, .null)]) [(b10, oA .byte [(.int (nar .byte ((a4 >>> ((16 : Int32) &&& 31)).toInt8.toInt32)))]), (b8, oA .byte [(.int (nar .byte (a4.toInt8.toInt32))), (.int (nar .byte ((a4 >>> ((8 : Int32) &&& 31)).toInt8.toInt32)))]), (b3, oA .char [(.int (nar .char ((a1 &&& (255 : Int32)).toUInt32.toUInt16.toUInt32.toInt32)))])]) (lenOf pd_4 rfl) (hb hby at_155) (pc' := 158) rfl (argsL := []) (rest := []) rfl (by rw [hml]; rfl) (W := 0) (oLe rfl) (j := 2) rfl (by decide) (cells' := 8) rfl (slots' := 17) rfl ?_
          intro T v_ d_ q_ B
          obtain ⟨rfl, rfl⟩ := q_
          show oWin p e below Z h0 _ _ (T.setTop (mkF m 158 #[.val (.int a1), .val (.long a2), .second, .val (.int a3), .val (.int a4), .val (.ref b3), .val (.ref sa5), .val (.int (0 : Int32)), .val (.ref b8), .val (.ref b10), .val (.ref b8), .val (.ref b11), .val (.ref b12), .val (.ref b13)] [(.int (0 : Int32))]))
          refine W_iload B (hb hby at_158) (pc' := 160) rfl rfl ?_
          refine W_icmpN B (hb hby at_160) (pc' := 163) rfl (by decide) ?_
          refine W_aload B (hb hby at_163) (pc' := 165) rfl rfl rfl ?_
          refine W_virtual B (y := (⟨"com/example/mitosis/mitosis/core/Change", "isDelete", "()Z"⟩ : MethodName)) (z := (⟨"com/example/mitosis/mitosis/core/Change", "isDelete", "()Z"⟩ : MethodName)) hown (ow hw (i := 37) rfl) (ow hw (i := 38) rfl) (oNotFace B (ow hw (i := 40) rfl) rfl) (ow hw (i := 40) rfl) (ow hw (i := 39) rfl) (ow hw (i := 11) rfl) (ow hw (i := 41) rfl) (by decide) (a := b12) (rm_isd1n l Z a0 hw h0 b12 sa5 a2 (b13, oO cn0 [(fk0, (.ref sa5)), (fk1, (.long a2)), (fk2, (.ref b10))]) [(b11, oO cn0 [(fk0, (.ref sa5)), (fk1, (.long a2)), (fk2, (.ref b8))]), (b10, oA .byte [(.int (nar .byte ((a4 >>> ((16 : Int32) &&& 31)).toInt8.toInt32)))]), (b8, oA .byte [(.int (nar .byte (a4.toInt8.toInt32))), (.int (nar .byte ((a4 >>> ((8 : Int32) &&& 31)).toInt8.toInt32)))]), (b3, oA .char [(.int (nar .char ((a1 &&& (255 : Int32)).toUInt32.toUInt16.toUInt32.toInt32)))])]) (lenOf pd_4 rfl) (hb hby at_165) (pc' := 168) rfl (argsL := []) (rest := []) rfl (by rw [hml]; rfl) (W := 0) (oLe rfl) (j := 1) rfl (by decide) (cells' := 8) rfl (slots' := 17) rfl ?_
          intro T v_ d_ q_ B
          obtain ⟨rfl, rfl⟩ := q_
          show oWin p e below Z h0 _ _ (T.setTop (mkF m 168 #[.val (.int a1), .val (.long a2), .second, .val (.int a3), .val (.int a4), .val (.ref b3), .val (.ref sa5), .val (.int (0 : Int32)), .val (.ref b8), .val (.ref b10), .val (.ref b8), .val (.ref b11), .val (.ref b12), .val (.ref b13)] [(.int (1 : Int32))]))
          refine W_ifN B (hb hby at_168) (pc' := 171) rfl (by decide) ?_
          refine W_aload B (hb hby at_171) (pc' := 173) rfl rfl rfl ?_
          refine W_virtual B (y := (⟨"com/example/mitosis/mitosis/core/Change", "isDelete", "()Z"⟩ : MethodName)) (z := (⟨"com/example/mitosis/mitosis/core/Change", "isDelete", "()Z"⟩ : MethodName)) hown (ow hw (i := 37) rfl) (ow hw (i := 38) rfl) (oNotFace B (ow hw (i := 40) rfl) rfl) (ow hw (i := 40) rfl) (ow hw (i := 39) rfl) (ow hw (i := 11) rfl) (ow hw (i := 41) rfl) (by decide) (a := b13) (rm_isd0a l Z a0 hw h0 b13 sa5 a2 b10  [(b12, oO cn0 [(fk0, (.ref sa5)), (fk1, (.long a2)), (fk2, .null)]), (b11, oO cn0 [(fk0, (.ref sa5)), (fk1, (.long a2)), (fk2, (.ref b8))]), (b10, oA .byte [(.int (nar .byte ((a4 >>> ((16 : Int32) &&& 31)).toInt8.toInt32)))]), (b8, oA .byte [(.int (nar .byte (a4.toInt8.toInt32))), (.int (nar .byte ((a4 >>> ((8 : Int32) &&& 31)).toInt8.toInt32)))]), (b3, oA .char [(.int (nar .char ((a1 &&& (255 : Int32)).toUInt32.toUInt16.toUInt32.toInt32)))])]) (lenOf pd_4 rfl) (hb hby at_173) (pc' := 176) rfl (argsL := []) (rest := []) rfl (by rw [hml]; rfl) (W := 0) (oLe rfl) (j := 0) rfl (by decide) (cells' := 8) rfl (slots' := 17) rfl ?_
          intro T v_ d_ q_ B
          obtain ⟨rfl, rfl⟩ := q_
          show oWin p e below Z h0 _ _ (T.setTop (mkF m 176 #[.val (.int a1), .val (.long a2), .second, .val (.int a3), .val (.int a4), .val (.ref b3), .val (.ref sa5), .val (.int (0 : Int32)), .val (.ref b8), .val (.ref b10), .val (.ref b8), .val (.ref b11), .val (.ref b12), .val (.ref b13)] [(.int (0 : Int32))]))
          refine W_ifN B (hb hby at_176) (pc' := 179) rfl (by decide) ?_
          refine W_iconst B (hb hby at_179) (pc' := 180) rfl (z := (1 : Int32)) (by decide) ?_
          refine W_goto B (hb hby at_180) (by decide) (pc' := 184) (by decide) ?_
          refine W_retNW B hS hret (by simp) (hb hby at_184) (by decide) ?_
          rfl
        refine W_iconst B (hb hby at_88) (pc' := 89) rfl (z := (0 : Int32)) (by decide) ?_
        refine W_newarray B (ow hw (i := 4) rfl) (hb hby at_89) (pc' := 91) rfl (by decide) (cap := 0) (by decide) (by decide) (cells' := 5) rfl (slots' := 7) rfl (vs := []) rfl (ty := .byte) rfl ?_
        intro T b14 B
        refine W_goto B (hb hby at_91) (by decide) (pc' := 106) (by decide) ?_
        refine W_astore B (hb hby at_106) (pc' := 108) rfl rfl (ls' := #[.val (.int a1), .val (.long a2), .second, .val (.int a3), .val (.int a4), .val (.ref b3), .val (.ref sa5), .val (.int (0 : Int32)), .val (.ref b8), .val (.ref b14), .unset, .unset, .unset, .unset]) rfl ?_
        refine W_iload B (hb hby at_108) (pc' := 110) rfl rfl ?_
        refine W_ifY B (hb hby at_110) (by decide) (pc' := 117) (by decide) (by decide) ?_
        refine W_aload B (hb hby at_117) (pc' := 119) rfl rfl rfl ?_
        refine W_astore B (hb hby at_119) (pc' := 121) rfl rfl (ls' := #[.val (.int a1), .val (.long a2), .second, .val (.int a3), .val (.int a4), .val (.ref b3), .val (.ref sa5), .val (.int (0 : Int32)), .val (.ref b8), .val (.ref b14), .val (.ref b8), .unset, .unset, .unset]) rfl ?_
        refine W_new B hown (ow hw (i := 9) rfl) (ow hw (i := 10) rfl) (ow hw (i := 11) rfl) (hb hby at_121) (pc' := 124) rfl (by decide) (cells' := 6) rfl (slots' := 10) rfl (fs := [(fk0, .null), (fk1, (.long (0 : Int64))), (fk2, .null)]) (oAll_cons ⟨Or.inr (ow hw (i := 24) rfl), (.object "java/lang/String"), by decide, rfl⟩ (oAll_cons ⟨Or.inr (ow hw (i := 26) rfl), .long, by decide, rfl⟩ (oAll_cons ⟨Or.inr (ow hw (i := 28) rfl), (.array .byte), by decide, rfl⟩ oAll_nil))) (by decide) ?_
        intro T b15 B
        refine W_dup B (hb hby at_124) (pc' := 125) rfl rfl ?_
        refine W_aload B (hb hby at_125) (pc' := 127) rfl rfl rfl ?_
        refine W_lloadN B (hb hby at_127) (pc' := 128) rfl rfl ?_
        refine W_aload B (hb hby at_128) (pc' := 130) rfl rfl rfl ?_
        refine W_init B (y := (⟨"com/example/mitosis/mitosis/core/Change", "<init>", "(Ljava/lang/String;J[B)V"⟩ : MethodName)) hown rfl (ow hw (i := 12) rfl) (ow hw (i := 13) rfl) (ow hw (i := 11) rfl) (ow hw (i := 14) rfl) (by decide) (a := b15) (rm_inia l Z a0 hw h0 b15 sa5 a2 b8 [(b14, oA .byte []), (b8, oA .byte [(.int (nar .byte (a4.toInt8.toInt32))), (.int (nar .byte ((a4 >>> ((8 : Int32) &&& 31)).toInt8.toInt32)))]), (b3, oA .char [(.int (nar .char ((a1 &&& (255 : Int32)).toUInt32.toUInt16.toUInt32.toInt32)))])]) (lenOf pd_1 rfl) (hb hby at_130) (pc' := 133) rfl (argsL := [(.ref sa5), (.long a2), (.ref b8)]) (rest := [(.ref b15)]) rfl (by rw [hml]; rfl) (W := 1) (oLe rfl) (by decide) (cells' := 6) rfl (slots' := 10) rfl ?_
        intro T v_ d_ q_ B
        obtain ⟨rfl, rfl⟩ := q_
        show oWin p e below Z h0 _ _ (T.setTop (mkF m 133 #[.val (.int a1), .val (.long a2), .second, .val (.int a3), .val (.int a4), .val (.ref b3), .val (.ref sa5), .val (.int (0 : Int32)), .val (.ref b8), .val (.ref b14), .val (.ref b8), .unset, .unset, .unset] [(.ref b15)]))
        refine W_astore B (hb hby at_133) (pc' := 135) rfl rfl (ls' := #[.val (.int a1), .val (.long a2), .second, .val (.int a3), .val (.int a4), .val (.ref b3), .val (.ref sa5), .val (.int (0 : Int32)), .val (.ref b8), .val (.ref b14), .val (.ref b8), .val (.ref b15), .unset, .unset]) rfl ?_
        refine W_aload B (hb hby at_135) (pc' := 137) rfl rfl rfl ?_
        refine W_lloadN B (hb hby at_137) (pc' := 138) rfl rfl ?_
        refine W_callS B (y := (⟨"com/example/mitosis/mitosis/core/Change", "delete", "(Ljava/lang/String;J)Lcom/example/mitosis/mitosis/core/Change;"⟩ : MethodName)) hown (ow hw (i := 29) rfl) (ow hw (i := 30) rfl) (ow hw (i := 11) rfl) (ow hw (i := 31) rfl) (by decide) (rm_del l Z a0 hw h0 sa5 a2 [(b15, oO cn0 [(fk0, (.ref sa5)), (fk1, (.long a2)), (fk2, (.ref b8))]), (b14, oA .byte []), (b8, oA .byte [(.int (nar .byte (a4.toInt8.toInt32))), (.int (nar .byte ((a4 >>> ((8 : Int32) &&& 31)).toInt8.toInt32)))]), (b3, oA .char [(.int (nar .char ((a1 &&& (255 : Int32)).toUInt32.toUInt16.toUInt32.toInt32)))])]) (lenOf pd_2 rfl) (hb hby at_138) (pc' := 141) rfl (argsL := [(.ref sa5), (.long a2)]) (rest := []) rfl (by rw [hml]; rfl) (W := 0) (oLe rfl) (by decide) (cells' := 7) rfl (slots' := 13) rfl ?_
        intro T v_ d_ q_ B
        obtain ⟨b16, rfl, rfl⟩ := q_
        show oWin p e below Z h0 _ _ (T.setTop (mkF m 141 #[.val (.int a1), .val (.long a2), .second, .val (.int a3), .val (.int a4), .val (.ref b3), .val (.ref sa5), .val (.int (0 : Int32)), .val (.ref b8), .val (.ref b14), .val (.ref b8), .val (.ref b15), .unset, .unset] [(.ref b16)]))
        refine W_astore B (hb hby at_141) (pc' := 143) rfl rfl (ls' := #[.val (.int a1), .val (.long a2), .second, .val (.int a3), .val (.int a4), .val (.ref b3), .val (.ref sa5), .val (.int (0 : Int32)), .val (.ref b8), .val (.ref b14), .val (.ref b8), .val (.ref b15), .val (.ref b16), .unset]) rfl ?_
        refine W_aload B (hb hby at_143) (pc' := 145) rfl rfl rfl ?_
        refine W_lloadN B (hb hby at_145) (pc' := 146) rfl rfl ?_
        refine W_aload B (hb hby at_146) (pc' := 148) rfl rfl rfl ?_
        refine W_callS B (y := (⟨"com/example/mitosis/mitosis/core/Change", "put", "(Ljava/lang/String;J[B)Lcom/example/mitosis/mitosis/core/Change;"⟩ : MethodName)) hown (ow hw (i := 34) rfl) (ow hw (i := 35) rfl) (ow hw (i := 11) rfl) (ow hw (i := 36) rfl) (by decide) (rm_put l Z a0 hw h0 sa5 a2 b14 [(b16, oO cn0 [(fk0, (.ref sa5)), (fk1, (.long a2)), (fk2, .null)]), (b15, oO cn0 [(fk0, (.ref sa5)), (fk1, (.long a2)), (fk2, (.ref b8))]), (b14, oA .byte []), (b8, oA .byte [(.int (nar .byte (a4.toInt8.toInt32))), (.int (nar .byte ((a4 >>> ((8 : Int32) &&& 31)).toInt8.toInt32)))]), (b3, oA .char [(.int (nar .char ((a1 &&& (255 : Int32)).toUInt32.toUInt16.toUInt32.toInt32)))])]) (lenOf pd_3 rfl) (hb hby at_148) (pc' := 151) rfl (argsL := [(.ref sa5), (.long a2), (.ref b14)]) (rest := []) rfl (by rw [hml]; rfl) (W := 0) (oLe rfl) (by decide) (cells' := 8) rfl (slots' := 16) rfl ?_
        intro T v_ d_ q_ B
        obtain ⟨b17, rfl, rfl⟩ := q_
        show oWin p e below Z h0 _ _ (T.setTop (mkF m 151 #[.val (.int a1), .val (.long a2), .second, .val (.int a3), .val (.int a4), .val (.ref b3), .val (.ref sa5), .val (.int (0 : Int32)), .val (.ref b8), .val (.ref b14), .val (.ref b8), .val (.ref b15), .val (.ref b16), .unset] [(.ref b17)]))
        refine W_astore B (hb hby at_151) (pc' := 153) rfl rfl (ls' := #[.val (.int a1), .val (.long a2), .second, .val (.int a3), .val (.int a4), .val (.ref b3), .val (.ref sa5), .val (.int (0 : Int32)), .val (.ref b8), .val (.ref b14), .val (.ref b8), .val (.ref b15), .val (.ref b16), .val (.ref b17)]) rfl ?_
        refine W_aload B (hb hby at_153) (pc' := 155) rfl rfl rfl ?_
        refine W_virtual B (y := (⟨"com/example/mitosis/mitosis/core/Change", "isDelete", "()Z"⟩ : MethodName)) (z := (⟨"com/example/mitosis/mitosis/core/Change", "isDelete", "()Z"⟩ : MethodName)) hown (ow hw (i := 37) rfl) (ow hw (i := 38) rfl) (oNotFace B (ow hw (i := 40) rfl) rfl) (ow hw (i := 40) rfl) (ow hw (i := 39) rfl) (ow hw (i := 11) rfl) (ow hw (i := 41) rfl) (by decide) (a := b15) (rm_isd2a l Z a0 hw h0 b15 sa5 a2 b8 (b17, oO cn0 [(fk0, (.ref sa5)), (fk1, (.long a2)), (fk2, (.ref b14))]) (b16, oO cn0 [(fk0, (.ref sa5)), (fk1, (.long a2)), (fk2, .null)]) [(b14, oA .byte []), (b8, oA .byte [(.int (nar .byte (a4.toInt8.toInt32))), (.int (nar .byte ((a4 >>> ((8 : Int32) &&& 31)).toInt8.toInt32)))]), (b3, oA .char [(.int (nar .char ((a1 &&& (255 : Int32)).toUInt32.toUInt16.toUInt32.toInt32)))])]) (lenOf pd_4 rfl) (hb hby at_155) (pc' := 158) rfl (argsL := []) (rest := []) rfl (by rw [hml]; rfl) (W := 0) (oLe rfl) (j := 2) rfl (by decide) (cells' := 8) rfl (slots' := 16) rfl ?_
        intro T v_ d_ q_ B
        obtain ⟨rfl, rfl⟩ := q_
        show oWin p e below Z h0 _ _ (T.setTop (mkF m 158 #[.val (.int a1), .val (.long a2), .second, .val (.int a3), .val (.int a4), .val (.ref b3), .val (.ref sa5), .val (.int (0 : Int32)), .val (.ref b8), .val (.ref b14), .val (.ref b8), .val (.ref b15), .val (.ref b16), .val (.ref b17)] [(.int (0 : Int32))]))
        refine W_iload B (hb hby at_158) (pc' := 160) rfl rfl ?_
        refine W_icmpN B (hb hby at_160) (pc' := 163) rfl (by decide) ?_
        refine W_aload B (hb hby at_163) (pc' := 165) rfl rfl rfl ?_
        refine W_virtual B (y := (⟨"com/example/mitosis/mitosis/core/Change", "isDelete", "()Z"⟩ : MethodName)) (z := (⟨"com/example/mitosis/mitosis/core/Change", "isDelete", "()Z"⟩ : MethodName)) hown (ow hw (i := 37) rfl) (ow hw (i := 38) rfl) (oNotFace B (ow hw (i := 40) rfl) rfl) (ow hw (i := 40) rfl) (ow hw (i := 39) rfl) (ow hw (i := 11) rfl) (ow hw (i := 41) rfl) (by decide) (a := b16) (rm_isd1n l Z a0 hw h0 b16 sa5 a2 (b17, oO cn0 [(fk0, (.ref sa5)), (fk1, (.long a2)), (fk2, (.ref b14))]) [(b15, oO cn0 [(fk0, (.ref sa5)), (fk1, (.long a2)), (fk2, (.ref b8))]), (b14, oA .byte []), (b8, oA .byte [(.int (nar .byte (a4.toInt8.toInt32))), (.int (nar .byte ((a4 >>> ((8 : Int32) &&& 31)).toInt8.toInt32)))]), (b3, oA .char [(.int (nar .char ((a1 &&& (255 : Int32)).toUInt32.toUInt16.toUInt32.toInt32)))])]) (lenOf pd_4 rfl) (hb hby at_165) (pc' := 168) rfl (argsL := []) (rest := []) rfl (by rw [hml]; rfl) (W := 0) (oLe rfl) (j := 1) rfl (by decide) (cells' := 8) rfl (slots' := 16) rfl ?_
        intro T v_ d_ q_ B
        obtain ⟨rfl, rfl⟩ := q_
        show oWin p e below Z h0 _ _ (T.setTop (mkF m 168 #[.val (.int a1), .val (.long a2), .second, .val (.int a3), .val (.int a4), .val (.ref b3), .val (.ref sa5), .val (.int (0 : Int32)), .val (.ref b8), .val (.ref b14), .val (.ref b8), .val (.ref b15), .val (.ref b16), .val (.ref b17)] [(.int (1 : Int32))]))
        refine W_ifN B (hb hby at_168) (pc' := 171) rfl (by decide) ?_
        refine W_aload B (hb hby at_171) (pc' := 173) rfl rfl rfl ?_
        refine W_virtual B (y := (⟨"com/example/mitosis/mitosis/core/Change", "isDelete", "()Z"⟩ : MethodName)) (z := (⟨"com/example/mitosis/mitosis/core/Change", "isDelete", "()Z"⟩ : MethodName)) hown (ow hw (i := 37) rfl) (ow hw (i := 38) rfl) (oNotFace B (ow hw (i := 40) rfl) rfl) (ow hw (i := 40) rfl) (ow hw (i := 39) rfl) (ow hw (i := 11) rfl) (ow hw (i := 41) rfl) (by decide) (a := b17) (rm_isd0a l Z a0 hw h0 b17 sa5 a2 b14  [(b16, oO cn0 [(fk0, (.ref sa5)), (fk1, (.long a2)), (fk2, .null)]), (b15, oO cn0 [(fk0, (.ref sa5)), (fk1, (.long a2)), (fk2, (.ref b8))]), (b14, oA .byte []), (b8, oA .byte [(.int (nar .byte (a4.toInt8.toInt32))), (.int (nar .byte ((a4 >>> ((8 : Int32) &&& 31)).toInt8.toInt32)))]), (b3, oA .char [(.int (nar .char ((a1 &&& (255 : Int32)).toUInt32.toUInt16.toUInt32.toInt32)))])]) (lenOf pd_4 rfl) (hb hby at_173) (pc' := 176) rfl (argsL := []) (rest := []) rfl (by rw [hml]; rfl) (W := 0) (oLe rfl) (j := 0) rfl (by decide) (cells' := 8) rfl (slots' := 16) rfl ?_
        intro T v_ d_ q_ B
        obtain ⟨rfl, rfl⟩ := q_
        show oWin p e below Z h0 _ _ (T.setTop (mkF m 176 #[.val (.int a1), .val (.long a2), .second, .val (.int a3), .val (.int a4), .val (.ref b3), .val (.ref sa5), .val (.int (0 : Int32)), .val (.ref b8), .val (.ref b14), .val (.ref b8), .val (.ref b15), .val (.ref b16), .val (.ref b17)] [(.int (0 : Int32))]))
        refine W_ifN B (hb hby at_176) (pc' := 179) rfl (by decide) ?_
        refine W_iconst B (hb hby at_179) (pc' := 180) rfl (z := (1 : Int32)) (by decide) ?_
        refine W_goto B (hb hby at_180) (by decide) (pc' := 184) (by decide) ?_
        refine W_retNW B hS hret (by simp) (hb hby at_184) (by decide) ?_
        rfl
      refine W_iconst B (hb hby at_56) (pc' := 57) rfl (z := (0 : Int32)) (by decide) ?_
      refine W_newarray B (ow hw (i := 4) rfl) (hb hby at_57) (pc' := 59) rfl (by decide) (cap := 0) (by decide) (by decide) (cells' := 4) rfl (slots' := 5) rfl (vs := []) rfl (ty := .byte) rfl ?_
      intro T b18 B
      refine W_goto B (hb hby at_59) (by decide) (pc' := 80) (by decide) ?_
      refine W_astore B (hb hby at_80) (pc' := 82) rfl rfl (ls' := #[.val (.int a1), .val (.long a2), .second, .val (.int a3), .val (.int a4), .val (.ref b3), .val (.ref sa5), .val (.int (0 : Int32)), .val (.ref b18), .unset, .unset, .unset, .unset, .unset]) rfl ?_
      refine W_iloadN B (hb hby at_82) (pc' := 83) rfl rfl ?_
      refine W_iconst B (hb hby at_83) (pc' := 84) rfl (z := (4 : Int32)) (by decide) ?_
      refine W_iand B (hb hby at_84) (pc' := 85) rfl (z := (a3 &&& (4 : Int32))) rfl ?_
      refine W_if_eq B (hb hby at_85) (by decide) (pt := 94) (by decide) (pc' := 88) rfl (fun (c19 : (a3 &&& (4 : Int32)) = (0 : Int32)) => ?_) (fun (c19 : ¬ (a3 &&& (4 : Int32)) = (0 : Int32)) => ?_)
      · refine W_iconst B (hb hby at_94) (pc' := 95) rfl (z := (1 : Int32)) (by decide) ?_
        refine W_newarray B (ow hw (i := 4) rfl) (hb hby at_95) (pc' := 97) rfl (by decide) (cap := 1) (by decide) (by decide) (cells' := 5) rfl (slots' := 6) rfl (vs := [(.int (0 : Int32))]) rfl (ty := .byte) rfl ?_
        intro T b20 B
        refine W_dup B (hb hby at_97) (pc' := 98) rfl rfl ?_
        refine W_iconst B (hb hby at_98) (pc' := 99) rfl (z := (0 : Int32)) (by decide) ?_
        refine W_iload B (hb hby at_99) (pc' := 101) rfl rfl ?_
        refine W_bipush B (hb hby at_101) (pc' := 103) rfl (z := (16 : Int32)) (by decide) ?_
        refine W_ishr B (hb hby at_103) (pc' := 104) rfl (z := (a4 >>> ((16 : Int32) &&& 31))) rfl ?_
        refine W_i2b B (hb hby at_104) (pc' := 105) rfl (z := ((a4 >>> ((16 : Int32) &&& 31)).toInt8.toInt32)) rfl ?_
        refine W_bastore B (hb hby at_105) (pc' := 106) rfl (i := 0) rfl (by decide) (oLt rfl) (ds' := [(b20, oA .byte [(.int (nar .byte ((a4 >>> ((16 : Int32) &&& 31)).toInt8.toInt32)))]), (b18, oA .byte []), (b3, oA .char [(.int (nar .char ((a1 &&& (255 : Int32)).toUInt32.toUInt16.toUInt32.toInt32)))])]) rfl ?_
        intro T B
        refine W_astore B (hb hby at_106) (pc' := 108) rfl rfl (ls' := #[.val (.int a1), .val (.long a2), .second, .val (.int a3), .val (.int a4), .val (.ref b3), .val (.ref sa5), .val (.int (0 : Int32)), .val (.ref b18), .val (.ref b20), .unset, .unset, .unset, .unset]) rfl ?_
        refine W_iload B (hb hby at_108) (pc' := 110) rfl rfl ?_
        refine W_ifY B (hb hby at_110) (by decide) (pc' := 117) (by decide) (by decide) ?_
        refine W_aload B (hb hby at_117) (pc' := 119) rfl rfl rfl ?_
        refine W_astore B (hb hby at_119) (pc' := 121) rfl rfl (ls' := #[.val (.int a1), .val (.long a2), .second, .val (.int a3), .val (.int a4), .val (.ref b3), .val (.ref sa5), .val (.int (0 : Int32)), .val (.ref b18), .val (.ref b20), .val (.ref b18), .unset, .unset, .unset]) rfl ?_
        refine W_new B hown (ow hw (i := 9) rfl) (ow hw (i := 10) rfl) (ow hw (i := 11) rfl) (hb hby at_121) (pc' := 124) rfl (by decide) (cells' := 6) rfl (slots' := 9) rfl (fs := [(fk0, .null), (fk1, (.long (0 : Int64))), (fk2, .null)]) (oAll_cons ⟨Or.inr (ow hw (i := 24) rfl), (.object "java/lang/String"), by decide, rfl⟩ (oAll_cons ⟨Or.inr (ow hw (i := 26) rfl), .long, by decide, rfl⟩ (oAll_cons ⟨Or.inr (ow hw (i := 28) rfl), (.array .byte), by decide, rfl⟩ oAll_nil))) (by decide) ?_
        intro T b21 B
        refine W_dup B (hb hby at_124) (pc' := 125) rfl rfl ?_
        refine W_aload B (hb hby at_125) (pc' := 127) rfl rfl rfl ?_
        refine W_lloadN B (hb hby at_127) (pc' := 128) rfl rfl ?_
        refine W_aload B (hb hby at_128) (pc' := 130) rfl rfl rfl ?_
        refine W_init B (y := (⟨"com/example/mitosis/mitosis/core/Change", "<init>", "(Ljava/lang/String;J[B)V"⟩ : MethodName)) hown rfl (ow hw (i := 12) rfl) (ow hw (i := 13) rfl) (ow hw (i := 11) rfl) (ow hw (i := 14) rfl) (by decide) (a := b21) (rm_inia l Z a0 hw h0 b21 sa5 a2 b18 [(b20, oA .byte [(.int (nar .byte ((a4 >>> ((16 : Int32) &&& 31)).toInt8.toInt32)))]), (b18, oA .byte []), (b3, oA .char [(.int (nar .char ((a1 &&& (255 : Int32)).toUInt32.toUInt16.toUInt32.toInt32)))])]) (lenOf pd_1 rfl) (hb hby at_130) (pc' := 133) rfl (argsL := [(.ref sa5), (.long a2), (.ref b18)]) (rest := [(.ref b21)]) rfl (by rw [hml]; rfl) (W := 1) (oLe rfl) (by decide) (cells' := 6) rfl (slots' := 9) rfl ?_
        intro T v_ d_ q_ B
        obtain ⟨rfl, rfl⟩ := q_
        show oWin p e below Z h0 _ _ (T.setTop (mkF m 133 #[.val (.int a1), .val (.long a2), .second, .val (.int a3), .val (.int a4), .val (.ref b3), .val (.ref sa5), .val (.int (0 : Int32)), .val (.ref b18), .val (.ref b20), .val (.ref b18), .unset, .unset, .unset] [(.ref b21)]))
        refine W_astore B (hb hby at_133) (pc' := 135) rfl rfl (ls' := #[.val (.int a1), .val (.long a2), .second, .val (.int a3), .val (.int a4), .val (.ref b3), .val (.ref sa5), .val (.int (0 : Int32)), .val (.ref b18), .val (.ref b20), .val (.ref b18), .val (.ref b21), .unset, .unset]) rfl ?_
        refine W_aload B (hb hby at_135) (pc' := 137) rfl rfl rfl ?_
        refine W_lloadN B (hb hby at_137) (pc' := 138) rfl rfl ?_
        refine W_callS B (y := (⟨"com/example/mitosis/mitosis/core/Change", "delete", "(Ljava/lang/String;J)Lcom/example/mitosis/mitosis/core/Change;"⟩ : MethodName)) hown (ow hw (i := 29) rfl) (ow hw (i := 30) rfl) (ow hw (i := 11) rfl) (ow hw (i := 31) rfl) (by decide) (rm_del l Z a0 hw h0 sa5 a2 [(b21, oO cn0 [(fk0, (.ref sa5)), (fk1, (.long a2)), (fk2, (.ref b18))]), (b20, oA .byte [(.int (nar .byte ((a4 >>> ((16 : Int32) &&& 31)).toInt8.toInt32)))]), (b18, oA .byte []), (b3, oA .char [(.int (nar .char ((a1 &&& (255 : Int32)).toUInt32.toUInt16.toUInt32.toInt32)))])]) (lenOf pd_2 rfl) (hb hby at_138) (pc' := 141) rfl (argsL := [(.ref sa5), (.long a2)]) (rest := []) rfl (by rw [hml]; rfl) (W := 0) (oLe rfl) (by decide) (cells' := 7) rfl (slots' := 12) rfl ?_
        intro T v_ d_ q_ B
        obtain ⟨b22, rfl, rfl⟩ := q_
        show oWin p e below Z h0 _ _ (T.setTop (mkF m 141 #[.val (.int a1), .val (.long a2), .second, .val (.int a3), .val (.int a4), .val (.ref b3), .val (.ref sa5), .val (.int (0 : Int32)), .val (.ref b18), .val (.ref b20), .val (.ref b18), .val (.ref b21), .unset, .unset] [(.ref b22)]))
        refine W_astore B (hb hby at_141) (pc' := 143) rfl rfl (ls' := #[.val (.int a1), .val (.long a2), .second, .val (.int a3), .val (.int a4), .val (.ref b3), .val (.ref sa5), .val (.int (0 : Int32)), .val (.ref b18), .val (.ref b20), .val (.ref b18), .val (.ref b21), .val (.ref b22), .unset]) rfl ?_
        refine W_aload B (hb hby at_143) (pc' := 145) rfl rfl rfl ?_
        refine W_lloadN B (hb hby at_145) (pc' := 146) rfl rfl ?_
        refine W_aload B (hb hby at_146) (pc' := 148) rfl rfl rfl ?_
        refine W_callS B (y := (⟨"com/example/mitosis/mitosis/core/Change", "put", "(Ljava/lang/String;J[B)Lcom/example/mitosis/mitosis/core/Change;"⟩ : MethodName)) hown (ow hw (i := 34) rfl) (ow hw (i := 35) rfl) (ow hw (i := 11) rfl) (ow hw (i := 36) rfl) (by decide) (rm_put l Z a0 hw h0 sa5 a2 b20 [(b22, oO cn0 [(fk0, (.ref sa5)), (fk1, (.long a2)), (fk2, .null)]), (b21, oO cn0 [(fk0, (.ref sa5)), (fk1, (.long a2)), (fk2, (.ref b18))]), (b20, oA .byte [(.int (nar .byte ((a4 >>> ((16 : Int32) &&& 31)).toInt8.toInt32)))]), (b18, oA .byte []), (b3, oA .char [(.int (nar .char ((a1 &&& (255 : Int32)).toUInt32.toUInt16.toUInt32.toInt32)))])]) (lenOf pd_3 rfl) (hb hby at_148) (pc' := 151) rfl (argsL := [(.ref sa5), (.long a2), (.ref b20)]) (rest := []) rfl (by rw [hml]; rfl) (W := 0) (oLe rfl) (by decide) (cells' := 8) rfl (slots' := 15) rfl ?_
        intro T v_ d_ q_ B
        obtain ⟨b23, rfl, rfl⟩ := q_
        show oWin p e below Z h0 _ _ (T.setTop (mkF m 151 #[.val (.int a1), .val (.long a2), .second, .val (.int a3), .val (.int a4), .val (.ref b3), .val (.ref sa5), .val (.int (0 : Int32)), .val (.ref b18), .val (.ref b20), .val (.ref b18), .val (.ref b21), .val (.ref b22), .unset] [(.ref b23)]))
        refine W_astore B (hb hby at_151) (pc' := 153) rfl rfl (ls' := #[.val (.int a1), .val (.long a2), .second, .val (.int a3), .val (.int a4), .val (.ref b3), .val (.ref sa5), .val (.int (0 : Int32)), .val (.ref b18), .val (.ref b20), .val (.ref b18), .val (.ref b21), .val (.ref b22), .val (.ref b23)]) rfl ?_
        refine W_aload B (hb hby at_153) (pc' := 155) rfl rfl rfl ?_
        refine W_virtual B (y := (⟨"com/example/mitosis/mitosis/core/Change", "isDelete", "()Z"⟩ : MethodName)) (z := (⟨"com/example/mitosis/mitosis/core/Change", "isDelete", "()Z"⟩ : MethodName)) hown (ow hw (i := 37) rfl) (ow hw (i := 38) rfl) (oNotFace B (ow hw (i := 40) rfl) rfl) (ow hw (i := 40) rfl) (ow hw (i := 39) rfl) (ow hw (i := 11) rfl) (ow hw (i := 41) rfl) (by decide) (a := b21) (rm_isd2a l Z a0 hw h0 b21 sa5 a2 b18 (b23, oO cn0 [(fk0, (.ref sa5)), (fk1, (.long a2)), (fk2, (.ref b20))]) (b22, oO cn0 [(fk0, (.ref sa5)), (fk1, (.long a2)), (fk2, .null)]) [(b20, oA .byte [(.int (nar .byte ((a4 >>> ((16 : Int32) &&& 31)).toInt8.toInt32)))]), (b18, oA .byte []), (b3, oA .char [(.int (nar .char ((a1 &&& (255 : Int32)).toUInt32.toUInt16.toUInt32.toInt32)))])]) (lenOf pd_4 rfl) (hb hby at_155) (pc' := 158) rfl (argsL := []) (rest := []) rfl (by rw [hml]; rfl) (W := 0) (oLe rfl) (j := 2) rfl (by decide) (cells' := 8) rfl (slots' := 15) rfl ?_
        intro T v_ d_ q_ B
        obtain ⟨rfl, rfl⟩ := q_
        show oWin p e below Z h0 _ _ (T.setTop (mkF m 158 #[.val (.int a1), .val (.long a2), .second, .val (.int a3), .val (.int a4), .val (.ref b3), .val (.ref sa5), .val (.int (0 : Int32)), .val (.ref b18), .val (.ref b20), .val (.ref b18), .val (.ref b21), .val (.ref b22), .val (.ref b23)] [(.int (0 : Int32))]))
        refine W_iload B (hb hby at_158) (pc' := 160) rfl rfl ?_
        refine W_icmpN B (hb hby at_160) (pc' := 163) rfl (by decide) ?_
        refine W_aload B (hb hby at_163) (pc' := 165) rfl rfl rfl ?_
        refine W_virtual B (y := (⟨"com/example/mitosis/mitosis/core/Change", "isDelete", "()Z"⟩ : MethodName)) (z := (⟨"com/example/mitosis/mitosis/core/Change", "isDelete", "()Z"⟩ : MethodName)) hown (ow hw (i := 37) rfl) (ow hw (i := 38) rfl) (oNotFace B (ow hw (i := 40) rfl) rfl) (ow hw (i := 40) rfl) (ow hw (i := 39) rfl) (ow hw (i := 11) rfl) (ow hw (i := 41) rfl) (by decide) (a := b22) (rm_isd1n l Z a0 hw h0 b22 sa5 a2 (b23, oO cn0 [(fk0, (.ref sa5)), (fk1, (.long a2)), (fk2, (.ref b20))]) [(b21, oO cn0 [(fk0, (.ref sa5)), (fk1, (.long a2)), (fk2, (.ref b18))]), (b20, oA .byte [(.int (nar .byte ((a4 >>> ((16 : Int32) &&& 31)).toInt8.toInt32)))]), (b18, oA .byte []), (b3, oA .char [(.int (nar .char ((a1 &&& (255 : Int32)).toUInt32.toUInt16.toUInt32.toInt32)))])]) (lenOf pd_4 rfl) (hb hby at_165) (pc' := 168) rfl (argsL := []) (rest := []) rfl (by rw [hml]; rfl) (W := 0) (oLe rfl) (j := 1) rfl (by decide) (cells' := 8) rfl (slots' := 15) rfl ?_
        intro T v_ d_ q_ B
        obtain ⟨rfl, rfl⟩ := q_
        show oWin p e below Z h0 _ _ (T.setTop (mkF m 168 #[.val (.int a1), .val (.long a2), .second, .val (.int a3), .val (.int a4), .val (.ref b3), .val (.ref sa5), .val (.int (0 : Int32)), .val (.ref b18), .val (.ref b20), .val (.ref b18), .val (.ref b21), .val (.ref b22), .val (.ref b23)] [(.int (1 : Int32))]))
        refine W_ifN B (hb hby at_168) (pc' := 171) rfl (by decide) ?_
        refine W_aload B (hb hby at_171) (pc' := 173) rfl rfl rfl ?_
        refine W_virtual B (y := (⟨"com/example/mitosis/mitosis/core/Change", "isDelete", "()Z"⟩ : MethodName)) (z := (⟨"com/example/mitosis/mitosis/core/Change", "isDelete", "()Z"⟩ : MethodName)) hown (ow hw (i := 37) rfl) (ow hw (i := 38) rfl) (oNotFace B (ow hw (i := 40) rfl) rfl) (ow hw (i := 40) rfl) (ow hw (i := 39) rfl) (ow hw (i := 11) rfl) (ow hw (i := 41) rfl) (by decide) (a := b23) (rm_isd0a l Z a0 hw h0 b23 sa5 a2 b20  [(b22, oO cn0 [(fk0, (.ref sa5)), (fk1, (.long a2)), (fk2, .null)]), (b21, oO cn0 [(fk0, (.ref sa5)), (fk1, (.long a2)), (fk2, (.ref b18))]), (b20, oA .byte [(.int (nar .byte ((a4 >>> ((16 : Int32) &&& 31)).toInt8.toInt32)))]), (b18, oA .byte []), (b3, oA .char [(.int (nar .char ((a1 &&& (255 : Int32)).toUInt32.toUInt16.toUInt32.toInt32)))])]) (lenOf pd_4 rfl) (hb hby at_173) (pc' := 176) rfl (argsL := []) (rest := []) rfl (by rw [hml]; rfl) (W := 0) (oLe rfl) (j := 0) rfl (by decide) (cells' := 8) rfl (slots' := 15) rfl ?_
        intro T v_ d_ q_ B
        obtain ⟨rfl, rfl⟩ := q_
        show oWin p e below Z h0 _ _ (T.setTop (mkF m 176 #[.val (.int a1), .val (.long a2), .second, .val (.int a3), .val (.int a4), .val (.ref b3), .val (.ref sa5), .val (.int (0 : Int32)), .val (.ref b18), .val (.ref b20), .val (.ref b18), .val (.ref b21), .val (.ref b22), .val (.ref b23)] [(.int (0 : Int32))]))
        refine W_ifN B (hb hby at_176) (pc' := 179) rfl (by decide) ?_
        refine W_iconst B (hb hby at_179) (pc' := 180) rfl (z := (1 : Int32)) (by decide) ?_
        refine W_goto B (hb hby at_180) (by decide) (pc' := 184) (by decide) ?_
        refine W_retNW B hS hret (by simp) (hb hby at_184) (by decide) ?_
        rfl
      refine W_iconst B (hb hby at_88) (pc' := 89) rfl (z := (0 : Int32)) (by decide) ?_
      refine W_newarray B (ow hw (i := 4) rfl) (hb hby at_89) (pc' := 91) rfl (by decide) (cap := 0) (by decide) (by decide) (cells' := 5) rfl (slots' := 5) rfl (vs := []) rfl (ty := .byte) rfl ?_
      intro T b24 B
      refine W_goto B (hb hby at_91) (by decide) (pc' := 106) (by decide) ?_
      refine W_astore B (hb hby at_106) (pc' := 108) rfl rfl (ls' := #[.val (.int a1), .val (.long a2), .second, .val (.int a3), .val (.int a4), .val (.ref b3), .val (.ref sa5), .val (.int (0 : Int32)), .val (.ref b18), .val (.ref b24), .unset, .unset, .unset, .unset]) rfl ?_
      refine W_iload B (hb hby at_108) (pc' := 110) rfl rfl ?_
      refine W_ifY B (hb hby at_110) (by decide) (pc' := 117) (by decide) (by decide) ?_
      refine W_aload B (hb hby at_117) (pc' := 119) rfl rfl rfl ?_
      refine W_astore B (hb hby at_119) (pc' := 121) rfl rfl (ls' := #[.val (.int a1), .val (.long a2), .second, .val (.int a3), .val (.int a4), .val (.ref b3), .val (.ref sa5), .val (.int (0 : Int32)), .val (.ref b18), .val (.ref b24), .val (.ref b18), .unset, .unset, .unset]) rfl ?_
      refine W_new B hown (ow hw (i := 9) rfl) (ow hw (i := 10) rfl) (ow hw (i := 11) rfl) (hb hby at_121) (pc' := 124) rfl (by decide) (cells' := 6) rfl (slots' := 8) rfl (fs := [(fk0, .null), (fk1, (.long (0 : Int64))), (fk2, .null)]) (oAll_cons ⟨Or.inr (ow hw (i := 24) rfl), (.object "java/lang/String"), by decide, rfl⟩ (oAll_cons ⟨Or.inr (ow hw (i := 26) rfl), .long, by decide, rfl⟩ (oAll_cons ⟨Or.inr (ow hw (i := 28) rfl), (.array .byte), by decide, rfl⟩ oAll_nil))) (by decide) ?_
      intro T b25 B
      refine W_dup B (hb hby at_124) (pc' := 125) rfl rfl ?_
      refine W_aload B (hb hby at_125) (pc' := 127) rfl rfl rfl ?_
      refine W_lloadN B (hb hby at_127) (pc' := 128) rfl rfl ?_
      refine W_aload B (hb hby at_128) (pc' := 130) rfl rfl rfl ?_
      refine W_init B (y := (⟨"com/example/mitosis/mitosis/core/Change", "<init>", "(Ljava/lang/String;J[B)V"⟩ : MethodName)) hown rfl (ow hw (i := 12) rfl) (ow hw (i := 13) rfl) (ow hw (i := 11) rfl) (ow hw (i := 14) rfl) (by decide) (a := b25) (rm_inia l Z a0 hw h0 b25 sa5 a2 b18 [(b24, oA .byte []), (b18, oA .byte []), (b3, oA .char [(.int (nar .char ((a1 &&& (255 : Int32)).toUInt32.toUInt16.toUInt32.toInt32)))])]) (lenOf pd_1 rfl) (hb hby at_130) (pc' := 133) rfl (argsL := [(.ref sa5), (.long a2), (.ref b18)]) (rest := [(.ref b25)]) rfl (by rw [hml]; rfl) (W := 1) (oLe rfl) (by decide) (cells' := 6) rfl (slots' := 8) rfl ?_
      intro T v_ d_ q_ B
      obtain ⟨rfl, rfl⟩ := q_
      show oWin p e below Z h0 _ _ (T.setTop (mkF m 133 #[.val (.int a1), .val (.long a2), .second, .val (.int a3), .val (.int a4), .val (.ref b3), .val (.ref sa5), .val (.int (0 : Int32)), .val (.ref b18), .val (.ref b24), .val (.ref b18), .unset, .unset, .unset] [(.ref b25)]))
      refine W_astore B (hb hby at_133) (pc' := 135) rfl rfl (ls' := #[.val (.int a1), .val (.long a2), .second, .val (.int a3), .val (.int a4), .val (.ref b3), .val (.ref sa5), .val (.int (0 : Int32)), .val (.ref b18), .val (.ref b24), .val (.ref b18), .val (.ref b25), .unset, .unset]) rfl ?_
      refine W_aload B (hb hby at_135) (pc' := 137) rfl rfl rfl ?_
      refine W_lloadN B (hb hby at_137) (pc' := 138) rfl rfl ?_
      refine W_callS B (y := (⟨"com/example/mitosis/mitosis/core/Change", "delete", "(Ljava/lang/String;J)Lcom/example/mitosis/mitosis/core/Change;"⟩ : MethodName)) hown (ow hw (i := 29) rfl) (ow hw (i := 30) rfl) (ow hw (i := 11) rfl) (ow hw (i := 31) rfl) (by decide) (rm_del l Z a0 hw h0 sa5 a2 [(b25, oO cn0 [(fk0, (.ref sa5)), (fk1, (.long a2)), (fk2, (.ref b18))]), (b24, oA .byte []), (b18, oA .byte []), (b3, oA .char [(.int (nar .char ((a1 &&& (255 : Int32)).toUInt32.toUInt16.toUInt32.toInt32)))])]) (lenOf pd_2 rfl) (hb hby at_138) (pc' := 141) rfl (argsL := [(.ref sa5), (.long a2)]) (rest := []) rfl (by rw [hml]; rfl) (W := 0) (oLe rfl) (by decide) (cells' := 7) rfl (slots' := 11) rfl ?_
      intro T v_ d_ q_ B
      obtain ⟨b26, rfl, rfl⟩ := q_
      show oWin p e below Z h0 _ _ (T.setTop (mkF m 141 #[.val (.int a1), .val (.long a2), .second, .val (.int a3), .val (.int a4), .val (.ref b3), .val (.ref sa5), .val (.int (0 : Int32)), .val (.ref b18), .val (.ref b24), .val (.ref b18), .val (.ref b25), .unset, .unset] [(.ref b26)]))
      refine W_astore B (hb hby at_141) (pc' := 143) rfl rfl (ls' := #[.val (.int a1), .val (.long a2), .second, .val (.int a3), .val (.int a4), .val (.ref b3), .val (.ref sa5), .val (.int (0 : Int32)), .val (.ref b18), .val (.ref b24), .val (.ref b18), .val (.ref b25), .val (.ref b26), .unset]) rfl ?_
      refine W_aload B (hb hby at_143) (pc' := 145) rfl rfl rfl ?_
      refine W_lloadN B (hb hby at_145) (pc' := 146) rfl rfl ?_
      refine W_aload B (hb hby at_146) (pc' := 148) rfl rfl rfl ?_
      refine W_callS B (y := (⟨"com/example/mitosis/mitosis/core/Change", "put", "(Ljava/lang/String;J[B)Lcom/example/mitosis/mitosis/core/Change;"⟩ : MethodName)) hown (ow hw (i := 34) rfl) (ow hw (i := 35) rfl) (ow hw (i := 11) rfl) (ow hw (i := 36) rfl) (by decide) (rm_put l Z a0 hw h0 sa5 a2 b24 [(b26, oO cn0 [(fk0, (.ref sa5)), (fk1, (.long a2)), (fk2, .null)]), (b25, oO cn0 [(fk0, (.ref sa5)), (fk1, (.long a2)), (fk2, (.ref b18))]), (b24, oA .byte []), (b18, oA .byte []), (b3, oA .char [(.int (nar .char ((a1 &&& (255 : Int32)).toUInt32.toUInt16.toUInt32.toInt32)))])]) (lenOf pd_3 rfl) (hb hby at_148) (pc' := 151) rfl (argsL := [(.ref sa5), (.long a2), (.ref b24)]) (rest := []) rfl (by rw [hml]; rfl) (W := 0) (oLe rfl) (by decide) (cells' := 8) rfl (slots' := 14) rfl ?_
      intro T v_ d_ q_ B
      obtain ⟨b27, rfl, rfl⟩ := q_
      show oWin p e below Z h0 _ _ (T.setTop (mkF m 151 #[.val (.int a1), .val (.long a2), .second, .val (.int a3), .val (.int a4), .val (.ref b3), .val (.ref sa5), .val (.int (0 : Int32)), .val (.ref b18), .val (.ref b24), .val (.ref b18), .val (.ref b25), .val (.ref b26), .unset] [(.ref b27)]))
      refine W_astore B (hb hby at_151) (pc' := 153) rfl rfl (ls' := #[.val (.int a1), .val (.long a2), .second, .val (.int a3), .val (.int a4), .val (.ref b3), .val (.ref sa5), .val (.int (0 : Int32)), .val (.ref b18), .val (.ref b24), .val (.ref b18), .val (.ref b25), .val (.ref b26), .val (.ref b27)]) rfl ?_
      refine W_aload B (hb hby at_153) (pc' := 155) rfl rfl rfl ?_
      refine W_virtual B (y := (⟨"com/example/mitosis/mitosis/core/Change", "isDelete", "()Z"⟩ : MethodName)) (z := (⟨"com/example/mitosis/mitosis/core/Change", "isDelete", "()Z"⟩ : MethodName)) hown (ow hw (i := 37) rfl) (ow hw (i := 38) rfl) (oNotFace B (ow hw (i := 40) rfl) rfl) (ow hw (i := 40) rfl) (ow hw (i := 39) rfl) (ow hw (i := 11) rfl) (ow hw (i := 41) rfl) (by decide) (a := b25) (rm_isd2a l Z a0 hw h0 b25 sa5 a2 b18 (b27, oO cn0 [(fk0, (.ref sa5)), (fk1, (.long a2)), (fk2, (.ref b24))]) (b26, oO cn0 [(fk0, (.ref sa5)), (fk1, (.long a2)), (fk2, .null)]) [(b24, oA .byte []), (b18, oA .byte []), (b3, oA .char [(.int (nar .char ((a1 &&& (255 : Int32)).toUInt32.toUInt16.toUInt32.toInt32)))])]) (lenOf pd_4 rfl) (hb hby at_155) (pc' := 158) rfl (argsL := []) (rest := []) rfl (by rw [hml]; rfl) (W := 0) (oLe rfl) (j := 2) rfl (by decide) (cells' := 8) rfl (slots' := 14) rfl ?_
      intro T v_ d_ q_ B
      obtain ⟨rfl, rfl⟩ := q_
      show oWin p e below Z h0 _ _ (T.setTop (mkF m 158 #[.val (.int a1), .val (.long a2), .second, .val (.int a3), .val (.int a4), .val (.ref b3), .val (.ref sa5), .val (.int (0 : Int32)), .val (.ref b18), .val (.ref b24), .val (.ref b18), .val (.ref b25), .val (.ref b26), .val (.ref b27)] [(.int (0 : Int32))]))
      refine W_iload B (hb hby at_158) (pc' := 160) rfl rfl ?_
      refine W_icmpN B (hb hby at_160) (pc' := 163) rfl (by decide) ?_
      refine W_aload B (hb hby at_163) (pc' := 165) rfl rfl rfl ?_
      refine W_virtual B (y := (⟨"com/example/mitosis/mitosis/core/Change", "isDelete", "()Z"⟩ : MethodName)) (z := (⟨"com/example/mitosis/mitosis/core/Change", "isDelete", "()Z"⟩ : MethodName)) hown (ow hw (i := 37) rfl) (ow hw (i := 38) rfl) (oNotFace B (ow hw (i := 40) rfl) rfl) (ow hw (i := 40) rfl) (ow hw (i := 39) rfl) (ow hw (i := 11) rfl) (ow hw (i := 41) rfl) (by decide) (a := b26) (rm_isd1n l Z a0 hw h0 b26 sa5 a2 (b27, oO cn0 [(fk0, (.ref sa5)), (fk1, (.long a2)), (fk2, (.ref b24))]) [(b25, oO cn0 [(fk0, (.ref sa5)), (fk1, (.long a2)), (fk2, (.ref b18))]), (b24, oA .byte []), (b18, oA .byte []), (b3, oA .char [(.int (nar .char ((a1 &&& (255 : Int32)).toUInt32.toUInt16.toUInt32.toInt32)))])]) (lenOf pd_4 rfl) (hb hby at_165) (pc' := 168) rfl (argsL := []) (rest := []) rfl (by rw [hml]; rfl) (W := 0) (oLe rfl) (j := 1) rfl (by decide) (cells' := 8) rfl (slots' := 14) rfl ?_
      intro T v_ d_ q_ B
      obtain ⟨rfl, rfl⟩ := q_
      show oWin p e below Z h0 _ _ (T.setTop (mkF m 168 #[.val (.int a1), .val (.long a2), .second, .val (.int a3), .val (.int a4), .val (.ref b3), .val (.ref sa5), .val (.int (0 : Int32)), .val (.ref b18), .val (.ref b24), .val (.ref b18), .val (.ref b25), .val (.ref b26), .val (.ref b27)] [(.int (1 : Int32))]))
      refine W_ifN B (hb hby at_168) (pc' := 171) rfl (by decide) ?_
      refine W_aload B (hb hby at_171) (pc' := 173) rfl rfl rfl ?_
      refine W_virtual B (y := (⟨"com/example/mitosis/mitosis/core/Change", "isDelete", "()Z"⟩ : MethodName)) (z := (⟨"com/example/mitosis/mitosis/core/Change", "isDelete", "()Z"⟩ : MethodName)) hown (ow hw (i := 37) rfl) (ow hw (i := 38) rfl) (oNotFace B (ow hw (i := 40) rfl) rfl) (ow hw (i := 40) rfl) (ow hw (i := 39) rfl) (ow hw (i := 11) rfl) (ow hw (i := 41) rfl) (by decide) (a := b27) (rm_isd0a l Z a0 hw h0 b27 sa5 a2 b24  [(b26, oO cn0 [(fk0, (.ref sa5)), (fk1, (.long a2)), (fk2, .null)]), (b25, oO cn0 [(fk0, (.ref sa5)), (fk1, (.long a2)), (fk2, (.ref b18))]), (b24, oA .byte []), (b18, oA .byte []), (b3, oA .char [(.int (nar .char ((a1 &&& (255 : Int32)).toUInt32.toUInt16.toUInt32.toInt32)))])]) (lenOf pd_4 rfl) (hb hby at_173) (pc' := 176) rfl (argsL := []) (rest := []) rfl (by rw [hml]; rfl) (W := 0) (oLe rfl) (j := 0) rfl (by decide) (cells' := 8) rfl (slots' := 14) rfl ?_
      intro T v_ d_ q_ B
      obtain ⟨rfl, rfl⟩ := q_
      show oWin p e below Z h0 _ _ (T.setTop (mkF m 176 #[.val (.int a1), .val (.long a2), .second, .val (.int a3), .val (.int a4), .val (.ref b3), .val (.ref sa5), .val (.int (0 : Int32)), .val (.ref b18), .val (.ref b24), .val (.ref b18), .val (.ref b25), .val (.ref b26), .val (.ref b27)] [(.int (0 : Int32))]))
      refine W_ifN B (hb hby at_176) (pc' := 179) rfl (by decide) ?_
      refine W_iconst B (hb hby at_179) (pc' := 180) rfl (z := (1 : Int32)) (by decide) ?_
      refine W_goto B (hb hby at_180) (by decide) (pc' := 184) (by decide) ?_
      refine W_retNW B hS hret (by simp) (hb hby at_184) (by decide) ?_
      rfl
    refine W_iconst B (hb hby at_43) (pc' := 44) rfl (z := (1 : Int32)) (by decide) ?_
    refine W_goto B (hb hby at_44) (by decide) (pc' := 48) (by decide) ?_
    refine W_istore B (hb hby at_48) (pc' := 50) rfl (v := (1 : Int32)) rfl (ls' := #[.val (.int a1), .val (.long a2), .second, .val (.int a3), .val (.int a4), .val (.ref b3), .val (.ref sa5), .val (.int (1 : Int32)), .unset, .unset, .unset, .unset, .unset, .unset]) rfl ?_
    refine W_iloadN B (hb hby at_50) (pc' := 51) rfl rfl ?_
    refine W_iconst B (hb hby at_51) (pc' := 52) rfl (z := (2 : Int32)) (by decide) ?_
    refine W_iand B (hb hby at_52) (pc' := 53) rfl (z := (a3 &&& (2 : Int32))) rfl ?_
    refine W_if_eq B (hb hby at_53) (by decide) (pt := 62) (by decide) (pc' := 56) rfl (fun (c28 : (a3 &&& (2 : Int32)) = (0 : Int32)) => ?_) (fun (c28 : ¬ (a3 &&& (2 : Int32)) = (0 : Int32)) => ?_)
    · refine W_iconst B (hb hby at_62) (pc' := 63) rfl (z := (2 : Int32)) (by decide) ?_
      refine W_newarray B (ow hw (i := 4) rfl) (hb hby at_63) (pc' := 65) rfl (by decide) (cap := 2) (by decide) (by decide) (cells' := 4) rfl (slots' := 7) rfl (vs := [(.int (0 : Int32)), (.int (0 : Int32))]) rfl (ty := .byte) rfl ?_
      intro T b29 B
      refine W_dup B (hb hby at_65) (pc' := 66) rfl rfl ?_
      refine W_iconst B (hb hby at_66) (pc' := 67) rfl (z := (0 : Int32)) (by decide) ?_
      refine W_iload B (hb hby at_67) (pc' := 69) rfl rfl ?_
      refine W_i2b B (hb hby at_69) (pc' := 70) rfl (z := (a4.toInt8.toInt32)) rfl ?_
      refine W_bastore B (hb hby at_70) (pc' := 71) rfl (i := 0) rfl (by decide) (oLt rfl) (ds' := [(b29, oA .byte [(.int (nar .byte (a4.toInt8.toInt32))), o0]), (b3, oA .char [(.int (nar .char ((a1 &&& (255 : Int32)).toUInt32.toUInt16.toUInt32.toInt32)))])]) rfl ?_
      intro T B
      refine W_dup B (hb hby at_71) (pc' := 72) rfl rfl ?_
      refine W_iconst B (hb hby at_72) (pc' := 73) rfl (z := (1 : Int32)) (by decide) ?_
      refine W_iload B (hb hby at_73) (pc' := 75) rfl rfl ?_
      refine W_bipush B (hb hby at_75) (pc' := 77) rfl (z := (8 : Int32)) (by decide) ?_
      refine W_ishr B (hb hby at_77) (pc' := 78) rfl (z := (a4 >>> ((8 : Int32) &&& 31))) rfl ?_
      refine W_i2b B (hb hby at_78) (pc' := 79) rfl (z := ((a4 >>> ((8 : Int32) &&& 31)).toInt8.toInt32)) rfl ?_
      refine W_bastore B (hb hby at_79) (pc' := 80) rfl (i := 0) rfl (by decide) (oLt rfl) (ds' := [(b29, oA .byte [(.int (nar .byte (a4.toInt8.toInt32))), (.int (nar .byte ((a4 >>> ((8 : Int32) &&& 31)).toInt8.toInt32)))]), (b3, oA .char [(.int (nar .char ((a1 &&& (255 : Int32)).toUInt32.toUInt16.toUInt32.toInt32)))])]) rfl ?_
      intro T B
      refine W_astore B (hb hby at_80) (pc' := 82) rfl rfl (ls' := #[.val (.int a1), .val (.long a2), .second, .val (.int a3), .val (.int a4), .val (.ref b3), .val (.ref sa5), .val (.int (1 : Int32)), .val (.ref b29), .unset, .unset, .unset, .unset, .unset]) rfl ?_
      refine W_iloadN B (hb hby at_82) (pc' := 83) rfl rfl ?_
      refine W_iconst B (hb hby at_83) (pc' := 84) rfl (z := (4 : Int32)) (by decide) ?_
      refine W_iand B (hb hby at_84) (pc' := 85) rfl (z := (a3 &&& (4 : Int32))) rfl ?_
      refine W_if_eq B (hb hby at_85) (by decide) (pt := 94) (by decide) (pc' := 88) rfl (fun (c30 : (a3 &&& (4 : Int32)) = (0 : Int32)) => ?_) (fun (c30 : ¬ (a3 &&& (4 : Int32)) = (0 : Int32)) => ?_)
      · refine W_iconst B (hb hby at_94) (pc' := 95) rfl (z := (1 : Int32)) (by decide) ?_
        refine W_newarray B (ow hw (i := 4) rfl) (hb hby at_95) (pc' := 97) rfl (by decide) (cap := 1) (by decide) (by decide) (cells' := 5) rfl (slots' := 8) rfl (vs := [(.int (0 : Int32))]) rfl (ty := .byte) rfl ?_
        intro T b31 B
        refine W_dup B (hb hby at_97) (pc' := 98) rfl rfl ?_
        refine W_iconst B (hb hby at_98) (pc' := 99) rfl (z := (0 : Int32)) (by decide) ?_
        refine W_iload B (hb hby at_99) (pc' := 101) rfl rfl ?_
        refine W_bipush B (hb hby at_101) (pc' := 103) rfl (z := (16 : Int32)) (by decide) ?_
        refine W_ishr B (hb hby at_103) (pc' := 104) rfl (z := (a4 >>> ((16 : Int32) &&& 31))) rfl ?_
        refine W_i2b B (hb hby at_104) (pc' := 105) rfl (z := ((a4 >>> ((16 : Int32) &&& 31)).toInt8.toInt32)) rfl ?_
        refine W_bastore B (hb hby at_105) (pc' := 106) rfl (i := 0) rfl (by decide) (oLt rfl) (ds' := [(b31, oA .byte [(.int (nar .byte ((a4 >>> ((16 : Int32) &&& 31)).toInt8.toInt32)))]), (b29, oA .byte [(.int (nar .byte (a4.toInt8.toInt32))), (.int (nar .byte ((a4 >>> ((8 : Int32) &&& 31)).toInt8.toInt32)))]), (b3, oA .char [(.int (nar .char ((a1 &&& (255 : Int32)).toUInt32.toUInt16.toUInt32.toInt32)))])]) rfl ?_
        intro T B
        refine W_astore B (hb hby at_106) (pc' := 108) rfl rfl (ls' := #[.val (.int a1), .val (.long a2), .second, .val (.int a3), .val (.int a4), .val (.ref b3), .val (.ref sa5), .val (.int (1 : Int32)), .val (.ref b29), .val (.ref b31), .unset, .unset, .unset, .unset]) rfl ?_
        refine W_iload B (hb hby at_108) (pc' := 110) rfl rfl ?_
        refine W_ifN B (hb hby at_110) (pc' := 113) rfl (by decide) ?_
        refine W_aconstNull B (hb hby at_113) (pc' := 114) rfl  ?_
        refine W_goto B (hb hby at_114) (by decide) (pc' := 119) (by decide) ?_
        refine W_astore B (hb hby at_119) (pc' := 121) rfl rfl (ls' := #[.val (.int a1), .val (.long a2), .second, .val (.int a3), .val (.int a4), .val (.ref b3), .val (.ref sa5), .val (.int (1 : Int32)), .val (.ref b29), .val (.ref b31), .val .null, .unset, .unset, .unset]) rfl ?_
        refine W_new B hown (ow hw (i := 9) rfl) (ow hw (i := 10) rfl) (ow hw (i := 11) rfl) (hb hby at_121) (pc' := 124) rfl (by decide) (cells' := 6) rfl (slots' := 11) rfl (fs := [(fk0, .null), (fk1, (.long (0 : Int64))), (fk2, .null)]) (oAll_cons ⟨Or.inr (ow hw (i := 24) rfl), (.object "java/lang/String"), by decide, rfl⟩ (oAll_cons ⟨Or.inr (ow hw (i := 26) rfl), .long, by decide, rfl⟩ (oAll_cons ⟨Or.inr (ow hw (i := 28) rfl), (.array .byte), by decide, rfl⟩ oAll_nil))) (by decide) ?_
        intro T b32 B
        refine W_dup B (hb hby at_124) (pc' := 125) rfl rfl ?_
        refine W_aload B (hb hby at_125) (pc' := 127) rfl rfl rfl ?_
        refine W_lloadN B (hb hby at_127) (pc' := 128) rfl rfl ?_
        refine W_aload B (hb hby at_128) (pc' := 130) rfl rfl rfl ?_
        refine W_init B (y := (⟨"com/example/mitosis/mitosis/core/Change", "<init>", "(Ljava/lang/String;J[B)V"⟩ : MethodName)) hown rfl (ow hw (i := 12) rfl) (ow hw (i := 13) rfl) (ow hw (i := 11) rfl) (ow hw (i := 14) rfl) (by decide) (a := b32) (rm_inin l Z a0 hw h0 b32 sa5 a2 [(b31, oA .byte [(.int (nar .byte ((a4 >>> ((16 : Int32) &&& 31)).toInt8.toInt32)))]), (b29, oA .byte [(.int (nar .byte (a4.toInt8.toInt32))), (.int (nar .byte ((a4 >>> ((8 : Int32) &&& 31)).toInt8.toInt32)))]), (b3, oA .char [(.int (nar .char ((a1 &&& (255 : Int32)).toUInt32.toUInt16.toUInt32.toInt32)))])]) (lenOf pd_1 rfl) (hb hby at_130) (pc' := 133) rfl (argsL := [(.ref sa5), (.long a2), .null]) (rest := [(.ref b32)]) rfl (by rw [hml]; rfl) (W := 1) (oLe rfl) (by decide) (cells' := 6) rfl (slots' := 11) rfl ?_
        intro T v_ d_ q_ B
        obtain ⟨rfl, rfl⟩ := q_
        show oWin p e below Z h0 _ _ (T.setTop (mkF m 133 #[.val (.int a1), .val (.long a2), .second, .val (.int a3), .val (.int a4), .val (.ref b3), .val (.ref sa5), .val (.int (1 : Int32)), .val (.ref b29), .val (.ref b31), .val .null, .unset, .unset, .unset] [(.ref b32)]))
        refine W_astore B (hb hby at_133) (pc' := 135) rfl rfl (ls' := #[.val (.int a1), .val (.long a2), .second, .val (.int a3), .val (.int a4), .val (.ref b3), .val (.ref sa5), .val (.int (1 : Int32)), .val (.ref b29), .val (.ref b31), .val .null, .val (.ref b32), .unset, .unset]) rfl ?_
        refine W_aload B (hb hby at_135) (pc' := 137) rfl rfl rfl ?_
        refine W_lloadN B (hb hby at_137) (pc' := 138) rfl rfl ?_
        refine W_callS B (y := (⟨"com/example/mitosis/mitosis/core/Change", "delete", "(Ljava/lang/String;J)Lcom/example/mitosis/mitosis/core/Change;"⟩ : MethodName)) hown (ow hw (i := 29) rfl) (ow hw (i := 30) rfl) (ow hw (i := 11) rfl) (ow hw (i := 31) rfl) (by decide) (rm_del l Z a0 hw h0 sa5 a2 [(b32, oO cn0 [(fk0, (.ref sa5)), (fk1, (.long a2)), (fk2, .null)]), (b31, oA .byte [(.int (nar .byte ((a4 >>> ((16 : Int32) &&& 31)).toInt8.toInt32)))]), (b29, oA .byte [(.int (nar .byte (a4.toInt8.toInt32))), (.int (nar .byte ((a4 >>> ((8 : Int32) &&& 31)).toInt8.toInt32)))]), (b3, oA .char [(.int (nar .char ((a1 &&& (255 : Int32)).toUInt32.toUInt16.toUInt32.toInt32)))])]) (lenOf pd_2 rfl) (hb hby at_138) (pc' := 141) rfl (argsL := [(.ref sa5), (.long a2)]) (rest := []) rfl (by rw [hml]; rfl) (W := 0) (oLe rfl) (by decide) (cells' := 7) rfl (slots' := 14) rfl ?_
        intro T v_ d_ q_ B
        obtain ⟨b33, rfl, rfl⟩ := q_
        show oWin p e below Z h0 _ _ (T.setTop (mkF m 141 #[.val (.int a1), .val (.long a2), .second, .val (.int a3), .val (.int a4), .val (.ref b3), .val (.ref sa5), .val (.int (1 : Int32)), .val (.ref b29), .val (.ref b31), .val .null, .val (.ref b32), .unset, .unset] [(.ref b33)]))
        refine W_astore B (hb hby at_141) (pc' := 143) rfl rfl (ls' := #[.val (.int a1), .val (.long a2), .second, .val (.int a3), .val (.int a4), .val (.ref b3), .val (.ref sa5), .val (.int (1 : Int32)), .val (.ref b29), .val (.ref b31), .val .null, .val (.ref b32), .val (.ref b33), .unset]) rfl ?_
        refine W_aload B (hb hby at_143) (pc' := 145) rfl rfl rfl ?_
        refine W_lloadN B (hb hby at_145) (pc' := 146) rfl rfl ?_
        refine W_aload B (hb hby at_146) (pc' := 148) rfl rfl rfl ?_
        refine W_callS B (y := (⟨"com/example/mitosis/mitosis/core/Change", "put", "(Ljava/lang/String;J[B)Lcom/example/mitosis/mitosis/core/Change;"⟩ : MethodName)) hown (ow hw (i := 34) rfl) (ow hw (i := 35) rfl) (ow hw (i := 11) rfl) (ow hw (i := 36) rfl) (by decide) (rm_put l Z a0 hw h0 sa5 a2 b31 [(b33, oO cn0 [(fk0, (.ref sa5)), (fk1, (.long a2)), (fk2, .null)]), (b32, oO cn0 [(fk0, (.ref sa5)), (fk1, (.long a2)), (fk2, .null)]), (b31, oA .byte [(.int (nar .byte ((a4 >>> ((16 : Int32) &&& 31)).toInt8.toInt32)))]), (b29, oA .byte [(.int (nar .byte (a4.toInt8.toInt32))), (.int (nar .byte ((a4 >>> ((8 : Int32) &&& 31)).toInt8.toInt32)))]), (b3, oA .char [(.int (nar .char ((a1 &&& (255 : Int32)).toUInt32.toUInt16.toUInt32.toInt32)))])]) (lenOf pd_3 rfl) (hb hby at_148) (pc' := 151) rfl (argsL := [(.ref sa5), (.long a2), (.ref b31)]) (rest := []) rfl (by rw [hml]; rfl) (W := 0) (oLe rfl) (by decide) (cells' := 8) rfl (slots' := 17) rfl ?_
        intro T v_ d_ q_ B
        obtain ⟨b34, rfl, rfl⟩ := q_
        show oWin p e below Z h0 _ _ (T.setTop (mkF m 151 #[.val (.int a1), .val (.long a2), .second, .val (.int a3), .val (.int a4), .val (.ref b3), .val (.ref sa5), .val (.int (1 : Int32)), .val (.ref b29), .val (.ref b31), .val .null, .val (.ref b32), .val (.ref b33), .unset] [(.ref b34)]))
        refine W_astore B (hb hby at_151) (pc' := 153) rfl rfl (ls' := #[.val (.int a1), .val (.long a2), .second, .val (.int a3), .val (.int a4), .val (.ref b3), .val (.ref sa5), .val (.int (1 : Int32)), .val (.ref b29), .val (.ref b31), .val .null, .val (.ref b32), .val (.ref b33), .val (.ref b34)]) rfl ?_
        refine W_aload B (hb hby at_153) (pc' := 155) rfl rfl rfl ?_
        refine W_virtual B (y := (⟨"com/example/mitosis/mitosis/core/Change", "isDelete", "()Z"⟩ : MethodName)) (z := (⟨"com/example/mitosis/mitosis/core/Change", "isDelete", "()Z"⟩ : MethodName)) hown (ow hw (i := 37) rfl) (ow hw (i := 38) rfl) (oNotFace B (ow hw (i := 40) rfl) rfl) (ow hw (i := 40) rfl) (ow hw (i := 39) rfl) (ow hw (i := 11) rfl) (ow hw (i := 41) rfl) (by decide) (a := b32) (rm_isd2n l Z a0 hw h0 b32 sa5 a2 (b34, oO cn0 [(fk0, (.ref sa5)), (fk1, (.long a2)), (fk2, (.ref b31))]) (b33, oO cn0 [(fk0, (.ref sa5)), (fk1, (.long a2)), (fk2, .null)]) [(b31, oA .byte [(.int (nar .byte ((a4 >>> ((16 : Int32) &&& 31)).toInt8.toInt32)))]), (b29, oA .byte [(.int (nar .byte (a4.toInt8.toInt32))), (.int (nar .byte ((a4 >>> ((8 : Int32) &&& 31)).toInt8.toInt32)))]), (b3, oA .char [(.int (nar .char ((a1 &&& (255 : Int32)).toUInt32.toUInt16.toUInt32.toInt32)))])]) (lenOf pd_4 rfl) (hb hby at_155) (pc' := 158) rfl (argsL := []) (rest := []) rfl (by rw [hml]; rfl) (W := 0) (oLe rfl) (j := 2) rfl (by decide) (cells' := 8) rfl (slots' := 17) rfl ?_
        intro T v_ d_ q_ B
        obtain ⟨rfl, rfl⟩ := q_
        show oWin p e below Z h0 _ _ (T.setTop (mkF m 158 #[.val (.int a1), .val (.long a2), .second, .val (.int a3), .val (.int a4), .val (.ref b3), .val (.ref sa5), .val (.int (1 : Int32)), .val (.ref b29), .val (.ref b31), .val .null, .val (.ref b32), .val (.ref b33), .val (.ref b34)] [(.int (1 : Int32))]))
        refine W_iload B (hb hby at_158) (pc' := 160) rfl rfl ?_
        refine W_icmpN B (hb hby at_160) (pc' := 163) rfl (by decide) ?_
        refine W_aload B (hb hby at_163) (pc' := 165) rfl rfl rfl ?_
        refine W_virtual B (y := (⟨"com/example/mitosis/mitosis/core/Change", "isDelete", "()Z"⟩ : MethodName)) (z := (⟨"com/example/mitosis/mitosis/core/Change", "isDelete", "()Z"⟩ : MethodName)) hown (ow hw (i := 37) rfl) (ow hw (i := 38) rfl) (oNotFace B (ow hw (i := 40) rfl) rfl) (ow hw (i := 40) rfl) (ow hw (i := 39) rfl) (ow hw (i := 11) rfl) (ow hw (i := 41) rfl) (by decide) (a := b33) (rm_isd1n l Z a0 hw h0 b33 sa5 a2 (b34, oO cn0 [(fk0, (.ref sa5)), (fk1, (.long a2)), (fk2, (.ref b31))]) [(b32, oO cn0 [(fk0, (.ref sa5)), (fk1, (.long a2)), (fk2, .null)]), (b31, oA .byte [(.int (nar .byte ((a4 >>> ((16 : Int32) &&& 31)).toInt8.toInt32)))]), (b29, oA .byte [(.int (nar .byte (a4.toInt8.toInt32))), (.int (nar .byte ((a4 >>> ((8 : Int32) &&& 31)).toInt8.toInt32)))]), (b3, oA .char [(.int (nar .char ((a1 &&& (255 : Int32)).toUInt32.toUInt16.toUInt32.toInt32)))])]) (lenOf pd_4 rfl) (hb hby at_165) (pc' := 168) rfl (argsL := []) (rest := []) rfl (by rw [hml]; rfl) (W := 0) (oLe rfl) (j := 1) rfl (by decide) (cells' := 8) rfl (slots' := 17) rfl ?_
        intro T v_ d_ q_ B
        obtain ⟨rfl, rfl⟩ := q_
        show oWin p e below Z h0 _ _ (T.setTop (mkF m 168 #[.val (.int a1), .val (.long a2), .second, .val (.int a3), .val (.int a4), .val (.ref b3), .val (.ref sa5), .val (.int (1 : Int32)), .val (.ref b29), .val (.ref b31), .val .null, .val (.ref b32), .val (.ref b33), .val (.ref b34)] [(.int (1 : Int32))]))
        refine W_ifN B (hb hby at_168) (pc' := 171) rfl (by decide) ?_
        refine W_aload B (hb hby at_171) (pc' := 173) rfl rfl rfl ?_
        refine W_virtual B (y := (⟨"com/example/mitosis/mitosis/core/Change", "isDelete", "()Z"⟩ : MethodName)) (z := (⟨"com/example/mitosis/mitosis/core/Change", "isDelete", "()Z"⟩ : MethodName)) hown (ow hw (i := 37) rfl) (ow hw (i := 38) rfl) (oNotFace B (ow hw (i := 40) rfl) rfl) (ow hw (i := 40) rfl) (ow hw (i := 39) rfl) (ow hw (i := 11) rfl) (ow hw (i := 41) rfl) (by decide) (a := b34) (rm_isd0a l Z a0 hw h0 b34 sa5 a2 b31  [(b33, oO cn0 [(fk0, (.ref sa5)), (fk1, (.long a2)), (fk2, .null)]), (b32, oO cn0 [(fk0, (.ref sa5)), (fk1, (.long a2)), (fk2, .null)]), (b31, oA .byte [(.int (nar .byte ((a4 >>> ((16 : Int32) &&& 31)).toInt8.toInt32)))]), (b29, oA .byte [(.int (nar .byte (a4.toInt8.toInt32))), (.int (nar .byte ((a4 >>> ((8 : Int32) &&& 31)).toInt8.toInt32)))]), (b3, oA .char [(.int (nar .char ((a1 &&& (255 : Int32)).toUInt32.toUInt16.toUInt32.toInt32)))])]) (lenOf pd_4 rfl) (hb hby at_173) (pc' := 176) rfl (argsL := []) (rest := []) rfl (by rw [hml]; rfl) (W := 0) (oLe rfl) (j := 0) rfl (by decide) (cells' := 8) rfl (slots' := 17) rfl ?_
        intro T v_ d_ q_ B
        obtain ⟨rfl, rfl⟩ := q_
        show oWin p e below Z h0 _ _ (T.setTop (mkF m 176 #[.val (.int a1), .val (.long a2), .second, .val (.int a3), .val (.int a4), .val (.ref b3), .val (.ref sa5), .val (.int (1 : Int32)), .val (.ref b29), .val (.ref b31), .val .null, .val (.ref b32), .val (.ref b33), .val (.ref b34)] [(.int (0 : Int32))]))
        refine W_ifN B (hb hby at_176) (pc' := 179) rfl (by decide) ?_
        refine W_iconst B (hb hby at_179) (pc' := 180) rfl (z := (1 : Int32)) (by decide) ?_
        refine W_goto B (hb hby at_180) (by decide) (pc' := 184) (by decide) ?_
        refine W_retNW B hS hret (by simp) (hb hby at_184) (by decide) ?_
        rfl
      refine W_iconst B (hb hby at_88) (pc' := 89) rfl (z := (0 : Int32)) (by decide) ?_
      refine W_newarray B (ow hw (i := 4) rfl) (hb hby at_89) (pc' := 91) rfl (by decide) (cap := 0) (by decide) (by decide) (cells' := 5) rfl (slots' := 7) rfl (vs := []) rfl (ty := .byte) rfl ?_
      intro T b35 B
      refine W_goto B (hb hby at_91) (by decide) (pc' := 106) (by decide) ?_
      refine W_astore B (hb hby at_106) (pc' := 108) rfl rfl (ls' := #[.val (.int a1), .val (.long a2), .second, .val (.int a3), .val (.int a4), .val (.ref b3), .val (.ref sa5), .val (.int (1 : Int32)), .val (.ref b29), .val (.ref b35), .unset, .unset, .unset, .unset]) rfl ?_
      refine W_iload B (hb hby at_108) (pc' := 110) rfl rfl ?_
      refine W_ifN B (hb hby at_110) (pc' := 113) rfl (by decide) ?_
      refine W_aconstNull B (hb hby at_113) (pc' := 114) rfl  ?_
      refine W_goto B (hb hby at_114) (by decide) (pc' := 119) (by decide) ?_
      refine W_astore B (hb hby at_119) (pc' := 121) rfl rfl (ls' := #[.val (.int a1), .val (.long a2), .second, .val (.int a3), .val (.int a4), .val (.ref b3), .val (.ref sa5), .val (.int (1 : Int32)), .val (.ref b29), .val (.ref b35), .val .null, .unset, .unset, .unset]) rfl ?_
      refine W_new B hown (ow hw (i := 9) rfl) (ow hw (i := 10) rfl) (ow hw (i := 11) rfl) (hb hby at_121) (pc' := 124) rfl (by decide) (cells' := 6) rfl (slots' := 10) rfl (fs := [(fk0, .null), (fk1, (.long (0 : Int64))), (fk2, .null)]) (oAll_cons ⟨Or.inr (ow hw (i := 24) rfl), (.object "java/lang/String"), by decide, rfl⟩ (oAll_cons ⟨Or.inr (ow hw (i := 26) rfl), .long, by decide, rfl⟩ (oAll_cons ⟨Or.inr (ow hw (i := 28) rfl), (.array .byte), by decide, rfl⟩ oAll_nil))) (by decide) ?_
      intro T b36 B
      refine W_dup B (hb hby at_124) (pc' := 125) rfl rfl ?_
      refine W_aload B (hb hby at_125) (pc' := 127) rfl rfl rfl ?_
      refine W_lloadN B (hb hby at_127) (pc' := 128) rfl rfl ?_
      refine W_aload B (hb hby at_128) (pc' := 130) rfl rfl rfl ?_
      refine W_init B (y := (⟨"com/example/mitosis/mitosis/core/Change", "<init>", "(Ljava/lang/String;J[B)V"⟩ : MethodName)) hown rfl (ow hw (i := 12) rfl) (ow hw (i := 13) rfl) (ow hw (i := 11) rfl) (ow hw (i := 14) rfl) (by decide) (a := b36) (rm_inin l Z a0 hw h0 b36 sa5 a2 [(b35, oA .byte []), (b29, oA .byte [(.int (nar .byte (a4.toInt8.toInt32))), (.int (nar .byte ((a4 >>> ((8 : Int32) &&& 31)).toInt8.toInt32)))]), (b3, oA .char [(.int (nar .char ((a1 &&& (255 : Int32)).toUInt32.toUInt16.toUInt32.toInt32)))])]) (lenOf pd_1 rfl) (hb hby at_130) (pc' := 133) rfl (argsL := [(.ref sa5), (.long a2), .null]) (rest := [(.ref b36)]) rfl (by rw [hml]; rfl) (W := 1) (oLe rfl) (by decide) (cells' := 6) rfl (slots' := 10) rfl ?_
      intro T v_ d_ q_ B
      obtain ⟨rfl, rfl⟩ := q_
      show oWin p e below Z h0 _ _ (T.setTop (mkF m 133 #[.val (.int a1), .val (.long a2), .second, .val (.int a3), .val (.int a4), .val (.ref b3), .val (.ref sa5), .val (.int (1 : Int32)), .val (.ref b29), .val (.ref b35), .val .null, .unset, .unset, .unset] [(.ref b36)]))
      refine W_astore B (hb hby at_133) (pc' := 135) rfl rfl (ls' := #[.val (.int a1), .val (.long a2), .second, .val (.int a3), .val (.int a4), .val (.ref b3), .val (.ref sa5), .val (.int (1 : Int32)), .val (.ref b29), .val (.ref b35), .val .null, .val (.ref b36), .unset, .unset]) rfl ?_
      refine W_aload B (hb hby at_135) (pc' := 137) rfl rfl rfl ?_
      refine W_lloadN B (hb hby at_137) (pc' := 138) rfl rfl ?_
      refine W_callS B (y := (⟨"com/example/mitosis/mitosis/core/Change", "delete", "(Ljava/lang/String;J)Lcom/example/mitosis/mitosis/core/Change;"⟩ : MethodName)) hown (ow hw (i := 29) rfl) (ow hw (i := 30) rfl) (ow hw (i := 11) rfl) (ow hw (i := 31) rfl) (by decide) (rm_del l Z a0 hw h0 sa5 a2 [(b36, oO cn0 [(fk0, (.ref sa5)), (fk1, (.long a2)), (fk2, .null)]), (b35, oA .byte []), (b29, oA .byte [(.int (nar .byte (a4.toInt8.toInt32))), (.int (nar .byte ((a4 >>> ((8 : Int32) &&& 31)).toInt8.toInt32)))]), (b3, oA .char [(.int (nar .char ((a1 &&& (255 : Int32)).toUInt32.toUInt16.toUInt32.toInt32)))])]) (lenOf pd_2 rfl) (hb hby at_138) (pc' := 141) rfl (argsL := [(.ref sa5), (.long a2)]) (rest := []) rfl (by rw [hml]; rfl) (W := 0) (oLe rfl) (by decide) (cells' := 7) rfl (slots' := 13) rfl ?_
      intro T v_ d_ q_ B
      obtain ⟨b37, rfl, rfl⟩ := q_
      show oWin p e below Z h0 _ _ (T.setTop (mkF m 141 #[.val (.int a1), .val (.long a2), .second, .val (.int a3), .val (.int a4), .val (.ref b3), .val (.ref sa5), .val (.int (1 : Int32)), .val (.ref b29), .val (.ref b35), .val .null, .val (.ref b36), .unset, .unset] [(.ref b37)]))
      refine W_astore B (hb hby at_141) (pc' := 143) rfl rfl (ls' := #[.val (.int a1), .val (.long a2), .second, .val (.int a3), .val (.int a4), .val (.ref b3), .val (.ref sa5), .val (.int (1 : Int32)), .val (.ref b29), .val (.ref b35), .val .null, .val (.ref b36), .val (.ref b37), .unset]) rfl ?_
      refine W_aload B (hb hby at_143) (pc' := 145) rfl rfl rfl ?_
      refine W_lloadN B (hb hby at_145) (pc' := 146) rfl rfl ?_
      refine W_aload B (hb hby at_146) (pc' := 148) rfl rfl rfl ?_
      refine W_callS B (y := (⟨"com/example/mitosis/mitosis/core/Change", "put", "(Ljava/lang/String;J[B)Lcom/example/mitosis/mitosis/core/Change;"⟩ : MethodName)) hown (ow hw (i := 34) rfl) (ow hw (i := 35) rfl) (ow hw (i := 11) rfl) (ow hw (i := 36) rfl) (by decide) (rm_put l Z a0 hw h0 sa5 a2 b35 [(b37, oO cn0 [(fk0, (.ref sa5)), (fk1, (.long a2)), (fk2, .null)]), (b36, oO cn0 [(fk0, (.ref sa5)), (fk1, (.long a2)), (fk2, .null)]), (b35, oA .byte []), (b29, oA .byte [(.int (nar .byte (a4.toInt8.toInt32))), (.int (nar .byte ((a4 >>> ((8 : Int32) &&& 31)).toInt8.toInt32)))]), (b3, oA .char [(.int (nar .char ((a1 &&& (255 : Int32)).toUInt32.toUInt16.toUInt32.toInt32)))])]) (lenOf pd_3 rfl) (hb hby at_148) (pc' := 151) rfl (argsL := [(.ref sa5), (.long a2), (.ref b35)]) (rest := []) rfl (by rw [hml]; rfl) (W := 0) (oLe rfl) (by decide) (cells' := 8) rfl (slots' := 16) rfl ?_
      intro T v_ d_ q_ B
      obtain ⟨b38, rfl, rfl⟩ := q_
      show oWin p e below Z h0 _ _ (T.setTop (mkF m 151 #[.val (.int a1), .val (.long a2), .second, .val (.int a3), .val (.int a4), .val (.ref b3), .val (.ref sa5), .val (.int (1 : Int32)), .val (.ref b29), .val (.ref b35), .val .null, .val (.ref b36), .val (.ref b37), .unset] [(.ref b38)]))
      refine W_astore B (hb hby at_151) (pc' := 153) rfl rfl (ls' := #[.val (.int a1), .val (.long a2), .second, .val (.int a3), .val (.int a4), .val (.ref b3), .val (.ref sa5), .val (.int (1 : Int32)), .val (.ref b29), .val (.ref b35), .val .null, .val (.ref b36), .val (.ref b37), .val (.ref b38)]) rfl ?_
      refine W_aload B (hb hby at_153) (pc' := 155) rfl rfl rfl ?_
      refine W_virtual B (y := (⟨"com/example/mitosis/mitosis/core/Change", "isDelete", "()Z"⟩ : MethodName)) (z := (⟨"com/example/mitosis/mitosis/core/Change", "isDelete", "()Z"⟩ : MethodName)) hown (ow hw (i := 37) rfl) (ow hw (i := 38) rfl) (oNotFace B (ow hw (i := 40) rfl) rfl) (ow hw (i := 40) rfl) (ow hw (i := 39) rfl) (ow hw (i := 11) rfl) (ow hw (i := 41) rfl) (by decide) (a := b36) (rm_isd2n l Z a0 hw h0 b36 sa5 a2 (b38, oO cn0 [(fk0, (.ref sa5)), (fk1, (.long a2)), (fk2, (.ref b35))]) (b37, oO cn0 [(fk0, (.ref sa5)), (fk1, (.long a2)), (fk2, .null)]) [(b35, oA .byte []), (b29, oA .byte [(.int (nar .byte (a4.toInt8.toInt32))), (.int (nar .byte ((a4 >>> ((8 : Int32) &&& 31)).toInt8.toInt32)))]), (b3, oA .char [(.int (nar .char ((a1 &&& (255 : Int32)).toUInt32.toUInt16.toUInt32.toInt32)))])]) (lenOf pd_4 rfl) (hb hby at_155) (pc' := 158) rfl (argsL := []) (rest := []) rfl (by rw [hml]; rfl) (W := 0) (oLe rfl) (j := 2) rfl (by decide) (cells' := 8) rfl (slots' := 16) rfl ?_
      intro T v_ d_ q_ B
      obtain ⟨rfl, rfl⟩ := q_
      show oWin p e below Z h0 _ _ (T.setTop (mkF m 158 #[.val (.int a1), .val (.long a2), .second, .val (.int a3), .val (.int a4), .val (.ref b3), .val (.ref sa5), .val (.int (1 : Int32)), .val (.ref b29), .val (.ref b35), .val .null, .val (.ref b36), .val (.ref b37), .val (.ref b38)] [(.int (1 : Int32))]))
      refine W_iload B (hb hby at_158) (pc' := 160) rfl rfl ?_
      refine W_icmpN B (hb hby at_160) (pc' := 163) rfl (by decide) ?_
      refine W_aload B (hb hby at_163) (pc' := 165) rfl rfl rfl ?_
      refine W_virtual B (y := (⟨"com/example/mitosis/mitosis/core/Change", "isDelete", "()Z"⟩ : MethodName)) (z := (⟨"com/example/mitosis/mitosis/core/Change", "isDelete", "()Z"⟩ : MethodName)) hown (ow hw (i := 37) rfl) (ow hw (i := 38) rfl) (oNotFace B (ow hw (i := 40) rfl) rfl) (ow hw (i := 40) rfl) (ow hw (i := 39) rfl) (ow hw (i := 11) rfl) (ow hw (i := 41) rfl) (by decide) (a := b37) (rm_isd1n l Z a0 hw h0 b37 sa5 a2 (b38, oO cn0 [(fk0, (.ref sa5)), (fk1, (.long a2)), (fk2, (.ref b35))]) [(b36, oO cn0 [(fk0, (.ref sa5)), (fk1, (.long a2)), (fk2, .null)]), (b35, oA .byte []), (b29, oA .byte [(.int (nar .byte (a4.toInt8.toInt32))), (.int (nar .byte ((a4 >>> ((8 : Int32) &&& 31)).toInt8.toInt32)))]), (b3, oA .char [(.int (nar .char ((a1 &&& (255 : Int32)).toUInt32.toUInt16.toUInt32.toInt32)))])]) (lenOf pd_4 rfl) (hb hby at_165) (pc' := 168) rfl (argsL := []) (rest := []) rfl (by rw [hml]; rfl) (W := 0) (oLe rfl) (j := 1) rfl (by decide) (cells' := 8) rfl (slots' := 16) rfl ?_
      intro T v_ d_ q_ B
      obtain ⟨rfl, rfl⟩ := q_
      show oWin p e below Z h0 _ _ (T.setTop (mkF m 168 #[.val (.int a1), .val (.long a2), .second, .val (.int a3), .val (.int a4), .val (.ref b3), .val (.ref sa5), .val (.int (1 : Int32)), .val (.ref b29), .val (.ref b35), .val .null, .val (.ref b36), .val (.ref b37), .val (.ref b38)] [(.int (1 : Int32))]))
      refine W_ifN B (hb hby at_168) (pc' := 171) rfl (by decide) ?_
      refine W_aload B (hb hby at_171) (pc' := 173) rfl rfl rfl ?_
      refine W_virtual B (y := (⟨"com/example/mitosis/mitosis/core/Change", "isDelete", "()Z"⟩ : MethodName)) (z := (⟨"com/example/mitosis/mitosis/core/Change", "isDelete", "()Z"⟩ : MethodName)) hown (ow hw (i := 37) rfl) (ow hw (i := 38) rfl) (oNotFace B (ow hw (i := 40) rfl) rfl) (ow hw (i := 40) rfl) (ow hw (i := 39) rfl) (ow hw (i := 11) rfl) (ow hw (i := 41) rfl) (by decide) (a := b38) (rm_isd0a l Z a0 hw h0 b38 sa5 a2 b35  [(b37, oO cn0 [(fk0, (.ref sa5)), (fk1, (.long a2)), (fk2, .null)]), (b36, oO cn0 [(fk0, (.ref sa5)), (fk1, (.long a2)), (fk2, .null)]), (b35, oA .byte []), (b29, oA .byte [(.int (nar .byte (a4.toInt8.toInt32))), (.int (nar .byte ((a4 >>> ((8 : Int32) &&& 31)).toInt8.toInt32)))]), (b3, oA .char [(.int (nar .char ((a1 &&& (255 : Int32)).toUInt32.toUInt16.toUInt32.toInt32)))])]) (lenOf pd_4 rfl) (hb hby at_173) (pc' := 176) rfl (argsL := []) (rest := []) rfl (by rw [hml]; rfl) (W := 0) (oLe rfl) (j := 0) rfl (by decide) (cells' := 8) rfl (slots' := 16) rfl ?_
      intro T v_ d_ q_ B
      obtain ⟨rfl, rfl⟩ := q_
      show oWin p e below Z h0 _ _ (T.setTop (mkF m 176 #[.val (.int a1), .val (.long a2), .second, .val (.int a3), .val (.int a4), .val (.ref b3), .val (.ref sa5), .val (.int (1 : Int32)), .val (.ref b29), .val (.ref b35), .val .null, .val (.ref b36), .val (.ref b37), .val (.ref b38)] [(.int (0 : Int32))]))
      refine W_ifN B (hb hby at_176) (pc' := 179) rfl (by decide) ?_
      refine W_iconst B (hb hby at_179) (pc' := 180) rfl (z := (1 : Int32)) (by decide) ?_
      refine W_goto B (hb hby at_180) (by decide) (pc' := 184) (by decide) ?_
      refine W_retNW B hS hret (by simp) (hb hby at_184) (by decide) ?_
      rfl
    refine W_iconst B (hb hby at_56) (pc' := 57) rfl (z := (0 : Int32)) (by decide) ?_
    refine W_newarray B (ow hw (i := 4) rfl) (hb hby at_57) (pc' := 59) rfl (by decide) (cap := 0) (by decide) (by decide) (cells' := 4) rfl (slots' := 5) rfl (vs := []) rfl (ty := .byte) rfl ?_
    intro T b39 B
    refine W_goto B (hb hby at_59) (by decide) (pc' := 80) (by decide) ?_
    refine W_astore B (hb hby at_80) (pc' := 82) rfl rfl (ls' := #[.val (.int a1), .val (.long a2), .second, .val (.int a3), .val (.int a4), .val (.ref b3), .val (.ref sa5), .val (.int (1 : Int32)), .val (.ref b39), .unset, .unset, .unset, .unset, .unset]) rfl ?_
    refine W_iloadN B (hb hby at_82) (pc' := 83) rfl rfl ?_
    refine W_iconst B (hb hby at_83) (pc' := 84) rfl (z := (4 : Int32)) (by decide) ?_
    refine W_iand B (hb hby at_84) (pc' := 85) rfl (z := (a3 &&& (4 : Int32))) rfl ?_
    refine W_if_eq B (hb hby at_85) (by decide) (pt := 94) (by decide) (pc' := 88) rfl (fun (c40 : (a3 &&& (4 : Int32)) = (0 : Int32)) => ?_) (fun (c40 : ¬ (a3 &&& (4 : Int32)) = (0 : Int32)) => ?_)
    · refine W_iconst B (hb hby at_94) (pc' := 95) rfl (z := (1 : Int32)) (by decide) ?_
      refine W_newarray B (ow hw (i := 4) rfl) (hb hby at_95) (pc' := 97) rfl (by decide) (cap := 1) (by decide) (by decide) (cells' := 5) rfl (slots' := 6) rfl (vs := [(.int (0 : Int32))]) rfl (ty := .byte) rfl ?_
      intro T b41 B
      refine W_dup B (hb hby at_97) (pc' := 98) rfl rfl ?_
      refine W_iconst B (hb hby at_98) (pc' := 99) rfl (z := (0 : Int32)) (by decide) ?_
      refine W_iload B (hb hby at_99) (pc' := 101) rfl rfl ?_
      refine W_bipush B (hb hby at_101) (pc' := 103) rfl (z := (16 : Int32)) (by decide) ?_
      refine W_ishr B (hb hby at_103) (pc' := 104) rfl (z := (a4 >>> ((16 : Int32) &&& 31))) rfl ?_
      refine W_i2b B (hb hby at_104) (pc' := 105) rfl (z := ((a4 >>> ((16 : Int32) &&& 31)).toInt8.toInt32)) rfl ?_
      refine W_bastore B (hb hby at_105) (pc' := 106) rfl (i := 0) rfl (by decide) (oLt rfl) (ds' := [(b41, oA .byte [(.int (nar .byte ((a4 >>> ((16 : Int32) &&& 31)).toInt8.toInt32)))]), (b39, oA .byte []), (b3, oA .char [(.int (nar .char ((a1 &&& (255 : Int32)).toUInt32.toUInt16.toUInt32.toInt32)))])]) rfl ?_
      intro T B
      refine W_astore B (hb hby at_106) (pc' := 108) rfl rfl (ls' := #[.val (.int a1), .val (.long a2), .second, .val (.int a3), .val (.int a4), .val (.ref b3), .val (.ref sa5), .val (.int (1 : Int32)), .val (.ref b39), .val (.ref b41), .unset, .unset, .unset, .unset]) rfl ?_
      refine W_iload B (hb hby at_108) (pc' := 110) rfl rfl ?_
      refine W_ifN B (hb hby at_110) (pc' := 113) rfl (by decide) ?_
      refine W_aconstNull B (hb hby at_113) (pc' := 114) rfl  ?_
      refine W_goto B (hb hby at_114) (by decide) (pc' := 119) (by decide) ?_
      refine W_astore B (hb hby at_119) (pc' := 121) rfl rfl (ls' := #[.val (.int a1), .val (.long a2), .second, .val (.int a3), .val (.int a4), .val (.ref b3), .val (.ref sa5), .val (.int (1 : Int32)), .val (.ref b39), .val (.ref b41), .val .null, .unset, .unset, .unset]) rfl ?_
      refine W_new B hown (ow hw (i := 9) rfl) (ow hw (i := 10) rfl) (ow hw (i := 11) rfl) (hb hby at_121) (pc' := 124) rfl (by decide) (cells' := 6) rfl (slots' := 9) rfl (fs := [(fk0, .null), (fk1, (.long (0 : Int64))), (fk2, .null)]) (oAll_cons ⟨Or.inr (ow hw (i := 24) rfl), (.object "java/lang/String"), by decide, rfl⟩ (oAll_cons ⟨Or.inr (ow hw (i := 26) rfl), .long, by decide, rfl⟩ (oAll_cons ⟨Or.inr (ow hw (i := 28) rfl), (.array .byte), by decide, rfl⟩ oAll_nil))) (by decide) ?_
      intro T b42 B
      refine W_dup B (hb hby at_124) (pc' := 125) rfl rfl ?_
      refine W_aload B (hb hby at_125) (pc' := 127) rfl rfl rfl ?_
      refine W_lloadN B (hb hby at_127) (pc' := 128) rfl rfl ?_
      refine W_aload B (hb hby at_128) (pc' := 130) rfl rfl rfl ?_
      refine W_init B (y := (⟨"com/example/mitosis/mitosis/core/Change", "<init>", "(Ljava/lang/String;J[B)V"⟩ : MethodName)) hown rfl (ow hw (i := 12) rfl) (ow hw (i := 13) rfl) (ow hw (i := 11) rfl) (ow hw (i := 14) rfl) (by decide) (a := b42) (rm_inin l Z a0 hw h0 b42 sa5 a2 [(b41, oA .byte [(.int (nar .byte ((a4 >>> ((16 : Int32) &&& 31)).toInt8.toInt32)))]), (b39, oA .byte []), (b3, oA .char [(.int (nar .char ((a1 &&& (255 : Int32)).toUInt32.toUInt16.toUInt32.toInt32)))])]) (lenOf pd_1 rfl) (hb hby at_130) (pc' := 133) rfl (argsL := [(.ref sa5), (.long a2), .null]) (rest := [(.ref b42)]) rfl (by rw [hml]; rfl) (W := 1) (oLe rfl) (by decide) (cells' := 6) rfl (slots' := 9) rfl ?_
      intro T v_ d_ q_ B
      obtain ⟨rfl, rfl⟩ := q_
      show oWin p e below Z h0 _ _ (T.setTop (mkF m 133 #[.val (.int a1), .val (.long a2), .second, .val (.int a3), .val (.int a4), .val (.ref b3), .val (.ref sa5), .val (.int (1 : Int32)), .val (.ref b39), .val (.ref b41), .val .null, .unset, .unset, .unset] [(.ref b42)]))
      refine W_astore B (hb hby at_133) (pc' := 135) rfl rfl (ls' := #[.val (.int a1), .val (.long a2), .second, .val (.int a3), .val (.int a4), .val (.ref b3), .val (.ref sa5), .val (.int (1 : Int32)), .val (.ref b39), .val (.ref b41), .val .null, .val (.ref b42), .unset, .unset]) rfl ?_
      refine W_aload B (hb hby at_135) (pc' := 137) rfl rfl rfl ?_
      refine W_lloadN B (hb hby at_137) (pc' := 138) rfl rfl ?_
      refine W_callS B (y := (⟨"com/example/mitosis/mitosis/core/Change", "delete", "(Ljava/lang/String;J)Lcom/example/mitosis/mitosis/core/Change;"⟩ : MethodName)) hown (ow hw (i := 29) rfl) (ow hw (i := 30) rfl) (ow hw (i := 11) rfl) (ow hw (i := 31) rfl) (by decide) (rm_del l Z a0 hw h0 sa5 a2 [(b42, oO cn0 [(fk0, (.ref sa5)), (fk1, (.long a2)), (fk2, .null)]), (b41, oA .byte [(.int (nar .byte ((a4 >>> ((16 : Int32) &&& 31)).toInt8.toInt32)))]), (b39, oA .byte []), (b3, oA .char [(.int (nar .char ((a1 &&& (255 : Int32)).toUInt32.toUInt16.toUInt32.toInt32)))])]) (lenOf pd_2 rfl) (hb hby at_138) (pc' := 141) rfl (argsL := [(.ref sa5), (.long a2)]) (rest := []) rfl (by rw [hml]; rfl) (W := 0) (oLe rfl) (by decide) (cells' := 7) rfl (slots' := 12) rfl ?_
      intro T v_ d_ q_ B
      obtain ⟨b43, rfl, rfl⟩ := q_
      show oWin p e below Z h0 _ _ (T.setTop (mkF m 141 #[.val (.int a1), .val (.long a2), .second, .val (.int a3), .val (.int a4), .val (.ref b3), .val (.ref sa5), .val (.int (1 : Int32)), .val (.ref b39), .val (.ref b41), .val .null, .val (.ref b42), .unset, .unset] [(.ref b43)]))
      refine W_astore B (hb hby at_141) (pc' := 143) rfl rfl (ls' := #[.val (.int a1), .val (.long a2), .second, .val (.int a3), .val (.int a4), .val (.ref b3), .val (.ref sa5), .val (.int (1 : Int32)), .val (.ref b39), .val (.ref b41), .val .null, .val (.ref b42), .val (.ref b43), .unset]) rfl ?_
      refine W_aload B (hb hby at_143) (pc' := 145) rfl rfl rfl ?_
      refine W_lloadN B (hb hby at_145) (pc' := 146) rfl rfl ?_
      refine W_aload B (hb hby at_146) (pc' := 148) rfl rfl rfl ?_
      refine W_callS B (y := (⟨"com/example/mitosis/mitosis/core/Change", "put", "(Ljava/lang/String;J[B)Lcom/example/mitosis/mitosis/core/Change;"⟩ : MethodName)) hown (ow hw (i := 34) rfl) (ow hw (i := 35) rfl) (ow hw (i := 11) rfl) (ow hw (i := 36) rfl) (by decide) (rm_put l Z a0 hw h0 sa5 a2 b41 [(b43, oO cn0 [(fk0, (.ref sa5)), (fk1, (.long a2)), (fk2, .null)]), (b42, oO cn0 [(fk0, (.ref sa5)), (fk1, (.long a2)), (fk2, .null)]), (b41, oA .byte [(.int (nar .byte ((a4 >>> ((16 : Int32) &&& 31)).toInt8.toInt32)))]), (b39, oA .byte []), (b3, oA .char [(.int (nar .char ((a1 &&& (255 : Int32)).toUInt32.toUInt16.toUInt32.toInt32)))])]) (lenOf pd_3 rfl) (hb hby at_148) (pc' := 151) rfl (argsL := [(.ref sa5), (.long a2), (.ref b41)]) (rest := []) rfl (by rw [hml]; rfl) (W := 0) (oLe rfl) (by decide) (cells' := 8) rfl (slots' := 15) rfl ?_
      intro T v_ d_ q_ B
      obtain ⟨b44, rfl, rfl⟩ := q_
      show oWin p e below Z h0 _ _ (T.setTop (mkF m 151 #[.val (.int a1), .val (.long a2), .second, .val (.int a3), .val (.int a4), .val (.ref b3), .val (.ref sa5), .val (.int (1 : Int32)), .val (.ref b39), .val (.ref b41), .val .null, .val (.ref b42), .val (.ref b43), .unset] [(.ref b44)]))
      refine W_astore B (hb hby at_151) (pc' := 153) rfl rfl (ls' := #[.val (.int a1), .val (.long a2), .second, .val (.int a3), .val (.int a4), .val (.ref b3), .val (.ref sa5), .val (.int (1 : Int32)), .val (.ref b39), .val (.ref b41), .val .null, .val (.ref b42), .val (.ref b43), .val (.ref b44)]) rfl ?_
      refine W_aload B (hb hby at_153) (pc' := 155) rfl rfl rfl ?_
      refine W_virtual B (y := (⟨"com/example/mitosis/mitosis/core/Change", "isDelete", "()Z"⟩ : MethodName)) (z := (⟨"com/example/mitosis/mitosis/core/Change", "isDelete", "()Z"⟩ : MethodName)) hown (ow hw (i := 37) rfl) (ow hw (i := 38) rfl) (oNotFace B (ow hw (i := 40) rfl) rfl) (ow hw (i := 40) rfl) (ow hw (i := 39) rfl) (ow hw (i := 11) rfl) (ow hw (i := 41) rfl) (by decide) (a := b42) (rm_isd2n l Z a0 hw h0 b42 sa5 a2 (b44, oO cn0 [(fk0, (.ref sa5)), (fk1, (.long a2)), (fk2, (.ref b41))]) (b43, oO cn0 [(fk0, (.ref sa5)), (fk1, (.long a2)), (fk2, .null)]) [(b41, oA .byte [(.int (nar .byte ((a4 >>> ((16 : Int32) &&& 31)).toInt8.toInt32)))]), (b39, oA .byte []), (b3, oA .char [(.int (nar .char ((a1 &&& (255 : Int32)).toUInt32.toUInt16.toUInt32.toInt32)))])]) (lenOf pd_4 rfl) (hb hby at_155) (pc' := 158) rfl (argsL := []) (rest := []) rfl (by rw [hml]; rfl) (W := 0) (oLe rfl) (j := 2) rfl (by decide) (cells' := 8) rfl (slots' := 15) rfl ?_
      intro T v_ d_ q_ B
      obtain ⟨rfl, rfl⟩ := q_
      show oWin p e below Z h0 _ _ (T.setTop (mkF m 158 #[.val (.int a1), .val (.long a2), .second, .val (.int a3), .val (.int a4), .val (.ref b3), .val (.ref sa5), .val (.int (1 : Int32)), .val (.ref b39), .val (.ref b41), .val .null, .val (.ref b42), .val (.ref b43), .val (.ref b44)] [(.int (1 : Int32))]))
      refine W_iload B (hb hby at_158) (pc' := 160) rfl rfl ?_
      refine W_icmpN B (hb hby at_160) (pc' := 163) rfl (by decide) ?_
      refine W_aload B (hb hby at_163) (pc' := 165) rfl rfl rfl ?_
      refine W_virtual B (y := (⟨"com/example/mitosis/mitosis/core/Change", "isDelete", "()Z"⟩ : MethodName)) (z := (⟨"com/example/mitosis/mitosis/core/Change", "isDelete", "()Z"⟩ : MethodName)) hown (ow hw (i := 37) rfl) (ow hw (i := 38) rfl) (oNotFace B (ow hw (i := 40) rfl) rfl) (ow hw (i := 40) rfl) (ow hw (i := 39) rfl) (ow hw (i := 11) rfl) (ow hw (i := 41) rfl) (by decide) (a := b43) (rm_isd1n l Z a0 hw h0 b43 sa5 a2 (b44, oO cn0 [(fk0, (.ref sa5)), (fk1, (.long a2)), (fk2, (.ref b41))]) [(b42, oO cn0 [(fk0, (.ref sa5)), (fk1, (.long a2)), (fk2, .null)]), (b41, oA .byte [(.int (nar .byte ((a4 >>> ((16 : Int32) &&& 31)).toInt8.toInt32)))]), (b39, oA .byte []), (b3, oA .char [(.int (nar .char ((a1 &&& (255 : Int32)).toUInt32.toUInt16.toUInt32.toInt32)))])]) (lenOf pd_4 rfl) (hb hby at_165) (pc' := 168) rfl (argsL := []) (rest := []) rfl (by rw [hml]; rfl) (W := 0) (oLe rfl) (j := 1) rfl (by decide) (cells' := 8) rfl (slots' := 15) rfl ?_
      intro T v_ d_ q_ B
      obtain ⟨rfl, rfl⟩ := q_
      show oWin p e below Z h0 _ _ (T.setTop (mkF m 168 #[.val (.int a1), .val (.long a2), .second, .val (.int a3), .val (.int a4), .val (.ref b3), .val (.ref sa5), .val (.int (1 : Int32)), .val (.ref b39), .val (.ref b41), .val .null, .val (.ref b42), .val (.ref b43), .val (.ref b44)] [(.int (1 : Int32))]))
      refine W_ifN B (hb hby at_168) (pc' := 171) rfl (by decide) ?_
      refine W_aload B (hb hby at_171) (pc' := 173) rfl rfl rfl ?_
      refine W_virtual B (y := (⟨"com/example/mitosis/mitosis/core/Change", "isDelete", "()Z"⟩ : MethodName)) (z := (⟨"com/example/mitosis/mitosis/core/Change", "isDelete", "()Z"⟩ : MethodName)) hown (ow hw (i := 37) rfl) (ow hw (i := 38) rfl) (oNotFace B (ow hw (i := 40) rfl) rfl) (ow hw (i := 40) rfl) (ow hw (i := 39) rfl) (ow hw (i := 11) rfl) (ow hw (i := 41) rfl) (by decide) (a := b44) (rm_isd0a l Z a0 hw h0 b44 sa5 a2 b41  [(b43, oO cn0 [(fk0, (.ref sa5)), (fk1, (.long a2)), (fk2, .null)]), (b42, oO cn0 [(fk0, (.ref sa5)), (fk1, (.long a2)), (fk2, .null)]), (b41, oA .byte [(.int (nar .byte ((a4 >>> ((16 : Int32) &&& 31)).toInt8.toInt32)))]), (b39, oA .byte []), (b3, oA .char [(.int (nar .char ((a1 &&& (255 : Int32)).toUInt32.toUInt16.toUInt32.toInt32)))])]) (lenOf pd_4 rfl) (hb hby at_173) (pc' := 176) rfl (argsL := []) (rest := []) rfl (by rw [hml]; rfl) (W := 0) (oLe rfl) (j := 0) rfl (by decide) (cells' := 8) rfl (slots' := 15) rfl ?_
      intro T v_ d_ q_ B
      obtain ⟨rfl, rfl⟩ := q_
      show oWin p e below Z h0 _ _ (T.setTop (mkF m 176 #[.val (.int a1), .val (.long a2), .second, .val (.int a3), .val (.int a4), .val (.ref b3), .val (.ref sa5), .val (.int (1 : Int32)), .val (.ref b39), .val (.ref b41), .val .null, .val (.ref b42), .val (.ref b43), .val (.ref b44)] [(.int (0 : Int32))]))
      refine W_ifN B (hb hby at_176) (pc' := 179) rfl (by decide) ?_
      refine W_iconst B (hb hby at_179) (pc' := 180) rfl (z := (1 : Int32)) (by decide) ?_
      refine W_goto B (hb hby at_180) (by decide) (pc' := 184) (by decide) ?_
      refine W_retNW B hS hret (by simp) (hb hby at_184) (by decide) ?_
      rfl
    refine W_iconst B (hb hby at_88) (pc' := 89) rfl (z := (0 : Int32)) (by decide) ?_
    refine W_newarray B (ow hw (i := 4) rfl) (hb hby at_89) (pc' := 91) rfl (by decide) (cap := 0) (by decide) (by decide) (cells' := 5) rfl (slots' := 5) rfl (vs := []) rfl (ty := .byte) rfl ?_
    intro T b45 B
    refine W_goto B (hb hby at_91) (by decide) (pc' := 106) (by decide) ?_
    refine W_astore B (hb hby at_106) (pc' := 108) rfl rfl (ls' := #[.val (.int a1), .val (.long a2), .second, .val (.int a3), .val (.int a4), .val (.ref b3), .val (.ref sa5), .val (.int (1 : Int32)), .val (.ref b39), .val (.ref b45), .unset, .unset, .unset, .unset]) rfl ?_
    refine W_iload B (hb hby at_108) (pc' := 110) rfl rfl ?_
    refine W_ifN B (hb hby at_110) (pc' := 113) rfl (by decide) ?_
    refine W_aconstNull B (hb hby at_113) (pc' := 114) rfl  ?_
    refine W_goto B (hb hby at_114) (by decide) (pc' := 119) (by decide) ?_
    refine W_astore B (hb hby at_119) (pc' := 121) rfl rfl (ls' := #[.val (.int a1), .val (.long a2), .second, .val (.int a3), .val (.int a4), .val (.ref b3), .val (.ref sa5), .val (.int (1 : Int32)), .val (.ref b39), .val (.ref b45), .val .null, .unset, .unset, .unset]) rfl ?_
    refine W_new B hown (ow hw (i := 9) rfl) (ow hw (i := 10) rfl) (ow hw (i := 11) rfl) (hb hby at_121) (pc' := 124) rfl (by decide) (cells' := 6) rfl (slots' := 8) rfl (fs := [(fk0, .null), (fk1, (.long (0 : Int64))), (fk2, .null)]) (oAll_cons ⟨Or.inr (ow hw (i := 24) rfl), (.object "java/lang/String"), by decide, rfl⟩ (oAll_cons ⟨Or.inr (ow hw (i := 26) rfl), .long, by decide, rfl⟩ (oAll_cons ⟨Or.inr (ow hw (i := 28) rfl), (.array .byte), by decide, rfl⟩ oAll_nil))) (by decide) ?_
    intro T b46 B
    refine W_dup B (hb hby at_124) (pc' := 125) rfl rfl ?_
    refine W_aload B (hb hby at_125) (pc' := 127) rfl rfl rfl ?_
    refine W_lloadN B (hb hby at_127) (pc' := 128) rfl rfl ?_
    refine W_aload B (hb hby at_128) (pc' := 130) rfl rfl rfl ?_
    refine W_init B (y := (⟨"com/example/mitosis/mitosis/core/Change", "<init>", "(Ljava/lang/String;J[B)V"⟩ : MethodName)) hown rfl (ow hw (i := 12) rfl) (ow hw (i := 13) rfl) (ow hw (i := 11) rfl) (ow hw (i := 14) rfl) (by decide) (a := b46) (rm_inin l Z a0 hw h0 b46 sa5 a2 [(b45, oA .byte []), (b39, oA .byte []), (b3, oA .char [(.int (nar .char ((a1 &&& (255 : Int32)).toUInt32.toUInt16.toUInt32.toInt32)))])]) (lenOf pd_1 rfl) (hb hby at_130) (pc' := 133) rfl (argsL := [(.ref sa5), (.long a2), .null]) (rest := [(.ref b46)]) rfl (by rw [hml]; rfl) (W := 1) (oLe rfl) (by decide) (cells' := 6) rfl (slots' := 8) rfl ?_
    intro T v_ d_ q_ B
    obtain ⟨rfl, rfl⟩ := q_
    show oWin p e below Z h0 _ _ (T.setTop (mkF m 133 #[.val (.int a1), .val (.long a2), .second, .val (.int a3), .val (.int a4), .val (.ref b3), .val (.ref sa5), .val (.int (1 : Int32)), .val (.ref b39), .val (.ref b45), .val .null, .unset, .unset, .unset] [(.ref b46)]))
    refine W_astore B (hb hby at_133) (pc' := 135) rfl rfl (ls' := #[.val (.int a1), .val (.long a2), .second, .val (.int a3), .val (.int a4), .val (.ref b3), .val (.ref sa5), .val (.int (1 : Int32)), .val (.ref b39), .val (.ref b45), .val .null, .val (.ref b46), .unset, .unset]) rfl ?_
    refine W_aload B (hb hby at_135) (pc' := 137) rfl rfl rfl ?_
    refine W_lloadN B (hb hby at_137) (pc' := 138) rfl rfl ?_
    refine W_callS B (y := (⟨"com/example/mitosis/mitosis/core/Change", "delete", "(Ljava/lang/String;J)Lcom/example/mitosis/mitosis/core/Change;"⟩ : MethodName)) hown (ow hw (i := 29) rfl) (ow hw (i := 30) rfl) (ow hw (i := 11) rfl) (ow hw (i := 31) rfl) (by decide) (rm_del l Z a0 hw h0 sa5 a2 [(b46, oO cn0 [(fk0, (.ref sa5)), (fk1, (.long a2)), (fk2, .null)]), (b45, oA .byte []), (b39, oA .byte []), (b3, oA .char [(.int (nar .char ((a1 &&& (255 : Int32)).toUInt32.toUInt16.toUInt32.toInt32)))])]) (lenOf pd_2 rfl) (hb hby at_138) (pc' := 141) rfl (argsL := [(.ref sa5), (.long a2)]) (rest := []) rfl (by rw [hml]; rfl) (W := 0) (oLe rfl) (by decide) (cells' := 7) rfl (slots' := 11) rfl ?_
    intro T v_ d_ q_ B
    obtain ⟨b47, rfl, rfl⟩ := q_
    show oWin p e below Z h0 _ _ (T.setTop (mkF m 141 #[.val (.int a1), .val (.long a2), .second, .val (.int a3), .val (.int a4), .val (.ref b3), .val (.ref sa5), .val (.int (1 : Int32)), .val (.ref b39), .val (.ref b45), .val .null, .val (.ref b46), .unset, .unset] [(.ref b47)]))
    refine W_astore B (hb hby at_141) (pc' := 143) rfl rfl (ls' := #[.val (.int a1), .val (.long a2), .second, .val (.int a3), .val (.int a4), .val (.ref b3), .val (.ref sa5), .val (.int (1 : Int32)), .val (.ref b39), .val (.ref b45), .val .null, .val (.ref b46), .val (.ref b47), .unset]) rfl ?_
    refine W_aload B (hb hby at_143) (pc' := 145) rfl rfl rfl ?_
    refine W_lloadN B (hb hby at_145) (pc' := 146) rfl rfl ?_
    refine W_aload B (hb hby at_146) (pc' := 148) rfl rfl rfl ?_
    refine W_callS B (y := (⟨"com/example/mitosis/mitosis/core/Change", "put", "(Ljava/lang/String;J[B)Lcom/example/mitosis/mitosis/core/Change;"⟩ : MethodName)) hown (ow hw (i := 34) rfl) (ow hw (i := 35) rfl) (ow hw (i := 11) rfl) (ow hw (i := 36) rfl) (by decide) (rm_put l Z a0 hw h0 sa5 a2 b45 [(b47, oO cn0 [(fk0, (.ref sa5)), (fk1, (.long a2)), (fk2, .null)]), (b46, oO cn0 [(fk0, (.ref sa5)), (fk1, (.long a2)), (fk2, .null)]), (b45, oA .byte []), (b39, oA .byte []), (b3, oA .char [(.int (nar .char ((a1 &&& (255 : Int32)).toUInt32.toUInt16.toUInt32.toInt32)))])]) (lenOf pd_3 rfl) (hb hby at_148) (pc' := 151) rfl (argsL := [(.ref sa5), (.long a2), (.ref b45)]) (rest := []) rfl (by rw [hml]; rfl) (W := 0) (oLe rfl) (by decide) (cells' := 8) rfl (slots' := 14) rfl ?_
    intro T v_ d_ q_ B
    obtain ⟨b48, rfl, rfl⟩ := q_
    show oWin p e below Z h0 _ _ (T.setTop (mkF m 151 #[.val (.int a1), .val (.long a2), .second, .val (.int a3), .val (.int a4), .val (.ref b3), .val (.ref sa5), .val (.int (1 : Int32)), .val (.ref b39), .val (.ref b45), .val .null, .val (.ref b46), .val (.ref b47), .unset] [(.ref b48)]))
    refine W_astore B (hb hby at_151) (pc' := 153) rfl rfl (ls' := #[.val (.int a1), .val (.long a2), .second, .val (.int a3), .val (.int a4), .val (.ref b3), .val (.ref sa5), .val (.int (1 : Int32)), .val (.ref b39), .val (.ref b45), .val .null, .val (.ref b46), .val (.ref b47), .val (.ref b48)]) rfl ?_
    refine W_aload B (hb hby at_153) (pc' := 155) rfl rfl rfl ?_
    refine W_virtual B (y := (⟨"com/example/mitosis/mitosis/core/Change", "isDelete", "()Z"⟩ : MethodName)) (z := (⟨"com/example/mitosis/mitosis/core/Change", "isDelete", "()Z"⟩ : MethodName)) hown (ow hw (i := 37) rfl) (ow hw (i := 38) rfl) (oNotFace B (ow hw (i := 40) rfl) rfl) (ow hw (i := 40) rfl) (ow hw (i := 39) rfl) (ow hw (i := 11) rfl) (ow hw (i := 41) rfl) (by decide) (a := b46) (rm_isd2n l Z a0 hw h0 b46 sa5 a2 (b48, oO cn0 [(fk0, (.ref sa5)), (fk1, (.long a2)), (fk2, (.ref b45))]) (b47, oO cn0 [(fk0, (.ref sa5)), (fk1, (.long a2)), (fk2, .null)]) [(b45, oA .byte []), (b39, oA .byte []), (b3, oA .char [(.int (nar .char ((a1 &&& (255 : Int32)).toUInt32.toUInt16.toUInt32.toInt32)))])]) (lenOf pd_4 rfl) (hb hby at_155) (pc' := 158) rfl (argsL := []) (rest := []) rfl (by rw [hml]; rfl) (W := 0) (oLe rfl) (j := 2) rfl (by decide) (cells' := 8) rfl (slots' := 14) rfl ?_
    intro T v_ d_ q_ B
    obtain ⟨rfl, rfl⟩ := q_
    show oWin p e below Z h0 _ _ (T.setTop (mkF m 158 #[.val (.int a1), .val (.long a2), .second, .val (.int a3), .val (.int a4), .val (.ref b3), .val (.ref sa5), .val (.int (1 : Int32)), .val (.ref b39), .val (.ref b45), .val .null, .val (.ref b46), .val (.ref b47), .val (.ref b48)] [(.int (1 : Int32))]))
    refine W_iload B (hb hby at_158) (pc' := 160) rfl rfl ?_
    refine W_icmpN B (hb hby at_160) (pc' := 163) rfl (by decide) ?_
    refine W_aload B (hb hby at_163) (pc' := 165) rfl rfl rfl ?_
    refine W_virtual B (y := (⟨"com/example/mitosis/mitosis/core/Change", "isDelete", "()Z"⟩ : MethodName)) (z := (⟨"com/example/mitosis/mitosis/core/Change", "isDelete", "()Z"⟩ : MethodName)) hown (ow hw (i := 37) rfl) (ow hw (i := 38) rfl) (oNotFace B (ow hw (i := 40) rfl) rfl) (ow hw (i := 40) rfl) (ow hw (i := 39) rfl) (ow hw (i := 11) rfl) (ow hw (i := 41) rfl) (by decide) (a := b47) (rm_isd1n l Z a0 hw h0 b47 sa5 a2 (b48, oO cn0 [(fk0, (.ref sa5)), (fk1, (.long a2)), (fk2, (.ref b45))]) [(b46, oO cn0 [(fk0, (.ref sa5)), (fk1, (.long a2)), (fk2, .null)]), (b45, oA .byte []), (b39, oA .byte []), (b3, oA .char [(.int (nar .char ((a1 &&& (255 : Int32)).toUInt32.toUInt16.toUInt32.toInt32)))])]) (lenOf pd_4 rfl) (hb hby at_165) (pc' := 168) rfl (argsL := []) (rest := []) rfl (by rw [hml]; rfl) (W := 0) (oLe rfl) (j := 1) rfl (by decide) (cells' := 8) rfl (slots' := 14) rfl ?_
    intro T v_ d_ q_ B
    obtain ⟨rfl, rfl⟩ := q_
    show oWin p e below Z h0 _ _ (T.setTop (mkF m 168 #[.val (.int a1), .val (.long a2), .second, .val (.int a3), .val (.int a4), .val (.ref b3), .val (.ref sa5), .val (.int (1 : Int32)), .val (.ref b39), .val (.ref b45), .val .null, .val (.ref b46), .val (.ref b47), .val (.ref b48)] [(.int (1 : Int32))]))
    refine W_ifN B (hb hby at_168) (pc' := 171) rfl (by decide) ?_
    refine W_aload B (hb hby at_171) (pc' := 173) rfl rfl rfl ?_
    refine W_virtual B (y := (⟨"com/example/mitosis/mitosis/core/Change", "isDelete", "()Z"⟩ : MethodName)) (z := (⟨"com/example/mitosis/mitosis/core/Change", "isDelete", "()Z"⟩ : MethodName)) hown (ow hw (i := 37) rfl) (ow hw (i := 38) rfl) (oNotFace B (ow hw (i := 40) rfl) rfl) (ow hw (i := 40) rfl) (ow hw (i := 39) rfl) (ow hw (i := 11) rfl) (ow hw (i := 41) rfl) (by decide) (a := b48) (rm_isd0a l Z a0 hw h0 b48 sa5 a2 b45  [(b47, oO cn0 [(fk0, (.ref sa5)), (fk1, (.long a2)), (fk2, .null)]), (b46, oO cn0 [(fk0, (.ref sa5)), (fk1, (.long a2)), (fk2, .null)]), (b45, oA .byte []), (b39, oA .byte []), (b3, oA .char [(.int (nar .char ((a1 &&& (255 : Int32)).toUInt32.toUInt16.toUInt32.toInt32)))])]) (lenOf pd_4 rfl) (hb hby at_173) (pc' := 176) rfl (argsL := []) (rest := []) rfl (by rw [hml]; rfl) (W := 0) (oLe rfl) (j := 0) rfl (by decide) (cells' := 8) rfl (slots' := 14) rfl ?_
    intro T v_ d_ q_ B
    obtain ⟨rfl, rfl⟩ := q_
    show oWin p e below Z h0 _ _ (T.setTop (mkF m 176 #[.val (.int a1), .val (.long a2), .second, .val (.int a3), .val (.int a4), .val (.ref b3), .val (.ref sa5), .val (.int (1 : Int32)), .val (.ref b39), .val (.ref b45), .val .null, .val (.ref b46), .val (.ref b47), .val (.ref b48)] [(.int (0 : Int32))]))
    refine W_ifN B (hb hby at_176) (pc' := 179) rfl (by decide) ?_
    refine W_iconst B (hb hby at_179) (pc' := 180) rfl (z := (1 : Int32)) (by decide) ?_
    refine W_goto B (hb hby at_180) (by decide) (pc' := 184) (by decide) ?_
    refine W_retNW B hS hret (by simp) (hb hby at_184) (by decide) ?_
    rfl
  refine W_new B hown (ow hw (i := 42) rfl) (ow hw (i := 3) rfl) (ow hw (i := 2) rfl) (hb hby at_21) (pc' := 24) rfl (by decide) (cells' := 2) rfl (slots' := 5) rfl (fs := [(fk3, .null), (fk4, (.int (0 : Int32)))]) (oAll_cons ⟨Or.inr (ow hw (i := 5) rfl), (.array .byte), by decide, rfl⟩ (oAll_cons ⟨Or.inr (ow hw (i := 6) rfl), .byte, by decide, rfl⟩ oAll_nil)) (by decide) ?_
  intro T b49 B
  refine W_dup B (hb hby at_24) (pc' := 25) rfl rfl ?_
  refine W_aload B (hb hby at_25) (pc' := 27) rfl rfl rfl ?_
  have hws : ∀ d ∈ StrChars.Road.words, d.before a0 Z = true := fun d hd => hw d ((by decide +kernel : ∀ d ∈ StrChars.Road.words, d ∈ tables_1) d hd)
  refine own_newStr B hown (ow hw (i := 43) rfl) (ow hw (i := 44) rfl) (ow hw (i := 45) rfl) hws (ow hw (i := 3) rfl) Scs hcs (j := 0) rfl (own_ch a1) (lenOf pd_5 rfl) (hb hby at_27) (pc' := 30) rfl (by rw [hml]; rfl) (W := 1) (oLe rfl) (by decide) (cells' := 3) rfl (slots' := 6) rfl ?_
  intro T B
  refine W_goto B (hb hby at_30) (by decide) (pc' := 35) (by decide) ?_
  refine W_astore B (hb hby at_35) (pc' := 37) rfl rfl (ls' := #[.val (.int a1), .val (.long a2), .second, .val (.int a3), .val (.int a4), .val (.ref b3), .val (.ref b49), .unset, .unset, .unset, .unset, .unset, .unset, .unset]) rfl ?_
  refine W_iloadN B (hb hby at_37) (pc' := 38) rfl rfl ?_
  refine W_iconst B (hb hby at_38) (pc' := 39) rfl (z := (1 : Int32)) (by decide) ?_
  refine W_iand B (hb hby at_39) (pc' := 40) rfl (z := (a3 &&& (1 : Int32))) rfl ?_
  refine W_if_eq B (hb hby at_40) (by decide) (pt := 47) (by decide) (pc' := 43) rfl (fun (c50 : (a3 &&& (1 : Int32)) = (0 : Int32)) => ?_) (fun (c50 : ¬ (a3 &&& (1 : Int32)) = (0 : Int32)) => ?_)
  · refine W_iconst B (hb hby at_47) (pc' := 48) rfl (z := (0 : Int32)) (by decide) ?_
    refine W_istore B (hb hby at_48) (pc' := 50) rfl (v := (0 : Int32)) rfl (ls' := #[.val (.int a1), .val (.long a2), .second, .val (.int a3), .val (.int a4), .val (.ref b3), .val (.ref b49), .val (.int (0 : Int32)), .unset, .unset, .unset, .unset, .unset, .unset]) rfl ?_
    refine W_iloadN B (hb hby at_50) (pc' := 51) rfl rfl ?_
    refine W_iconst B (hb hby at_51) (pc' := 52) rfl (z := (2 : Int32)) (by decide) ?_
    refine W_iand B (hb hby at_52) (pc' := 53) rfl (z := (a3 &&& (2 : Int32))) rfl ?_
    refine W_if_eq B (hb hby at_53) (by decide) (pt := 62) (by decide) (pc' := 56) rfl (fun (c51 : (a3 &&& (2 : Int32)) = (0 : Int32)) => ?_) (fun (c51 : ¬ (a3 &&& (2 : Int32)) = (0 : Int32)) => ?_)
    · refine W_iconst B (hb hby at_62) (pc' := 63) rfl (z := (2 : Int32)) (by decide) ?_
      refine W_newarray B (ow hw (i := 4) rfl) (hb hby at_63) (pc' := 65) rfl (by decide) (cap := 2) (by decide) (by decide) (cells' := 4) rfl (slots' := 8) rfl (vs := [(.int (0 : Int32)), (.int (0 : Int32))]) rfl (ty := .byte) rfl ?_
      intro T b52 B
      refine W_dup B (hb hby at_65) (pc' := 66) rfl rfl ?_
      refine W_iconst B (hb hby at_66) (pc' := 67) rfl (z := (0 : Int32)) (by decide) ?_
      refine W_iload B (hb hby at_67) (pc' := 69) rfl rfl ?_
      refine W_i2b B (hb hby at_69) (pc' := 70) rfl (z := (a4.toInt8.toInt32)) rfl ?_
      refine W_bastore B (hb hby at_70) (pc' := 71) rfl (i := 0) rfl (by decide) (oLt rfl) (ds' := [(b52, oA .byte [(.int (nar .byte (a4.toInt8.toInt32))), o0]), (b3, oA .char [(.int (nar .char ((a1 &&& (255 : Int32)).toUInt32.toUInt16.toUInt32.toInt32)))])]) rfl ?_
      intro T B
      refine W_dup B (hb hby at_71) (pc' := 72) rfl rfl ?_
      refine W_iconst B (hb hby at_72) (pc' := 73) rfl (z := (1 : Int32)) (by decide) ?_
      refine W_iload B (hb hby at_73) (pc' := 75) rfl rfl ?_
      refine W_bipush B (hb hby at_75) (pc' := 77) rfl (z := (8 : Int32)) (by decide) ?_
      refine W_ishr B (hb hby at_77) (pc' := 78) rfl (z := (a4 >>> ((8 : Int32) &&& 31))) rfl ?_
      refine W_i2b B (hb hby at_78) (pc' := 79) rfl (z := ((a4 >>> ((8 : Int32) &&& 31)).toInt8.toInt32)) rfl ?_
      refine W_bastore B (hb hby at_79) (pc' := 80) rfl (i := 0) rfl (by decide) (oLt rfl) (ds' := [(b52, oA .byte [(.int (nar .byte (a4.toInt8.toInt32))), (.int (nar .byte ((a4 >>> ((8 : Int32) &&& 31)).toInt8.toInt32)))]), (b3, oA .char [(.int (nar .char ((a1 &&& (255 : Int32)).toUInt32.toUInt16.toUInt32.toInt32)))])]) rfl ?_
      intro T B
      refine W_astore B (hb hby at_80) (pc' := 82) rfl rfl (ls' := #[.val (.int a1), .val (.long a2), .second, .val (.int a3), .val (.int a4), .val (.ref b3), .val (.ref b49), .val (.int (0 : Int32)), .val (.ref b52), .unset, .unset, .unset, .unset, .unset]) rfl ?_
      refine W_iloadN B (hb hby at_82) (pc' := 83) rfl rfl ?_
      refine W_iconst B (hb hby at_83) (pc' := 84) rfl (z := (4 : Int32)) (by decide) ?_
      refine W_iand B (hb hby at_84) (pc' := 85) rfl (z := (a3 &&& (4 : Int32))) rfl ?_
      refine W_if_eq B (hb hby at_85) (by decide) (pt := 94) (by decide) (pc' := 88) rfl (fun (c53 : (a3 &&& (4 : Int32)) = (0 : Int32)) => ?_) (fun (c53 : ¬ (a3 &&& (4 : Int32)) = (0 : Int32)) => ?_)
      · refine W_iconst B (hb hby at_94) (pc' := 95) rfl (z := (1 : Int32)) (by decide) ?_
        refine W_newarray B (ow hw (i := 4) rfl) (hb hby at_95) (pc' := 97) rfl (by decide) (cap := 1) (by decide) (by decide) (cells' := 5) rfl (slots' := 9) rfl (vs := [(.int (0 : Int32))]) rfl (ty := .byte) rfl ?_
        intro T b54 B
        refine W_dup B (hb hby at_97) (pc' := 98) rfl rfl ?_
        refine W_iconst B (hb hby at_98) (pc' := 99) rfl (z := (0 : Int32)) (by decide) ?_
        refine W_iload B (hb hby at_99) (pc' := 101) rfl rfl ?_
        refine W_bipush B (hb hby at_101) (pc' := 103) rfl (z := (16 : Int32)) (by decide) ?_
        refine W_ishr B (hb hby at_103) (pc' := 104) rfl (z := (a4 >>> ((16 : Int32) &&& 31))) rfl ?_
        refine W_i2b B (hb hby at_104) (pc' := 105) rfl (z := ((a4 >>> ((16 : Int32) &&& 31)).toInt8.toInt32)) rfl ?_
        refine W_bastore B (hb hby at_105) (pc' := 106) rfl (i := 0) rfl (by decide) (oLt rfl) (ds' := [(b54, oA .byte [(.int (nar .byte ((a4 >>> ((16 : Int32) &&& 31)).toInt8.toInt32)))]), (b52, oA .byte [(.int (nar .byte (a4.toInt8.toInt32))), (.int (nar .byte ((a4 >>> ((8 : Int32) &&& 31)).toInt8.toInt32)))]), (b3, oA .char [(.int (nar .char ((a1 &&& (255 : Int32)).toUInt32.toUInt16.toUInt32.toInt32)))])]) rfl ?_
        intro T B
        refine W_astore B (hb hby at_106) (pc' := 108) rfl rfl (ls' := #[.val (.int a1), .val (.long a2), .second, .val (.int a3), .val (.int a4), .val (.ref b3), .val (.ref b49), .val (.int (0 : Int32)), .val (.ref b52), .val (.ref b54), .unset, .unset, .unset, .unset]) rfl ?_
        refine W_iload B (hb hby at_108) (pc' := 110) rfl rfl ?_
        refine W_ifY B (hb hby at_110) (by decide) (pc' := 117) (by decide) (by decide) ?_
        refine W_aload B (hb hby at_117) (pc' := 119) rfl rfl rfl ?_
        refine W_astore B (hb hby at_119) (pc' := 121) rfl rfl (ls' := #[.val (.int a1), .val (.long a2), .second, .val (.int a3), .val (.int a4), .val (.ref b3), .val (.ref b49), .val (.int (0 : Int32)), .val (.ref b52), .val (.ref b54), .val (.ref b52), .unset, .unset, .unset]) rfl ?_
        refine W_new B hown (ow hw (i := 9) rfl) (ow hw (i := 10) rfl) (ow hw (i := 11) rfl) (hb hby at_121) (pc' := 124) rfl (by decide) (cells' := 6) rfl (slots' := 12) rfl (fs := [(fk0, .null), (fk1, (.long (0 : Int64))), (fk2, .null)]) (oAll_cons ⟨Or.inr (ow hw (i := 24) rfl), (.object "java/lang/String"), by decide, rfl⟩ (oAll_cons ⟨Or.inr (ow hw (i := 26) rfl), .long, by decide, rfl⟩ (oAll_cons ⟨Or.inr (ow hw (i := 28) rfl), (.array .byte), by decide, rfl⟩ oAll_nil))) (by decide) ?_
        intro T b55 B
        refine W_dup B (hb hby at_124) (pc' := 125) rfl rfl ?_
        refine W_aload B (hb hby at_125) (pc' := 127) rfl rfl rfl ?_
        refine W_lloadN B (hb hby at_127) (pc' := 128) rfl rfl ?_
        refine W_aload B (hb hby at_128) (pc' := 130) rfl rfl rfl ?_
        refine W_init B (y := (⟨"com/example/mitosis/mitosis/core/Change", "<init>", "(Ljava/lang/String;J[B)V"⟩ : MethodName)) hown rfl (ow hw (i := 12) rfl) (ow hw (i := 13) rfl) (ow hw (i := 11) rfl) (ow hw (i := 14) rfl) (by decide) (a := b55) (rm_inia l Z a0 hw h0 b55 b49 a2 b52 [(b54, oA .byte [(.int (nar .byte ((a4 >>> ((16 : Int32) &&& 31)).toInt8.toInt32)))]), (b52, oA .byte [(.int (nar .byte (a4.toInt8.toInt32))), (.int (nar .byte ((a4 >>> ((8 : Int32) &&& 31)).toInt8.toInt32)))]), (b3, oA .char [(.int (nar .char ((a1 &&& (255 : Int32)).toUInt32.toUInt16.toUInt32.toInt32)))])]) (lenOf pd_1 rfl) (hb hby at_130) (pc' := 133) rfl (argsL := [(.ref b49), (.long a2), (.ref b52)]) (rest := [(.ref b55)]) rfl (by rw [hml]; rfl) (W := 1) (oLe rfl) (by decide) (cells' := 6) rfl (slots' := 12) rfl ?_
        intro T v_ d_ q_ B
        obtain ⟨rfl, rfl⟩ := q_
        show oWin p e below Z h0 _ _ (T.setTop (mkF m 133 #[.val (.int a1), .val (.long a2), .second, .val (.int a3), .val (.int a4), .val (.ref b3), .val (.ref b49), .val (.int (0 : Int32)), .val (.ref b52), .val (.ref b54), .val (.ref b52), .unset, .unset, .unset] [(.ref b55)]))
        refine W_astore B (hb hby at_133) (pc' := 135) rfl rfl (ls' := #[.val (.int a1), .val (.long a2), .second, .val (.int a3), .val (.int a4), .val (.ref b3), .val (.ref b49), .val (.int (0 : Int32)), .val (.ref b52), .val (.ref b54), .val (.ref b52), .val (.ref b55), .unset, .unset]) rfl ?_
        refine W_aload B (hb hby at_135) (pc' := 137) rfl rfl rfl ?_
        refine W_lloadN B (hb hby at_137) (pc' := 138) rfl rfl ?_
        refine W_callS B (y := (⟨"com/example/mitosis/mitosis/core/Change", "delete", "(Ljava/lang/String;J)Lcom/example/mitosis/mitosis/core/Change;"⟩ : MethodName)) hown (ow hw (i := 29) rfl) (ow hw (i := 30) rfl) (ow hw (i := 11) rfl) (ow hw (i := 31) rfl) (by decide) (rm_del l Z a0 hw h0 b49 a2 [(b55, oO cn0 [(fk0, (.ref b49)), (fk1, (.long a2)), (fk2, (.ref b52))]), (b54, oA .byte [(.int (nar .byte ((a4 >>> ((16 : Int32) &&& 31)).toInt8.toInt32)))]), (b52, oA .byte [(.int (nar .byte (a4.toInt8.toInt32))), (.int (nar .byte ((a4 >>> ((8 : Int32) &&& 31)).toInt8.toInt32)))]), (b3, oA .char [(.int (nar .char ((a1 &&& (255 : Int32)).toUInt32.toUInt16.toUInt32.toInt32)))])]) (lenOf pd_2 rfl) (hb hby at_138) (pc' := 141) rfl (argsL := [(.ref b49), (.long a2)]) (rest := []) rfl (by rw [hml]; rfl) (W := 0) (oLe rfl) (by decide) (cells' := 7) rfl (slots' := 15) rfl ?_
        intro T v_ d_ q_ B
        obtain ⟨b56, rfl, rfl⟩ := q_
        show oWin p e below Z h0 _ _ (T.setTop (mkF m 141 #[.val (.int a1), .val (.long a2), .second, .val (.int a3), .val (.int a4), .val (.ref b3), .val (.ref b49), .val (.int (0 : Int32)), .val (.ref b52), .val (.ref b54), .val (.ref b52), .val (.ref b55), .unset, .unset] [(.ref b56)]))
        refine W_astore B (hb hby at_141) (pc' := 143) rfl rfl (ls' := #[.val (.int a1), .val (.long a2), .second, .val (.int a3), .val (.int a4), .val (.ref b3), .val (.ref b49), .val (.int (0 : Int32)), .val (.ref b52), .val (.ref b54), .val (.ref b52), .val (.ref b55), .val (.ref b56), .unset]) rfl ?_
        refine W_aload B (hb hby at_143) (pc' := 145) rfl rfl rfl ?_
        refine W_lloadN B (hb hby at_145) (pc' := 146) rfl rfl ?_
        refine W_aload B (hb hby at_146) (pc' := 148) rfl rfl rfl ?_
        refine W_callS B (y := (⟨"com/example/mitosis/mitosis/core/Change", "put", "(Ljava/lang/String;J[B)Lcom/example/mitosis/mitosis/core/Change;"⟩ : MethodName)) hown (ow hw (i := 34) rfl) (ow hw (i := 35) rfl) (ow hw (i := 11) rfl) (ow hw (i := 36) rfl) (by decide) (rm_put l Z a0 hw h0 b49 a2 b54 [(b56, oO cn0 [(fk0, (.ref b49)), (fk1, (.long a2)), (fk2, .null)]), (b55, oO cn0 [(fk0, (.ref b49)), (fk1, (.long a2)), (fk2, (.ref b52))]), (b54, oA .byte [(.int (nar .byte ((a4 >>> ((16 : Int32) &&& 31)).toInt8.toInt32)))]), (b52, oA .byte [(.int (nar .byte (a4.toInt8.toInt32))), (.int (nar .byte ((a4 >>> ((8 : Int32) &&& 31)).toInt8.toInt32)))]), (b3, oA .char [(.int (nar .char ((a1 &&& (255 : Int32)).toUInt32.toUInt16.toUInt32.toInt32)))])]) (lenOf pd_3 rfl) (hb hby at_148) (pc' := 151) rfl (argsL := [(.ref b49), (.long a2), (.ref b54)]) (rest := []) rfl (by rw [hml]; rfl) (W := 0) (oLe rfl) (by decide) (cells' := 8) rfl (slots' := 18) rfl ?_
        intro T v_ d_ q_ B
        obtain ⟨b57, rfl, rfl⟩ := q_
        show oWin p e below Z h0 _ _ (T.setTop (mkF m 151 #[.val (.int a1), .val (.long a2), .second, .val (.int a3), .val (.int a4), .val (.ref b3), .val (.ref b49), .val (.int (0 : Int32)), .val (.ref b52), .val (.ref b54), .val (.ref b52), .val (.ref b55), .val (.ref b56), .unset] [(.ref b57)]))
        refine W_astore B (hb hby at_151) (pc' := 153) rfl rfl (ls' := #[.val (.int a1), .val (.long a2), .second, .val (.int a3), .val (.int a4), .val (.ref b3), .val (.ref b49), .val (.int (0 : Int32)), .val (.ref b52), .val (.ref b54), .val (.ref b52), .val (.ref b55), .val (.ref b56), .val (.ref b57)]) rfl ?_
        refine W_aload B (hb hby at_153) (pc' := 155) rfl rfl rfl ?_
        refine W_virtual B (y := (⟨"com/example/mitosis/mitosis/core/Change", "isDelete", "()Z"⟩ : MethodName)) (z := (⟨"com/example/mitosis/mitosis/core/Change", "isDelete", "()Z"⟩ : MethodName)) hown (ow hw (i := 37) rfl) (ow hw (i := 38) rfl) (oNotFace B (ow hw (i := 40) rfl) rfl) (ow hw (i := 40) rfl) (ow hw (i := 39) rfl) (ow hw (i := 11) rfl) (ow hw (i := 41) rfl) (by decide) (a := b55) (rm_isd2a l Z a0 hw h0 b55 b49 a2 b52 (b57, oO cn0 [(fk0, (.ref b49)), (fk1, (.long a2)), (fk2, (.ref b54))]) (b56, oO cn0 [(fk0, (.ref b49)), (fk1, (.long a2)), (fk2, .null)]) [(b54, oA .byte [(.int (nar .byte ((a4 >>> ((16 : Int32) &&& 31)).toInt8.toInt32)))]), (b52, oA .byte [(.int (nar .byte (a4.toInt8.toInt32))), (.int (nar .byte ((a4 >>> ((8 : Int32) &&& 31)).toInt8.toInt32)))]), (b3, oA .char [(.int (nar .char ((a1 &&& (255 : Int32)).toUInt32.toUInt16.toUInt32.toInt32)))])]) (lenOf pd_4 rfl) (hb hby at_155) (pc' := 158) rfl (argsL := []) (rest := []) rfl (by rw [hml]; rfl) (W := 0) (oLe rfl) (j := 2) rfl (by decide) (cells' := 8) rfl (slots' := 18) rfl ?_
        intro T v_ d_ q_ B
        obtain ⟨rfl, rfl⟩ := q_
        show oWin p e below Z h0 _ _ (T.setTop (mkF m 158 #[.val (.int a1), .val (.long a2), .second, .val (.int a3), .val (.int a4), .val (.ref b3), .val (.ref b49), .val (.int (0 : Int32)), .val (.ref b52), .val (.ref b54), .val (.ref b52), .val (.ref b55), .val (.ref b56), .val (.ref b57)] [(.int (0 : Int32))]))
        refine W_iload B (hb hby at_158) (pc' := 160) rfl rfl ?_
        refine W_icmpN B (hb hby at_160) (pc' := 163) rfl (by decide) ?_
        refine W_aload B (hb hby at_163) (pc' := 165) rfl rfl rfl ?_
        refine W_virtual B (y := (⟨"com/example/mitosis/mitosis/core/Change", "isDelete", "()Z"⟩ : MethodName)) (z := (⟨"com/example/mitosis/mitosis/core/Change", "isDelete", "()Z"⟩ : MethodName)) hown (ow hw (i := 37) rfl) (ow hw (i := 38) rfl) (oNotFace B (ow hw (i := 40) rfl) rfl) (ow hw (i := 40) rfl) (ow hw (i := 39) rfl) (ow hw (i := 11) rfl) (ow hw (i := 41) rfl) (by decide) (a := b56) (rm_isd1n l Z a0 hw h0 b56 b49 a2 (b57, oO cn0 [(fk0, (.ref b49)), (fk1, (.long a2)), (fk2, (.ref b54))]) [(b55, oO cn0 [(fk0, (.ref b49)), (fk1, (.long a2)), (fk2, (.ref b52))]), (b54, oA .byte [(.int (nar .byte ((a4 >>> ((16 : Int32) &&& 31)).toInt8.toInt32)))]), (b52, oA .byte [(.int (nar .byte (a4.toInt8.toInt32))), (.int (nar .byte ((a4 >>> ((8 : Int32) &&& 31)).toInt8.toInt32)))]), (b3, oA .char [(.int (nar .char ((a1 &&& (255 : Int32)).toUInt32.toUInt16.toUInt32.toInt32)))])]) (lenOf pd_4 rfl) (hb hby at_165) (pc' := 168) rfl (argsL := []) (rest := []) rfl (by rw [hml]; rfl) (W := 0) (oLe rfl) (j := 1) rfl (by decide) (cells' := 8) rfl (slots' := 18) rfl ?_
        intro T v_ d_ q_ B
        obtain ⟨rfl, rfl⟩ := q_
        show oWin p e below Z h0 _ _ (T.setTop (mkF m 168 #[.val (.int a1), .val (.long a2), .second, .val (.int a3), .val (.int a4), .val (.ref b3), .val (.ref b49), .val (.int (0 : Int32)), .val (.ref b52), .val (.ref b54), .val (.ref b52), .val (.ref b55), .val (.ref b56), .val (.ref b57)] [(.int (1 : Int32))]))
        refine W_ifN B (hb hby at_168) (pc' := 171) rfl (by decide) ?_
        refine W_aload B (hb hby at_171) (pc' := 173) rfl rfl rfl ?_
        refine W_virtual B (y := (⟨"com/example/mitosis/mitosis/core/Change", "isDelete", "()Z"⟩ : MethodName)) (z := (⟨"com/example/mitosis/mitosis/core/Change", "isDelete", "()Z"⟩ : MethodName)) hown (ow hw (i := 37) rfl) (ow hw (i := 38) rfl) (oNotFace B (ow hw (i := 40) rfl) rfl) (ow hw (i := 40) rfl) (ow hw (i := 39) rfl) (ow hw (i := 11) rfl) (ow hw (i := 41) rfl) (by decide) (a := b57) (rm_isd0a l Z a0 hw h0 b57 b49 a2 b54  [(b56, oO cn0 [(fk0, (.ref b49)), (fk1, (.long a2)), (fk2, .null)]), (b55, oO cn0 [(fk0, (.ref b49)), (fk1, (.long a2)), (fk2, (.ref b52))]), (b54, oA .byte [(.int (nar .byte ((a4 >>> ((16 : Int32) &&& 31)).toInt8.toInt32)))]), (b52, oA .byte [(.int (nar .byte (a4.toInt8.toInt32))), (.int (nar .byte ((a4 >>> ((8 : Int32) &&& 31)).toInt8.toInt32)))]), (b3, oA .char [(.int (nar .char ((a1 &&& (255 : Int32)).toUInt32.toUInt16.toUInt32.toInt32)))])]) (lenOf pd_4 rfl) (hb hby at_173) (pc' := 176) rfl (argsL := []) (rest := []) rfl (by rw [hml]; rfl) (W := 0) (oLe rfl) (j := 0) rfl (by decide) (cells' := 8) rfl (slots' := 18) rfl ?_
        intro T v_ d_ q_ B
        obtain ⟨rfl, rfl⟩ := q_
        show oWin p e below Z h0 _ _ (T.setTop (mkF m 176 #[.val (.int a1), .val (.long a2), .second, .val (.int a3), .val (.int a4), .val (.ref b3), .val (.ref b49), .val (.int (0 : Int32)), .val (.ref b52), .val (.ref b54), .val (.ref b52), .val (.ref b55), .val (.ref b56), .val (.ref b57)] [(.int (0 : Int32))]))
        refine W_ifN B (hb hby at_176) (pc' := 179) rfl (by decide) ?_
        refine W_iconst B (hb hby at_179) (pc' := 180) rfl (z := (1 : Int32)) (by decide) ?_
        refine W_goto B (hb hby at_180) (by decide) (pc' := 184) (by decide) ?_
        refine W_retNW B hS hret (by simp) (hb hby at_184) (by decide) ?_
        rfl
      refine W_iconst B (hb hby at_88) (pc' := 89) rfl (z := (0 : Int32)) (by decide) ?_
      refine W_newarray B (ow hw (i := 4) rfl) (hb hby at_89) (pc' := 91) rfl (by decide) (cap := 0) (by decide) (by decide) (cells' := 5) rfl (slots' := 8) rfl (vs := []) rfl (ty := .byte) rfl ?_
      intro T b58 B
      refine W_goto B (hb hby at_91) (by decide) (pc' := 106) (by decide) ?_
      refine W_astore B (hb hby at_106) (pc' := 108) rfl rfl (ls' := #[.val (.int a1), .val (.long a2), .second, .val (.int a3), .val (.int a4), .val (.ref b3), .val (.ref b49), .val (.int (0 : Int32)), .val (.ref b52), .val (.ref b58), .unset, .unset, .unset, .unset]) rfl ?_
      refine W_iload B (hb hby at_108) (pc' := 110) rfl rfl ?_
      refine W_ifY B (hb hby at_110) (by decide) (pc' := 117) (by decide) (by decide) ?_
      refine W_aload B (hb hby at_117) (pc' := 119) rfl rfl rfl ?_
      refine W_astore B (hb hby at_119) (pc' := 121) rfl rfl (ls' := #[.val (.int a1), .val (.long a2), .second, .val (.int a3), .val (.int a4), .val (.ref b3), .val (.ref b49), .val (.int (0 : Int32)), .val (.ref b52), .val (.ref b58), .val (.ref b52), .unset, .unset, .unset]) rfl ?_
      refine W_new B hown (ow hw (i := 9) rfl) (ow hw (i := 10) rfl) (ow hw (i := 11) rfl) (hb hby at_121) (pc' := 124) rfl (by decide) (cells' := 6) rfl (slots' := 11) rfl (fs := [(fk0, .null), (fk1, (.long (0 : Int64))), (fk2, .null)]) (oAll_cons ⟨Or.inr (ow hw (i := 24) rfl), (.object "java/lang/String"), by decide, rfl⟩ (oAll_cons ⟨Or.inr (ow hw (i := 26) rfl), .long, by decide, rfl⟩ (oAll_cons ⟨Or.inr (ow hw (i := 28) rfl), (.array .byte), by decide, rfl⟩ oAll_nil))) (by decide) ?_
      intro T b59 B
      refine W_dup B (hb hby at_124) (pc' := 125) rfl rfl ?_
      refine W_aload B (hb hby at_125) (pc' := 127) rfl rfl rfl ?_
      refine W_lloadN B (hb hby at_127) (pc' := 128) rfl rfl ?_
      refine W_aload B (hb hby at_128) (pc' := 130) rfl rfl rfl ?_
      refine W_init B (y := (⟨"com/example/mitosis/mitosis/core/Change", "<init>", "(Ljava/lang/String;J[B)V"⟩ : MethodName)) hown rfl (ow hw (i := 12) rfl) (ow hw (i := 13) rfl) (ow hw (i := 11) rfl) (ow hw (i := 14) rfl) (by decide) (a := b59) (rm_inia l Z a0 hw h0 b59 b49 a2 b52 [(b58, oA .byte []), (b52, oA .byte [(.int (nar .byte (a4.toInt8.toInt32))), (.int (nar .byte ((a4 >>> ((8 : Int32) &&& 31)).toInt8.toInt32)))]), (b3, oA .char [(.int (nar .char ((a1 &&& (255 : Int32)).toUInt32.toUInt16.toUInt32.toInt32)))])]) (lenOf pd_1 rfl) (hb hby at_130) (pc' := 133) rfl (argsL := [(.ref b49), (.long a2), (.ref b52)]) (rest := [(.ref b59)]) rfl (by rw [hml]; rfl) (W := 1) (oLe rfl) (by decide) (cells' := 6) rfl (slots' := 11) rfl ?_
      intro T v_ d_ q_ B
      obtain ⟨rfl, rfl⟩ := q_
      show oWin p e below Z h0 _ _ (T.setTop (mkF m 133 #[.val (.int a1), .val (.long a2), .second, .val (.int a3), .val (.int a4), .val (.ref b3), .val (.ref b49), .val (.int (0 : Int32)), .val (.ref b52), .val (.ref b58), .val (.ref b52), .unset, .unset, .unset] [(.ref b59)]))
      refine W_astore B (hb hby at_133) (pc' := 135) rfl rfl (ls' := #[.val (.int a1), .val (.long a2), .second, .val (.int a3), .val (.int a4), .val (.ref b3), .val (.ref b49), .val (.int (0 : Int32)), .val (.ref b52), .val (.ref b58), .val (.ref b52), .val (.ref b59), .unset, .unset]) rfl ?_
      refine W_aload B (hb hby at_135) (pc' := 137) rfl rfl rfl ?_
      refine W_lloadN B (hb hby at_137) (pc' := 138) rfl rfl ?_
      refine W_callS B (y := (⟨"com/example/mitosis/mitosis/core/Change", "delete", "(Ljava/lang/String;J)Lcom/example/mitosis/mitosis/core/Change;"⟩ : MethodName)) hown (ow hw (i := 29) rfl) (ow hw (i := 30) rfl) (ow hw (i := 11) rfl) (ow hw (i := 31) rfl) (by decide) (rm_del l Z a0 hw h0 b49 a2 [(b59, oO cn0 [(fk0, (.ref b49)), (fk1, (.long a2)), (fk2, (.ref b52))]), (b58, oA .byte []), (b52, oA .byte [(.int (nar .byte (a4.toInt8.toInt32))), (.int (nar .byte ((a4 >>> ((8 : Int32) &&& 31)).toInt8.toInt32)))]), (b3, oA .char [(.int (nar .char ((a1 &&& (255 : Int32)).toUInt32.toUInt16.toUInt32.toInt32)))])]) (lenOf pd_2 rfl) (hb hby at_138) (pc' := 141) rfl (argsL := [(.ref b49), (.long a2)]) (rest := []) rfl (by rw [hml]; rfl) (W := 0) (oLe rfl) (by decide) (cells' := 7) rfl (slots' := 14) rfl ?_
      intro T v_ d_ q_ B
      obtain ⟨b60, rfl, rfl⟩ := q_
      show oWin p e below Z h0 _ _ (T.setTop (mkF m 141 #[.val (.int a1), .val (.long a2), .second, .val (.int a3), .val (.int a4), .val (.ref b3), .val (.ref b49), .val (.int (0 : Int32)), .val (.ref b52), .val (.ref b58), .val (.ref b52), .val (.ref b59), .unset, .unset] [(.ref b60)]))
      refine W_astore B (hb hby at_141) (pc' := 143) rfl rfl (ls' := #[.val (.int a1), .val (.long a2), .second, .val (.int a3), .val (.int a4), .val (.ref b3), .val (.ref b49), .val (.int (0 : Int32)), .val (.ref b52), .val (.ref b58), .val (.ref b52), .val (.ref b59), .val (.ref b60), .unset]) rfl ?_
      refine W_aload B (hb hby at_143) (pc' := 145) rfl rfl rfl ?_
      refine W_lloadN B (hb hby at_145) (pc' := 146) rfl rfl ?_
      refine W_aload B (hb hby at_146) (pc' := 148) rfl rfl rfl ?_
      refine W_callS B (y := (⟨"com/example/mitosis/mitosis/core/Change", "put", "(Ljava/lang/String;J[B)Lcom/example/mitosis/mitosis/core/Change;"⟩ : MethodName)) hown (ow hw (i := 34) rfl) (ow hw (i := 35) rfl) (ow hw (i := 11) rfl) (ow hw (i := 36) rfl) (by decide) (rm_put l Z a0 hw h0 b49 a2 b58 [(b60, oO cn0 [(fk0, (.ref b49)), (fk1, (.long a2)), (fk2, .null)]), (b59, oO cn0 [(fk0, (.ref b49)), (fk1, (.long a2)), (fk2, (.ref b52))]), (b58, oA .byte []), (b52, oA .byte [(.int (nar .byte (a4.toInt8.toInt32))), (.int (nar .byte ((a4 >>> ((8 : Int32) &&& 31)).toInt8.toInt32)))]), (b3, oA .char [(.int (nar .char ((a1 &&& (255 : Int32)).toUInt32.toUInt16.toUInt32.toInt32)))])]) (lenOf pd_3 rfl) (hb hby at_148) (pc' := 151) rfl (argsL := [(.ref b49), (.long a2), (.ref b58)]) (rest := []) rfl (by rw [hml]; rfl) (W := 0) (oLe rfl) (by decide) (cells' := 8) rfl (slots' := 17) rfl ?_
      intro T v_ d_ q_ B
      obtain ⟨b61, rfl, rfl⟩ := q_
      show oWin p e below Z h0 _ _ (T.setTop (mkF m 151 #[.val (.int a1), .val (.long a2), .second, .val (.int a3), .val (.int a4), .val (.ref b3), .val (.ref b49), .val (.int (0 : Int32)), .val (.ref b52), .val (.ref b58), .val (.ref b52), .val (.ref b59), .val (.ref b60), .unset] [(.ref b61)]))
      refine W_astore B (hb hby at_151) (pc' := 153) rfl rfl (ls' := #[.val (.int a1), .val (.long a2), .second, .val (.int a3), .val (.int a4), .val (.ref b3), .val (.ref b49), .val (.int (0 : Int32)), .val (.ref b52), .val (.ref b58), .val (.ref b52), .val (.ref b59), .val (.ref b60), .val (.ref b61)]) rfl ?_
      refine W_aload B (hb hby at_153) (pc' := 155) rfl rfl rfl ?_
      refine W_virtual B (y := (⟨"com/example/mitosis/mitosis/core/Change", "isDelete", "()Z"⟩ : MethodName)) (z := (⟨"com/example/mitosis/mitosis/core/Change", "isDelete", "()Z"⟩ : MethodName)) hown (ow hw (i := 37) rfl) (ow hw (i := 38) rfl) (oNotFace B (ow hw (i := 40) rfl) rfl) (ow hw (i := 40) rfl) (ow hw (i := 39) rfl) (ow hw (i := 11) rfl) (ow hw (i := 41) rfl) (by decide) (a := b59) (rm_isd2a l Z a0 hw h0 b59 b49 a2 b52 (b61, oO cn0 [(fk0, (.ref b49)), (fk1, (.long a2)), (fk2, (.ref b58))]) (b60, oO cn0 [(fk0, (.ref b49)), (fk1, (.long a2)), (fk2, .null)]) [(b58, oA .byte []), (b52, oA .byte [(.int (nar .byte (a4.toInt8.toInt32))), (.int (nar .byte ((a4 >>> ((8 : Int32) &&& 31)).toInt8.toInt32)))]), (b3, oA .char [(.int (nar .char ((a1 &&& (255 : Int32)).toUInt32.toUInt16.toUInt32.toInt32)))])]) (lenOf pd_4 rfl) (hb hby at_155) (pc' := 158) rfl (argsL := []) (rest := []) rfl (by rw [hml]; rfl) (W := 0) (oLe rfl) (j := 2) rfl (by decide) (cells' := 8) rfl (slots' := 17) rfl ?_
      intro T v_ d_ q_ B
      obtain ⟨rfl, rfl⟩ := q_
      show oWin p e below Z h0 _ _ (T.setTop (mkF m 158 #[.val (.int a1), .val (.long a2), .second, .val (.int a3), .val (.int a4), .val (.ref b3), .val (.ref b49), .val (.int (0 : Int32)), .val (.ref b52), .val (.ref b58), .val (.ref b52), .val (.ref b59), .val (.ref b60), .val (.ref b61)] [(.int (0 : Int32))]))
      refine W_iload B (hb hby at_158) (pc' := 160) rfl rfl ?_
      refine W_icmpN B (hb hby at_160) (pc' := 163) rfl (by decide) ?_
      refine W_aload B (hb hby at_163) (pc' := 165) rfl rfl rfl ?_
      refine W_virtual B (y := (⟨"com/example/mitosis/mitosis/core/Change", "isDelete", "()Z"⟩ : MethodName)) (z := (⟨"com/example/mitosis/mitosis/core/Change", "isDelete", "()Z"⟩ : MethodName)) hown (ow hw (i := 37) rfl) (ow hw (i := 38) rfl) (oNotFace B (ow hw (i := 40) rfl) rfl) (ow hw (i := 40) rfl) (ow hw (i := 39) rfl) (ow hw (i := 11) rfl) (ow hw (i := 41) rfl) (by decide) (a := b60) (rm_isd1n l Z a0 hw h0 b60 b49 a2 (b61, oO cn0 [(fk0, (.ref b49)), (fk1, (.long a2)), (fk2, (.ref b58))]) [(b59, oO cn0 [(fk0, (.ref b49)), (fk1, (.long a2)), (fk2, (.ref b52))]), (b58, oA .byte []), (b52, oA .byte [(.int (nar .byte (a4.toInt8.toInt32))), (.int (nar .byte ((a4 >>> ((8 : Int32) &&& 31)).toInt8.toInt32)))]), (b3, oA .char [(.int (nar .char ((a1 &&& (255 : Int32)).toUInt32.toUInt16.toUInt32.toInt32)))])]) (lenOf pd_4 rfl) (hb hby at_165) (pc' := 168) rfl (argsL := []) (rest := []) rfl (by rw [hml]; rfl) (W := 0) (oLe rfl) (j := 1) rfl (by decide) (cells' := 8) rfl (slots' := 17) rfl ?_
      intro T v_ d_ q_ B
      obtain ⟨rfl, rfl⟩ := q_
      show oWin p e below Z h0 _ _ (T.setTop (mkF m 168 #[.val (.int a1), .val (.long a2), .second, .val (.int a3), .val (.int a4), .val (.ref b3), .val (.ref b49), .val (.int (0 : Int32)), .val (.ref b52), .val (.ref b58), .val (.ref b52), .val (.ref b59), .val (.ref b60), .val (.ref b61)] [(.int (1 : Int32))]))
      refine W_ifN B (hb hby at_168) (pc' := 171) rfl (by decide) ?_
      refine W_aload B (hb hby at_171) (pc' := 173) rfl rfl rfl ?_
      refine W_virtual B (y := (⟨"com/example/mitosis/mitosis/core/Change", "isDelete", "()Z"⟩ : MethodName)) (z := (⟨"com/example/mitosis/mitosis/core/Change", "isDelete", "()Z"⟩ : MethodName)) hown (ow hw (i := 37) rfl) (ow hw (i := 38) rfl) (oNotFace B (ow hw (i := 40) rfl) rfl) (ow hw (i := 40) rfl) (ow hw (i := 39) rfl) (ow hw (i := 11) rfl) (ow hw (i := 41) rfl) (by decide) (a := b61) (rm_isd0a l Z a0 hw h0 b61 b49 a2 b58  [(b60, oO cn0 [(fk0, (.ref b49)), (fk1, (.long a2)), (fk2, .null)]), (b59, oO cn0 [(fk0, (.ref b49)), (fk1, (.long a2)), (fk2, (.ref b52))]), (b58, oA .byte []), (b52, oA .byte [(.int (nar .byte (a4.toInt8.toInt32))), (.int (nar .byte ((a4 >>> ((8 : Int32) &&& 31)).toInt8.toInt32)))]), (b3, oA .char [(.int (nar .char ((a1 &&& (255 : Int32)).toUInt32.toUInt16.toUInt32.toInt32)))])]) (lenOf pd_4 rfl) (hb hby at_173) (pc' := 176) rfl (argsL := []) (rest := []) rfl (by rw [hml]; rfl) (W := 0) (oLe rfl) (j := 0) rfl (by decide) (cells' := 8) rfl (slots' := 17) rfl ?_
      intro T v_ d_ q_ B
      obtain ⟨rfl, rfl⟩ := q_
      show oWin p e below Z h0 _ _ (T.setTop (mkF m 176 #[.val (.int a1), .val (.long a2), .second, .val (.int a3), .val (.int a4), .val (.ref b3), .val (.ref b49), .val (.int (0 : Int32)), .val (.ref b52), .val (.ref b58), .val (.ref b52), .val (.ref b59), .val (.ref b60), .val (.ref b61)] [(.int (0 : Int32))]))
      refine W_ifN B (hb hby at_176) (pc' := 179) rfl (by decide) ?_
      refine W_iconst B (hb hby at_179) (pc' := 180) rfl (z := (1 : Int32)) (by decide) ?_
      refine W_goto B (hb hby at_180) (by decide) (pc' := 184) (by decide) ?_
      refine W_retNW B hS hret (by simp) (hb hby at_184) (by decide) ?_
      rfl
    refine W_iconst B (hb hby at_56) (pc' := 57) rfl (z := (0 : Int32)) (by decide) ?_
    refine W_newarray B (ow hw (i := 4) rfl) (hb hby at_57) (pc' := 59) rfl (by decide) (cap := 0) (by decide) (by decide) (cells' := 4) rfl (slots' := 6) rfl (vs := []) rfl (ty := .byte) rfl ?_
    intro T b62 B
    refine W_goto B (hb hby at_59) (by decide) (pc' := 80) (by decide) ?_
    refine W_astore B (hb hby at_80) (pc' := 82) rfl rfl (ls' := #[.val (.int a1), .val (.long a2), .second, .val (.int a3), .val (.int a4), .val (.ref b3), .val (.ref b49), .val (.int (0 : Int32)), .val (.ref b62), .unset, .unset, .unset, .unset, .unset]) rfl ?_
    refine W_iloadN B (hb hby at_82) (pc' := 83) rfl rfl ?_
    refine W_iconst B (hb hby at_83) (pc' := 84) rfl (z := (4 : Int32)) (by decide) ?_
    refine W_iand B (hb hby at_84) (pc' := 85) rfl (z := (a3 &&& (4 : Int32))) rfl ?_
    refine W_if_eq B (hb hby at_85) (by decide) (pt := 94) (by decide) (pc' := 88) rfl (fun (c63 : (a3 &&& (4 : Int32)) = (0 : Int32)) => ?_) (fun (c63 : ¬ (a3 &&& (4 : Int32)) = (0 : Int32)) => ?_)
    · refine W_iconst B (hb hby at_94) (pc' := 95) rfl (z := (1 : Int32)) (by decide) ?_
      refine W_newarray B (ow hw (i := 4) rfl) (hb hby at_95) (pc' := 97) rfl (by decide) (cap := 1) (by decide) (by decide) (cells' := 5) rfl (slots' := 7) rfl (vs := [(.int (0 : Int32))]) rfl (ty := .byte) rfl ?_
      intro T b64 B
      refine W_dup B (hb hby at_97) (pc' := 98) rfl rfl ?_
      refine W_iconst B (hb hby at_98) (pc' := 99) rfl (z := (0 : Int32)) (by decide) ?_
      refine W_iload B (hb hby at_99) (pc' := 101) rfl rfl ?_
      refine W_bipush B (hb hby at_101) (pc' := 103) rfl (z := (16 : Int32)) (by decide) ?_
      refine W_ishr B (hb hby at_103) (pc' := 104) rfl (z := (a4 >>> ((16 : Int32) &&& 31))) rfl ?_
      refine W_i2b B (hb hby at_104) (pc' := 105) rfl (z := ((a4 >>> ((16 : Int32) &&& 31)).toInt8.toInt32)) rfl ?_
      refine W_bastore B (hb hby at_105) (pc' := 106) rfl (i := 0) rfl (by decide) (oLt rfl) (ds' := [(b64, oA .byte [(.int (nar .byte ((a4 >>> ((16 : Int32) &&& 31)).toInt8.toInt32)))]), (b62, oA .byte []), (b3, oA .char [(.int (nar .char ((a1 &&& (255 : Int32)).toUInt32.toUInt16.toUInt32.toInt32)))])]) rfl ?_
      intro T B
      refine W_astore B (hb hby at_106) (pc' := 108) rfl rfl (ls' := #[.val (.int a1), .val (.long a2), .second, .val (.int a3), .val (.int a4), .val (.ref b3), .val (.ref b49), .val (.int (0 : Int32)), .val (.ref b62), .val (.ref b64), .unset, .unset, .unset, .unset]) rfl ?_
      refine W_iload B (hb hby at_108) (pc' := 110) rfl rfl ?_
      refine W_ifY B (hb hby at_110) (by decide) (pc' := 117) (by decide) (by decide) ?_
      refine W_aload B (hb hby at_117) (pc' := 119) rfl rfl rfl ?_
      refine W_astore B (hb hby at_119) (pc' := 121) rfl rfl (ls' := #[.val (.int a1), .val (.long a2), .second, .val (.int a3), .val (.int a4), .val (.ref b3), .val (.ref b49), .val (.int (0 : Int32)), .val (.ref b62), .val (.ref b64), .val (.ref b62), .unset, .unset, .unset]) rfl ?_
      refine W_new B hown (ow hw (i := 9) rfl) (ow hw (i := 10) rfl) (ow hw (i := 11) rfl) (hb hby at_121) (pc' := 124) rfl (by decide) (cells' := 6) rfl (slots' := 10) rfl (fs := [(fk0, .null), (fk1, (.long (0 : Int64))), (fk2, .null)]) (oAll_cons ⟨Or.inr (ow hw (i := 24) rfl), (.object "java/lang/String"), by decide, rfl⟩ (oAll_cons ⟨Or.inr (ow hw (i := 26) rfl), .long, by decide, rfl⟩ (oAll_cons ⟨Or.inr (ow hw (i := 28) rfl), (.array .byte), by decide, rfl⟩ oAll_nil))) (by decide) ?_
      intro T b65 B
      refine W_dup B (hb hby at_124) (pc' := 125) rfl rfl ?_
      refine W_aload B (hb hby at_125) (pc' := 127) rfl rfl rfl ?_
      refine W_lloadN B (hb hby at_127) (pc' := 128) rfl rfl ?_
      refine W_aload B (hb hby at_128) (pc' := 130) rfl rfl rfl ?_
      refine W_init B (y := (⟨"com/example/mitosis/mitosis/core/Change", "<init>", "(Ljava/lang/String;J[B)V"⟩ : MethodName)) hown rfl (ow hw (i := 12) rfl) (ow hw (i := 13) rfl) (ow hw (i := 11) rfl) (ow hw (i := 14) rfl) (by decide) (a := b65) (rm_inia l Z a0 hw h0 b65 b49 a2 b62 [(b64, oA .byte [(.int (nar .byte ((a4 >>> ((16 : Int32) &&& 31)).toInt8.toInt32)))]), (b62, oA .byte []), (b3, oA .char [(.int (nar .char ((a1 &&& (255 : Int32)).toUInt32.toUInt16.toUInt32.toInt32)))])]) (lenOf pd_1 rfl) (hb hby at_130) (pc' := 133) rfl (argsL := [(.ref b49), (.long a2), (.ref b62)]) (rest := [(.ref b65)]) rfl (by rw [hml]; rfl) (W := 1) (oLe rfl) (by decide) (cells' := 6) rfl (slots' := 10) rfl ?_
      intro T v_ d_ q_ B
      obtain ⟨rfl, rfl⟩ := q_
      show oWin p e below Z h0 _ _ (T.setTop (mkF m 133 #[.val (.int a1), .val (.long a2), .second, .val (.int a3), .val (.int a4), .val (.ref b3), .val (.ref b49), .val (.int (0 : Int32)), .val (.ref b62), .val (.ref b64), .val (.ref b62), .unset, .unset, .unset] [(.ref b65)]))
      refine W_astore B (hb hby at_133) (pc' := 135) rfl rfl (ls' := #[.val (.int a1), .val (.long a2), .second, .val (.int a3), .val (.int a4), .val (.ref b3), .val (.ref b49), .val (.int (0 : Int32)), .val (.ref b62), .val (.ref b64), .val (.ref b62), .val (.ref b65), .unset, .unset]) rfl ?_
      refine W_aload B (hb hby at_135) (pc' := 137) rfl rfl rfl ?_
      refine W_lloadN B (hb hby at_137) (pc' := 138) rfl rfl ?_
      refine W_callS B (y := (⟨"com/example/mitosis/mitosis/core/Change", "delete", "(Ljava/lang/String;J)Lcom/example/mitosis/mitosis/core/Change;"⟩ : MethodName)) hown (ow hw (i := 29) rfl) (ow hw (i := 30) rfl) (ow hw (i := 11) rfl) (ow hw (i := 31) rfl) (by decide) (rm_del l Z a0 hw h0 b49 a2 [(b65, oO cn0 [(fk0, (.ref b49)), (fk1, (.long a2)), (fk2, (.ref b62))]), (b64, oA .byte [(.int (nar .byte ((a4 >>> ((16 : Int32) &&& 31)).toInt8.toInt32)))]), (b62, oA .byte []), (b3, oA .char [(.int (nar .char ((a1 &&& (255 : Int32)).toUInt32.toUInt16.toUInt32.toInt32)))])]) (lenOf pd_2 rfl) (hb hby at_138) (pc' := 141) rfl (argsL := [(.ref b49), (.long a2)]) (rest := []) rfl (by rw [hml]; rfl) (W := 0) (oLe rfl) (by decide) (cells' := 7) rfl (slots' := 13) rfl ?_
      intro T v_ d_ q_ B
      obtain ⟨b66, rfl, rfl⟩ := q_
      show oWin p e below Z h0 _ _ (T.setTop (mkF m 141 #[.val (.int a1), .val (.long a2), .second, .val (.int a3), .val (.int a4), .val (.ref b3), .val (.ref b49), .val (.int (0 : Int32)), .val (.ref b62), .val (.ref b64), .val (.ref b62), .val (.ref b65), .unset, .unset] [(.ref b66)]))
      refine W_astore B (hb hby at_141) (pc' := 143) rfl rfl (ls' := #[.val (.int a1), .val (.long a2), .second, .val (.int a3), .val (.int a4), .val (.ref b3), .val (.ref b49), .val (.int (0 : Int32)), .val (.ref b62), .val (.ref b64), .val (.ref b62), .val (.ref b65), .val (.ref b66), .unset]) rfl ?_
      refine W_aload B (hb hby at_143) (pc' := 145) rfl rfl rfl ?_
      refine W_lloadN B (hb hby at_145) (pc' := 146) rfl rfl ?_
      refine W_aload B (hb hby at_146) (pc' := 148) rfl rfl rfl ?_
      refine W_callS B (y := (⟨"com/example/mitosis/mitosis/core/Change", "put", "(Ljava/lang/String;J[B)Lcom/example/mitosis/mitosis/core/Change;"⟩ : MethodName)) hown (ow hw (i := 34) rfl) (ow hw (i := 35) rfl) (ow hw (i := 11) rfl) (ow hw (i := 36) rfl) (by decide) (rm_put l Z a0 hw h0 b49 a2 b64 [(b66, oO cn0 [(fk0, (.ref b49)), (fk1, (.long a2)), (fk2, .null)]), (b65, oO cn0 [(fk0, (.ref b49)), (fk1, (.long a2)), (fk2, (.ref b62))]), (b64, oA .byte [(.int (nar .byte ((a4 >>> ((16 : Int32) &&& 31)).toInt8.toInt32)))]), (b62, oA .byte []), (b3, oA .char [(.int (nar .char ((a1 &&& (255 : Int32)).toUInt32.toUInt16.toUInt32.toInt32)))])]) (lenOf pd_3 rfl) (hb hby at_148) (pc' := 151) rfl (argsL := [(.ref b49), (.long a2), (.ref b64)]) (rest := []) rfl (by rw [hml]; rfl) (W := 0) (oLe rfl) (by decide) (cells' := 8) rfl (slots' := 16) rfl ?_
      intro T v_ d_ q_ B
      obtain ⟨b67, rfl, rfl⟩ := q_
      show oWin p e below Z h0 _ _ (T.setTop (mkF m 151 #[.val (.int a1), .val (.long a2), .second, .val (.int a3), .val (.int a4), .val (.ref b3), .val (.ref b49), .val (.int (0 : Int32)), .val (.ref b62), .val (.ref b64), .val (.ref b62), .val (.ref b65), .val (.ref b66), .unset] [(.ref b67)]))
      refine W_astore B (hb hby at_151) (pc' := 153) rfl rfl (ls' := #[.val (.int a1), .val (.long a2), .second, .val (.int a3), .val (.int a4), .val (.ref b3), .val (.ref b49), .val (.int (0 : Int32)), .val (.ref b62), .val (.ref b64), .val (.ref b62), .val (.ref b65), .val (.ref b66), .val (.ref b67)]) rfl ?_
      refine W_aload B (hb hby at_153) (pc' := 155) rfl rfl rfl ?_
      refine W_virtual B (y := (⟨"com/example/mitosis/mitosis/core/Change", "isDelete", "()Z"⟩ : MethodName)) (z := (⟨"com/example/mitosis/mitosis/core/Change", "isDelete", "()Z"⟩ : MethodName)) hown (ow hw (i := 37) rfl) (ow hw (i := 38) rfl) (oNotFace B (ow hw (i := 40) rfl) rfl) (ow hw (i := 40) rfl) (ow hw (i := 39) rfl) (ow hw (i := 11) rfl) (ow hw (i := 41) rfl) (by decide) (a := b65) (rm_isd2a l Z a0 hw h0 b65 b49 a2 b62 (b67, oO cn0 [(fk0, (.ref b49)), (fk1, (.long a2)), (fk2, (.ref b64))]) (b66, oO cn0 [(fk0, (.ref b49)), (fk1, (.long a2)), (fk2, .null)]) [(b64, oA .byte [(.int (nar .byte ((a4 >>> ((16 : Int32) &&& 31)).toInt8.toInt32)))]), (b62, oA .byte []), (b3, oA .char [(.int (nar .char ((a1 &&& (255 : Int32)).toUInt32.toUInt16.toUInt32.toInt32)))])]) (lenOf pd_4 rfl) (hb hby at_155) (pc' := 158) rfl (argsL := []) (rest := []) rfl (by rw [hml]; rfl) (W := 0) (oLe rfl) (j := 2) rfl (by decide) (cells' := 8) rfl (slots' := 16) rfl ?_
      intro T v_ d_ q_ B
      obtain ⟨rfl, rfl⟩ := q_
      show oWin p e below Z h0 _ _ (T.setTop (mkF m 158 #[.val (.int a1), .val (.long a2), .second, .val (.int a3), .val (.int a4), .val (.ref b3), .val (.ref b49), .val (.int (0 : Int32)), .val (.ref b62), .val (.ref b64), .val (.ref b62), .val (.ref b65), .val (.ref b66), .val (.ref b67)] [(.int (0 : Int32))]))
      refine W_iload B (hb hby at_158) (pc' := 160) rfl rfl ?_
      refine W_icmpN B (hb hby at_160) (pc' := 163) rfl (by decide) ?_
      refine W_aload B (hb hby at_163) (pc' := 165) rfl rfl rfl ?_
      refine W_virtual B (y := (⟨"com/example/mitosis/mitosis/core/Change", "isDelete", "()Z"⟩ : MethodName)) (z := (⟨"com/example/mitosis/mitosis/core/Change", "isDelete", "()Z"⟩ : MethodName)) hown (ow hw (i := 37) rfl) (ow hw (i := 38) rfl) (oNotFace B (ow hw (i := 40) rfl) rfl) (ow hw (i := 40) rfl) (ow hw (i := 39) rfl) (ow hw (i := 11) rfl) (ow hw (i := 41) rfl) (by decide) (a := b66) (rm_isd1n l Z a0 hw h0 b66 b49 a2 (b67, oO cn0 [(fk0, (.ref b49)), (fk1, (.long a2)), (fk2, (.ref b64))]) [(b65, oO cn0 [(fk0, (.ref b49)), (fk1, (.long a2)), (fk2, (.ref b62))]), (b64, oA .byte [(.int (nar .byte ((a4 >>> ((16 : Int32) &&& 31)).toInt8.toInt32)))]), (b62, oA .byte []), (b3, oA .char [(.int (nar .char ((a1 &&& (255 : Int32)).toUInt32.toUInt16.toUInt32.toInt32)))])]) (lenOf pd_4 rfl) (hb hby at_165) (pc' := 168) rfl (argsL := []) (rest := []) rfl (by rw [hml]; rfl) (W := 0) (oLe rfl) (j := 1) rfl (by decide) (cells' := 8) rfl (slots' := 16) rfl ?_
      intro T v_ d_ q_ B
      obtain ⟨rfl, rfl⟩ := q_
      show oWin p e below Z h0 _ _ (T.setTop (mkF m 168 #[.val (.int a1), .val (.long a2), .second, .val (.int a3), .val (.int a4), .val (.ref b3), .val (.ref b49), .val (.int (0 : Int32)), .val (.ref b62), .val (.ref b64), .val (.ref b62), .val (.ref b65), .val (.ref b66), .val (.ref b67)] [(.int (1 : Int32))]))
      refine W_ifN B (hb hby at_168) (pc' := 171) rfl (by decide) ?_
      refine W_aload B (hb hby at_171) (pc' := 173) rfl rfl rfl ?_
      refine W_virtual B (y := (⟨"com/example/mitosis/mitosis/core/Change", "isDelete", "()Z"⟩ : MethodName)) (z := (⟨"com/example/mitosis/mitosis/core/Change", "isDelete", "()Z"⟩ : MethodName)) hown (ow hw (i := 37) rfl) (ow hw (i := 38) rfl) (oNotFace B (ow hw (i := 40) rfl) rfl) (ow hw (i := 40) rfl) (ow hw (i := 39) rfl) (ow hw (i := 11) rfl) (ow hw (i := 41) rfl) (by decide) (a := b67) (rm_isd0a l Z a0 hw h0 b67 b49 a2 b64  [(b66, oO cn0 [(fk0, (.ref b49)), (fk1, (.long a2)), (fk2, .null)]), (b65, oO cn0 [(fk0, (.ref b49)), (fk1, (.long a2)), (fk2, (.ref b62))]), (b64, oA .byte [(.int (nar .byte ((a4 >>> ((16 : Int32) &&& 31)).toInt8.toInt32)))]), (b62, oA .byte []), (b3, oA .char [(.int (nar .char ((a1 &&& (255 : Int32)).toUInt32.toUInt16.toUInt32.toInt32)))])]) (lenOf pd_4 rfl) (hb hby at_173) (pc' := 176) rfl (argsL := []) (rest := []) rfl (by rw [hml]; rfl) (W := 0) (oLe rfl) (j := 0) rfl (by decide) (cells' := 8) rfl (slots' := 16) rfl ?_
      intro T v_ d_ q_ B
      obtain ⟨rfl, rfl⟩ := q_
      show oWin p e below Z h0 _ _ (T.setTop (mkF m 176 #[.val (.int a1), .val (.long a2), .second, .val (.int a3), .val (.int a4), .val (.ref b3), .val (.ref b49), .val (.int (0 : Int32)), .val (.ref b62), .val (.ref b64), .val (.ref b62), .val (.ref b65), .val (.ref b66), .val (.ref b67)] [(.int (0 : Int32))]))
      refine W_ifN B (hb hby at_176) (pc' := 179) rfl (by decide) ?_
      refine W_iconst B (hb hby at_179) (pc' := 180) rfl (z := (1 : Int32)) (by decide) ?_
      refine W_goto B (hb hby at_180) (by decide) (pc' := 184) (by decide) ?_
      refine W_retNW B hS hret (by simp) (hb hby at_184) (by decide) ?_
      rfl
    refine W_iconst B (hb hby at_88) (pc' := 89) rfl (z := (0 : Int32)) (by decide) ?_
    refine W_newarray B (ow hw (i := 4) rfl) (hb hby at_89) (pc' := 91) rfl (by decide) (cap := 0) (by decide) (by decide) (cells' := 5) rfl (slots' := 6) rfl (vs := []) rfl (ty := .byte) rfl ?_
    intro T b68 B
    refine W_goto B (hb hby at_91) (by decide) (pc' := 106) (by decide) ?_
    refine W_astore B (hb hby at_106) (pc' := 108) rfl rfl (ls' := #[.val (.int a1), .val (.long a2), .second, .val (.int a3), .val (.int a4), .val (.ref b3), .val (.ref b49), .val (.int (0 : Int32)), .val (.ref b62), .val (.ref b68), .unset, .unset, .unset, .unset]) rfl ?_
    refine W_iload B (hb hby at_108) (pc' := 110) rfl rfl ?_
    refine W_ifY B (hb hby at_110) (by decide) (pc' := 117) (by decide) (by decide) ?_
    refine W_aload B (hb hby at_117) (pc' := 119) rfl rfl rfl ?_
    refine W_astore B (hb hby at_119) (pc' := 121) rfl rfl (ls' := #[.val (.int a1), .val (.long a2), .second, .val (.int a3), .val (.int a4), .val (.ref b3), .val (.ref b49), .val (.int (0 : Int32)), .val (.ref b62), .val (.ref b68), .val (.ref b62), .unset, .unset, .unset]) rfl ?_
    refine W_new B hown (ow hw (i := 9) rfl) (ow hw (i := 10) rfl) (ow hw (i := 11) rfl) (hb hby at_121) (pc' := 124) rfl (by decide) (cells' := 6) rfl (slots' := 9) rfl (fs := [(fk0, .null), (fk1, (.long (0 : Int64))), (fk2, .null)]) (oAll_cons ⟨Or.inr (ow hw (i := 24) rfl), (.object "java/lang/String"), by decide, rfl⟩ (oAll_cons ⟨Or.inr (ow hw (i := 26) rfl), .long, by decide, rfl⟩ (oAll_cons ⟨Or.inr (ow hw (i := 28) rfl), (.array .byte), by decide, rfl⟩ oAll_nil))) (by decide) ?_
    intro T b69 B
    refine W_dup B (hb hby at_124) (pc' := 125) rfl rfl ?_
    refine W_aload B (hb hby at_125) (pc' := 127) rfl rfl rfl ?_
    refine W_lloadN B (hb hby at_127) (pc' := 128) rfl rfl ?_
    refine W_aload B (hb hby at_128) (pc' := 130) rfl rfl rfl ?_
    refine W_init B (y := (⟨"com/example/mitosis/mitosis/core/Change", "<init>", "(Ljava/lang/String;J[B)V"⟩ : MethodName)) hown rfl (ow hw (i := 12) rfl) (ow hw (i := 13) rfl) (ow hw (i := 11) rfl) (ow hw (i := 14) rfl) (by decide) (a := b69) (rm_inia l Z a0 hw h0 b69 b49 a2 b62 [(b68, oA .byte []), (b62, oA .byte []), (b3, oA .char [(.int (nar .char ((a1 &&& (255 : Int32)).toUInt32.toUInt16.toUInt32.toInt32)))])]) (lenOf pd_1 rfl) (hb hby at_130) (pc' := 133) rfl (argsL := [(.ref b49), (.long a2), (.ref b62)]) (rest := [(.ref b69)]) rfl (by rw [hml]; rfl) (W := 1) (oLe rfl) (by decide) (cells' := 6) rfl (slots' := 9) rfl ?_
    intro T v_ d_ q_ B
    obtain ⟨rfl, rfl⟩ := q_
    show oWin p e below Z h0 _ _ (T.setTop (mkF m 133 #[.val (.int a1), .val (.long a2), .second, .val (.int a3), .val (.int a4), .val (.ref b3), .val (.ref b49), .val (.int (0 : Int32)), .val (.ref b62), .val (.ref b68), .val (.ref b62), .unset, .unset, .unset] [(.ref b69)]))
    refine W_astore B (hb hby at_133) (pc' := 135) rfl rfl (ls' := #[.val (.int a1), .val (.long a2), .second, .val (.int a3), .val (.int a4), .val (.ref b3), .val (.ref b49), .val (.int (0 : Int32)), .val (.ref b62), .val (.ref b68), .val (.ref b62), .val (.ref b69), .unset, .unset]) rfl ?_
    refine W_aload B (hb hby at_135) (pc' := 137) rfl rfl rfl ?_
    refine W_lloadN B (hb hby at_137) (pc' := 138) rfl rfl ?_
    refine W_callS B (y := (⟨"com/example/mitosis/mitosis/core/Change", "delete", "(Ljava/lang/String;J)Lcom/example/mitosis/mitosis/core/Change;"⟩ : MethodName)) hown (ow hw (i := 29) rfl) (ow hw (i := 30) rfl) (ow hw (i := 11) rfl) (ow hw (i := 31) rfl) (by decide) (rm_del l Z a0 hw h0 b49 a2 [(b69, oO cn0 [(fk0, (.ref b49)), (fk1, (.long a2)), (fk2, (.ref b62))]), (b68, oA .byte []), (b62, oA .byte []), (b3, oA .char [(.int (nar .char ((a1 &&& (255 : Int32)).toUInt32.toUInt16.toUInt32.toInt32)))])]) (lenOf pd_2 rfl) (hb hby at_138) (pc' := 141) rfl (argsL := [(.ref b49), (.long a2)]) (rest := []) rfl (by rw [hml]; rfl) (W := 0) (oLe rfl) (by decide) (cells' := 7) rfl (slots' := 12) rfl ?_
    intro T v_ d_ q_ B
    obtain ⟨b70, rfl, rfl⟩ := q_
    show oWin p e below Z h0 _ _ (T.setTop (mkF m 141 #[.val (.int a1), .val (.long a2), .second, .val (.int a3), .val (.int a4), .val (.ref b3), .val (.ref b49), .val (.int (0 : Int32)), .val (.ref b62), .val (.ref b68), .val (.ref b62), .val (.ref b69), .unset, .unset] [(.ref b70)]))
    refine W_astore B (hb hby at_141) (pc' := 143) rfl rfl (ls' := #[.val (.int a1), .val (.long a2), .second, .val (.int a3), .val (.int a4), .val (.ref b3), .val (.ref b49), .val (.int (0 : Int32)), .val (.ref b62), .val (.ref b68), .val (.ref b62), .val (.ref b69), .val (.ref b70), .unset]) rfl ?_
    refine W_aload B (hb hby at_143) (pc' := 145) rfl rfl rfl ?_
    refine W_lloadN B (hb hby at_145) (pc' := 146) rfl rfl ?_
    refine W_aload B (hb hby at_146) (pc' := 148) rfl rfl rfl ?_
    refine W_callS B (y := (⟨"com/example/mitosis/mitosis/core/Change", "put", "(Ljava/lang/String;J[B)Lcom/example/mitosis/mitosis/core/Change;"⟩ : MethodName)) hown (ow hw (i := 34) rfl) (ow hw (i := 35) rfl) (ow hw (i := 11) rfl) (ow hw (i := 36) rfl) (by decide) (rm_put l Z a0 hw h0 b49 a2 b68 [(b70, oO cn0 [(fk0, (.ref b49)), (fk1, (.long a2)), (fk2, .null)]), (b69, oO cn0 [(fk0, (.ref b49)), (fk1, (.long a2)), (fk2, (.ref b62))]), (b68, oA .byte []), (b62, oA .byte []), (b3, oA .char [(.int (nar .char ((a1 &&& (255 : Int32)).toUInt32.toUInt16.toUInt32.toInt32)))])]) (lenOf pd_3 rfl) (hb hby at_148) (pc' := 151) rfl (argsL := [(.ref b49), (.long a2), (.ref b68)]) (rest := []) rfl (by rw [hml]; rfl) (W := 0) (oLe rfl) (by decide) (cells' := 8) rfl (slots' := 15) rfl ?_
    intro T v_ d_ q_ B
    obtain ⟨b71, rfl, rfl⟩ := q_
    show oWin p e below Z h0 _ _ (T.setTop (mkF m 151 #[.val (.int a1), .val (.long a2), .second, .val (.int a3), .val (.int a4), .val (.ref b3), .val (.ref b49), .val (.int (0 : Int32)), .val (.ref b62), .val (.ref b68), .val (.ref b62), .val (.ref b69), .val (.ref b70), .unset] [(.ref b71)]))
    refine W_astore B (hb hby at_151) (pc' := 153) rfl rfl (ls' := #[.val (.int a1), .val (.long a2), .second, .val (.int a3), .val (.int a4), .val (.ref b3), .val (.ref b49), .val (.int (0 : Int32)), .val (.ref b62), .val (.ref b68), .val (.ref b62), .val (.ref b69), .val (.ref b70), .val (.ref b71)]) rfl ?_
    refine W_aload B (hb hby at_153) (pc' := 155) rfl rfl rfl ?_
    refine W_virtual B (y := (⟨"com/example/mitosis/mitosis/core/Change", "isDelete", "()Z"⟩ : MethodName)) (z := (⟨"com/example/mitosis/mitosis/core/Change", "isDelete", "()Z"⟩ : MethodName)) hown (ow hw (i := 37) rfl) (ow hw (i := 38) rfl) (oNotFace B (ow hw (i := 40) rfl) rfl) (ow hw (i := 40) rfl) (ow hw (i := 39) rfl) (ow hw (i := 11) rfl) (ow hw (i := 41) rfl) (by decide) (a := b69) (rm_isd2a l Z a0 hw h0 b69 b49 a2 b62 (b71, oO cn0 [(fk0, (.ref b49)), (fk1, (.long a2)), (fk2, (.ref b68))]) (b70, oO cn0 [(fk0, (.ref b49)), (fk1, (.long a2)), (fk2, .null)]) [(b68, oA .byte []), (b62, oA .byte []), (b3, oA .char [(.int (nar .char ((a1 &&& (255 : Int32)).toUInt32.toUInt16.toUInt32.toInt32)))])]) (lenOf pd_4 rfl) (hb hby at_155) (pc' := 158) rfl (argsL := []) (rest := []) rfl (by rw [hml]; rfl) (W := 0) (oLe rfl) (j := 2) rfl (by decide) (cells' := 8) rfl (slots' := 15) rfl ?_
    intro T v_ d_ q_ B
    obtain ⟨rfl, rfl⟩ := q_
    show oWin p e below Z h0 _ _ (T.setTop (mkF m 158 #[.val (.int a1), .val (.long a2), .second, .val (.int a3), .val (.int a4), .val (.ref b3), .val (.ref b49), .val (.int (0 : Int32)), .val (.ref b62), .val (.ref b68), .val (.ref b62), .val (.ref b69), .val (.ref b70), .val (.ref b71)] [(.int (0 : Int32))]))
    refine W_iload B (hb hby at_158) (pc' := 160) rfl rfl ?_
    refine W_icmpN B (hb hby at_160) (pc' := 163) rfl (by decide) ?_
    refine W_aload B (hb hby at_163) (pc' := 165) rfl rfl rfl ?_
    refine W_virtual B (y := (⟨"com/example/mitosis/mitosis/core/Change", "isDelete", "()Z"⟩ : MethodName)) (z := (⟨"com/example/mitosis/mitosis/core/Change", "isDelete", "()Z"⟩ : MethodName)) hown (ow hw (i := 37) rfl) (ow hw (i := 38) rfl) (oNotFace B (ow hw (i := 40) rfl) rfl) (ow hw (i := 40) rfl) (ow hw (i := 39) rfl) (ow hw (i := 11) rfl) (ow hw (i := 41) rfl) (by decide) (a := b70) (rm_isd1n l Z a0 hw h0 b70 b49 a2 (b71, oO cn0 [(fk0, (.ref b49)), (fk1, (.long a2)), (fk2, (.ref b68))]) [(b69, oO cn0 [(fk0, (.ref b49)), (fk1, (.long a2)), (fk2, (.ref b62))]), (b68, oA .byte []), (b62, oA .byte []), (b3, oA .char [(.int (nar .char ((a1 &&& (255 : Int32)).toUInt32.toUInt16.toUInt32.toInt32)))])]) (lenOf pd_4 rfl) (hb hby at_165) (pc' := 168) rfl (argsL := []) (rest := []) rfl (by rw [hml]; rfl) (W := 0) (oLe rfl) (j := 1) rfl (by decide) (cells' := 8) rfl (slots' := 15) rfl ?_
    intro T v_ d_ q_ B
    obtain ⟨rfl, rfl⟩ := q_
    show oWin p e below Z h0 _ _ (T.setTop (mkF m 168 #[.val (.int a1), .val (.long a2), .second, .val (.int a3), .val (.int a4), .val (.ref b3), .val (.ref b49), .val (.int (0 : Int32)), .val (.ref b62), .val (.ref b68), .val (.ref b62), .val (.ref b69), .val (.ref b70), .val (.ref b71)] [(.int (1 : Int32))]))
    refine W_ifN B (hb hby at_168) (pc' := 171) rfl (by decide) ?_
    refine W_aload B (hb hby at_171) (pc' := 173) rfl rfl rfl ?_
    refine W_virtual B (y := (⟨"com/example/mitosis/mitosis/core/Change", "isDelete", "()Z"⟩ : MethodName)) (z := (⟨"com/example/mitosis/mitosis/core/Change", "isDelete", "()Z"⟩ : MethodName)) hown (ow hw (i := 37) rfl) (ow hw (i := 38) rfl) (oNotFace B (ow hw (i := 40) rfl) rfl) (ow hw (i := 40) rfl) (ow hw (i := 39) rfl) (ow hw (i := 11) rfl) (ow hw (i := 41) rfl) (by decide) (a := b71) (rm_isd0a l Z a0 hw h0 b71 b49 a2 b68  [(b70, oO cn0 [(fk0, (.ref b49)), (fk1, (.long a2)), (fk2, .null)]), (b69, oO cn0 [(fk0, (.ref b49)), (fk1, (.long a2)), (fk2, (.ref b62))]), (b68, oA .byte []), (b62, oA .byte []), (b3, oA .char [(.int (nar .char ((a1 &&& (255 : Int32)).toUInt32.toUInt16.toUInt32.toInt32)))])]) (lenOf pd_4 rfl) (hb hby at_173) (pc' := 176) rfl (argsL := []) (rest := []) rfl (by rw [hml]; rfl) (W := 0) (oLe rfl) (j := 0) rfl (by decide) (cells' := 8) rfl (slots' := 15) rfl ?_
    intro T v_ d_ q_ B
    obtain ⟨rfl, rfl⟩ := q_
    show oWin p e below Z h0 _ _ (T.setTop (mkF m 176 #[.val (.int a1), .val (.long a2), .second, .val (.int a3), .val (.int a4), .val (.ref b3), .val (.ref b49), .val (.int (0 : Int32)), .val (.ref b62), .val (.ref b68), .val (.ref b62), .val (.ref b69), .val (.ref b70), .val (.ref b71)] [(.int (0 : Int32))]))
    refine W_ifN B (hb hby at_176) (pc' := 179) rfl (by decide) ?_
    refine W_iconst B (hb hby at_179) (pc' := 180) rfl (z := (1 : Int32)) (by decide) ?_
    refine W_goto B (hb hby at_180) (by decide) (pc' := 184) (by decide) ?_
    refine W_retNW B hS hret (by simp) (hb hby at_184) (by decide) ?_
    rfl
  refine W_iconst B (hb hby at_43) (pc' := 44) rfl (z := (1 : Int32)) (by decide) ?_
  refine W_goto B (hb hby at_44) (by decide) (pc' := 48) (by decide) ?_
  refine W_istore B (hb hby at_48) (pc' := 50) rfl (v := (1 : Int32)) rfl (ls' := #[.val (.int a1), .val (.long a2), .second, .val (.int a3), .val (.int a4), .val (.ref b3), .val (.ref b49), .val (.int (1 : Int32)), .unset, .unset, .unset, .unset, .unset, .unset]) rfl ?_
  refine W_iloadN B (hb hby at_50) (pc' := 51) rfl rfl ?_
  refine W_iconst B (hb hby at_51) (pc' := 52) rfl (z := (2 : Int32)) (by decide) ?_
  refine W_iand B (hb hby at_52) (pc' := 53) rfl (z := (a3 &&& (2 : Int32))) rfl ?_
  refine W_if_eq B (hb hby at_53) (by decide) (pt := 62) (by decide) (pc' := 56) rfl (fun (c72 : (a3 &&& (2 : Int32)) = (0 : Int32)) => ?_) (fun (c72 : ¬ (a3 &&& (2 : Int32)) = (0 : Int32)) => ?_)
  · refine W_iconst B (hb hby at_62) (pc' := 63) rfl (z := (2 : Int32)) (by decide) ?_
    refine W_newarray B (ow hw (i := 4) rfl) (hb hby at_63) (pc' := 65) rfl (by decide) (cap := 2) (by decide) (by decide) (cells' := 4) rfl (slots' := 8) rfl (vs := [(.int (0 : Int32)), (.int (0 : Int32))]) rfl (ty := .byte) rfl ?_
    intro T b73 B
    refine W_dup B (hb hby at_65) (pc' := 66) rfl rfl ?_
    refine W_iconst B (hb hby at_66) (pc' := 67) rfl (z := (0 : Int32)) (by decide) ?_
    refine W_iload B (hb hby at_67) (pc' := 69) rfl rfl ?_
    refine W_i2b B (hb hby at_69) (pc' := 70) rfl (z := (a4.toInt8.toInt32)) rfl ?_
    refine W_bastore B (hb hby at_70) (pc' := 71) rfl (i := 0) rfl (by decide) (oLt rfl) (ds' := [(b73, oA .byte [(.int (nar .byte (a4.toInt8.toInt32))), o0]), (b3, oA .char [(.int (nar .char ((a1 &&& (255 : Int32)).toUInt32.toUInt16.toUInt32.toInt32)))])]) rfl ?_
    intro T B
    refine W_dup B (hb hby at_71) (pc' := 72) rfl rfl ?_
    refine W_iconst B (hb hby at_72) (pc' := 73) rfl (z := (1 : Int32)) (by decide) ?_
    refine W_iload B (hb hby at_73) (pc' := 75) rfl rfl ?_
    refine W_bipush B (hb hby at_75) (pc' := 77) rfl (z := (8 : Int32)) (by decide) ?_
    refine W_ishr B (hb hby at_77) (pc' := 78) rfl (z := (a4 >>> ((8 : Int32) &&& 31))) rfl ?_
    refine W_i2b B (hb hby at_78) (pc' := 79) rfl (z := ((a4 >>> ((8 : Int32) &&& 31)).toInt8.toInt32)) rfl ?_
    refine W_bastore B (hb hby at_79) (pc' := 80) rfl (i := 0) rfl (by decide) (oLt rfl) (ds' := [(b73, oA .byte [(.int (nar .byte (a4.toInt8.toInt32))), (.int (nar .byte ((a4 >>> ((8 : Int32) &&& 31)).toInt8.toInt32)))]), (b3, oA .char [(.int (nar .char ((a1 &&& (255 : Int32)).toUInt32.toUInt16.toUInt32.toInt32)))])]) rfl ?_
    intro T B
    refine W_astore B (hb hby at_80) (pc' := 82) rfl rfl (ls' := #[.val (.int a1), .val (.long a2), .second, .val (.int a3), .val (.int a4), .val (.ref b3), .val (.ref b49), .val (.int (1 : Int32)), .val (.ref b73), .unset, .unset, .unset, .unset, .unset]) rfl ?_
    refine W_iloadN B (hb hby at_82) (pc' := 83) rfl rfl ?_
    refine W_iconst B (hb hby at_83) (pc' := 84) rfl (z := (4 : Int32)) (by decide) ?_
    refine W_iand B (hb hby at_84) (pc' := 85) rfl (z := (a3 &&& (4 : Int32))) rfl ?_
    refine W_if_eq B (hb hby at_85) (by decide) (pt := 94) (by decide) (pc' := 88) rfl (fun (c74 : (a3 &&& (4 : Int32)) = (0 : Int32)) => ?_) (fun (c74 : ¬ (a3 &&& (4 : Int32)) = (0 : Int32)) => ?_)
    · refine W_iconst B (hb hby at_94) (pc' := 95) rfl (z := (1 : Int32)) (by decide) ?_
      refine W_newarray B (ow hw (i := 4) rfl) (hb hby at_95) (pc' := 97) rfl (by decide) (cap := 1) (by decide) (by decide) (cells' := 5) rfl (slots' := 9) rfl (vs := [(.int (0 : Int32))]) rfl (ty := .byte) rfl ?_
      intro T b75 B
      refine W_dup B (hb hby at_97) (pc' := 98) rfl rfl ?_
      refine W_iconst B (hb hby at_98) (pc' := 99) rfl (z := (0 : Int32)) (by decide) ?_
      refine W_iload B (hb hby at_99) (pc' := 101) rfl rfl ?_
      refine W_bipush B (hb hby at_101) (pc' := 103) rfl (z := (16 : Int32)) (by decide) ?_
      refine W_ishr B (hb hby at_103) (pc' := 104) rfl (z := (a4 >>> ((16 : Int32) &&& 31))) rfl ?_
      refine W_i2b B (hb hby at_104) (pc' := 105) rfl (z := ((a4 >>> ((16 : Int32) &&& 31)).toInt8.toInt32)) rfl ?_
      refine W_bastore B (hb hby at_105) (pc' := 106) rfl (i := 0) rfl (by decide) (oLt rfl) (ds' := [(b75, oA .byte [(.int (nar .byte ((a4 >>> ((16 : Int32) &&& 31)).toInt8.toInt32)))]), (b73, oA .byte [(.int (nar .byte (a4.toInt8.toInt32))), (.int (nar .byte ((a4 >>> ((8 : Int32) &&& 31)).toInt8.toInt32)))]), (b3, oA .char [(.int (nar .char ((a1 &&& (255 : Int32)).toUInt32.toUInt16.toUInt32.toInt32)))])]) rfl ?_
      intro T B
      refine W_astore B (hb hby at_106) (pc' := 108) rfl rfl (ls' := #[.val (.int a1), .val (.long a2), .second, .val (.int a3), .val (.int a4), .val (.ref b3), .val (.ref b49), .val (.int (1 : Int32)), .val (.ref b73), .val (.ref b75), .unset, .unset, .unset, .unset]) rfl ?_
      refine W_iload B (hb hby at_108) (pc' := 110) rfl rfl ?_
      refine W_ifN B (hb hby at_110) (pc' := 113) rfl (by decide) ?_
      refine W_aconstNull B (hb hby at_113) (pc' := 114) rfl  ?_
      refine W_goto B (hb hby at_114) (by decide) (pc' := 119) (by decide) ?_
      refine W_astore B (hb hby at_119) (pc' := 121) rfl rfl (ls' := #[.val (.int a1), .val (.long a2), .second, .val (.int a3), .val (.int a4), .val (.ref b3), .val (.ref b49), .val (.int (1 : Int32)), .val (.ref b73), .val (.ref b75), .val .null, .unset, .unset, .unset]) rfl ?_
      refine W_new B hown (ow hw (i := 9) rfl) (ow hw (i := 10) rfl) (ow hw (i := 11) rfl) (hb hby at_121) (pc' := 124) rfl (by decide) (cells' := 6) rfl (slots' := 12) rfl (fs := [(fk0, .null), (fk1, (.long (0 : Int64))), (fk2, .null)]) (oAll_cons ⟨Or.inr (ow hw (i := 24) rfl), (.object "java/lang/String"), by decide, rfl⟩ (oAll_cons ⟨Or.inr (ow hw (i := 26) rfl), .long, by decide, rfl⟩ (oAll_cons ⟨Or.inr (ow hw (i := 28) rfl), (.array .byte), by decide, rfl⟩ oAll_nil))) (by decide) ?_
      intro T b76 B
      refine W_dup B (hb hby at_124) (pc' := 125) rfl rfl ?_
      refine W_aload B (hb hby at_125) (pc' := 127) rfl rfl rfl ?_
      refine W_lloadN B (hb hby at_127) (pc' := 128) rfl rfl ?_
      refine W_aload B (hb hby at_128) (pc' := 130) rfl rfl rfl ?_
      refine W_init B (y := (⟨"com/example/mitosis/mitosis/core/Change", "<init>", "(Ljava/lang/String;J[B)V"⟩ : MethodName)) hown rfl (ow hw (i := 12) rfl) (ow hw (i := 13) rfl) (ow hw (i := 11) rfl) (ow hw (i := 14) rfl) (by decide) (a := b76) (rm_inin l Z a0 hw h0 b76 b49 a2 [(b75, oA .byte [(.int (nar .byte ((a4 >>> ((16 : Int32) &&& 31)).toInt8.toInt32)))]), (b73, oA .byte [(.int (nar .byte (a4.toInt8.toInt32))), (.int (nar .byte ((a4 >>> ((8 : Int32) &&& 31)).toInt8.toInt32)))]), (b3, oA .char [(.int (nar .char ((a1 &&& (255 : Int32)).toUInt32.toUInt16.toUInt32.toInt32)))])]) (lenOf pd_1 rfl) (hb hby at_130) (pc' := 133) rfl (argsL := [(.ref b49), (.long a2), .null]) (rest := [(.ref b76)]) rfl (by rw [hml]; rfl) (W := 1) (oLe rfl) (by decide) (cells' := 6) rfl (slots' := 12) rfl ?_
      intro T v_ d_ q_ B
      obtain ⟨rfl, rfl⟩ := q_
      show oWin p e below Z h0 _ _ (T.setTop (mkF m 133 #[.val (.int a1), .val (.long a2), .second, .val (.int a3), .val (.int a4), .val (.ref b3), .val (.ref b49), .val (.int (1 : Int32)), .val (.ref b73), .val (.ref b75), .val .null, .unset, .unset, .unset] [(.ref b76)]))
      refine W_astore B (hb hby at_133) (pc' := 135) rfl rfl (ls' := #[.val (.int a1), .val (.long a2), .second, .val (.int a3), .val (.int a4), .val (.ref b3), .val (.ref b49), .val (.int (1 : Int32)), .val (.ref b73), .val (.ref b75), .val .null, .val (.ref b76), .unset, .unset]) rfl ?_
      refine W_aload B (hb hby at_135) (pc' := 137) rfl rfl rfl ?_
      refine W_lloadN B (hb hby at_137) (pc' := 138) rfl rfl ?_
      refine W_callS B (y := (⟨"com/example/mitosis/mitosis/core/Change", "delete", "(Ljava/lang/String;J)Lcom/example/mitosis/mitosis/core/Change;"⟩ : MethodName)) hown (ow hw (i := 29) rfl) (ow hw (i := 30) rfl) (ow hw (i := 11) rfl) (ow hw (i := 31) rfl) (by decide) (rm_del l Z a0 hw h0 b49 a2 [(b76, oO cn0 [(fk0, (.ref b49)), (fk1, (.long a2)), (fk2, .null)]), (b75, oA .byte [(.int (nar .byte ((a4 >>> ((16 : Int32) &&& 31)).toInt8.toInt32)))]), (b73, oA .byte [(.int (nar .byte (a4.toInt8.toInt32))), (.int (nar .byte ((a4 >>> ((8 : Int32) &&& 31)).toInt8.toInt32)))]), (b3, oA .char [(.int (nar .char ((a1 &&& (255 : Int32)).toUInt32.toUInt16.toUInt32.toInt32)))])]) (lenOf pd_2 rfl) (hb hby at_138) (pc' := 141) rfl (argsL := [(.ref b49), (.long a2)]) (rest := []) rfl (by rw [hml]; rfl) (W := 0) (oLe rfl) (by decide) (cells' := 7) rfl (slots' := 15) rfl ?_
      intro T v_ d_ q_ B
      obtain ⟨b77, rfl, rfl⟩ := q_
      show oWin p e below Z h0 _ _ (T.setTop (mkF m 141 #[.val (.int a1), .val (.long a2), .second, .val (.int a3), .val (.int a4), .val (.ref b3), .val (.ref b49), .val (.int (1 : Int32)), .val (.ref b73), .val (.ref b75), .val .null, .val (.ref b76), .unset, .unset] [(.ref b77)]))
      refine W_astore B (hb hby at_141) (pc' := 143) rfl rfl (ls' := #[.val (.int a1), .val (.long a2), .second, .val (.int a3), .val (.int a4), .val (.ref b3), .val (.ref b49), .val (.int (1 : Int32)), .val (.ref b73), .val (.ref b75), .val .null, .val (.ref b76), .val (.ref b77), .unset]) rfl ?_
      refine W_aload B (hb hby at_143) (pc' := 145) rfl rfl rfl ?_
      refine W_lloadN B (hb hby at_145) (pc' := 146) rfl rfl ?_
      refine W_aload B (hb hby at_146) (pc' := 148) rfl rfl rfl ?_
      refine W_callS B (y := (⟨"com/example/mitosis/mitosis/core/Change", "put", "(Ljava/lang/String;J[B)Lcom/example/mitosis/mitosis/core/Change;"⟩ : MethodName)) hown (ow hw (i := 34) rfl) (ow hw (i := 35) rfl) (ow hw (i := 11) rfl) (ow hw (i := 36) rfl) (by decide) (rm_put l Z a0 hw h0 b49 a2 b75 [(b77, oO cn0 [(fk0, (.ref b49)), (fk1, (.long a2)), (fk2, .null)]), (b76, oO cn0 [(fk0, (.ref b49)), (fk1, (.long a2)), (fk2, .null)]), (b75, oA .byte [(.int (nar .byte ((a4 >>> ((16 : Int32) &&& 31)).toInt8.toInt32)))]), (b73, oA .byte [(.int (nar .byte (a4.toInt8.toInt32))), (.int (nar .byte ((a4 >>> ((8 : Int32) &&& 31)).toInt8.toInt32)))]), (b3, oA .char [(.int (nar .char ((a1 &&& (255 : Int32)).toUInt32.toUInt16.toUInt32.toInt32)))])]) (lenOf pd_3 rfl) (hb hby at_148) (pc' := 151) rfl (argsL := [(.ref b49), (.long a2), (.ref b75)]) (rest := []) rfl (by rw [hml]; rfl) (W := 0) (oLe rfl) (by decide) (cells' := 8) rfl (slots' := 18) rfl ?_
      intro T v_ d_ q_ B
      obtain ⟨b78, rfl, rfl⟩ := q_
      show oWin p e below Z h0 _ _ (T.setTop (mkF m 151 #[.val (.int a1), .val (.long a2), .second, .val (.int a3), .val (.int a4), .val (.ref b3), .val (.ref b49), .val (.int (1 : Int32)), .val (.ref b73), .val (.ref b75), .val .null, .val (.ref b76), .val (.ref b77), .unset] [(.ref b78)]))
      refine W_astore B (hb hby at_151) (pc' := 153) rfl rfl (ls' := #[.val (.int a1), .val (.long a2), .second, .val (.int a3), .val (.int a4), .val (.ref b3), .val (.ref b49), .val (.int (1 : Int32)), .val (.ref b73), .val (.ref b75), .val .null, .val (.ref b76), .val (.ref b77), .val (.ref b78)]) rfl ?_
      refine W_aload B (hb hby at_153) (pc' := 155) rfl rfl rfl ?_
      refine W_virtual B (y := (⟨"com/example/mitosis/mitosis/core/Change", "isDelete", "()Z"⟩ : MethodName)) (z := (⟨"com/example/mitosis/mitosis/core/Change", "isDelete", "()Z"⟩ : MethodName)) hown (ow hw (i := 37) rfl) (ow hw (i := 38) rfl) (oNotFace B (ow hw (i := 40) rfl) rfl) (ow hw (i := 40) rfl) (ow hw (i := 39) rfl) (ow hw (i := 11) rfl) (ow hw (i := 41) rfl) (by decide) (a := b76) (rm_isd2n l Z a0 hw h0 b76 b49 a2 (b78, oO cn0 [(fk0, (.ref b49)), (fk1, (.long a2)), (fk2, (.ref b75))]) (b77, oO cn0 [(fk0, (.ref b49)), (fk1, (.long a2)), (fk2, .null)]) [(b75, oA .byte [(.int (nar .byte ((a4 >>> ((16 : Int32) &&& 31)).toInt8.toInt32)))]), (b73, oA .byte [(.int (nar .byte (a4.toInt8.toInt32))), (.int (nar .byte ((a4 >>> ((8 : Int32) &&& 31)).toInt8.toInt32)))]), (b3, oA .char [(.int (nar .char ((a1 &&& (255 : Int32)).toUInt32.toUInt16.toUInt32.toInt32)))])]) (lenOf pd_4 rfl) (hb hby at_155) (pc' := 158) rfl (argsL := []) (rest := []) rfl (by rw [hml]; rfl) (W := 0) (oLe rfl) (j := 2) rfl (by decide) (cells' := 8) rfl (slots' := 18) rfl ?_
      intro T v_ d_ q_ B
      obtain ⟨rfl, rfl⟩ := q_
      show oWin p e below Z h0 _ _ (T.setTop (mkF m 158 #[.val (.int a1), .val (.long a2), .second, .val (.int a3), .val (.int a4), .val (.ref b3), .val (.ref b49), .val (.int (1 : Int32)), .val (.ref b73), .val (.ref b75), .val .null, .val (.ref b76), .val (.ref b77), .val (.ref b78)] [(.int (1 : Int32))]))
      refine W_iload B (hb hby at_158) (pc' := 160) rfl rfl ?_
      refine W_icmpN B (hb hby at_160) (pc' := 163) rfl (by decide) ?_
      refine W_aload B (hb hby at_163) (pc' := 165) rfl rfl rfl ?_
      refine W_virtual B (y := (⟨"com/example/mitosis/mitosis/core/Change", "isDelete", "()Z"⟩ : MethodName)) (z := (⟨"com/example/mitosis/mitosis/core/Change", "isDelete", "()Z"⟩ : MethodName)) hown (ow hw (i := 37) rfl) (ow hw (i := 38) rfl) (oNotFace B (ow hw (i := 40) rfl) rfl) (ow hw (i := 40) rfl) (ow hw (i := 39) rfl) (ow hw (i := 11) rfl) (ow hw (i := 41) rfl) (by decide) (a := b77) (rm_isd1n l Z a0 hw h0 b77 b49 a2 (b78, oO cn0 [(fk0, (.ref b49)), (fk1, (.long a2)), (fk2, (.ref b75))]) [(b76, oO cn0 [(fk0, (.ref b49)), (fk1, (.long a2)), (fk2, .null)]), (b75, oA .byte [(.int (nar .byte ((a4 >>> ((16 : Int32) &&& 31)).toInt8.toInt32)))]), (b73, oA .byte [(.int (nar .byte (a4.toInt8.toInt32))), (.int (nar .byte ((a4 >>> ((8 : Int32) &&& 31)).toInt8.toInt32)))]), (b3, oA .char [(.int (nar .char ((a1 &&& (255 : Int32)).toUInt32.toUInt16.toUInt32.toInt32)))])]) (lenOf pd_4 rfl) (hb hby at_165) (pc' := 168) rfl (argsL := []) (rest := []) rfl (by rw [hml]; rfl) (W := 0) (oLe rfl) (j := 1) rfl (by decide) (cells' := 8) rfl (slots' := 18) rfl ?_
      intro T v_ d_ q_ B
      obtain ⟨rfl, rfl⟩ := q_
      show oWin p e below Z h0 _ _ (T.setTop (mkF m 168 #[.val (.int a1), .val (.long a2), .second, .val (.int a3), .val (.int a4), .val (.ref b3), .val (.ref b49), .val (.int (1 : Int32)), .val (.ref b73), .val (.ref b75), .val .null, .val (.ref b76), .val (.ref b77), .val (.ref b78)] [(.int (1 : Int32))]))
      refine W_ifN B (hb hby at_168) (pc' := 171) rfl (by decide) ?_
      refine W_aload B (hb hby at_171) (pc' := 173) rfl rfl rfl ?_
      refine W_virtual B (y := (⟨"com/example/mitosis/mitosis/core/Change", "isDelete", "()Z"⟩ : MethodName)) (z := (⟨"com/example/mitosis/mitosis/core/Change", "isDelete", "()Z"⟩ : MethodName)) hown (ow hw (i := 37) rfl) (ow hw (i := 38) rfl) (oNotFace B (ow hw (i := 40) rfl) rfl) (ow hw (i := 40) rfl) (ow hw (i := 39) rfl) (ow hw (i := 11) rfl) (ow hw (i := 41) rfl) (by decide) (a := b78) (rm_isd0a l Z a0 hw h0 b78 b49 a2 b75  [(b77, oO cn0 [(fk0, (.ref b49)), (fk1, (.long a2)), (fk2, .null)]), (b76, oO cn0 [(fk0, (.ref b49)), (fk1, (.long a2)), (fk2, .null)]), (b75, oA .byte [(.int (nar .byte ((a4 >>> ((16 : Int32) &&& 31)).toInt8.toInt32)))]), (b73, oA .byte [(.int (nar .byte (a4.toInt8.toInt32))), (.int (nar .byte ((a4 >>> ((8 : Int32) &&& 31)).toInt8.toInt32)))]), (b3, oA .char [(.int (nar .char ((a1 &&& (255 : Int32)).toUInt32.toUInt16.toUInt32.toInt32)))])]) (lenOf pd_4 rfl) (hb hby at_173) (pc' := 176) rfl (argsL := []) (rest := []) rfl (by rw [hml]; rfl) (W := 0) (oLe rfl) (j := 0) rfl (by decide) (cells' := 8) rfl (slots' := 18) rfl ?_
      intro T v_ d_ q_ B
      obtain ⟨rfl, rfl⟩ := q_
      show oWin p e below Z h0 _ _ (T.setTop (mkF m 176 #[.val (.int a1), .val (.long a2), .second, .val (.int a3), .val (.int a4), .val (.ref b3), .val (.ref b49), .val (.int (1 : Int32)), .val (.ref b73), .val (.ref b75), .val .null, .val (.ref b76), .val (.ref b77), .val (.ref b78)] [(.int (0 : Int32))]))
      refine W_ifN B (hb hby at_176) (pc' := 179) rfl (by decide) ?_
      refine W_iconst B (hb hby at_179) (pc' := 180) rfl (z := (1 : Int32)) (by decide) ?_
      refine W_goto B (hb hby at_180) (by decide) (pc' := 184) (by decide) ?_
      refine W_retNW B hS hret (by simp) (hb hby at_184) (by decide) ?_
      rfl
    refine W_iconst B (hb hby at_88) (pc' := 89) rfl (z := (0 : Int32)) (by decide) ?_
    refine W_newarray B (ow hw (i := 4) rfl) (hb hby at_89) (pc' := 91) rfl (by decide) (cap := 0) (by decide) (by decide) (cells' := 5) rfl (slots' := 8) rfl (vs := []) rfl (ty := .byte) rfl ?_
    intro T b79 B
    refine W_goto B (hb hby at_91) (by decide) (pc' := 106) (by decide) ?_
    refine W_astore B (hb hby at_106) (pc' := 108) rfl rfl (ls' := #[.val (.int a1), .val (.long a2), .second, .val (.int a3), .val (.int a4), .val (.ref b3), .val (.ref b49), .val (.int (1 : Int32)), .val (.ref b73), .val (.ref b79), .unset, .unset, .unset, .unset]) rfl ?_
    refine W_iload B (hb hby at_108) (pc' := 110) rfl rfl ?_
    refine W_ifN B (hb hby at_110) (pc' := 113) rfl (by decide) ?_
    refine W_aconstNull B (hb hby at_113) (pc' := 114) rfl  ?_
    refine W_goto B (hb hby at_114) (by decide) (pc' := 119) (by decide) ?_
    refine W_astore B (hb hby at_119) (pc' := 121) rfl rfl (ls' := #[.val (.int a1), .val (.long a2), .second, .val (.int a3), .val (.int a4), .val (.ref b3), .val (.ref b49), .val (.int (1 : Int32)), .val (.ref b73), .val (.ref b79), .val .null, .unset, .unset, .unset]) rfl ?_
    refine W_new B hown (ow hw (i := 9) rfl) (ow hw (i := 10) rfl) (ow hw (i := 11) rfl) (hb hby at_121) (pc' := 124) rfl (by decide) (cells' := 6) rfl (slots' := 11) rfl (fs := [(fk0, .null), (fk1, (.long (0 : Int64))), (fk2, .null)]) (oAll_cons ⟨Or.inr (ow hw (i := 24) rfl), (.object "java/lang/String"), by decide, rfl⟩ (oAll_cons ⟨Or.inr (ow hw (i := 26) rfl), .long, by decide, rfl⟩ (oAll_cons ⟨Or.inr (ow hw (i := 28) rfl), (.array .byte), by decide, rfl⟩ oAll_nil))) (by decide) ?_
    intro T b80 B
    refine W_dup B (hb hby at_124) (pc' := 125) rfl rfl ?_
    refine W_aload B (hb hby at_125) (pc' := 127) rfl rfl rfl ?_
    refine W_lloadN B (hb hby at_127) (pc' := 128) rfl rfl ?_
    refine W_aload B (hb hby at_128) (pc' := 130) rfl rfl rfl ?_
    refine W_init B (y := (⟨"com/example/mitosis/mitosis/core/Change", "<init>", "(Ljava/lang/String;J[B)V"⟩ : MethodName)) hown rfl (ow hw (i := 12) rfl) (ow hw (i := 13) rfl) (ow hw (i := 11) rfl) (ow hw (i := 14) rfl) (by decide) (a := b80) (rm_inin l Z a0 hw h0 b80 b49 a2 [(b79, oA .byte []), (b73, oA .byte [(.int (nar .byte (a4.toInt8.toInt32))), (.int (nar .byte ((a4 >>> ((8 : Int32) &&& 31)).toInt8.toInt32)))]), (b3, oA .char [(.int (nar .char ((a1 &&& (255 : Int32)).toUInt32.toUInt16.toUInt32.toInt32)))])]) (lenOf pd_1 rfl) (hb hby at_130) (pc' := 133) rfl (argsL := [(.ref b49), (.long a2), .null]) (rest := [(.ref b80)]) rfl (by rw [hml]; rfl) (W := 1) (oLe rfl) (by decide) (cells' := 6) rfl (slots' := 11) rfl ?_
    intro T v_ d_ q_ B
    obtain ⟨rfl, rfl⟩ := q_
    show oWin p e below Z h0 _ _ (T.setTop (mkF m 133 #[.val (.int a1), .val (.long a2), .second, .val (.int a3), .val (.int a4), .val (.ref b3), .val (.ref b49), .val (.int (1 : Int32)), .val (.ref b73), .val (.ref b79), .val .null, .unset, .unset, .unset] [(.ref b80)]))
    refine W_astore B (hb hby at_133) (pc' := 135) rfl rfl (ls' := #[.val (.int a1), .val (.long a2), .second, .val (.int a3), .val (.int a4), .val (.ref b3), .val (.ref b49), .val (.int (1 : Int32)), .val (.ref b73), .val (.ref b79), .val .null, .val (.ref b80), .unset, .unset]) rfl ?_
    refine W_aload B (hb hby at_135) (pc' := 137) rfl rfl rfl ?_
    refine W_lloadN B (hb hby at_137) (pc' := 138) rfl rfl ?_
    refine W_callS B (y := (⟨"com/example/mitosis/mitosis/core/Change", "delete", "(Ljava/lang/String;J)Lcom/example/mitosis/mitosis/core/Change;"⟩ : MethodName)) hown (ow hw (i := 29) rfl) (ow hw (i := 30) rfl) (ow hw (i := 11) rfl) (ow hw (i := 31) rfl) (by decide) (rm_del l Z a0 hw h0 b49 a2 [(b80, oO cn0 [(fk0, (.ref b49)), (fk1, (.long a2)), (fk2, .null)]), (b79, oA .byte []), (b73, oA .byte [(.int (nar .byte (a4.toInt8.toInt32))), (.int (nar .byte ((a4 >>> ((8 : Int32) &&& 31)).toInt8.toInt32)))]), (b3, oA .char [(.int (nar .char ((a1 &&& (255 : Int32)).toUInt32.toUInt16.toUInt32.toInt32)))])]) (lenOf pd_2 rfl) (hb hby at_138) (pc' := 141) rfl (argsL := [(.ref b49), (.long a2)]) (rest := []) rfl (by rw [hml]; rfl) (W := 0) (oLe rfl) (by decide) (cells' := 7) rfl (slots' := 14) rfl ?_
    intro T v_ d_ q_ B
    obtain ⟨b81, rfl, rfl⟩ := q_
    show oWin p e below Z h0 _ _ (T.setTop (mkF m 141 #[.val (.int a1), .val (.long a2), .second, .val (.int a3), .val (.int a4), .val (.ref b3), .val (.ref b49), .val (.int (1 : Int32)), .val (.ref b73), .val (.ref b79), .val .null, .val (.ref b80), .unset, .unset] [(.ref b81)]))
    refine W_astore B (hb hby at_141) (pc' := 143) rfl rfl (ls' := #[.val (.int a1), .val (.long a2), .second, .val (.int a3), .val (.int a4), .val (.ref b3), .val (.ref b49), .val (.int (1 : Int32)), .val (.ref b73), .val (.ref b79), .val .null, .val (.ref b80), .val (.ref b81), .unset]) rfl ?_
    refine W_aload B (hb hby at_143) (pc' := 145) rfl rfl rfl ?_
    refine W_lloadN B (hb hby at_145) (pc' := 146) rfl rfl ?_
    refine W_aload B (hb hby at_146) (pc' := 148) rfl rfl rfl ?_
    refine W_callS B (y := (⟨"com/example/mitosis/mitosis/core/Change", "put", "(Ljava/lang/String;J[B)Lcom/example/mitosis/mitosis/core/Change;"⟩ : MethodName)) hown (ow hw (i := 34) rfl) (ow hw (i := 35) rfl) (ow hw (i := 11) rfl) (ow hw (i := 36) rfl) (by decide) (rm_put l Z a0 hw h0 b49 a2 b79 [(b81, oO cn0 [(fk0, (.ref b49)), (fk1, (.long a2)), (fk2, .null)]), (b80, oO cn0 [(fk0, (.ref b49)), (fk1, (.long a2)), (fk2, .null)]), (b79, oA .byte []), (b73, oA .byte [(.int (nar .byte (a4.toInt8.toInt32))), (.int (nar .byte ((a4 >>> ((8 : Int32) &&& 31)).toInt8.toInt32)))]), (b3, oA .char [(.int (nar .char ((a1 &&& (255 : Int32)).toUInt32.toUInt16.toUInt32.toInt32)))])]) (lenOf pd_3 rfl) (hb hby at_148) (pc' := 151) rfl (argsL := [(.ref b49), (.long a2), (.ref b79)]) (rest := []) rfl (by rw [hml]; rfl) (W := 0) (oLe rfl) (by decide) (cells' := 8) rfl (slots' := 17) rfl ?_
    intro T v_ d_ q_ B
    obtain ⟨b82, rfl, rfl⟩ := q_
    show oWin p e below Z h0 _ _ (T.setTop (mkF m 151 #[.val (.int a1), .val (.long a2), .second, .val (.int a3), .val (.int a4), .val (.ref b3), .val (.ref b49), .val (.int (1 : Int32)), .val (.ref b73), .val (.ref b79), .val .null, .val (.ref b80), .val (.ref b81), .unset] [(.ref b82)]))
    refine W_astore B (hb hby at_151) (pc' := 153) rfl rfl (ls' := #[.val (.int a1), .val (.long a2), .second, .val (.int a3), .val (.int a4), .val (.ref b3), .val (.ref b49), .val (.int (1 : Int32)), .val (.ref b73), .val (.ref b79), .val .null, .val (.ref b80), .val (.ref b81), .val (.ref b82)]) rfl ?_
    refine W_aload B (hb hby at_153) (pc' := 155) rfl rfl rfl ?_
    refine W_virtual B (y := (⟨"com/example/mitosis/mitosis/core/Change", "isDelete", "()Z"⟩ : MethodName)) (z := (⟨"com/example/mitosis/mitosis/core/Change", "isDelete", "()Z"⟩ : MethodName)) hown (ow hw (i := 37) rfl) (ow hw (i := 38) rfl) (oNotFace B (ow hw (i := 40) rfl) rfl) (ow hw (i := 40) rfl) (ow hw (i := 39) rfl) (ow hw (i := 11) rfl) (ow hw (i := 41) rfl) (by decide) (a := b80) (rm_isd2n l Z a0 hw h0 b80 b49 a2 (b82, oO cn0 [(fk0, (.ref b49)), (fk1, (.long a2)), (fk2, (.ref b79))]) (b81, oO cn0 [(fk0, (.ref b49)), (fk1, (.long a2)), (fk2, .null)]) [(b79, oA .byte []), (b73, oA .byte [(.int (nar .byte (a4.toInt8.toInt32))), (.int (nar .byte ((a4 >>> ((8 : Int32) &&& 31)).toInt8.toInt32)))]), (b3, oA .char [(.int (nar .char ((a1 &&& (255 : Int32)).toUInt32.toUInt16.toUInt32.toInt32)))])]) (lenOf pd_4 rfl) (hb hby at_155) (pc' := 158) rfl (argsL := []) (rest := []) rfl (by rw [hml]; rfl) (W := 0) (oLe rfl) (j := 2) rfl (by decide) (cells' := 8) rfl (slots' := 17) rfl ?_
    intro T v_ d_ q_ B
    obtain ⟨rfl, rfl⟩ := q_
    show oWin p e below Z h0 _ _ (T.setTop (mkF m 158 #[.val (.int a1), .val (.long a2), .second, .val (.int a3), .val (.int a4), .val (.ref b3), .val (.ref b49), .val (.int (1 : Int32)), .val (.ref b73), .val (.ref b79), .val .null, .val (.ref b80), .val (.ref b81), .val (.ref b82)] [(.int (1 : Int32))]))
    refine W_iload B (hb hby at_158) (pc' := 160) rfl rfl ?_
    refine W_icmpN B (hb hby at_160) (pc' := 163) rfl (by decide) ?_
    refine W_aload B (hb hby at_163) (pc' := 165) rfl rfl rfl ?_
    refine W_virtual B (y := (⟨"com/example/mitosis/mitosis/core/Change", "isDelete", "()Z"⟩ : MethodName)) (z := (⟨"com/example/mitosis/mitosis/core/Change", "isDelete", "()Z"⟩ : MethodName)) hown (ow hw (i := 37) rfl) (ow hw (i := 38) rfl) (oNotFace B (ow hw (i := 40) rfl) rfl) (ow hw (i := 40) rfl) (ow hw (i := 39) rfl) (ow hw (i := 11) rfl) (ow hw (i := 41) rfl) (by decide) (a := b81) (rm_isd1n l Z a0 hw h0 b81 b49 a2 (b82, oO cn0 [(fk0, (.ref b49)), (fk1, (.long a2)), (fk2, (.ref b79))]) [(b80, oO cn0 [(fk0, (.ref b49)), (fk1, (.long a2)), (fk2, .null)]), (b79, oA .byte []), (b73, oA .byte [(.int (nar .byte (a4.toInt8.toInt32))), (.int (nar .byte ((a4 >>> ((8 : Int32) &&& 31)).toInt8.toInt32)))]), (b3, oA .char [(.int (nar .char ((a1 &&& (255 : Int32)).toUInt32.toUInt16.toUInt32.toInt32)))])]) (lenOf pd_4 rfl) (hb hby at_165) (pc' := 168) rfl (argsL := []) (rest := []) rfl (by rw [hml]; rfl) (W := 0) (oLe rfl) (j := 1) rfl (by decide) (cells' := 8) rfl (slots' := 17) rfl ?_
    intro T v_ d_ q_ B
    obtain ⟨rfl, rfl⟩ := q_
    show oWin p e below Z h0 _ _ (T.setTop (mkF m 168 #[.val (.int a1), .val (.long a2), .second, .val (.int a3), .val (.int a4), .val (.ref b3), .val (.ref b49), .val (.int (1 : Int32)), .val (.ref b73), .val (.ref b79), .val .null, .val (.ref b80), .val (.ref b81), .val (.ref b82)] [(.int (1 : Int32))]))
    refine W_ifN B (hb hby at_168) (pc' := 171) rfl (by decide) ?_
    refine W_aload B (hb hby at_171) (pc' := 173) rfl rfl rfl ?_
    refine W_virtual B (y := (⟨"com/example/mitosis/mitosis/core/Change", "isDelete", "()Z"⟩ : MethodName)) (z := (⟨"com/example/mitosis/mitosis/core/Change", "isDelete", "()Z"⟩ : MethodName)) hown (ow hw (i := 37) rfl) (ow hw (i := 38) rfl) (oNotFace B (ow hw (i := 40) rfl) rfl) (ow hw (i := 40) rfl) (ow hw (i := 39) rfl) (ow hw (i := 11) rfl) (ow hw (i := 41) rfl) (by decide) (a := b82) (rm_isd0a l Z a0 hw h0 b82 b49 a2 b79  [(b81, oO cn0 [(fk0, (.ref b49)), (fk1, (.long a2)), (fk2, .null)]), (b80, oO cn0 [(fk0, (.ref b49)), (fk1, (.long a2)), (fk2, .null)]), (b79, oA .byte []), (b73, oA .byte [(.int (nar .byte (a4.toInt8.toInt32))), (.int (nar .byte ((a4 >>> ((8 : Int32) &&& 31)).toInt8.toInt32)))]), (b3, oA .char [(.int (nar .char ((a1 &&& (255 : Int32)).toUInt32.toUInt16.toUInt32.toInt32)))])]) (lenOf pd_4 rfl) (hb hby at_173) (pc' := 176) rfl (argsL := []) (rest := []) rfl (by rw [hml]; rfl) (W := 0) (oLe rfl) (j := 0) rfl (by decide) (cells' := 8) rfl (slots' := 17) rfl ?_
    intro T v_ d_ q_ B
    obtain ⟨rfl, rfl⟩ := q_
    show oWin p e below Z h0 _ _ (T.setTop (mkF m 176 #[.val (.int a1), .val (.long a2), .second, .val (.int a3), .val (.int a4), .val (.ref b3), .val (.ref b49), .val (.int (1 : Int32)), .val (.ref b73), .val (.ref b79), .val .null, .val (.ref b80), .val (.ref b81), .val (.ref b82)] [(.int (0 : Int32))]))
    refine W_ifN B (hb hby at_176) (pc' := 179) rfl (by decide) ?_
    refine W_iconst B (hb hby at_179) (pc' := 180) rfl (z := (1 : Int32)) (by decide) ?_
    refine W_goto B (hb hby at_180) (by decide) (pc' := 184) (by decide) ?_
    refine W_retNW B hS hret (by simp) (hb hby at_184) (by decide) ?_
    rfl
  refine W_iconst B (hb hby at_56) (pc' := 57) rfl (z := (0 : Int32)) (by decide) ?_
  refine W_newarray B (ow hw (i := 4) rfl) (hb hby at_57) (pc' := 59) rfl (by decide) (cap := 0) (by decide) (by decide) (cells' := 4) rfl (slots' := 6) rfl (vs := []) rfl (ty := .byte) rfl ?_
  intro T b83 B
  refine W_goto B (hb hby at_59) (by decide) (pc' := 80) (by decide) ?_
  refine W_astore B (hb hby at_80) (pc' := 82) rfl rfl (ls' := #[.val (.int a1), .val (.long a2), .second, .val (.int a3), .val (.int a4), .val (.ref b3), .val (.ref b49), .val (.int (1 : Int32)), .val (.ref b83), .unset, .unset, .unset, .unset, .unset]) rfl ?_
  refine W_iloadN B (hb hby at_82) (pc' := 83) rfl rfl ?_
  refine W_iconst B (hb hby at_83) (pc' := 84) rfl (z := (4 : Int32)) (by decide) ?_
  refine W_iand B (hb hby at_84) (pc' := 85) rfl (z := (a3 &&& (4 : Int32))) rfl ?_
  refine W_if_eq B (hb hby at_85) (by decide) (pt := 94) (by decide) (pc' := 88) rfl (fun (c84 : (a3 &&& (4 : Int32)) = (0 : Int32)) => ?_) (fun (c84 : ¬ (a3 &&& (4 : Int32)) = (0 : Int32)) => ?_)
  · refine W_iconst B (hb hby at_94) (pc' := 95) rfl (z := (1 : Int32)) (by decide) ?_
    refine W_newarray B (ow hw (i := 4) rfl) (hb hby at_95) (pc' := 97) rfl (by decide) (cap := 1) (by decide) (by decide) (cells' := 5) rfl (slots' := 7) rfl (vs := [(.int (0 : Int32))]) rfl (ty := .byte) rfl ?_
    intro T b85 B
    refine W_dup B (hb hby at_97) (pc' := 98) rfl rfl ?_
    refine W_iconst B (hb hby at_98) (pc' := 99) rfl (z := (0 : Int32)) (by decide) ?_
    refine W_iload B (hb hby at_99) (pc' := 101) rfl rfl ?_
    refine W_bipush B (hb hby at_101) (pc' := 103) rfl (z := (16 : Int32)) (by decide) ?_
    refine W_ishr B (hb hby at_103) (pc' := 104) rfl (z := (a4 >>> ((16 : Int32) &&& 31))) rfl ?_
    refine W_i2b B (hb hby at_104) (pc' := 105) rfl (z := ((a4 >>> ((16 : Int32) &&& 31)).toInt8.toInt32)) rfl ?_
    refine W_bastore B (hb hby at_105) (pc' := 106) rfl (i := 0) rfl (by decide) (oLt rfl) (ds' := [(b85, oA .byte [(.int (nar .byte ((a4 >>> ((16 : Int32) &&& 31)).toInt8.toInt32)))]), (b83, oA .byte []), (b3, oA .char [(.int (nar .char ((a1 &&& (255 : Int32)).toUInt32.toUInt16.toUInt32.toInt32)))])]) rfl ?_
    intro T B
    refine W_astore B (hb hby at_106) (pc' := 108) rfl rfl (ls' := #[.val (.int a1), .val (.long a2), .second, .val (.int a3), .val (.int a4), .val (.ref b3), .val (.ref b49), .val (.int (1 : Int32)), .val (.ref b83), .val (.ref b85), .unset, .unset, .unset, .unset]) rfl ?_
    refine W_iload B (hb hby at_108) (pc' := 110) rfl rfl ?_
    refine W_ifN B (hb hby at_110) (pc' := 113) rfl (by decide) ?_
    refine W_aconstNull B (hb hby at_113) (pc' := 114) rfl  ?_
    refine W_goto B (hb hby at_114) (by decide) (pc' := 119) (by decide) ?_
    refine W_astore B (hb hby at_119) (pc' := 121) rfl rfl (ls' := #[.val (.int a1), .val (.long a2), .second, .val (.int a3), .val (.int a4), .val (.ref b3), .val (.ref b49), .val (.int (1 : Int32)), .val (.ref b83), .val (.ref b85), .val .null, .unset, .unset, .unset]) rfl ?_
    refine W_new B hown (ow hw (i := 9) rfl) (ow hw (i := 10) rfl) (ow hw (i := 11) rfl) (hb hby at_121) (pc' := 124) rfl (by decide) (cells' := 6) rfl (slots' := 10) rfl (fs := [(fk0, .null), (fk1, (.long (0 : Int64))), (fk2, .null)]) (oAll_cons ⟨Or.inr (ow hw (i := 24) rfl), (.object "java/lang/String"), by decide, rfl⟩ (oAll_cons ⟨Or.inr (ow hw (i := 26) rfl), .long, by decide, rfl⟩ (oAll_cons ⟨Or.inr (ow hw (i := 28) rfl), (.array .byte), by decide, rfl⟩ oAll_nil))) (by decide) ?_
    intro T b86 B
    refine W_dup B (hb hby at_124) (pc' := 125) rfl rfl ?_
    refine W_aload B (hb hby at_125) (pc' := 127) rfl rfl rfl ?_
    refine W_lloadN B (hb hby at_127) (pc' := 128) rfl rfl ?_
    refine W_aload B (hb hby at_128) (pc' := 130) rfl rfl rfl ?_
    refine W_init B (y := (⟨"com/example/mitosis/mitosis/core/Change", "<init>", "(Ljava/lang/String;J[B)V"⟩ : MethodName)) hown rfl (ow hw (i := 12) rfl) (ow hw (i := 13) rfl) (ow hw (i := 11) rfl) (ow hw (i := 14) rfl) (by decide) (a := b86) (rm_inin l Z a0 hw h0 b86 b49 a2 [(b85, oA .byte [(.int (nar .byte ((a4 >>> ((16 : Int32) &&& 31)).toInt8.toInt32)))]), (b83, oA .byte []), (b3, oA .char [(.int (nar .char ((a1 &&& (255 : Int32)).toUInt32.toUInt16.toUInt32.toInt32)))])]) (lenOf pd_1 rfl) (hb hby at_130) (pc' := 133) rfl (argsL := [(.ref b49), (.long a2), .null]) (rest := [(.ref b86)]) rfl (by rw [hml]; rfl) (W := 1) (oLe rfl) (by decide) (cells' := 6) rfl (slots' := 10) rfl ?_
    intro T v_ d_ q_ B
    obtain ⟨rfl, rfl⟩ := q_
    show oWin p e below Z h0 _ _ (T.setTop (mkF m 133 #[.val (.int a1), .val (.long a2), .second, .val (.int a3), .val (.int a4), .val (.ref b3), .val (.ref b49), .val (.int (1 : Int32)), .val (.ref b83), .val (.ref b85), .val .null, .unset, .unset, .unset] [(.ref b86)]))
    refine W_astore B (hb hby at_133) (pc' := 135) rfl rfl (ls' := #[.val (.int a1), .val (.long a2), .second, .val (.int a3), .val (.int a4), .val (.ref b3), .val (.ref b49), .val (.int (1 : Int32)), .val (.ref b83), .val (.ref b85), .val .null, .val (.ref b86), .unset, .unset]) rfl ?_
    refine W_aload B (hb hby at_135) (pc' := 137) rfl rfl rfl ?_
    refine W_lloadN B (hb hby at_137) (pc' := 138) rfl rfl ?_
    refine W_callS B (y := (⟨"com/example/mitosis/mitosis/core/Change", "delete", "(Ljava/lang/String;J)Lcom/example/mitosis/mitosis/core/Change;"⟩ : MethodName)) hown (ow hw (i := 29) rfl) (ow hw (i := 30) rfl) (ow hw (i := 11) rfl) (ow hw (i := 31) rfl) (by decide) (rm_del l Z a0 hw h0 b49 a2 [(b86, oO cn0 [(fk0, (.ref b49)), (fk1, (.long a2)), (fk2, .null)]), (b85, oA .byte [(.int (nar .byte ((a4 >>> ((16 : Int32) &&& 31)).toInt8.toInt32)))]), (b83, oA .byte []), (b3, oA .char [(.int (nar .char ((a1 &&& (255 : Int32)).toUInt32.toUInt16.toUInt32.toInt32)))])]) (lenOf pd_2 rfl) (hb hby at_138) (pc' := 141) rfl (argsL := [(.ref b49), (.long a2)]) (rest := []) rfl (by rw [hml]; rfl) (W := 0) (oLe rfl) (by decide) (cells' := 7) rfl (slots' := 13) rfl ?_
    intro T v_ d_ q_ B
    obtain ⟨b87, rfl, rfl⟩ := q_
    show oWin p e below Z h0 _ _ (T.setTop (mkF m 141 #[.val (.int a1), .val (.long a2), .second, .val (.int a3), .val (.int a4), .val (.ref b3), .val (.ref b49), .val (.int (1 : Int32)), .val (.ref b83), .val (.ref b85), .val .null, .val (.ref b86), .unset, .unset] [(.ref b87)]))
    refine W_astore B (hb hby at_141) (pc' := 143) rfl rfl (ls' := #[.val (.int a1), .val (.long a2), .second, .val (.int a3), .val (.int a4), .val (.ref b3), .val (.ref b49), .val (.int (1 : Int32)), .val (.ref b83), .val (.ref b85), .val .null, .val (.ref b86), .val (.ref b87), .unset]) rfl ?_
    refine W_aload B (hb hby at_143) (pc' := 145) rfl rfl rfl ?_
    refine W_lloadN B (hb hby at_145) (pc' := 146) rfl rfl ?_
    refine W_aload B (hb hby at_146) (pc' := 148) rfl rfl rfl ?_
    refine W_callS B (y := (⟨"com/example/mitosis/mitosis/core/Change", "put", "(Ljava/lang/String;J[B)Lcom/example/mitosis/mitosis/core/Change;"⟩ : MethodName)) hown (ow hw (i := 34) rfl) (ow hw (i := 35) rfl) (ow hw (i := 11) rfl) (ow hw (i := 36) rfl) (by decide) (rm_put l Z a0 hw h0 b49 a2 b85 [(b87, oO cn0 [(fk0, (.ref b49)), (fk1, (.long a2)), (fk2, .null)]), (b86, oO cn0 [(fk0, (.ref b49)), (fk1, (.long a2)), (fk2, .null)]), (b85, oA .byte [(.int (nar .byte ((a4 >>> ((16 : Int32) &&& 31)).toInt8.toInt32)))]), (b83, oA .byte []), (b3, oA .char [(.int (nar .char ((a1 &&& (255 : Int32)).toUInt32.toUInt16.toUInt32.toInt32)))])]) (lenOf pd_3 rfl) (hb hby at_148) (pc' := 151) rfl (argsL := [(.ref b49), (.long a2), (.ref b85)]) (rest := []) rfl (by rw [hml]; rfl) (W := 0) (oLe rfl) (by decide) (cells' := 8) rfl (slots' := 16) rfl ?_
    intro T v_ d_ q_ B
    obtain ⟨b88, rfl, rfl⟩ := q_
    show oWin p e below Z h0 _ _ (T.setTop (mkF m 151 #[.val (.int a1), .val (.long a2), .second, .val (.int a3), .val (.int a4), .val (.ref b3), .val (.ref b49), .val (.int (1 : Int32)), .val (.ref b83), .val (.ref b85), .val .null, .val (.ref b86), .val (.ref b87), .unset] [(.ref b88)]))
    refine W_astore B (hb hby at_151) (pc' := 153) rfl rfl (ls' := #[.val (.int a1), .val (.long a2), .second, .val (.int a3), .val (.int a4), .val (.ref b3), .val (.ref b49), .val (.int (1 : Int32)), .val (.ref b83), .val (.ref b85), .val .null, .val (.ref b86), .val (.ref b87), .val (.ref b88)]) rfl ?_
    refine W_aload B (hb hby at_153) (pc' := 155) rfl rfl rfl ?_
    refine W_virtual B (y := (⟨"com/example/mitosis/mitosis/core/Change", "isDelete", "()Z"⟩ : MethodName)) (z := (⟨"com/example/mitosis/mitosis/core/Change", "isDelete", "()Z"⟩ : MethodName)) hown (ow hw (i := 37) rfl) (ow hw (i := 38) rfl) (oNotFace B (ow hw (i := 40) rfl) rfl) (ow hw (i := 40) rfl) (ow hw (i := 39) rfl) (ow hw (i := 11) rfl) (ow hw (i := 41) rfl) (by decide) (a := b86) (rm_isd2n l Z a0 hw h0 b86 b49 a2 (b88, oO cn0 [(fk0, (.ref b49)), (fk1, (.long a2)), (fk2, (.ref b85))]) (b87, oO cn0 [(fk0, (.ref b49)), (fk1, (.long a2)), (fk2, .null)]) [(b85, oA .byte [(.int (nar .byte ((a4 >>> ((16 : Int32) &&& 31)).toInt8.toInt32)))]), (b83, oA .byte []), (b3, oA .char [(.int (nar .char ((a1 &&& (255 : Int32)).toUInt32.toUInt16.toUInt32.toInt32)))])]) (lenOf pd_4 rfl) (hb hby at_155) (pc' := 158) rfl (argsL := []) (rest := []) rfl (by rw [hml]; rfl) (W := 0) (oLe rfl) (j := 2) rfl (by decide) (cells' := 8) rfl (slots' := 16) rfl ?_
    intro T v_ d_ q_ B
    obtain ⟨rfl, rfl⟩ := q_
    show oWin p e below Z h0 _ _ (T.setTop (mkF m 158 #[.val (.int a1), .val (.long a2), .second, .val (.int a3), .val (.int a4), .val (.ref b3), .val (.ref b49), .val (.int (1 : Int32)), .val (.ref b83), .val (.ref b85), .val .null, .val (.ref b86), .val (.ref b87), .val (.ref b88)] [(.int (1 : Int32))]))
    refine W_iload B (hb hby at_158) (pc' := 160) rfl rfl ?_
    refine W_icmpN B (hb hby at_160) (pc' := 163) rfl (by decide) ?_
    refine W_aload B (hb hby at_163) (pc' := 165) rfl rfl rfl ?_
    refine W_virtual B (y := (⟨"com/example/mitosis/mitosis/core/Change", "isDelete", "()Z"⟩ : MethodName)) (z := (⟨"com/example/mitosis/mitosis/core/Change", "isDelete", "()Z"⟩ : MethodName)) hown (ow hw (i := 37) rfl) (ow hw (i := 38) rfl) (oNotFace B (ow hw (i := 40) rfl) rfl) (ow hw (i := 40) rfl) (ow hw (i := 39) rfl) (ow hw (i := 11) rfl) (ow hw (i := 41) rfl) (by decide) (a := b87) (rm_isd1n l Z a0 hw h0 b87 b49 a2 (b88, oO cn0 [(fk0, (.ref b49)), (fk1, (.long a2)), (fk2, (.ref b85))]) [(b86, oO cn0 [(fk0, (.ref b49)), (fk1, (.long a2)), (fk2, .null)]), (b85, oA .byte [(.int (nar .byte ((a4 >>> ((16 : Int32) &&& 31)).toInt8.toInt32)))]), (b83, oA .byte []), (b3, oA .char [(.int (nar .char ((a1 &&& (255 : Int32)).toUInt32.toUInt16.toUInt32.toInt32)))])]) (lenOf pd_4 rfl) (hb hby at_165) (pc' := 168) rfl (argsL := []) (rest := []) rfl (by rw [hml]; rfl) (W := 0) (oLe rfl) (j := 1) rfl (by decide) (cells' := 8) rfl (slots' := 16) rfl ?_
    intro T v_ d_ q_ B
    obtain ⟨rfl, rfl⟩ := q_
    show oWin p e below Z h0 _ _ (T.setTop (mkF m 168 #[.val (.int a1), .val (.long a2), .second, .val (.int a3), .val (.int a4), .val (.ref b3), .val (.ref b49), .val (.int (1 : Int32)), .val (.ref b83), .val (.ref b85), .val .null, .val (.ref b86), .val (.ref b87), .val (.ref b88)] [(.int (1 : Int32))]))
    refine W_ifN B (hb hby at_168) (pc' := 171) rfl (by decide) ?_
    refine W_aload B (hb hby at_171) (pc' := 173) rfl rfl rfl ?_
    refine W_virtual B (y := (⟨"com/example/mitosis/mitosis/core/Change", "isDelete", "()Z"⟩ : MethodName)) (z := (⟨"com/example/mitosis/mitosis/core/Change", "isDelete", "()Z"⟩ : MethodName)) hown (ow hw (i := 37) rfl) (ow hw (i := 38) rfl) (oNotFace B (ow hw (i := 40) rfl) rfl) (ow hw (i := 40) rfl) (ow hw (i := 39) rfl) (ow hw (i := 11) rfl) (ow hw (i := 41) rfl) (by decide) (a := b88) (rm_isd0a l Z a0 hw h0 b88 b49 a2 b85  [(b87, oO cn0 [(fk0, (.ref b49)), (fk1, (.long a2)), (fk2, .null)]), (b86, oO cn0 [(fk0, (.ref b49)), (fk1, (.long a2)), (fk2, .null)]), (b85, oA .byte [(.int (nar .byte ((a4 >>> ((16 : Int32) &&& 31)).toInt8.toInt32)))]), (b83, oA .byte []), (b3, oA .char [(.int (nar .char ((a1 &&& (255 : Int32)).toUInt32.toUInt16.toUInt32.toInt32)))])]) (lenOf pd_4 rfl) (hb hby at_173) (pc' := 176) rfl (argsL := []) (rest := []) rfl (by rw [hml]; rfl) (W := 0) (oLe rfl) (j := 0) rfl (by decide) (cells' := 8) rfl (slots' := 16) rfl ?_
    intro T v_ d_ q_ B
    obtain ⟨rfl, rfl⟩ := q_
    show oWin p e below Z h0 _ _ (T.setTop (mkF m 176 #[.val (.int a1), .val (.long a2), .second, .val (.int a3), .val (.int a4), .val (.ref b3), .val (.ref b49), .val (.int (1 : Int32)), .val (.ref b83), .val (.ref b85), .val .null, .val (.ref b86), .val (.ref b87), .val (.ref b88)] [(.int (0 : Int32))]))
    refine W_ifN B (hb hby at_176) (pc' := 179) rfl (by decide) ?_
    refine W_iconst B (hb hby at_179) (pc' := 180) rfl (z := (1 : Int32)) (by decide) ?_
    refine W_goto B (hb hby at_180) (by decide) (pc' := 184) (by decide) ?_
    refine W_retNW B hS hret (by simp) (hb hby at_184) (by decide) ?_
    rfl
  refine W_iconst B (hb hby at_88) (pc' := 89) rfl (z := (0 : Int32)) (by decide) ?_
  refine W_newarray B (ow hw (i := 4) rfl) (hb hby at_89) (pc' := 91) rfl (by decide) (cap := 0) (by decide) (by decide) (cells' := 5) rfl (slots' := 6) rfl (vs := []) rfl (ty := .byte) rfl ?_
  intro T b89 B
  refine W_goto B (hb hby at_91) (by decide) (pc' := 106) (by decide) ?_
  refine W_astore B (hb hby at_106) (pc' := 108) rfl rfl (ls' := #[.val (.int a1), .val (.long a2), .second, .val (.int a3), .val (.int a4), .val (.ref b3), .val (.ref b49), .val (.int (1 : Int32)), .val (.ref b83), .val (.ref b89), .unset, .unset, .unset, .unset]) rfl ?_
  refine W_iload B (hb hby at_108) (pc' := 110) rfl rfl ?_
  refine W_ifN B (hb hby at_110) (pc' := 113) rfl (by decide) ?_
  refine W_aconstNull B (hb hby at_113) (pc' := 114) rfl  ?_
  refine W_goto B (hb hby at_114) (by decide) (pc' := 119) (by decide) ?_
  refine W_astore B (hb hby at_119) (pc' := 121) rfl rfl (ls' := #[.val (.int a1), .val (.long a2), .second, .val (.int a3), .val (.int a4), .val (.ref b3), .val (.ref b49), .val (.int (1 : Int32)), .val (.ref b83), .val (.ref b89), .val .null, .unset, .unset, .unset]) rfl ?_
  refine W_new B hown (ow hw (i := 9) rfl) (ow hw (i := 10) rfl) (ow hw (i := 11) rfl) (hb hby at_121) (pc' := 124) rfl (by decide) (cells' := 6) rfl (slots' := 9) rfl (fs := [(fk0, .null), (fk1, (.long (0 : Int64))), (fk2, .null)]) (oAll_cons ⟨Or.inr (ow hw (i := 24) rfl), (.object "java/lang/String"), by decide, rfl⟩ (oAll_cons ⟨Or.inr (ow hw (i := 26) rfl), .long, by decide, rfl⟩ (oAll_cons ⟨Or.inr (ow hw (i := 28) rfl), (.array .byte), by decide, rfl⟩ oAll_nil))) (by decide) ?_
  intro T b90 B
  refine W_dup B (hb hby at_124) (pc' := 125) rfl rfl ?_
  refine W_aload B (hb hby at_125) (pc' := 127) rfl rfl rfl ?_
  refine W_lloadN B (hb hby at_127) (pc' := 128) rfl rfl ?_
  refine W_aload B (hb hby at_128) (pc' := 130) rfl rfl rfl ?_
  refine W_init B (y := (⟨"com/example/mitosis/mitosis/core/Change", "<init>", "(Ljava/lang/String;J[B)V"⟩ : MethodName)) hown rfl (ow hw (i := 12) rfl) (ow hw (i := 13) rfl) (ow hw (i := 11) rfl) (ow hw (i := 14) rfl) (by decide) (a := b90) (rm_inin l Z a0 hw h0 b90 b49 a2 [(b89, oA .byte []), (b83, oA .byte []), (b3, oA .char [(.int (nar .char ((a1 &&& (255 : Int32)).toUInt32.toUInt16.toUInt32.toInt32)))])]) (lenOf pd_1 rfl) (hb hby at_130) (pc' := 133) rfl (argsL := [(.ref b49), (.long a2), .null]) (rest := [(.ref b90)]) rfl (by rw [hml]; rfl) (W := 1) (oLe rfl) (by decide) (cells' := 6) rfl (slots' := 9) rfl ?_
  intro T v_ d_ q_ B
  obtain ⟨rfl, rfl⟩ := q_
  show oWin p e below Z h0 _ _ (T.setTop (mkF m 133 #[.val (.int a1), .val (.long a2), .second, .val (.int a3), .val (.int a4), .val (.ref b3), .val (.ref b49), .val (.int (1 : Int32)), .val (.ref b83), .val (.ref b89), .val .null, .unset, .unset, .unset] [(.ref b90)]))
  refine W_astore B (hb hby at_133) (pc' := 135) rfl rfl (ls' := #[.val (.int a1), .val (.long a2), .second, .val (.int a3), .val (.int a4), .val (.ref b3), .val (.ref b49), .val (.int (1 : Int32)), .val (.ref b83), .val (.ref b89), .val .null, .val (.ref b90), .unset, .unset]) rfl ?_
  refine W_aload B (hb hby at_135) (pc' := 137) rfl rfl rfl ?_
  refine W_lloadN B (hb hby at_137) (pc' := 138) rfl rfl ?_
  refine W_callS B (y := (⟨"com/example/mitosis/mitosis/core/Change", "delete", "(Ljava/lang/String;J)Lcom/example/mitosis/mitosis/core/Change;"⟩ : MethodName)) hown (ow hw (i := 29) rfl) (ow hw (i := 30) rfl) (ow hw (i := 11) rfl) (ow hw (i := 31) rfl) (by decide) (rm_del l Z a0 hw h0 b49 a2 [(b90, oO cn0 [(fk0, (.ref b49)), (fk1, (.long a2)), (fk2, .null)]), (b89, oA .byte []), (b83, oA .byte []), (b3, oA .char [(.int (nar .char ((a1 &&& (255 : Int32)).toUInt32.toUInt16.toUInt32.toInt32)))])]) (lenOf pd_2 rfl) (hb hby at_138) (pc' := 141) rfl (argsL := [(.ref b49), (.long a2)]) (rest := []) rfl (by rw [hml]; rfl) (W := 0) (oLe rfl) (by decide) (cells' := 7) rfl (slots' := 12) rfl ?_
  intro T v_ d_ q_ B
  obtain ⟨b91, rfl, rfl⟩ := q_
  show oWin p e below Z h0 _ _ (T.setTop (mkF m 141 #[.val (.int a1), .val (.long a2), .second, .val (.int a3), .val (.int a4), .val (.ref b3), .val (.ref b49), .val (.int (1 : Int32)), .val (.ref b83), .val (.ref b89), .val .null, .val (.ref b90), .unset, .unset] [(.ref b91)]))
  refine W_astore B (hb hby at_141) (pc' := 143) rfl rfl (ls' := #[.val (.int a1), .val (.long a2), .second, .val (.int a3), .val (.int a4), .val (.ref b3), .val (.ref b49), .val (.int (1 : Int32)), .val (.ref b83), .val (.ref b89), .val .null, .val (.ref b90), .val (.ref b91), .unset]) rfl ?_
  refine W_aload B (hb hby at_143) (pc' := 145) rfl rfl rfl ?_
  refine W_lloadN B (hb hby at_145) (pc' := 146) rfl rfl ?_
  refine W_aload B (hb hby at_146) (pc' := 148) rfl rfl rfl ?_
  refine W_callS B (y := (⟨"com/example/mitosis/mitosis/core/Change", "put", "(Ljava/lang/String;J[B)Lcom/example/mitosis/mitosis/core/Change;"⟩ : MethodName)) hown (ow hw (i := 34) rfl) (ow hw (i := 35) rfl) (ow hw (i := 11) rfl) (ow hw (i := 36) rfl) (by decide) (rm_put l Z a0 hw h0 b49 a2 b89 [(b91, oO cn0 [(fk0, (.ref b49)), (fk1, (.long a2)), (fk2, .null)]), (b90, oO cn0 [(fk0, (.ref b49)), (fk1, (.long a2)), (fk2, .null)]), (b89, oA .byte []), (b83, oA .byte []), (b3, oA .char [(.int (nar .char ((a1 &&& (255 : Int32)).toUInt32.toUInt16.toUInt32.toInt32)))])]) (lenOf pd_3 rfl) (hb hby at_148) (pc' := 151) rfl (argsL := [(.ref b49), (.long a2), (.ref b89)]) (rest := []) rfl (by rw [hml]; rfl) (W := 0) (oLe rfl) (by decide) (cells' := 8) rfl (slots' := 15) rfl ?_
  intro T v_ d_ q_ B
  obtain ⟨b92, rfl, rfl⟩ := q_
  show oWin p e below Z h0 _ _ (T.setTop (mkF m 151 #[.val (.int a1), .val (.long a2), .second, .val (.int a3), .val (.int a4), .val (.ref b3), .val (.ref b49), .val (.int (1 : Int32)), .val (.ref b83), .val (.ref b89), .val .null, .val (.ref b90), .val (.ref b91), .unset] [(.ref b92)]))
  refine W_astore B (hb hby at_151) (pc' := 153) rfl rfl (ls' := #[.val (.int a1), .val (.long a2), .second, .val (.int a3), .val (.int a4), .val (.ref b3), .val (.ref b49), .val (.int (1 : Int32)), .val (.ref b83), .val (.ref b89), .val .null, .val (.ref b90), .val (.ref b91), .val (.ref b92)]) rfl ?_
  refine W_aload B (hb hby at_153) (pc' := 155) rfl rfl rfl ?_
  refine W_virtual B (y := (⟨"com/example/mitosis/mitosis/core/Change", "isDelete", "()Z"⟩ : MethodName)) (z := (⟨"com/example/mitosis/mitosis/core/Change", "isDelete", "()Z"⟩ : MethodName)) hown (ow hw (i := 37) rfl) (ow hw (i := 38) rfl) (oNotFace B (ow hw (i := 40) rfl) rfl) (ow hw (i := 40) rfl) (ow hw (i := 39) rfl) (ow hw (i := 11) rfl) (ow hw (i := 41) rfl) (by decide) (a := b90) (rm_isd2n l Z a0 hw h0 b90 b49 a2 (b92, oO cn0 [(fk0, (.ref b49)), (fk1, (.long a2)), (fk2, (.ref b89))]) (b91, oO cn0 [(fk0, (.ref b49)), (fk1, (.long a2)), (fk2, .null)]) [(b89, oA .byte []), (b83, oA .byte []), (b3, oA .char [(.int (nar .char ((a1 &&& (255 : Int32)).toUInt32.toUInt16.toUInt32.toInt32)))])]) (lenOf pd_4 rfl) (hb hby at_155) (pc' := 158) rfl (argsL := []) (rest := []) rfl (by rw [hml]; rfl) (W := 0) (oLe rfl) (j := 2) rfl (by decide) (cells' := 8) rfl (slots' := 15) rfl ?_
  intro T v_ d_ q_ B
  obtain ⟨rfl, rfl⟩ := q_
  show oWin p e below Z h0 _ _ (T.setTop (mkF m 158 #[.val (.int a1), .val (.long a2), .second, .val (.int a3), .val (.int a4), .val (.ref b3), .val (.ref b49), .val (.int (1 : Int32)), .val (.ref b83), .val (.ref b89), .val .null, .val (.ref b90), .val (.ref b91), .val (.ref b92)] [(.int (1 : Int32))]))
  refine W_iload B (hb hby at_158) (pc' := 160) rfl rfl ?_
  refine W_icmpN B (hb hby at_160) (pc' := 163) rfl (by decide) ?_
  refine W_aload B (hb hby at_163) (pc' := 165) rfl rfl rfl ?_
  refine W_virtual B (y := (⟨"com/example/mitosis/mitosis/core/Change", "isDelete", "()Z"⟩ : MethodName)) (z := (⟨"com/example/mitosis/mitosis/core/Change", "isDelete", "()Z"⟩ : MethodName)) hown (ow hw (i := 37) rfl) (ow hw (i := 38) rfl) (oNotFace B (ow hw (i := 40) rfl) rfl) (ow hw (i := 40) rfl) (ow hw (i := 39) rfl) (ow hw (i := 11) rfl) (ow hw (i := 41) rfl) (by decide) (a := b91) (rm_isd1n l Z a0 hw h0 b91 b49 a2 (b92, oO cn0 [(fk0, (.ref b49)), (fk1, (.long a2)), (fk2, (.ref b89))]) [(b90, oO cn0 [(fk0, (.ref b49)), (fk1, (.long a2)), (fk2, .null)]), (b89, oA .byte []), (b83, oA .byte []), (b3, oA .char [(.int (nar .char ((a1 &&& (255 : Int32)).toUInt32.toUInt16.toUInt32.toInt32)))])]) (lenOf pd_4 rfl) (hb hby at_165) (pc' := 168) rfl (argsL := []) (rest := []) rfl (by rw [hml]; rfl) (W := 0) (oLe rfl) (j := 1) rfl (by decide) (cells' := 8) rfl (slots' := 15) rfl ?_
  intro T v_ d_ q_ B
  obtain ⟨rfl, rfl⟩ := q_
  show oWin p e below Z h0 _ _ (T.setTop (mkF m 168 #[.val (.int a1), .val (.long a2), .second, .val (.int a3), .val (.int a4), .val (.ref b3), .val (.ref b49), .val (.int (1 : Int32)), .val (.ref b83), .val (.ref b89), .val .null, .val (.ref b90), .val (.ref b91), .val (.ref b92)] [(.int (1 : Int32))]))
  refine W_ifN B (hb hby at_168) (pc' := 171) rfl (by decide) ?_
  refine W_aload B (hb hby at_171) (pc' := 173) rfl rfl rfl ?_
  refine W_virtual B (y := (⟨"com/example/mitosis/mitosis/core/Change", "isDelete", "()Z"⟩ : MethodName)) (z := (⟨"com/example/mitosis/mitosis/core/Change", "isDelete", "()Z"⟩ : MethodName)) hown (ow hw (i := 37) rfl) (ow hw (i := 38) rfl) (oNotFace B (ow hw (i := 40) rfl) rfl) (ow hw (i := 40) rfl) (ow hw (i := 39) rfl) (ow hw (i := 11) rfl) (ow hw (i := 41) rfl) (by decide) (a := b92) (rm_isd0a l Z a0 hw h0 b92 b49 a2 b89  [(b91, oO cn0 [(fk0, (.ref b49)), (fk1, (.long a2)), (fk2, .null)]), (b90, oO cn0 [(fk0, (.ref b49)), (fk1, (.long a2)), (fk2, .null)]), (b89, oA .byte []), (b83, oA .byte []), (b3, oA .char [(.int (nar .char ((a1 &&& (255 : Int32)).toUInt32.toUInt16.toUInt32.toInt32)))])]) (lenOf pd_4 rfl) (hb hby at_173) (pc' := 176) rfl (argsL := []) (rest := []) rfl (by rw [hml]; rfl) (W := 0) (oLe rfl) (j := 0) rfl (by decide) (cells' := 8) rfl (slots' := 15) rfl ?_
  intro T v_ d_ q_ B
  obtain ⟨rfl, rfl⟩ := q_
  show oWin p e below Z h0 _ _ (T.setTop (mkF m 176 #[.val (.int a1), .val (.long a2), .second, .val (.int a3), .val (.int a4), .val (.ref b3), .val (.ref b49), .val (.int (1 : Int32)), .val (.ref b83), .val (.ref b89), .val .null, .val (.ref b90), .val (.ref b91), .val (.ref b92)] [(.int (0 : Int32))]))
  refine W_ifN B (hb hby at_176) (pc' := 179) rfl (by decide) ?_
  refine W_iconst B (hb hby at_179) (pc' := 180) rfl (z := (1 : Int32)) (by decide) ?_
  refine W_goto B (hb hby at_180) (by decide) (pc' := 184) (by decide) ?_
  refine W_retNW B hS hret (by simp) (hb hby at_184) (by decide) ?_
  rfl
set_option maxRecDepth 65536 in
set_option maxHeartbeats 40000000 in
theorem comes_1 {Post : Tables → Env → Array Value → State → Outcome → State → Prop} (hpost : ∀ tb e args s v u, (limb_1_1.after args s (.returned v) u = true ∧ limb_1_2.after args s (.returned v) u = true ∧ True) → ReturnedEndW s (.returned v) u (Jvm.fieldLocs frame_1_writes args s ++ Jvm.arrayLocs frame_1_arrays args s ++ Jvm.staticLocs frame_1_statics s) 32 1152 → Post tb e args s (.returned v) u) :
    ArmFor flags0 classFile x code maxLocals ret World_1 tables_1 room_1 Calls_1 rest_1 Pre_1 Post := by
  intro l hfl _ _ p e ha hc hk s m args below hf hA hF happ hP
  obtain ⟨hcalls, hrest, hpre⟩ := hP
  obtain ⟨-, -, -, hnamed, -, -, -, hat⟩ := (Spec.applies_iff hf).mp happ
  obtain ⟨hg, hn⟩ := and_e (Cond.before_iff.mp (show (Jvm.Cond.and given_1 narrow_1).before args s = true from hpre))
  obtain ⟨g1, g2⟩ := and_e hg
  obtain ⟨g3, g4⟩ := and_e g2
  obtain ⟨g5, g6⟩ := and_e g4
  obtain ⟨g7, g8⟩ := and_e g6
  obtain ⟨w0, w1, w2, w3, rfl⟩ : ∃ w0 w1 w2 w3 : Value, args = #[w0, w1, w2, w3] := by
    have hs : args.size = 4 := by simpa [Cond.value, given_1] using g1
    obtain ⟨L⟩ := args
    match L, hs with
    | [w0, w1, w2, w3], _ => exact ⟨w0, w1, w2, w3, rfl⟩
  have hw := fun d (hd : d ∈ tables_1) => atoms_spec (ws := Jvm.Cond.code x code maxLocals ret :: tables_1) hat d (List.mem_cons_of_mem _ hd)
  have hfit : Fit s := fun {y c} hc i hi => by
    obtain ⟨ha, rfl⟩ := Array.getElem?_eq_some_iff.mp hc
    have q := List.all_eq_true.mp ((Array.all_eq_true_iff_forall_mem.mp hF) _ (Array.getElem_mem ha)) i (List.mem_range.mpr hi)
    simpa [Array.getElem?_eq_getElem hi] using q
  obtain ⟨i0, ei0⟩ := is_v g3
  obtain rfl : w0 = (.int i0) := Option.some.inj ei0
  obtain ⟨i1, ei1⟩ := isL_v g5
  obtain rfl : w1 = (.long i1) := Option.some.inj ei1
  obtain ⟨i2, ei2⟩ := is_v g7
  obtain rfl : w2 = (.int i2) := Option.some.inj ei2
  obtain ⟨i3, ei3⟩ := is_v g8
  obtain rfl : w3 = (.int i3) := Option.some.inj ei3
  obtain ⟨hsets, hown0⟩ := atoms_of _ (rest_1_c_eq ▸ (show rest_1_c.before _ s = true from hrest))
  have n3 := not_v (Cond.before_iff.mp (hsets _ (List.mem_of_getElem? (i := 2) rfl)))
  obtain ⟨i7, e6⟩ := is_v (Cond.before_iff.mp (hsets _ (List.mem_of_getElem? (i := 1) rfl)))
  have S8 : Sta s s.heap "java/lang/String" "COMPACT_STRINGS" "Z" (.int i7) := Sta.start e6 (Or.inl (hsets _ (List.mem_of_getElem? (i := 0) rfl)))
  have c9 : ¬ (i7 = (0 : Int32)) := gotF (Cond.eq_ints e6 (Term.int_eval (0))) n3
  obtain ⟨n, o, h1, h2, h3, _, L, rfl, ⟨N, lo', ds', -, rfl⟩, hq⟩ := rm0 l s _ hw s.heap i0 i1 i2 i3 i7 S8 c9 s.heap (oHP.nil s s.heap) p e ha hc hk s m _ below hf ((Spec.applies_iff_loose hf).mp happ).1 ⟨rfl, State.Warmed39.refl s, rfl⟩ trivial
  refine ⟨n, _, h1, h2, h3, hpost _ _ _ _ _ _ ⟨Cond.after_iff.mpr rfl, Cond.after_iff.mpr (eq_i res_at (Term.int_eval (1)) rfl), trivial⟩ ⟨hq.1, hq.2.1, hq.2.2.1, (hq.2.2.2.sift fun y hy => Or.inr (N y hy)).mono (by decide) (by decide)⟩⟩
theorem main_1_1 : Claimed_1_1 := comes_1 fun _ _ _ _ _ _ h hF => ⟨h.1, hF⟩
theorem main_1_2 : Claimed_1_2 := comes_1 fun _ _ _ _ _ _ h hF => ⟨h.2.1, hF⟩
end Jvm.Pilot.@@N@@
namespace Jvm.Pilot.@@N@@
open Jvm Jvm.ClassFile Sem Op Lib Jvm.Free Jvm.Stand Jvm.Pilot.@@N@@.Jvm.D
/-! MADE BY PROGRAM (witnessworld.py) out of the Statement's table words and the real class files: 21 classes; the members and pool entries that the words name. The judged class is class 1, her method 1. -/
namespace start1
open Jvm.ClassFile
def u (s : String) : CpInfo := .utf8 (stringToUtf16 s)
/-- a pool by its gaps: so many unusable entries, then the entry; so many at the end -/
def gap : Nat → List CpInfo → List CpInfo
  | 0, r => r
  | n + 1, r => .unusable :: gap n r
def poolList (es : List (Nat × CpInfo)) (last : Nat) : List CpInfo := es.foldr (fun e r => gap e.1 (e.2 :: r)) (gap last [])
def pool (es : List (Nat × CpInfo)) (last : Nat) : Array CpInfo := ⟨poolList es last⟩
def fileOf (pool : Array CpInfo) (this : Nat) (attrs : Array Attribute := #[]) (ms : Array MethodInfo := #[]) (fl : Nat := 33) (sup : Nat := 0) (ifs : Array Nat := #[]) (fds : Array FieldInfo := #[]) : ClassFile where
  minorVersion := 0
  majorVersion := 65
  constantPool := pool
  accessFlags := fl
  thisClass := this
  superClass := sup
  interfaces := ifs
  fields := fds
  methods := ms
  attributes := attrs
def plain (name : String) (sup : Option ClassId) : Class where
  name := name
  kind := .ordinary
  loader := none
  accessFlags := 33
  super := sup
  interfaces := #[]
  cf := none
  fields := #[]
  methods := #[]
  instanceTypes := #[]
  staticTypes := #[]
  resolved := #[]
  callSites := []
  init := .initialized
  statics := none
  mirror := none

def pool0 : Array CpInfo := pool [(5, u "<init>"), (0, u "()V"), (1, .class_ 10), (1, u "java/lang/Object")] 113

def k0c0 : Code := { maxStack := 0, maxLocals := 1, code := object_method_1_code, exceptionTable := #[], attributes := #[] }
def k0m0 : Method := { name := "<init>", desc := "()V", sig := { parameters := [], returnType := none }, accessFlags := 1, code := some k0c0 }
/-- java/lang/Object -/
def k0 : Class := { plain "java/lang/Object" none with
  accessFlags := 33
  interfaces := #[]
  cf := some (fileOf pool0 8 #[] #[{ accessFlags := 1, nameIndex := 5, descriptorIndex := 6, attributes := #[] }] 33 0 #[] #[])
  fields := #[]
  methods := #[k0m0]
  instanceTypes := #[]
  staticTypes := #[]
  resolved := Array.replicate 124 none
  statics := none }

def pool1 : Array CpInfo := pool [(2, .class_ 4), (1, u "java/lang/Object"), (0, u "<init>"), (0, u "()V"), (0, .class_ 8), (0, u "java/lang/String"), (0, .methodref 7 10), (0, .nameAndType 5 11), (0, u "([C)V"), (0, .string 13), (0, u ""), (0, .class_ 15), (0, u "com/example/mitosis/mitosis/core/Change"), (0, .methodref 14 17), (0, .nameAndType 5 18), (0, u "(Ljava/lang/String;J[B)V"), (0, .methodref 14 20), (0, .nameAndType 21 22), (0, u "delete"), (0, u "(Ljava/lang/String;J)Lcom/example/mitosis/mitosis/core/Change;"), (0, .methodref 14 24), (0, .nameAndType 25 26), (0, u "put"), (0, u "(Ljava/lang/String;J[B)Lcom/example/mitosis/mitosis/core/Change;"), (0, .methodref 14 28), (0, .nameAndType 29 30), (0, u "isDelete"), (0, u "()Z"), (0, .class_ 32), (0, u "com/example/mitosis/mitosis/core/ChangeIsDeletePinLaw"), (2, u "law"), (0, u "(IJII)Z")] 7

def k1m0 : Method := { name := "<init>", desc := "()V", sig := { parameters := [], returnType := none }, accessFlags := 1, code := none }
def k1c1 : Code := { maxStack := 6, maxLocals := 14, code := code, exceptionTable := #[], attributes := #[] }
def k1m1 : Method := { name := "law", desc := "(IJII)Z", sig := { parameters := [.int, .long, .int, .int], returnType := some .boolean }, accessFlags := 9, code := some k1c1 }
/-- com/example/mitosis/mitosis/core/ChangeIsDeletePinLaw -/
def k1 : Class := { plain "com/example/mitosis/mitosis/core/ChangeIsDeletePinLaw" (some 0) with
  accessFlags := 49
  interfaces := #[]
  cf := some (fileOf pool1 31 #[] #[{ accessFlags := 1, nameIndex := 5, descriptorIndex := 6, attributes := #[] }, { accessFlags := 9, nameIndex := 35, descriptorIndex := 36, attributes := #[] }] 49 2 #[] #[])
  fields := #[]
  methods := #[k1m0, k1m1]
  instanceTypes := #[]
  staticTypes := #[]
  resolved := Array.replicate 44 none
  statics := none }

def pool2 : Array CpInfo := pool [(1, .class_ 2), (0, u "java/io/Serializable"), (0, .class_ 4), (0, u "java/lang/Object")] 2

/-- java/io/Serializable -/
def k2 : Class := { plain "java/io/Serializable" (some 0) with
  accessFlags := 1537
  interfaces := #[]
  cf := some (fileOf pool2 1 #[] #[] 1537 3 #[] #[])
  fields := #[]
  methods := #[]
  instanceTypes := #[]
  staticTypes := #[]
  resolved := Array.replicate 7 none
  statics := none }

def pool3 : Array CpInfo := pool [(1, .class_ 2), (0, u "java/lang/Comparable"), (0, .class_ 4), (0, u "java/lang/Object")] 7

/-- java/lang/Comparable -/
def k3 : Class := { plain "java/lang/Comparable" (some 0) with
  accessFlags := 1537
  interfaces := #[]
  cf := some (fileOf pool3 1 #[] #[] 1537 3 #[] #[])
  fields := #[]
  methods := #[]
  instanceTypes := #[]
  staticTypes := #[]
  resolved := Array.replicate 12 none
  statics := none }

def pool4 : Array CpInfo := pool [(2, .class_ 4), (1, u "java/lang/CharSequence"), (42, .class_ 48), (0, u "java/lang/CharSequence$1CodePointIterator"), (10, .class_ 60), (0, u "java/lang/CharSequence$1CharIterator"), (5, .class_ 67), (0, u "java/lang/Object")] 63

/-- java/lang/CharSequence -/
def k4 : Class := { plain "java/lang/CharSequence" (some 0) with
  accessFlags := 1537
  interfaces := #[]
  cf := some (fileOf pool4 2 #[.nestMembers #[47, 59]] #[] 1537 66 #[] #[])
  fields := #[]
  methods := #[]
  instanceTypes := #[]
  staticTypes := #[]
  resolved := Array.replicate 131 none
  statics := none }

def pool5 : Array CpInfo := pool [(1, .class_ 2), (0, u "java/lang/constant/Constable"), (0, .class_ 4), (0, u "java/lang/Object")] 6

/-- java/lang/constant/Constable -/
def k5 : Class := { plain "java/lang/constant/Constable" (some 0) with
  accessFlags := 1537
  interfaces := #[]
  cf := some (fileOf pool5 1 #[] #[] 1537 3 #[] #[])
  fields := #[]
  methods := #[]
  instanceTypes := #[]
  staticTypes := #[]
  resolved := Array.replicate 11 none
  statics := none }

def pool6 : Array CpInfo := pool [(1, .class_ 2), (0, u "java/lang/constant/ConstantDesc"), (0, .class_ 4), (0, u "java/lang/Object")] 32

/-- java/lang/constant/ConstantDesc -/
def k6 : Class := { plain "java/lang/constant/ConstantDesc" (some 0) with
  accessFlags := 1537
  interfaces := #[]
  cf := some (fileOf pool6 1 #[] #[] 1537 3 #[] #[])
  fields := #[]
  methods := #[]
  instanceTypes := #[]
  staticTypes := #[]
  resolved := Array.replicate 37 none
  statics := none }

def pool7 : Array CpInfo := pool [(1, .methodref 2 3), (0, .class_ 4), (0, .nameAndType 5 6), (0, u "java/lang/Object"), (0, u "<init>"), (0, u "()V"), (2, .fieldref 10 11), (0, .class_ 12), (0, .nameAndType 13 14), (0, u "java/lang/String"), (0, u "value"), (0, u "[B"), (0, .fieldref 10 16), (0, .nameAndType 17 18), (0, u "coder"), (0, u "B"), (2, u "hash"), (0, u "I"), (2, u "hashIsZero"), (0, u "Z"), (0, .methodref 10 28), (0, .nameAndType 5 29), (0, u "([CIILjava/lang/Void;)V"), (8, .fieldref 10 39), (0, .nameAndType 40 26), (0, u "COMPACT_STRINGS"), (1, .class_ 44), (1, u "java/lang/StringUTF16"), (0, u "compress"), (1, .methodref 42 48), (0, .nameAndType 49 50), (0, u "coderFromArrayLen"), (0, u "([BI)B"), (126, .methodref 42 178), (0, .nameAndType 45 179), (0, u "([CII)[B"), (395, .class_ 576), (0, u "java/lang/CharSequence"), (22, u "CASE_INSENSITIVE_ORDER"), (0, u "Ljava/util/Comparator;"), (409, u "([C)V"), (90, u "serialPersistentFields"), (0, u "[Ljava/io/ObjectStreamField;"), (0, .class_ 1104), (0, u "java/lang/String$CaseInsensitiveComparator"), (1, .class_ 1107), (0, u "java/io/Serializable"), (0, .class_ 1109), (0, u "java/lang/Comparable"), (0, .class_ 1111), (0, u "java/lang/constant/Constable"), (0, .class_ 1113), (0, u "java/lang/constant/ConstantDesc"), (2, u "serialVersionUID"), (0, u "J"), (3, u "REPL"), (0, u "C"), (2, u "LATIN1"), (1, u "UTF16")] 323

def k7m0 : Method := { name := "<init>", desc := "()V", sig := { parameters := [], returnType := none }, accessFlags := 1, code := none }
def k7c1 : Code := { maxStack := 5, maxLocals := 2, code := jdk_42_method_3_code, exceptionTable := #[], attributes := #[] }
def k7m1 : Method := { name := "<init>", desc := "([C)V", sig := { parameters := [(.array .char)], returnType := none }, accessFlags := 1, code := some k7c1 }
def k7c2 : Code := { maxStack := 4, maxLocals := 6, code := jdk_42_method_149_code, exceptionTable := #[], attributes := #[] }
def k7m2 : Method := { name := "<init>", desc := "([CIILjava/lang/Void;)V", sig := { parameters := [(.array .char), .int, .int, (.object "java/lang/Void")], returnType := none }, accessFlags := 2, code := some k7c2 }
/-- java/lang/String -/
def k7 : Class := { plain "java/lang/String" (some 0) with
  accessFlags := 49
  interfaces := #[2, 3, 4, 5, 6]
  cf := some (fileOf pool7 10 #[.nestMembers #[1103]] #[{ accessFlags := 1, nameIndex := 5, descriptorIndex := 6, attributes := #[] }, { accessFlags := 1, nameIndex := 5, descriptorIndex := 1010, attributes := #[] }, { accessFlags := 2, nameIndex := 5, descriptorIndex := 29, attributes := #[] }] 49 2 #[1106, 1108, 575, 1110, 1112] #[{ accessFlags := 18, nameIndex := 13, descriptorIndex := 14, attributes := #[] }, { accessFlags := 18, nameIndex := 17, descriptorIndex := 18, attributes := #[] }, { accessFlags := 2, nameIndex := 21, descriptorIndex := 22, attributes := #[] }, { accessFlags := 2, nameIndex := 25, descriptorIndex := 26, attributes := #[] }, { accessFlags := 26, nameIndex := 1116, descriptorIndex := 1117, attributes := #[] }, { accessFlags := 24, nameIndex := 40, descriptorIndex := 26, attributes := #[] }, { accessFlags := 26, nameIndex := 1101, descriptorIndex := 1102, attributes := #[] }, { accessFlags := 26, nameIndex := 1121, descriptorIndex := 1122, attributes := #[] }, { accessFlags := 25, nameIndex := 599, descriptorIndex := 600, attributes := #[] }, { accessFlags := 24, nameIndex := 1125, descriptorIndex := 18, attributes := #[] }, { accessFlags := 24, nameIndex := 1127, descriptorIndex := 18, attributes := #[] }])
  fields := #[{ name := "value", type := (.array .byte), accessFlags := 18, slot := 0, constantValue := 0 }, { name := "coder", type := .byte, accessFlags := 18, slot := 1, constantValue := 0 }, { name := "hash", type := .int, accessFlags := 2, slot := 2, constantValue := 0 }, { name := "hashIsZero", type := .boolean, accessFlags := 2, slot := 3, constantValue := 0 }, { name := "serialVersionUID", type := .long, accessFlags := 26, slot := 0, constantValue := 0 }, { name := "COMPACT_STRINGS", type := .boolean, accessFlags := 24, slot := 1, constantValue := 0 }, { name := "serialPersistentFields", type := (.array (.object "java/io/ObjectStreamField")), accessFlags := 26, slot := 2, constantValue := 0 }, { name := "REPL", type := .char, accessFlags := 26, slot := 3, constantValue := 0 }, { name := "CASE_INSENSITIVE_ORDER", type := (.object "java/util/Comparator"), accessFlags := 25, slot := 4, constantValue := 0 }, { name := "LATIN1", type := .byte, accessFlags := 24, slot := 5, constantValue := 0 }, { name := "UTF16", type := .byte, accessFlags := 24, slot := 6, constantValue := 0 }]
  methods := #[k7m0, k7m1, k7m2]
  instanceTypes := #[(.array .byte), .byte, .int, .boolean]
  staticTypes := #[.long, .boolean, (.array (.object "java/io/ObjectStreamField")), .char, (.object "java/util/Comparator"), .byte, .byte]
  resolved := Array.replicate 1451 none
  statics := some 0 }

def pool8 : Array CpInfo := pool [(1, .methodref 2 3), (0, .class_ 4), (0, .nameAndType 5 6), (0, u "java/lang/Object"), (0, u "<init>"), (0, u "()V"), (0, .class_ 8), (0, u "java/lang/Record")] 13

def k8c0 : Code := { maxStack := 1, maxLocals := 1, code := jdk_30_method_1_code, exceptionTable := #[], attributes := #[] }
def k8m0 : Method := { name := "<init>", desc := "()V", sig := { parameters := [], returnType := none }, accessFlags := 4, code := some k8c0 }
/-- java/lang/Record -/
def k8 : Class := { plain "java/lang/Record" (some 0) with
  accessFlags := 1057
  interfaces := #[]
  cf := some (fileOf pool8 7 #[] #[{ accessFlags := 4, nameIndex := 5, descriptorIndex := 6, attributes := #[] }] 1057 2 #[] #[])
  fields := #[]
  methods := #[k8m0]
  instanceTypes := #[]
  staticTypes := #[]
  resolved := Array.replicate 22 none
  statics := none }

def pool9 : Array CpInfo := pool [(1, .methodref 2 3), (0, .class_ 4), (0, .nameAndType 5 6), (0, u "java/lang/Record"), (0, u "<init>"), (0, u "()V"), (0, .fieldref 8 9), (0, .class_ 10), (0, .nameAndType 11 12), (0, u "com/example/mitosis/mitosis/core/Change"), (0, u "id"), (0, u "Ljava/lang/String;"), (0, .fieldref 8 14), (0, .nameAndType 15 16), (0, u "hash"), (0, u "J"), (0, .fieldref 8 18), (0, .nameAndType 19 20), (0, u "source"), (0, u "[B"), (9, .methodref 8 31), (0, .nameAndType 5 32), (0, u "(Ljava/lang/String;J[B)V"), (15, u "put"), (0, u "(Ljava/lang/String;J[B)Lcom/example/mitosis/mitosis/core/Change;"), (1, u "delete"), (0, u "(Ljava/lang/String;J)Lcom/example/mitosis/mitosis/core/Change;"), (0, u "isDelete"), (0, u "()Z")] 35

def k9c0 : Code := { maxStack := 3, maxLocals := 5, code := prog_3_method_1_code, exceptionTable := #[], attributes := #[] }
def k9m0 : Method := { name := "<init>", desc := "(Ljava/lang/String;J[B)V", sig := { parameters := [(.object "java/lang/String"), .long, (.array .byte)], returnType := none }, accessFlags := 1, code := some k9c0 }
def k9c1 : Code := { maxStack := 6, maxLocals := 4, code := prog_3_method_2_code, exceptionTable := #[], attributes := #[] }
def k9m1 : Method := { name := "put", desc := "(Ljava/lang/String;J[B)Lcom/example/mitosis/mitosis/core/Change;", sig := { parameters := [(.object "java/lang/String"), .long, (.array .byte)], returnType := some (.object "com/example/mitosis/mitosis/core/Change") }, accessFlags := 9, code := some k9c1 }
def k9c2 : Code := { maxStack := 6, maxLocals := 3, code := prog_3_method_3_code, exceptionTable := #[], attributes := #[] }
def k9m2 : Method := { name := "delete", desc := "(Ljava/lang/String;J)Lcom/example/mitosis/mitosis/core/Change;", sig := { parameters := [(.object "java/lang/String"), .long], returnType := some (.object "com/example/mitosis/mitosis/core/Change") }, accessFlags := 9, code := some k9c2 }
def k9c3 : Code := { maxStack := 1, maxLocals := 1, code := prog_3_method_4_code, exceptionTable := #[], attributes := #[] }
def k9m3 : Method := { name := "isDelete", desc := "()Z", sig := { parameters := [], returnType := some .boolean }, accessFlags := 1, code := some k9c3 }
/-- com/example/mitosis/mitosis/core/Change -/
def k9 : Class := { plain "com/example/mitosis/mitosis/core/Change" (some 8) with
  accessFlags := 49
  interfaces := #[]
  cf := some (fileOf pool9 8 #[] #[{ accessFlags := 1, nameIndex := 5, descriptorIndex := 32, attributes := #[] }, { accessFlags := 9, nameIndex := 48, descriptorIndex := 49, attributes := #[] }, { accessFlags := 9, nameIndex := 51, descriptorIndex := 52, attributes := #[] }, { accessFlags := 1, nameIndex := 53, descriptorIndex := 54, attributes := #[] }] 49 2 #[] #[{ accessFlags := 18, nameIndex := 11, descriptorIndex := 12, attributes := #[] }, { accessFlags := 18, nameIndex := 15, descriptorIndex := 16, attributes := #[] }, { accessFlags := 18, nameIndex := 19, descriptorIndex := 20, attributes := #[] }])
  fields := #[{ name := "id", type := (.object "java/lang/String"), accessFlags := 18, slot := 0, constantValue := 0 }, { name := "hash", type := .long, accessFlags := 18, slot := 1, constantValue := 0 }, { name := "source", type := (.array .byte), accessFlags := 18, slot := 2, constantValue := 0 }]
  methods := #[k9m0, k9m1, k9m2, k9m3]
  instanceTypes := #[(.object "java/lang/String"), .long, (.array .byte)]
  staticTypes := #[]
  resolved := Array.replicate 90 none
  statics := none }

def pool10 : Array CpInfo := pool [(6, .class_ 8), (1, u "java/lang/Object"), (0, u "<init>"), (0, u "()V"), (1, .class_ 14), (1, u "java/lang/StringUTF16"), (31, u "$assertionsDisabled"), (0, u "Z"), (13, u "HI_BYTE_SHIFT"), (0, u "I"), (2, u "LO_BYTE_SHIFT"), (49, .methodref 12 116), (0, .nameAndType 117 118), (0, u "compress"), (0, u "([CI[BII)I"), (3, u "([CII)[B"), (138, u "coderFromArrayLen"), (0, u "([BI)B"), (106, .class_ 371), (1, u "java/lang/StringUTF16$LinesSpliterator"), (58, u "MAX_LENGTH"), (196, .class_ 628), (0, u "java/lang/StringUTF16$CodePointsSpliterator"), (0, .class_ 630), (0, u "java/lang/StringUTF16$CharsSpliterator")] 4

def k10m0 : Method := { name := "<init>", desc := "()V", sig := { parameters := [], returnType := none }, accessFlags := 0, code := none }
def k10c1 : Code := { maxStack := 2, maxLocals := 2, code := jdk_52_method_15_code, exceptionTable := #[], attributes := #[] }
def k10m1 : Method := { name := "coderFromArrayLen", desc := "([BI)B", sig := { parameters := [(.array .byte), .int], returnType := some .byte }, accessFlags := 8, code := some k10c1 }
def k10c2 : Code := { maxStack := 5, maxLocals := 6, code := jdk_52_method_16_code, exceptionTable := #[], attributes := #[] }
def k10m2 : Method := { name := "compress", desc := "([CII)[B", sig := { parameters := [(.array .char), .int, .int], returnType := some (.array .byte) }, accessFlags := 9, code := some k10c2 }
def k10c3 : Code := { maxStack := 3, maxLocals := 7, code := jdk_52_method_21_code, exceptionTable := #[], attributes := #[] }
def k10m3 : Method := { name := "compress", desc := "([CI[BII)I", sig := { parameters := [(.array .char), .int, (.array .byte), .int, .int], returnType := some .int }, accessFlags := 9, code := some k10c3 }
/-- java/lang/StringUTF16 -/
def k10 : Class := { plain "java/lang/StringUTF16" (some 0) with
  accessFlags := 48
  interfaces := #[]
  cf := some (fileOf pool10 12 #[.nestMembers #[627, 629, 369]] #[{ accessFlags := 0, nameIndex := 9, descriptorIndex := 10, attributes := #[] }, { accessFlags := 8, nameIndex := 261, descriptorIndex := 262, attributes := #[] }, { accessFlags := 9, nameIndex := 117, descriptorIndex := 122, attributes := #[] }, { accessFlags := 9, nameIndex := 117, descriptorIndex := 118, attributes := #[] }] 48 6 #[] #[{ accessFlags := 26, nameIndex := 61, descriptorIndex := 62, attributes := #[] }, { accessFlags := 26, nameIndex := 65, descriptorIndex := 62, attributes := #[] }, { accessFlags := 24, nameIndex := 430, descriptorIndex := 62, attributes := #[] }, { accessFlags := 4120, nameIndex := 46, descriptorIndex := 47, attributes := #[] }])
  fields := #[{ name := "HI_BYTE_SHIFT", type := .int, accessFlags := 26, slot := 0, constantValue := 0 }, { name := "LO_BYTE_SHIFT", type := .int, accessFlags := 26, slot := 1, constantValue := 0 }, { name := "MAX_LENGTH", type := .int, accessFlags := 24, slot := 2, constantValue := 0 }, { name := "$assertionsDisabled", type := .boolean, accessFlags := 4120, slot := 3, constantValue := 0 }]
  methods := #[k10m0, k10m1, k10m2, k10m3]
  instanceTypes := #[]
  staticTypes := #[.int, .int, .int, .boolean]
  resolved := Array.replicate 635 none
  statics := none }

def pool11 : Array CpInfo := pool [(4, .class_ 6), (1, u "java/lang/Object"), (0, u "<init>"), (0, u "()V"), (5, .class_ 16), (1, u "java/lang/StringLatin1"), (104, u "$assertionsDisabled"), (0, u "Z"), (98, .class_ 223), (1, u "java/lang/StringLatin1$LinesSpliterator"), (166, .class_ 391), (0, u "java/lang/StringLatin1$CharsSpliterator")] 3

def k11m0 : Method := { name := "<init>", desc := "()V", sig := { parameters := [], returnType := none }, accessFlags := 0, code := none }
/-- java/lang/StringLatin1 -/
def k11 : Class := { plain "java/lang/StringLatin1" (some 0) with
  accessFlags := 48
  interfaces := #[]
  cf := some (fileOf pool11 14 #[.nestMembers #[390, 221]] #[{ accessFlags := 0, nameIndex := 7, descriptorIndex := 8, attributes := #[] }] 48 4 #[] #[{ accessFlags := 4120, nameIndex := 121, descriptorIndex := 122, attributes := #[] }])
  fields := #[{ name := "$assertionsDisabled", type := .boolean, accessFlags := 4120, slot := 0, constantValue := 0 }]
  methods := #[k11m0]
  instanceTypes := #[]
  staticTypes := #[.boolean]
  resolved := Array.replicate 395 none
  statics := none }

def pool12 : Array CpInfo := pool [(2, .class_ 4), (1, u "java/lang/Object"), (0, u "<init>"), (0, u "()V"), (17, .class_ 26), (1, u "jdk/internal/util/Preconditions"), (28, .class_ 56), (0, u "jdk/internal/util/Preconditions$4"), (57, .class_ 115), (0, u "jdk/internal/util/Preconditions$1"), (7, u "SIOOBE_FORMATTER"), (0, u "Ljava/util/function/BiFunction;"), (0, .class_ 126), (0, u "jdk/internal/util/Preconditions$2"), (3, u "AIOOBE_FORMATTER"), (0, .class_ 132), (0, u "jdk/internal/util/Preconditions$3"), (3, u "IOOBE_FORMATTER")] 57

def k12m0 : Method := { name := "<init>", desc := "()V", sig := { parameters := [], returnType := none }, accessFlags := 1, code := none }
/-- jdk/internal/util/Preconditions -/
def k12 : Class := { plain "jdk/internal/util/Preconditions" (some 0) with
  accessFlags := 33
  interfaces := #[]
  cf := some (fileOf pool12 24 #[.nestMembers #[55, 131, 125, 114]] #[{ accessFlags := 1, nameIndex := 5, descriptorIndex := 6, attributes := #[] }] 33 2 #[] #[{ accessFlags := 25, nameIndex := 123, descriptorIndex := 124, attributes := #[] }, { accessFlags := 25, nameIndex := 130, descriptorIndex := 124, attributes := #[] }, { accessFlags := 25, nameIndex := 136, descriptorIndex := 124, attributes := #[] }])
  fields := #[{ name := "SIOOBE_FORMATTER", type := (.object "java/util/function/BiFunction"), accessFlags := 25, slot := 0, constantValue := 0 }, { name := "AIOOBE_FORMATTER", type := (.object "java/util/function/BiFunction"), accessFlags := 25, slot := 1, constantValue := 0 }, { name := "IOOBE_FORMATTER", type := (.object "java/util/function/BiFunction"), accessFlags := 25, slot := 2, constantValue := 0 }]
  methods := #[k12m0]
  instanceTypes := #[]
  staticTypes := #[(.object "java/util/function/BiFunction"), (.object "java/util/function/BiFunction"), (.object "java/util/function/BiFunction")]
  resolved := Array.replicate 194 none
  statics := some 1 }

def pool13 : Array CpInfo := pool [(9, u "<init>"), (6, .class_ 18), (1, u "java/lang/Object"), (0, u "()V"), (1, .class_ 23), (1, u "jdk/internal/util/ArraysSupport"), (0, u "LOG2_ARRAY_LONG_INDEX_SCALE"), (0, u "I"), (2, u "U"), (0, u "Ljdk/internal/misc/Unsafe;"), (8, u "BIG_ENDIAN"), (0, u "Z"), (8, u "LOG2_BYTE_BIT_SIZE"), (4, u "LOG2_ARRAY_INT_INDEX_SCALE"), (54, u "JLA"), (0, u "Ljdk/internal/access/JavaLangAccess;"), (11, u "LOG2_ARRAY_BOOLEAN_INDEX_SCALE"), (9, u "LOG2_ARRAY_BYTE_INDEX_SCALE"), (5, u "LOG2_ARRAY_CHAR_INDEX_SCALE"), (5, u "LOG2_ARRAY_SHORT_INDEX_SCALE"), (18, u "LOG2_ARRAY_FLOAT_INDEX_SCALE"), (24, u "LOG2_ARRAY_DOUBLE_INDEX_SCALE"), (89, u "T_BOOLEAN"), (2, u "T_CHAR"), (1, u "T_FLOAT"), (1, u "T_DOUBLE"), (1, u "T_BYTE"), (1, u "T_SHORT"), (1, u "T_INT"), (1, u "T_LONG"), (1, u "SOFT_MAX_ARRAY_LENGTH")] 83

def k13m0 : Method := { name := "<init>", desc := "()V", sig := { parameters := [], returnType := none }, accessFlags := 2, code := none }
/-- jdk/internal/util/ArraysSupport -/
def k13 : Class := { plain "jdk/internal/util/ArraysSupport" (some 0) with
  accessFlags := 33
  interfaces := #[]
  cf := some (fileOf pool13 21 #[] #[{ accessFlags := 2, nameIndex := 9, descriptorIndex := 19, attributes := #[] }] 33 16 #[] #[{ accessFlags := 24, nameIndex := 28, descriptorIndex := 29, attributes := #[] }, { accessFlags := 26, nameIndex := 38, descriptorIndex := 39, attributes := #[] }, { accessFlags := 25, nameIndex := 121, descriptorIndex := 25, attributes := #[] }, { accessFlags := 25, nameIndex := 131, descriptorIndex := 25, attributes := #[] }, { accessFlags := 25, nameIndex := 137, descriptorIndex := 25, attributes := #[] }, { accessFlags := 25, nameIndex := 143, descriptorIndex := 25, attributes := #[] }, { accessFlags := 25, nameIndex := 53, descriptorIndex := 25, attributes := #[] }, { accessFlags := 25, nameIndex := 24, descriptorIndex := 25, attributes := #[] }, { accessFlags := 25, nameIndex := 162, descriptorIndex := 25, attributes := #[] }, { accessFlags := 25, nameIndex := 187, descriptorIndex := 25, attributes := #[] }, { accessFlags := 26, nameIndex := 48, descriptorIndex := 25, attributes := #[] }, { accessFlags := 25, nameIndex := 277, descriptorIndex := 25, attributes := #[] }, { accessFlags := 25, nameIndex := 280, descriptorIndex := 25, attributes := #[] }, { accessFlags := 25, nameIndex := 282, descriptorIndex := 25, attributes := #[] }, { accessFlags := 25, nameIndex := 284, descriptorIndex := 25, attributes := #[] }, { accessFlags := 25, nameIndex := 286, descriptorIndex := 25, attributes := #[] }, { accessFlags := 25, nameIndex := 288, descriptorIndex := 25, attributes := #[] }, { accessFlags := 25, nameIndex := 290, descriptorIndex := 25, attributes := #[] }, { accessFlags := 25, nameIndex := 292, descriptorIndex := 25, attributes := #[] }, { accessFlags := 26, nameIndex := 108, descriptorIndex := 109, attributes := #[] }, { accessFlags := 25, nameIndex := 294, descriptorIndex := 25, attributes := #[] }])
  fields := #[{ name := "U", type := (.object "jdk/internal/misc/Unsafe"), accessFlags := 24, slot := 0, constantValue := 0 }, { name := "BIG_ENDIAN", type := .boolean, accessFlags := 26, slot := 1, constantValue := 0 }, { name := "LOG2_ARRAY_BOOLEAN_INDEX_SCALE", type := .int, accessFlags := 25, slot := 2, constantValue := 0 }, { name := "LOG2_ARRAY_BYTE_INDEX_SCALE", type := .int, accessFlags := 25, slot := 3, constantValue := 0 }, { name := "LOG2_ARRAY_CHAR_INDEX_SCALE", type := .int, accessFlags := 25, slot := 4, constantValue := 0 }, { name := "LOG2_ARRAY_SHORT_INDEX_SCALE", type := .int, accessFlags := 25, slot := 5, constantValue := 0 }, { name := "LOG2_ARRAY_INT_INDEX_SCALE", type := .int, accessFlags := 25, slot := 6, constantValue := 0 }, { name := "LOG2_ARRAY_LONG_INDEX_SCALE", type := .int, accessFlags := 25, slot := 7, constantValue := 0 }, { name := "LOG2_ARRAY_FLOAT_INDEX_SCALE", type := .int, accessFlags := 25, slot := 8, constantValue := 0 }, { name := "LOG2_ARRAY_DOUBLE_INDEX_SCALE", type := .int, accessFlags := 25, slot := 9, constantValue := 0 }, { name := "LOG2_BYTE_BIT_SIZE", type := .int, accessFlags := 26, slot := 10, constantValue := 0 }, { name := "T_BOOLEAN", type := .int, accessFlags := 25, slot := 11, constantValue := 0 }, { name := "T_CHAR", type := .int, accessFlags := 25, slot := 12, constantValue := 0 }, { name := "T_FLOAT", type := .int, accessFlags := 25, slot := 13, constantValue := 0 }, { name := "T_DOUBLE", type := .int, accessFlags := 25, slot := 14, constantValue := 0 }, { name := "T_BYTE", type := .int, accessFlags := 25, slot := 15, constantValue := 0 }, { name := "T_SHORT", type := .int, accessFlags := 25, slot := 16, constantValue := 0 }, { name := "T_INT", type := .int, accessFlags := 25, slot := 17, constantValue := 0 }, { name := "T_LONG", type := .int, accessFlags := 25, slot := 18, constantValue := 0 }, { name := "JLA", type := (.object "jdk/internal/access/JavaLangAccess"), accessFlags := 26, slot := 19, constantValue := 0 }, { name := "SOFT_MAX_ARRAY_LENGTH", type := .int, accessFlags := 25, slot := 20, constantValue := 0 }]
  methods := #[k13m0]
  instanceTypes := #[]
  staticTypes := #[(.object "jdk/internal/misc/Unsafe"), .boolean, .int, .int, .int, .int, .int, .int, .int, .int, .int, .int, .int, .int, .int, .int, .int, .int, .int, (.object "jdk/internal/access/JavaLangAccess"), .int]
  resolved := Array.replicate 378 none
  statics := none }

def pool14 : Array CpInfo := pool [(1, u "java/lang/Cloneable"), (0, .class_ 1), (0, u "java/lang/Object"), (0, .class_ 3)] 3

/-- java/lang/Cloneable -/
def k14 : Class := { plain "java/lang/Cloneable" (some 0) with
  accessFlags := 1537
  interfaces := #[]
  cf := some (fileOf pool14 2 #[] #[] 1537 4 #[] #[])
  fields := #[]
  methods := #[]
  instanceTypes := #[]
  staticTypes := #[]
  resolved := Array.replicate 8 none
  statics := none }

/-- the primitive byte -/
def k15 : Class := { plain "byte" none with kind := .primitive 'B', accessFlags := 0x411 }
/-- [B -/
def k16 : Class := { plain "[B" (some 0) with kind := .array 15 .byte, interfaces := #[14, 2], accessFlags := 1041 }

/-- the primitive char -/
def k17 : Class := { plain "char" none with kind := .primitive 'C', accessFlags := 0x411 }
/-- [C -/
def k18 : Class := { plain "[C" (some 0) with kind := .array 17 .char, interfaces := #[14, 2], accessFlags := 1041 }

/-- the primitive int -/
def k19 : Class := { plain "int" none with kind := .primitive 'I', accessFlags := 0x411 }
/-- [I -/
def k20 : Class := { plain "[I" (some 0) with kind := .array 19 .int, interfaces := #[14, 2], accessFlags := 1041 }

def heap : Heap := #[{ cls := 7, slots := #[.long 0, .int 1, .null, .int 0, .null, .int 0, .int 0], vm := .statics 7 },
  { cls := 12, slots := #[.null, .null, .null], vm := .statics 12 }]
def classes : Array Class := #[k0, k1, k2, k3, k4, k5, k6, k7, k8, k9, k10, k11, k12, k13, k14, k15, k16, k17, k18, k19, k20]
def interned : List (Array UInt16 × Addr) := []
def slotsUsed : Nat := 10
def theMethod : MethodId := ⟨1, 1⟩
def args0 : Array Value := #[.int 5, .long 6, .int 7, .int 8]
def aboutOver (below : List Frame) : State where
  vm := { classes := classes, interned := interned.toArray }
  heap := heap
  slotsUsed := slotsUsed
  threads := #[{ frames := .invoking theMethod args0 :: below }]
def below0 : List Frame := [.native { method := ⟨0, 0⟩, args := #[] }]
def about1 : State := aboutOver below0
def p0 : Program := .bare "" "" ""
def e0 : Env := launch0.env 0 0 0
theorem w_frames : about1.frames = Frame.invoking theMethod args0 :: below0 := rfl
set_option maxRecDepth 65536 in
theorem w_args : argsFit about1.vm theMethod args0 = true := by decide +kernel
set_option maxRecDepth 65536 in
theorem w_heap : heapFits about1 = true := by decide +kernel
set_option maxRecDepth 65536 in
theorem w_runnable : about1.curStatus? = some .runnable := by decide +kernel
set_option maxRecDepth 65536 in
theorem w_alone : about1.alone = true := by decide +kernel
set_option maxRecDepth 65536 in
theorem w_named : about1.methodNamed? x = some theMethod := by decide +kernel
set_option maxRecDepth 65536 in
theorem w_hears : about1.hears theMethod below0 = true := by decide +kernel
set_option maxRecDepth 65536 in
theorem w_ripe : about1.ripe theMethod args0 below0 = true := by decide +kernel
theorem w_running : about1.status = .running := rfl
set_option maxRecDepth 65536 in
theorem w_room : about1.hasRoom e0.platform room_1 = true :=
  launch0.hasRoom_least _ room_1 (by decide +kernel) (by decide +kernel) (by decide +kernel) (by decide +kernel) (by decide +kernel) (by decide +kernel)
theorem allAtoms_all (ts : List Jvm.Cond) (a : Array Jvm.Value) (st : Jvm.State) : (allAtoms ts).before a st = ts.all (fun c => c.before a st) := by
  induction ts with
  | nil => rfl
  | cons c t ih =>
    show (Jvm.Cond.and c (allAtoms t)).before a st = _
    rw [Jvm.Cond.before_and, ih, List.all_cons]
def words1 : List Jvm.Cond := Jvm.Cond.code x code maxLocals ret :: tables_1
/-- a 'code' word, met by the world's own term for the bytes: nothing is compared byte by byte -/
theorem code_word {y : MethodName} {bytes : ByteArray} {mx : Nat} {rt : Option FieldType} {a : Array Value} {s : State} {m : MethodId} {meth : Method} {c : Code} (h1 : s.methodNamed? y = some m) (h2 : s.vm.method? m = some meth) (h3 : meth.code = some c) (h4 : c.code = bytes)
    (h5 : (c.maxLocals == mx && c.exceptionTable.isEmpty && decide (c.maxStack ≤ mostOperands) && decide (meth.sig.returnType = rt) && !meth.locks && decide (parseMethodDescriptor y.desc = some meth.sig)) = true) : (Jvm.Cond.code y bytes mx rt).before a s = true := by
  simp only [Bool.and_eq_true, beq_iff_eq, Bool.not_eq_true', decide_eq_true_eq] at h5
  obtain ⟨⟨⟨⟨⟨g1, g2⟩, g3⟩, g4⟩, g5⟩, g6⟩ := h5
  simp [Cond.before, Cond.holds, Cond.value, h1, h2, h3, h4, g1, g2, g3, g4, g5, g6]
def isCode : Jvm.Cond → Bool
  | .code _ _ _ _ => true
  | _ => false
theorem all_split {L : List Jvm.Cond} {P : Jvm.Cond → Bool} (h1 : L.all (fun c => isCode c || P c) = true) (h2 : ∀ c ∈ L.filter isCode, P c = true) : L.all P = true := by
  refine List.all_eq_true.mpr fun c hc => ?_
  have h := List.all_eq_true.mp h1 c hc
  rcases Bool.eq_false_or_eq_true (isCode c) with hi | hi
  · exact h2 c (List.mem_filter.mpr ⟨hc, hi⟩)
  · simpa [hi] using h
set_option maxRecDepth 65536 in
theorem w_c0 : (Jvm.Cond.code x code maxLocals ret).before args0 about1 = true := code_word (m := ⟨1, 1⟩) (meth := k1m1) (c := k1c1) (by decide +kernel) rfl rfl rfl (by decide +kernel)
set_option maxRecDepth 65536 in
theorem w_c1 : (Jvm.Cond.code ({ cls := "com/example/mitosis/mitosis/core/Change", name := "<init>", desc := "(Ljava/lang/String;J[B)V" } : Jvm.MethodName) prog_3_method_1_code (5 : Nat) (Option.none : Option Jvm.ClassFile.FieldType)).before args0 about1 = true := code_word (m := ⟨9, 0⟩) (meth := k9m0) (c := k9c0) (by decide +kernel) rfl rfl rfl (by decide +kernel)
set_option maxRecDepth 65536 in
theorem w_c2 : (Jvm.Cond.code ({ cls := "java/lang/Record", name := "<init>", desc := "()V" } : Jvm.MethodName) jdk_30_method_1_code (1 : Nat) (Option.none : Option Jvm.ClassFile.FieldType)).before args0 about1 = true := code_word (m := ⟨8, 0⟩) (meth := k8m0) (c := k8c0) (by decide +kernel) rfl rfl rfl (by decide +kernel)
set_option maxRecDepth 65536 in
theorem w_c3 : (Jvm.Cond.code ({ cls := "java/lang/Object", name := "<init>", desc := "()V" } : Jvm.MethodName) object_method_1_code (1 : Nat) (Option.none : Option Jvm.ClassFile.FieldType)).before args0 about1 = true := code_word (m := ⟨0, 0⟩) (meth := k0m0) (c := k0c0) (by decide +kernel) rfl rfl rfl (by decide +kernel)
set_option maxRecDepth 65536 in
theorem w_c4 : (Jvm.Cond.code ({ cls := "com/example/mitosis/mitosis/core/Change", name := "delete", desc := "(Ljava/lang/String;J)Lcom/example/mitosis/mitosis/core/Change;" } : Jvm.MethodName) prog_3_method_3_code (3 : Nat) (Option.some (Jvm.ClassFile.FieldType.object "com/example/mitosis/mitosis/core/Change"))).before args0 about1 = true := code_word (m := ⟨9, 2⟩) (meth := k9m2) (c := k9c2) (by decide +kernel) rfl rfl rfl (by decide +kernel)
set_option maxRecDepth 65536 in
theorem w_c5 : (Jvm.Cond.code ({ cls := "com/example/mitosis/mitosis/core/Change", name := "put", desc := "(Ljava/lang/String;J[B)Lcom/example/mitosis/mitosis/core/Change;" } : Jvm.MethodName) prog_3_method_2_code (4 : Nat) (Option.some (Jvm.ClassFile.FieldType.object "com/example/mitosis/mitosis/core/Change"))).before args0 about1 = true := code_word (m := ⟨9, 1⟩) (meth := k9m1) (c := k9c1) (by decide +kernel) rfl rfl rfl (by decide +kernel)
set_option maxRecDepth 65536 in
theorem w_c6 : (Jvm.Cond.code ({ cls := "com/example/mitosis/mitosis/core/Change", name := "isDelete", desc := "()Z" } : Jvm.MethodName) prog_3_method_4_code (1 : Nat) (Option.some Jvm.ClassFile.FieldType.boolean)).before args0 about1 = true := code_word (m := ⟨9, 3⟩) (meth := k9m3) (c := k9c3) (by decide +kernel) rfl rfl rfl (by decide +kernel)
set_option maxRecDepth 65536 in
theorem w_c7 : (Jvm.Cond.code ({ cls := "java/lang/String", name := "<init>", desc := "([C)V" } : Jvm.MethodName) jdk_42_method_3_code (2 : Nat) (Option.none : Option Jvm.ClassFile.FieldType)).before args0 about1 = true := code_word (m := ⟨7, 1⟩) (meth := k7m1) (c := k7c1) (by decide +kernel) rfl rfl rfl (by decide +kernel)
set_option maxRecDepth 65536 in
theorem w_c8 : (Jvm.Cond.code ({ cls := "java/lang/String", name := "<init>", desc := "([CIILjava/lang/Void;)V" } : Jvm.MethodName) jdk_42_method_149_code (6 : Nat) (Option.none : Option Jvm.ClassFile.FieldType)).before args0 about1 = true := code_word (m := ⟨7, 2⟩) (meth := k7m2) (c := k7c2) (by decide +kernel) rfl rfl rfl (by decide +kernel)
set_option maxRecDepth 65536 in
theorem w_c9 : (Jvm.Cond.code ({ cls := "java/lang/StringUTF16", name := "compress", desc := "([CII)[B" } : Jvm.MethodName) jdk_52_method_16_code (6 : Nat) (Option.some (Jvm.ClassFile.FieldType.array Jvm.ClassFile.FieldType.byte))).before args0 about1 = true := code_word (m := ⟨10, 2⟩) (meth := k10m2) (c := k10c2) (by decide +kernel) rfl rfl rfl (by decide +kernel)
set_option maxRecDepth 65536 in
theorem w_c10 : (Jvm.Cond.code ({ cls := "java/lang/StringUTF16", name := "compress", desc := "([CI[BII)I" } : Jvm.MethodName) jdk_52_method_21_code (7 : Nat) (Option.some Jvm.ClassFile.FieldType.int)).before args0 about1 = true := code_word (m := ⟨10, 3⟩) (meth := k10m3) (c := k10c3) (by decide +kernel) rfl rfl rfl (by decide +kernel)
set_option maxRecDepth 65536 in
theorem w_c11 : (Jvm.Cond.code ({ cls := "java/lang/StringUTF16", name := "coderFromArrayLen", desc := "([BI)B" } : Jvm.MethodName) jdk_52_method_15_code (2 : Nat) (Option.some Jvm.ClassFile.FieldType.byte)).before args0 about1 = true := code_word (m := ⟨10, 1⟩) (meth := k10m1) (c := k10c1) (by decide +kernel) rfl rfl rfl (by decide +kernel)
def codes1 : List Jvm.Cond := [Jvm.Cond.code x code maxLocals ret, Jvm.Cond.code ({ cls := "com/example/mitosis/mitosis/core/Change", name := "<init>", desc := "(Ljava/lang/String;J[B)V" } : Jvm.MethodName) prog_3_method_1_code (5 : Nat) (Option.none : Option Jvm.ClassFile.FieldType), Jvm.Cond.code ({ cls := "java/lang/Record", name := "<init>", desc := "()V" } : Jvm.MethodName) jdk_30_method_1_code (1 : Nat) (Option.none : Option Jvm.ClassFile.FieldType), Jvm.Cond.code ({ cls := "java/lang/Object", name := "<init>", desc := "()V" } : Jvm.MethodName) object_method_1_code (1 : Nat) (Option.none : Option Jvm.ClassFile.FieldType), Jvm.Cond.code ({ cls := "com/example/mitosis/mitosis/core/Change", name := "delete", desc := "(Ljava/lang/String;J)Lcom/example/mitosis/mitosis/core/Change;" } : Jvm.MethodName) prog_3_method_3_code (3 : Nat) (Option.some (Jvm.ClassFile.FieldType.object "com/example/mitosis/mitosis/core/Change")), Jvm.Cond.code ({ cls := "com/example/mitosis/mitosis/core/Change", name := "put", desc := "(Ljava/lang/String;J[B)Lcom/example/mitosis/mitosis/core/Change;" } : Jvm.MethodName) prog_3_method_2_code (4 : Nat) (Option.some (Jvm.ClassFile.FieldType.object "com/example/mitosis/mitosis/core/Change")), Jvm.Cond.code ({ cls := "com/example/mitosis/mitosis/core/Change", name := "isDelete", desc := "()Z" } : Jvm.MethodName) prog_3_method_4_code (1 : Nat) (Option.some Jvm.ClassFile.FieldType.boolean), Jvm.Cond.code ({ cls := "java/lang/String", name := "<init>", desc := "([C)V" } : Jvm.MethodName) jdk_42_method_3_code (2 : Nat) (Option.none : Option Jvm.ClassFile.FieldType), Jvm.Cond.code ({ cls := "java/lang/String", name := "<init>", desc := "([CIILjava/lang/Void;)V" } : Jvm.MethodName) jdk_42_method_149_code (6 : Nat) (Option.none : Option Jvm.ClassFile.FieldType), Jvm.Cond.code ({ cls := "java/lang/StringUTF16", name := "compress", desc := "([CII)[B" } : Jvm.MethodName) jdk_52_method_16_code (6 : Nat) (Option.some (Jvm.ClassFile.FieldType.array Jvm.ClassFile.FieldType.byte)), Jvm.Cond.code ({ cls := "java/lang/StringUTF16", name := "compress", desc := "([CI[BII)I" } : Jvm.MethodName) jdk_52_method_21_code (7 : Nat) (Option.some Jvm.ClassFile.FieldType.int), Jvm.Cond.code ({ cls := "java/lang/StringUTF16", name := "coderFromArrayLen", desc := "([BI)B" } : Jvm.MethodName) jdk_52_method_15_code (2 : Nat) (Option.some Jvm.ClassFile.FieldType.byte)]
set_option maxRecDepth 65536 in
theorem codes_eq : words1.filter isCode = codes1 := rfl
theorem w_codes : ∀ c ∈ words1.filter isCode, c.before args0 about1 = true := by
  rw [codes_eq]
  intro c hc
  simp only [codes1, List.mem_cons, List.not_mem_nil, or_false] at hc
  rcases hc with rfl | rfl | rfl | rfl | rfl | rfl | rfl | rfl | rfl | rfl | rfl | rfl
  · exact w_c0
  · exact w_c1
  · exact w_c2
  · exact w_c3
  · exact w_c4
  · exact w_c5
  · exact w_c6
  · exact w_c7
  · exact w_c8
  · exact w_c9
  · exact w_c10
  · exact w_c11
set_option maxRecDepth 65536 in
theorem w_t1 : (words1.take 24).all (fun c => isCode c || c.before args0 about1) = true := by decide +kernel
set_option maxRecDepth 65536 in
theorem w_t2 : ((words1.drop 24).take 24).all (fun c => isCode c || c.before args0 about1) = true := by decide +kernel
set_option maxRecDepth 65536 in
theorem w_t3 : ((words1.drop 24).drop 24).all (fun c => isCode c || c.before args0 about1) = true := by decide +kernel
theorem w_tables : (allAtoms (Jvm.Cond.code x code maxLocals ret :: tables_1)).before args0 about1 = true := by
  rw [allAtoms_all]
  show words1.all (fun c => c.before args0 about1) = true
  refine all_split ?_ w_codes
  rw [← List.take_append_drop 24 words1, List.all_append, w_t1, ← List.take_append_drop 24 (words1.drop 24), List.all_append, w_t2, w_t3]
  rfl
set_option maxRecDepth 65536 in
theorem w_rest : rest_1_c.before args0 about1 = true := by decide +kernel
set_option maxRecDepth 65536 in
theorem w_case : (Jvm.Cond.and given_1 narrow_1).before args0 about1 = true := by decide +kernel
theorem w_applies : (headSpec (Jvm.Cond.code x code maxLocals ret :: tables_1) room_1).applies x e0.platform about1 = true :=
  (Spec.applies_iff w_frames).mpr ⟨w_running, w_runnable, w_alone, w_named, w_hears, w_ripe, w_room, w_tables⟩
theorem atStart : AtStart classFile x code maxLocals ret World_1 tables_1 room_1 Calls_1 rest_1 Pre_1 launch0 p0 e0 about1 theMethod args0 below0 :=
  ⟨lists_1, trivial, launch0.admits_env _ _ _, launch0.least_env, fairChoices_fair.cas, fairChoices_fair.clock, w_frames, w_args, w_heap, w_applies, trivial, w_rest, w_case⟩
end start1
theorem witness_1 : WitnessClaimed_1 := ⟨start1.p0, start1.e0, start1.about1, start1.theMethod, start1.args0, start1.below0, start1.atStart⟩
end Jvm.Pilot.@@N@@
