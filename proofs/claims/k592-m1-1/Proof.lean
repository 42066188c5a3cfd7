import JvmDerived
import JvmDerived.Pilot.@@N@@Statement
import JvmDerived.Pilot.@@N@@Code
set_option linter.unusedVariables false
set_option linter.unusedSimpArgs false
/- laws to paste: Road.backV (cut by pick.py; bodies as the Statement names them) -/
namespace Jvm.Pilot.@@N@@
namespace StrChars
open Jvm Sem ClassFile Op Lib Jvm.Stand Jvm.Free.XT Jvm.Free.ALB Jvm.Free.JM Jvm.Free
open Jvm.Lib.Cold (StaticIs)
/-- a char array whose places are chars -/
def Ch (a : Addr) (A : Cell) (U : State) : Prop := Arr .char a A U ∧ Typed .char A
theorem Ch.mv {a : Addr} {A : Cell} {U U' : State} (h : Ch a A U) (hal : U.vm.Alike U'.vm) (hh : U'.heap = U.heap) : Ch a A U' := ⟨h.1.mv hal hh, h.2⟩
theorem Ch.keep {a : Addr} {A : Cell} {U U' : State} (h : Ch a A U) (hal : U.vm.Alike U'.vm) (hk : U'.heap[a]? = some A) : Ch a A U' := ⟨h.1.keep hal hk, h.2⟩
/-- what place i of a char[]'s cell holds -/
def cv (A : Cell) (i : Nat) : Int32 := match A.slots[i]? with | some (.int x) => x | _ => 0
theorem Ch.get {a : Addr} {A : Cell} {U : State} (h : Ch a A U) {i : Nat} (hi : i < A.slots.size) : A.slots[i]? = some (.int (cv A i)) := by
  have e := Array.getElem?_eq_getElem hi
  have f := h.2 i _ e
  unfold cv; rw [e]
  generalize A.slots[i] = v at f
  cases v <;> simp [fits] at f ⊢
/-- the byte that i2b leaves of a char -/
def lo8 (x : Int32) : Int32 := x.toInt8.toInt32
theorem fits_lo8 (y : Int32) : fits .byte (.int (lo8 y)) = true := by
  have h1 := y.toInt8.le_toInt
  have h2 := y.toInt8.toInt_lt
  simp only [lo8, fits, Bool.and_eq_true, decide_eq_true_eq, Int32.le_iff_toInt_le, Int8.toInt_toInt32, show (-128 : Int32).toInt = -128 from by decide, show (127 : Int32).toInt = 127 from by decide]
  omega
/-- A' is A but that each place j of lo .. hi - 1 holds f j -/
def Laid (A A' : Cell) (lo hi : Nat) (f : Nat → Value) : Prop := A'.cls = A.cls ∧ A'.vm = A.vm ∧ A'.slots.size = A.slots.size ∧ ∀ i, A'.slots[i]? = if lo ≤ i ∧ i < hi then some (f i) else A.slots[i]?
theorem Laid.zero (A : Cell) (lo : Nat) (f : Nat → Value) : Laid A A lo (lo + 0) f := ⟨rfl, rfl, rfl, fun i => by rw [if_neg (by omega)]⟩
theorem Laid.step {A Ak : Cell} {lo k : Nat} {f : Nat → Value} {v : Value} (h : Laid A Ak lo k f) (hlo : lo ≤ k) (hk : k < Ak.slots.size) (hv : v = f k) : Laid A (Ak.setSlot k v) lo (k + 1) f := by
  refine ⟨h.1, h.2.1, by simpa [Cell.setSlot] using h.2.2.1, fun i => ?_⟩
  by_cases e : k = i
  · subst e; rw [Cell.slots_setSlot_self v hk, if_pos (by omega), hv]
  · rw [Cell.slots_setSlot_ne v e, h.2.2.2 i]
    by_cases q : lo ≤ i ∧ i < k
    · rw [if_pos q, if_pos (by omega)]
    · rw [if_neg q, if_neg (by omega)]
def U16 : String := "java/lang/StringUTF16"
namespace Cmp5
def yN : MethodName := ⟨"java/lang/StringUTF16", "compress", "([CI[BII)I"⟩
abbrev yB : ByteArray := jdk_52_method_21_code
theorem d0 : decode yB 0 = .ok (.iconst 0, 1) := by decide +kernel
theorem d1 : decode yB 1 = .ok (.istore 5, 2) := by decide +kernel
theorem d3 : decode yB 3 = .ok (.iload 5, 2) := by decide +kernel
theorem d5 : decode yB 5 = .ok (.iload 4, 2) := by decide +kernel
theorem d7 : decode yB 7 = .ok (.if_icmp (.ge) 37, 3) := by decide +kernel
theorem d10 : decode yB 10 = .ok (.aload_n 0, 1) := by decide +kernel
theorem d11 : decode yB 11 = .ok (.iload_n 1, 1) := by decide +kernel
theorem d12 : decode yB 12 = .ok (.caload, 1) := by decide +kernel
theorem d13 : decode yB 13 = .ok (.istore 6, 2) := by decide +kernel
theorem d15 : decode yB 15 = .ok (.iload 6, 2) := by decide +kernel
theorem d17 : decode yB 17 = .ok (.sipush 255, 3) := by decide +kernel
theorem d20 : decode yB 20 = .ok (.if_icmp (.le) 6, 3) := by decide +kernel
theorem d26 : decode yB 26 = .ok (.aload_n 2, 1) := by decide +kernel
theorem d27 : decode yB 27 = .ok (.iload_n 3, 1) := by decide +kernel
theorem d28 : decode yB 28 = .ok (.iload 6, 2) := by decide +kernel
theorem d30 : decode yB 30 = .ok (.i2b, 1) := by decide +kernel
theorem d31 : decode yB 31 = .ok (.bastore, 1) := by decide +kernel
theorem d32 : decode yB 32 = .ok (.iinc 1 1, 3) := by decide +kernel
theorem d35 : decode yB 35 = .ok (.iinc 3 1, 3) := by decide +kernel
theorem d38 : decode yB 38 = .ok (.iinc 5 1, 3) := by decide +kernel
theorem d41 : decode yB 41 = .ok (.goto (-38), 3) := by decide +kernel
theorem d44 : decode yB 44 = .ok (.iload 4, 2) := by decide +kernel
theorem d46 : decode yB 46 = .ok (.ireturn, 1) := by decide +kernel
def site : List Cond := []
def tab : Cond := tabOf yN yB 7 (some .int) site
def P (b : Addr) (A : Cell) (d : Addr) (B : Cell) (o q len : Nat) (args : Array Value) (s : State) : Prop := args = #[.ref b, .int (Int32.ofNat o), .ref d, .int (Int32.ofNat q), .int (Int32.ofNat len)] ∧ Ch b A s ∧ Arr .byte d B s ∧ b ≠ d ∧ o + len ≤ A.slots.size ∧ q + len ≤ B.slots.size ∧ ∀ i, i < len → ¬ 255 < cv A (o + i)
def E (b : Addr) (A : Cell) (d : Addr) (B : Cell) (o q len : Nat) (r : Option Value) (s u : State) : Prop := r = some (.int (Int32.ofNat len)) ∧ ∃ B', Put d B' s u ∧ Laid B B' q (q + len) (fun j => Value.int (lo8 (cv A (o + (j - q)))))
/-- no char of the range above 255: len; the places written hold each char's low byte -/
theorem law (l : Launch) (b : Addr) (A : Cell) (d : Addr) (B : Cell) (o q len : Nat) : Law l yN 5 5 0 0 yB 7 (some .int) site (P b A d B o q len) (E b A d B o q len) (copyLocs d q len) 0 0 := by
  refine Law.of_walk (plainFor_of_name (by decide +kernel)) (by decide +kernel) (by decide +kernel) (by decide) (fun _ _ h => by rw [h.1]; rfl) (fun _ U U' hal hh h => ⟨h.1, h.2.1.mv hal hh, h.2.2.1.mv hal hh, h.2.2.2⟩) (fun r U U' V V' h1 hal h2 h => ⟨h.1, h.2.elim fun B' q => ⟨B', q.1.mv h1 h2, q.2⟩⟩) ?_
  intro p e s m args below meth c s₁ X0 hexec hbytes hml hret hlk hnm hown hh0 W hP
  obtain ⟨rfl, hA, hB, hne, l1, l2, hp⟩ := hP
  have c1 : Steps p.tables e below (s₁.setTop (entryFrame m #[.ref b, .int (Int32.ofNat o), .ref d, .int (Int32.ofNat q), .int (Int32.ofNat len)] 7)) (s₁.setTop (mkF m 0 #[.val (.ref b), .val (.int (Int32.ofNat o)), .val (.ref d), .val (.int (Int32.ofNat q)), .val (.int (Int32.ofNat len)), .unset, .unset] [])) := entry rfl
  have hA0 := hA.1.mv X0.warmed.alike hh0
  have hB0 := hB.mv X0.warmed.alike hh0
  have a31 := hA.1.2.2.2
  have c2 : Steps p.tables e below (s₁.setTop (entryFrame m #[.ref b, .int (Int32.ofNat o), .ref d, .int (Int32.ofNat q), .int (Int32.ofNat len)] 7)) (s₁.setTop (mkF m 3 #[.val (.ref b), .val (.int (Int32.ofNat o)), .val (.ref d), .val (.int (Int32.ofNat q)), .val (.int (Int32.ofNat len)), .val (.int 0), .unset] [])) := c1.trans (by
    refine iconstV X0.here hexec rfl 0 (hb hbytes d0) (by decide) ?_
    refine XS.istore X0.here hexec rfl (hb hbytes d1) rfl rfl ?_
    exact Steps.refl _)
  have loop : ∀ (r i : Nat), i + r = len → ∀ (z : Slot), (z = .unset ∨ ∃ w, z = .val w ∧ w.category = 1) → ∀ (Tl : State) (Bk : Cell), Stand p l e { frames := 0, locals := 0, cells := 0, slots := 0 } s m #[.ref b, .int (Int32.ofNat o), .ref d, .int (Int32.ofNat q), .int (Int32.ofNat len)] below meth c Tl ([] ++ copyLocs d q i) 0 0 → Put d Bk s₁ Tl → Laid B Bk q (q + i) (fun j => Value.int (lo8 (cv A (o + (j - q))))) →
      Steps p.tables e below (s₁.setTop (entryFrame m #[.ref b, .int (Int32.ofNat o), .ref d, .int (Int32.ofNat q), .int (Int32.ofNat len)] 7)) (Tl.setTop (mkF m 3 #[.val (.ref b), .val (.int (Int32.ofNat (o + i))), .val (.ref d), .val (.int (Int32.ofNat (q + i))), .val (.int (Int32.ofNat len)), .val (.int (Int32.ofNat i)), z] [])) → ∃ (T' : State) (B' : Cell) (z' : Slot), Stand p l e { frames := 0, locals := 0, cells := 0, slots := 0 } s m #[.ref b, .int (Int32.ofNat o), .ref d, .int (Int32.ofNat q), .int (Int32.ofNat len)] below meth c T' ([] ++ copyLocs d q len) 0 0 ∧ Put d B' s₁ T' ∧ Laid B B' q (q + len) (fun j => Value.int (lo8 (cv A (o + (j - q))))) ∧
      Steps p.tables e below (s₁.setTop (entryFrame m #[.ref b, .int (Int32.ofNat o), .ref d, .int (Int32.ofNat q), .int (Int32.ofNat len)] 7)) (T'.setTop (mkF m 3 #[.val (.ref b), .val (.int (Int32.ofNat (o + len))), .val (.ref d), .val (.int (Int32.ofNat (q + len))), .val (.int (Int32.ofNat len)), .val (.int (Int32.ofNat len)), z'] [])) := by
    intro r
    induction r with
    | zero =>
      intro i hi z hz Tl Bk Xl pl fl cl
      have hil : i = len := by omega
      rw [hil] at Xl fl cl
      exact ⟨Tl, Bk, z, Xl, pl, fl, cl⟩
    | succ r ih =>
      intro i hi z hz Tl Bk Xl pl fl cl
      have all := X0.warmed.alike.symm.trans Xl.warmed.alike
      have hAl := hA0.keep all (pl.other hne hA0.1)
      have hBk := hB0.like all pl.1 fl.1 fl.2.1 fl.2.2.1
      have hlt : q + i < Bk.slots.size := by rw [fl.2.2.1]; omega
      have c3 : Steps p.tables e below (s₁.setTop (entryFrame m #[.ref b, .int (Int32.ofNat o), .ref d, .int (Int32.ofNat q), .int (Int32.ofNat len)] 7)) (Tl.setTop (mkF m 12 #[.val (.ref b), .val (.int (Int32.ofNat (o + i))), .val (.ref d), .val (.int (Int32.ofNat (q + i))), .val (.int (Int32.ofNat len)), .val (.int (Int32.ofNat i)), z] [.int (Int32.ofNat (o + i)), .ref b])) := cl.trans (by
        refine XS.iload Xl.here hexec rfl (hb hbytes d3) rfl ?_
        refine XS.iload Xl.here hexec rfl (hb hbytes d5) rfl ?_
        refine XS.icmpNo Xl.here hexec rfl (hb hbytes d7) rfl (ii_ge_f (lt32 (by omega) (by omega))) ?_
        refine XS.aloadN Xl.here hexec rfl (hb hbytes d10) rfl rfl ?_
        refine XS.iloadN Xl.here hexec rfl (hb hbytes d11) rfl ?_
        exact Steps.refl _)
      have c4 : Steps p.tables e below (s₁.setTop (entryFrame m #[.ref b, .int (Int32.ofNat o), .ref d, .int (Int32.ofNat q), .int (Int32.ofNat len)] 7)) (Tl.setTop (mkF m 13 #[.val (.ref b), .val (.int (Int32.ofNat (o + i))), .val (.ref d), .val (.int (Int32.ofNat (q + i))), .val (.int (Int32.ofNat len)), .val (.int (Int32.ofNat i)), z] [.int (cv A (o + i))])) := c3.trans (by
        refine Xl.aget hexec hAl rfl (hA.get (i := o + i) (by omega)) rfl rfl (hb hbytes d12) ?_
        exact Steps.refl _)
      have c5 : Steps p.tables e below (s₁.setTop (entryFrame m #[.ref b, .int (Int32.ofNat o), .ref d, .int (Int32.ofNat q), .int (Int32.ofNat len)] 7)) (Tl.setTop (mkF m 15 #[.val (.ref b), .val (.int (Int32.ofNat (o + i))), .val (.ref d), .val (.int (Int32.ofNat (q + i))), .val (.int (Int32.ofNat len)), .val (.int (Int32.ofNat i)), .val (.int (cv A (o + i)))] [])) := c4.trans (by
        refine XS.istoreS Xl.here hexec rfl (hb hbytes d13) rfl rfl hz ?_
        exact Steps.refl _)
      have c6 : Steps p.tables e below (s₁.setTop (entryFrame m #[.ref b, .int (Int32.ofNat o), .ref d, .int (Int32.ofNat q), .int (Int32.ofNat len)] 7)) (Tl.setTop (mkF m 31 #[.val (.ref b), .val (.int (Int32.ofNat (o + i))), .val (.ref d), .val (.int (Int32.ofNat (q + i))), .val (.int (Int32.ofNat len)), .val (.int (Int32.ofNat i)), .val (.int (cv A (o + i)))] [.int (lo8 (cv A (o + i))), .int (Int32.ofNat (q + i)), .ref d])) := c5.trans (by
        refine XS.iload Xl.here hexec rfl (hb hbytes d15) rfl ?_
        refine sipushV Xl.here hexec rfl 255 (hb hbytes d17) (by decide) ?_
        refine XS.icmpYes Xl.here hexec rfl (pc0 := 20) rfl (hb hbytes d20) rfl (ii_le_t (hp i (by omega))) (by decide) rfl ?_
        refine XS.aloadN Xl.here hexec rfl (hb hbytes d26) rfl rfl ?_
        refine XS.iloadN Xl.here hexec rfl (hb hbytes d27) rfl ?_
        refine XS.iload Xl.here hexec rfl (hb hbytes d28) rfl ?_
        refine i2b Xl.here hexec rfl (hb hbytes d30) rfl ?_
        exact Steps.refl _)
      obtain ⟨T7, X7, p7, st7⟩ := Xl.aput hexec hBk rfl hlt rfl (fits_lo8 (cv A (o + i))) (g := (mkF m 31 #[.val (.ref b), .val (.int (Int32.ofNat (o + i))), .val (.ref d), .val (.int (Int32.ofNat (q + i))), .val (.int (Int32.ofNat len)), .val (.int (Int32.ofNat i)), .val (.int (cv A (o + i)))] [.int (lo8 (cv A (o + i))), .int (Int32.ofNat (q + i)), .ref d])) rfl (rest := []) rfl (hb hbytes d31)
      have c8 : Steps p.tables e below (s₁.setTop (entryFrame m #[.ref b, .int (Int32.ofNat o), .ref d, .int (Int32.ofNat q), .int (Int32.ofNat len)] 7)) (T7.setTop (mkF m 32 #[.val (.ref b), .val (.int (Int32.ofNat (o + i))), .val (.ref d), .val (.int (Int32.ofNat (q + i))), .val (.int (Int32.ofNat len)), .val (.int (Int32.ofNat i)), .val (.int (cv A (o + i)))] [])) := c6.trans (st7 _ (Steps.refl _))
      have c9 : Steps p.tables e below (s₁.setTop (entryFrame m #[.ref b, .int (Int32.ofNat o), .ref d, .int (Int32.ofNat q), .int (Int32.ofNat len)] 7)) (T7.setTop (mkF m 3 #[.val (.ref b), .val (.int (Int32.ofNat (o + i) + 1)), .val (.ref d), .val (.int (Int32.ofNat (q + i) + 1)), .val (.int (Int32.ofNat len)), .val (.int (Int32.ofNat i + 1)), .val (.int (cv A (o + i)))] [])) := c8.trans (by
        refine iincV X7.here hexec rfl 1 (hb hbytes d32) (by decide) rfl rfl ?_
        refine iincV X7.here hexec rfl 1 (hb hbytes d35) (by decide) rfl rfl ?_
        refine iincV X7.here hexec rfl 1 (hb hbytes d38) (by decide) rfl rfl ?_
        refine XS.goto X7.here hexec rfl (pc0 := 41) rfl (hb hbytes d41) (by decide) rfl ?_
        exact Steps.refl _)
      have c10 : Steps p.tables e below (s₁.setTop (entryFrame m #[.ref b, .int (Int32.ofNat o), .ref d, .int (Int32.ofNat q), .int (Int32.ofNat len)] 7)) (T7.setTop (mkF m 3 #[.val (.ref b), .val (.int (Int32.ofNat (o + (i + 1)))), .val (.ref d), .val (.int (Int32.ofNat (q + (i + 1)))), .val (.int (Int32.ofNat len)), .val (.int (Int32.ofNat (i + 1))), .val (.int (cv A (o + i)))] [])) := by
        have := c9
        rw [succ32, succ32, succ32] at this
        exact this
      exact ih (i + 1) (by omega) _ (Or.inr ⟨_, rfl, rfl⟩) T7 _ (by rw [copyLocs_step, ← List.append_assoc]; exact X7) (pl.trans p7) (fl.step (by omega) hlt (by simp)) c10
  obtain ⟨T9, B9, z9, X9, p9, f9, g9⟩ := loop len 0 (by omega) .unset (Or.inl rfl) s₁ B (by simpa [copyLocs] using X0) ⟨hB0.1, fun _ _ => rfl, rfl⟩ (Laid.zero _ _ _) c2
  have c11 : Steps p.tables e below (s₁.setTop (entryFrame m #[.ref b, .int (Int32.ofNat o), .ref d, .int (Int32.ofNat q), .int (Int32.ofNat len)] 7)) (T9.setTop (mkF m 46 #[.val (.ref b), .val (.int (Int32.ofNat (o + len))), .val (.ref d), .val (.int (Int32.ofNat (q + len))), .val (.int (Int32.ofNat len)), .val (.int (Int32.ofNat len)), z9] [.int (Int32.ofNat len)])) := g9.trans (by
    refine XS.iload X9.here hexec rfl (hb hbytes d3) rfl ?_
    refine XS.iload X9.here hexec rfl (hb hbytes d5) rfl ?_
    refine XS.icmpYes X9.here hexec rfl (pc0 := 7) rfl (hb hbytes d7) rfl (ii_ge_t (nlt32 (by omega) (Nat.le_refl _))) (by decide) rfl ?_
    refine XS.iload X9.here hexec rfl (hb hbytes d44) rfl ?_
    exact Steps.refl _)
  exact ⟨T9, some (.int (Int32.ofNat len)), _, _, _, X9, by simp, rfl, rfl, (fun h => by cases h), ⟨rfl, B9, p9.from hh0, f9⟩, fun fs hl => c11.trans (X9.ireturnOut hexec hret rfl (Or.inl rfl) (hb hbytes d46) hl)⟩
end Cmp5
namespace Cmp3
def yN : MethodName := ⟨"java/lang/StringUTF16", "compress", "([CII)[B"⟩
abbrev yB : ByteArray := jdk_52_method_16_code
theorem d0 : decode yB 0 = .ok (.iload_n 2, 1) := by decide +kernel
theorem d1 : decode yB 1 = .ok (.newarray .byte, 2) := by decide +kernel
theorem d3 : decode yB 3 = .ok (.astore_n 3, 1) := by decide +kernel
theorem d4 : decode yB 4 = .ok (.aload_n 0, 1) := by decide +kernel
theorem d5 : decode yB 5 = .ok (.iload_n 1, 1) := by decide +kernel
theorem d6 : decode yB 6 = .ok (.aload_n 3, 1) := by decide +kernel
theorem d7 : decode yB 7 = .ok (.iconst 0, 1) := by decide +kernel
theorem d8 : decode yB 8 = .ok (.iload_n 2, 1) := by decide +kernel
theorem d9 : decode yB 9 = .ok (.invokestatic 115, 3) := by decide +kernel
theorem d12 : decode yB 12 = .ok (.istore 4, 2) := by decide +kernel
theorem d14 : decode yB 14 = .ok (.iload 4, 2) := by decide +kernel
theorem d16 : decode yB 16 = .ok (.iload_n 2, 1) := by decide +kernel
theorem d17 : decode yB 17 = .ok (.if_icmp (.eq) 40, 3) := by decide +kernel
theorem d57 : decode yB 57 = .ok (.aload_n 3, 1) := by decide +kernel
theorem d58 : decode yB 58 = .ok (.areturn, 1) := by decide +kernel
def site : List Cond := [.arrayClass .byte, Cmp5.tab] ++ staticW U16 115 Cmp5.yN
def tab : Cond := tabOf yN yB 6 (some (.array .byte)) site
def P (b : Addr) (A : Cell) (o len : Nat) (args : Array Value) (s : State) : Prop := args = #[.ref b, .int (Int32.ofNat o), .int (Int32.ofNat len)] ∧ Ch b A s ∧ o + len ≤ A.slots.size ∧ len ≤ 536870912 ∧ ∀ i, i < len → ¬ 255 < cv A (o + i)
def E (b : Addr) (A : Cell) (o len : Nat) (r : Option Value) (s u : State) : Prop := NewArr .byte "[B" len (fun j => .int (lo8 (cv A (o + j)))) r s u ∧ u.heap.size = s.heap.size + 1
/-- no char of the range above 255: a new byte[] of their low bytes -/
theorem law (l : Launch) (b : Addr) (A : Cell) (o len : Nat) : Law l yN 3 3 1 18 yB 6 (some (.array .byte)) site (P b A o len) (E b A o len) [] 1 len := by
  refine Law.of_walk (plainFor_of_name (by decide +kernel)) (by decide +kernel) (by decide +kernel) (by decide) (fun _ _ h => by rw [h.1]; rfl) (fun _ U U' hal hh h => ⟨h.1, h.2.1.mv hal hh, h.2.2⟩) (fun r U U' V V' h1 hal h2 h => ⟨NewArr.mv r U U' V V' h1 hal h2 h.1, by rw [h1, h2]; exact h.2⟩) ?_
  intro p e s m args below meth c s₁ X0 hexec hbytes hml hret hlk hnm hown hh0 W hP
  obtain ⟨rfl, hA, l1, l2, hp⟩ := hP
  have a31 := hA.1.2.2.2
  have c1 : Steps p.tables e below (s₁.setTop (entryFrame m #[.ref b, .int (Int32.ofNat o), .int (Int32.ofNat len)] 6)) (s₁.setTop (mkF m 0 #[.val (.ref b), .val (.int (Int32.ofNat o)), .val (.int (Int32.ofNat len)), .unset, .unset, .unset] [])) := entry rfl
  have c2 : Steps p.tables e below (s₁.setTop (entryFrame m #[.ref b, .int (Int32.ofNat o), .int (Int32.ofNat len)] 6)) (s₁.setTop (mkF m 1 #[.val (.ref b), .val (.int (Int32.ofNat o)), .val (.int (Int32.ofNat len)), .unset, .unset, .unset] [.int (Int32.ofNat len)])) := c1.trans (by
    refine XS.iloadN X0.here hexec rfl (hb hbytes d0) rfl ?_
    exact Steps.refl _)
  obtain ⟨T3, B3, X3, ba3, bs3, bv3, bh3, bf3, st3⟩ := X0.anew hexec (atype := .byte) (wk W (.arrayClass .byte)) rfl (by show len * 1 ≤ _; omega) (by omega) (g := (mkF m 1 #[.val (.ref b), .val (.int (Int32.ofNat o)), .val (.int (Int32.ofNat len)), .unset, .unset, .unset] [.int (Int32.ofNat len)])) rfl (hb hbytes d1) (rest := []) rfl (Nat.le_refl _) (by show 0 + len ≤ len; omega)
  rw [hh0] at ba3 st3
  have kp3 : XT.Kept s T3 := (XT.Kept.of_eq hh0).push bh3
  have hA3 := hA.keep X3.warmed.alike (kp3 _ _ hA.1.1)
  have hne : b ≠ s.heap.size := hA.1.ne
  have c4 : Steps p.tables e below (s₁.setTop (entryFrame m #[.ref b, .int (Int32.ofNat o), .int (Int32.ofNat len)] 6)) (T3.setTop (mkF m 3 #[.val (.ref b), .val (.int (Int32.ofNat o)), .val (.int (Int32.ofNat len)), .unset, .unset, .unset] [.ref s.heap.size])) := c2.trans (st3 _ (Steps.refl _))
  have c5 : Steps p.tables e below (s₁.setTop (entryFrame m #[.ref b, .int (Int32.ofNat o), .int (Int32.ofNat len)] 6)) (T3.setTop (mkF m 9 #[.val (.ref b), .val (.int (Int32.ofNat o)), .val (.int (Int32.ofNat len)), .val (.ref s.heap.size), .unset, .unset] [.int (Int32.ofNat len), .int 0, .ref s.heap.size, .int (Int32.ofNat o), .ref b])) := c4.trans (by
    refine XS.astoreN X3.here hexec rfl (hb hbytes d3) rfl rfl rfl ?_
    refine XS.aloadN X3.here hexec rfl (hb hbytes d4) rfl rfl ?_
    refine XS.iloadN X3.here hexec rfl (hb hbytes d5) rfl ?_
    refine XS.aloadN X3.here hexec rfl (hb hbytes d6) rfl rfl ?_
    refine iconstV X3.here hexec rfl 0 (hb hbytes d7) (by decide) ?_
    refine XS.iloadN X3.here hexec rfl (hb hbytes d8) rfl ?_
    exact Steps.refl _)
  obtain ⟨v6, T6, X6, E6, g6⟩ := X3.callS hexec (Cmp5.law l b A s.heap.size B3 o 0 len) hown (wks W (staticW U16 115 Cmp5.yN)) (wk W Cmp5.tab) (W := 0) (Nat.le_of_ble_eq_true rfl) (Nat.le_of_ble_eq_true rfl) (Nat.le_refl _) (by show 0 + len + 0 ≤ len; omega) (g := (mkF m 9 #[.val (.ref b), .val (.int (Int32.ofNat o)), .val (.int (Int32.ofNat len)), .val (.ref s.heap.size), .unset, .unset] [.int (Int32.ofNat len), .int (Int32.ofNat 0), .ref s.heap.size, .int (Int32.ofNat o), .ref b])) rfl (by rw [hml]; rfl) c5 (argsL := [.ref b, .int (Int32.ofNat o), .ref s.heap.size, .int (Int32.ofNat 0), .int (Int32.ofNat len)]) (rest := []) rfl rfl (by show 2 * 0 + 0 ≤ _; decide) (hb hbytes d9) (⟨rfl, hA3, ba3, hne, l1, by rw [bs3]; simp, hp⟩)
  obtain ⟨rfl, B6, p6, f6⟩ := E6
  have c7 : Steps p.tables e below (s₁.setTop (entryFrame m #[.ref b, .int (Int32.ofNat o), .int (Int32.ofNat len)] 6)) (T6.setTop (mkF m 12 #[.val (.ref b), .val (.int (Int32.ofNat o)), .val (.int (Int32.ofNat len)), .val (.ref s.heap.size), .unset, .unset] [.int (Int32.ofNat len)])) := g6
  have c8 : Steps p.tables e below (s₁.setTop (entryFrame m #[.ref b, .int (Int32.ofNat o), .int (Int32.ofNat len)] 6)) (T6.setTop (mkF m 58 #[.val (.ref b), .val (.int (Int32.ofNat o)), .val (.int (Int32.ofNat len)), .val (.ref s.heap.size), .val (.int (Int32.ofNat len)), .unset] [.ref s.heap.size])) := c7.trans (by
    refine XS.istore X6.here hexec rfl (hb hbytes d12) rfl rfl ?_
    refine XS.iload X6.here hexec rfl (hb hbytes d14) rfl ?_
    refine XS.iloadN X6.here hexec rfl (hb hbytes d16) rfl ?_
    refine XS.icmpYes X6.here hexec rfl (pc0 := 17) rfl (hb hbytes d17) rfl (ii_eq_t rfl) (by decide) rfl ?_
    refine XS.aloadN X6.here hexec rfl (hb hbytes d57) rfl rfl ?_
    exact Steps.refl _)
  have X8 := X6.wide (L' := []) (cells' := 1) (slots' := len) (fun x hx hlt => by
    simp only [List.nil_append, copyLocs, List.mem_map, List.mem_range] at hx
    obtain ⟨i, -, rfl⟩ := hx
    exact absurd hlt (Nat.lt_irrefl _)) (Nat.le_refl _) (by omega)
  exact ⟨T6, some (.ref s.heap.size), _, _, _, X8, rfl, rfl, rfl, (fun h => by cases h), ⟨⟨rfl, B6, ba3.like (X3.warmed.alike.symm.trans X6.warmed.alike) p6.1 f6.1 f6.2.1 f6.2.2.1, f6.2.1.trans bv3, by rw [X6.warmed.alike.findClass, f6.1]; exact bf3, by rw [f6.2.2.1, bs3]; simp, fun j hj => by rw [f6.2.2.2 j, if_pos (by omega)]; rfl, kp3.put p6 (Nat.le_refl _)⟩, by rw [p6.2.2, bh3, hh0]; simp⟩, fun fs hl => c8.trans (X8.areturnOut hexec rfl hret rfl (hb hbytes d58) hl)⟩
end Cmp3
namespace CodL
def yN : MethodName := ⟨"java/lang/StringUTF16", "coderFromArrayLen", "([BI)B"⟩
abbrev yB : ByteArray := jdk_52_method_15_code
theorem d0 : decode yB 0 = .ok (.iload_n 1, 1) := by decide +kernel
theorem d1 : decode yB 1 = .ok (.aload_n 0, 1) := by decide +kernel
theorem d2 : decode yB 2 = .ok (.arraylength, 1) := by decide +kernel
theorem d3 : decode yB 3 = .ok (.isub, 1) := by decide +kernel
theorem d4 : decode yB 4 = .ok (.bipush 31, 2) := by decide +kernel
theorem d6 : decode yB 6 = .ok (.iushr, 1) := by decide +kernel
theorem d7 : decode yB 7 = .ok (.i2b, 1) := by decide +kernel
theorem d8 : decode yB 8 = .ok (.ireturn, 1) := by decide +kernel
def site : List Cond := []
def tab : Cond := tabOf yN yB 2 (some .byte) site
def P (d : Addr) (B : Cell) (args : Array Value) (s : State) : Prop := args = #[.ref d, .int (Int32.ofNat B.slots.size)] ∧ Arr .byte d B s
def E (r : Option Value) (s u : State) : Prop := XT.PureE (some (.int 0)) r s u
/-- an array as long as the number of chars: LATIN1 -/
theorem law (l : Launch) (d : Addr) (B : Cell) : Law l yN 2 2 0 0 yB 2 (some .byte) site (P d B) E [] 0 0 := by
  refine Law.of_walk (plainFor_of_name (by decide +kernel)) (by decide +kernel) (by decide +kernel) (by decide) (fun _ _ h => by rw [h.1]; rfl) (fun _ U U' hal hh h => ⟨h.1, h.2.mv hal hh⟩) (fun r U U' V V' h1 hal h2 h => XT.PureE.mv r U U' V V' h1 hal h2 h) ?_
  intro p e s m args below meth c s₁ X0 hexec hbytes hml hret hlk hnm hown hh0 W hP
  obtain ⟨rfl, hB⟩ := hP
  have hB0 := hB.mv X0.warmed.alike hh0
  have c1 : Steps p.tables e below (s₁.setTop (entryFrame m #[.ref d, .int (Int32.ofNat B.slots.size)] 2)) (s₁.setTop (mkF m 0 #[.val (.ref d), .val (.int (Int32.ofNat B.slots.size))] [])) := entry rfl
  have c2 : Steps p.tables e below (s₁.setTop (entryFrame m #[.ref d, .int (Int32.ofNat B.slots.size)] 2)) (s₁.setTop (mkF m 2 #[.val (.ref d), .val (.int (Int32.ofNat B.slots.size))] [.ref d, .int (Int32.ofNat B.slots.size)])) := c1.trans (by
    refine XS.iloadN X0.here hexec rfl (hb hbytes d0) rfl ?_
    refine XS.aloadN X0.here hexec rfl (hb hbytes d1) rfl rfl ?_
    exact Steps.refl _)
  have c3 : Steps p.tables e below (s₁.setTop (entryFrame m #[.ref d, .int (Int32.ofNat B.slots.size)] 2)) (s₁.setTop (mkF m 8 #[.val (.ref d), .val (.int (Int32.ofNat B.slots.size))] [.int (lo8 (ushr (Int32.ofNat B.slots.size - Int32.ofNat B.slots.size) 31))])) := c2.trans (by
    refine X0.alen hexec hB0 rfl rfl (hb hbytes d2) ?_
    refine XS.isub X0.here hexec rfl (hb hbytes d3) rfl ?_
    refine bipushV X0.here hexec rfl 31 (hb hbytes d4) (by decide) ?_
    refine iushr X0.here hexec rfl (hb hbytes d6) rfl ?_
    refine i2b X0.here hexec rfl (hb hbytes d7) rfl ?_
    exact Steps.refl _)
  have e0 : lo8 (ushr (Int32.ofNat B.slots.size - Int32.ofNat B.slots.size) 31) = 0 := by rw [Int32.sub_self]; decide
  rw [e0] at c3
  exact ⟨s₁, some (.int 0), _, _, _, X0, rfl, rfl, rfl, (fun h => by cases h), ⟨rfl, hh0⟩, fun fs hl => c3.trans (X0.ireturnOut hexec hret rfl (Or.inr (Or.inr (Or.inl rfl))) (hb hbytes d8) hl)⟩
end CodL
/-- the String at a is Latin-1 over a new byte[] (the heap's one new cell): the low bytes of the len chars of A from o on; every cell but a is kept -/
def Got (a : Addr) (D : Cell) (fV fC : Field) (A : Cell) (o len : Nat) (r : Option Value) (s u : State) : Prop := r = none ∧ ∃ D' V : Cell, Blank "java/lang/String" a D' u ∧ Same D D' [fV.slot, fC.slot] ∧ D'.slots[fV.slot]? = some (.ref s.heap.size) ∧ D'.slots[fC.slot]? = some (.int 0) ∧ Arr .byte s.heap.size V u ∧ V.vm = .none ∧ u.vm.findClass "[B" = some V.cls ∧ V.slots.size = len ∧ (∀ j, j < len → V.slots[j]? = some (.int (lo8 (cv A (o + j))))) ∧ (∀ (y : Addr) (c : Cell), y ≠ a → s.heap[y]? = some c → u.heap[y]? = some c) ∧ u.heap.size = s.heap.size + 1
theorem Got.mv {a : Addr} {D A : Cell} {fV fC : Field} {o len : Nat} : ∀ r (U U' V V' : State), U'.heap = U.heap → V.vm.Alike V'.vm → V'.heap = V.heap → Got a D fV fC A o len r U V → Got a D fV fC A o len r U' V' :=
  fun r U U' V V' h1 hal h2 ⟨e0, D', X, a1, a2, a3, a4, a5, a6, a7, a8, a9, a10, a11⟩ => ⟨e0, D', X, a1.mv hal h2, a2, by rw [h1]; exact a3, a4, by rw [h1]; exact a5.mv hal h2, a6, by rw [hal.findClass]; exact a7, a8, a9, by rw [h1, h2]; exact a10, by rw [h1, h2]; exact a11⟩
namespace New4
def yN : MethodName := ⟨"java/lang/String", "<init>", "([CIILjava/lang/Void;)V"⟩
abbrev yB : ByteArray := jdk_42_method_149_code
theorem d0 : decode yB 0 = .ok (.aload_n 0, 1) := by decide +kernel
theorem d1 : decode yB 1 = .ok (.invokespecial 1, 3) := by decide +kernel
theorem d4 : decode yB 4 = .ok (.iload_n 3, 1) := by decide +kernel
theorem d5 : decode yB 5 = .ok (.ifCond (.ne) 22, 3) := by decide +kernel
theorem d27 : decode yB 27 = .ok (.getstatic 38, 3) := by decide +kernel
theorem d30 : decode yB 30 = .ok (.ifCond (.eq) 28, 3) := by decide +kernel
theorem d33 : decode yB 33 = .ok (.aload_n 1, 1) := by decide +kernel
theorem d34 : decode yB 34 = .ok (.iload_n 2, 1) := by decide +kernel
theorem d35 : decode yB 35 = .ok (.iload_n 3, 1) := by decide +kernel
theorem d36 : decode yB 36 = .ok (.invokestatic 177, 3) := by decide +kernel
theorem d39 : decode yB 39 = .ok (.astore 5, 2) := by decide +kernel
theorem d41 : decode yB 41 = .ok (.aload_n 0, 1) := by decide +kernel
theorem d42 : decode yB 42 = .ok (.aload 5, 2) := by decide +kernel
theorem d44 : decode yB 44 = .ok (.iload_n 3, 1) := by decide +kernel
theorem d45 : decode yB 45 = .ok (.invokestatic 47, 3) := by decide +kernel
theorem d48 : decode yB 48 = .ok (.putfield 15, 3) := by decide +kernel
theorem d51 : decode yB 51 = .ok (.aload_n 0, 1) := by decide +kernel
theorem d52 : decode yB 52 = .ok (.aload 5, 2) := by decide +kernel
theorem d54 : decode yB 54 = .ok (.putfield 9, 3) := by decide +kernel
theorem d57 : decode yB 57 = .ok (.return_, 1) := by decide +kernel
def site : List Cond := [.fieldLink "java/lang/String" 38 "java/lang/String" "COMPACT_STRINGS" "Z", Cmp3.tab, CodL.tab, .laysFinal "java/lang/String" "java/lang/String" "value" "[B", .fieldLink "java/lang/String" 9 "java/lang/String" "value" "[B", .laysFinal "java/lang/String" "java/lang/String" "coder" "B", .fieldLink "java/lang/String" 15 "java/lang/String" "coder" "B"] ++ objW "java/lang/String" 1 ++ staticW "java/lang/String" 177 Cmp3.yN ++ staticW "java/lang/String" 47 CodL.yN
def tab : Cond := tabOf yN yB 6 none site
def P (a : Addr) (D : Cell) (fV fC : Field) (b : Addr) (A : Cell) (z : Int32) (o len : Nat) (args : Array Value) (s : State) : Prop := args = #[.ref a, .ref b, .int (Int32.ofNat o), .int (Int32.ofNat len), .null] ∧ Blank "java/lang/String" a D s ∧ Found "java/lang/String" "value" "[B" fV s ∧ Found "java/lang/String" "coder" "B" fC s ∧ Ch b A s ∧ StaticIs s "java/lang/String" "COMPACT_STRINGS" "Z" (.int z) ∧ ¬ z = 0 ∧ 0 < len ∧ o + len ≤ A.slots.size ∧ len ≤ 536870912 ∧ ∀ i, i < len → ¬ 255 < cv A (o + i)
def E (a : Addr) (D : Cell) (fV fC : Field) (A : Cell) (o len : Nat) (r : Option Value) (s u : State) : Prop := Got a D fV fC A o len r s u
/-- len > 0, no char of the range above 255: a Latin-1 String of their low bytes -/
theorem law (l : Launch) (a : Addr) (D : Cell) (fV fC : Field) (b : Addr) (A : Cell) (z : Int32) (o len : Nat) : Law l yN 5 4 2 35 yB 6 none site (P a D fV fC b A z o len) (E a D fV fC A o len) [⟨a, fC.slot⟩, ⟨a, fV.slot⟩] 1 len := by
  refine Law.of_walk (plainFor_of_name (by decide +kernel)) (by decide +kernel) (by decide +kernel) (by decide) (fun _ _ h => by rw [h.1]; rfl) (fun _ U U' hal hh h => ⟨h.1, h.2.1.mv hal hh, h.2.2.1.al hal, h.2.2.2.1.al hal, h.2.2.2.2.1.mv hal hh, h.2.2.2.2.2.1.there hal hh, h.2.2.2.2.2.2⟩) (fun r U U' V V' h1 hal h2 h => Got.mv r U U' V V' h1 hal h2 h) ?_
  intro p e s m args below meth c s₁ X0 hexec hbytes hml hret hlk hnm hown hh0 W hP
  obtain ⟨rfl, hB, f1, f2, hA, s1, hz, l0, l1, l2, hp⟩ := hP
  have a31 := hA.1.2.2.2
  have c1 : Steps p.tables e below (s₁.setTop (entryFrame m #[.ref a, .ref b, .int (Int32.ofNat o), .int (Int32.ofNat len), .null] 6)) (s₁.setTop (mkF m 0 #[.val (.ref a), .val (.ref b), .val (.int (Int32.ofNat o)), .val (.int (Int32.ofNat len)), .val .null, .unset] [])) := entry rfl
  have c2 : Steps p.tables e below (s₁.setTop (entryFrame m #[.ref a, .ref b, .int (Int32.ofNat o), .int (Int32.ofNat len), .null] 6)) (s₁.setTop (mkF m 1 #[.val (.ref a), .val (.ref b), .val (.int (Int32.ofNat o)), .val (.int (Int32.ofNat len)), .val .null, .unset] [.ref a])) := c1.trans (by
    refine XS.aloadN X0.here hexec rfl (hb hbytes d0) rfl rfl ?_
    exact Steps.refl _)
  obtain ⟨T3, X3, q3, st3⟩ := X0.oinit hexec hown (wks W (objW "java/lang/String" 1)) (g := (mkF m 1 #[.val (.ref a), .val (.ref b), .val (.int (Int32.ofNat o)), .val (.int (Int32.ofNat len)), .val .null, .unset] [.ref a])) rfl (by rw [hml]; rfl) (rest := []) rfl (hb hbytes d1) (W := 0) (by show 2 * 0 + 0 ≤ _; decide) (Nat.le_of_ble_eq_true rfl) (Nat.le_of_ble_eq_true rfl)
  have hh3 := q3.trans hh0
  have c4 : Steps p.tables e below (s₁.setTop (entryFrame m #[.ref a, .ref b, .int (Int32.ofNat o), .int (Int32.ofNat len), .null] 6)) (T3.setTop (mkF m 27 #[.val (.ref a), .val (.ref b), .val (.int (Int32.ofNat o)), .val (.int (Int32.ofNat len)), .val .null, .unset] [])) := (c2.trans (st3 _ (Steps.refl _))).trans (by
    refine XS.iloadN X3.here hexec rfl (hb hbytes d4) rfl ?_
    refine XS.ifYes X3.here hexec rfl (pc0 := 5) rfl (hb hbytes d5) rfl (i0_ne_t (nz32 (by omega) l0)) (by decide) rfl ?_
    exact Steps.refl _)
  obtain ⟨T5, X5, q5, st5⟩ := X3.sget hexec hown (wk W (.fieldLink "java/lang/String" 38 "java/lang/String" "COMPACT_STRINGS" "Z")) s1 (fun _ _ h => by rw [hh3]; exact h) (g := (mkF m 27 #[.val (.ref a), .val (.ref b), .val (.int (Int32.ofNat o)), .val (.int (Int32.ofNat len)), .val .null, .unset] [])) rfl (hb hbytes d27)
  have hh5 := q5.trans hh3
  have c6 : Steps p.tables e below (s₁.setTop (entryFrame m #[.ref a, .ref b, .int (Int32.ofNat o), .int (Int32.ofNat len), .null] 6)) (T5.setTop (mkF m 30 #[.val (.ref a), .val (.ref b), .val (.int (Int32.ofNat o)), .val (.int (Int32.ofNat len)), .val .null, .unset] [.int z])) := c4.trans (st5 _ (Steps.refl _))
  have c7 : Steps p.tables e below (s₁.setTop (entryFrame m #[.ref a, .ref b, .int (Int32.ofNat o), .int (Int32.ofNat len), .null] 6)) (T5.setTop (mkF m 36 #[.val (.ref a), .val (.ref b), .val (.int (Int32.ofNat o)), .val (.int (Int32.ofNat len)), .val .null, .unset] [.int (Int32.ofNat len), .int (Int32.ofNat o), .ref b])) := c6.trans (by
    refine XS.ifNo X5.here hexec rfl (hb hbytes d30) rfl (i0_eq_f hz) ?_
    refine XS.aloadN X5.here hexec rfl (hb hbytes d33) rfl rfl ?_
    refine XS.iloadN X5.here hexec rfl (hb hbytes d34) rfl ?_
    refine XS.iloadN X5.here hexec rfl (hb hbytes d35) rfl ?_
    exact Steps.refl _)
  obtain ⟨v8, T8, X8, E8, g8⟩ := X5.callS hexec (Cmp3.law l b A o len) hown (wks W (staticW "java/lang/String" 177 Cmp3.yN)) (wk W Cmp3.tab) (W := 0) (Nat.le_of_ble_eq_true rfl) (Nat.le_of_ble_eq_true rfl) (Nat.le_refl _) (by show 0 + len ≤ len; omega) (g := (mkF m 36 #[.val (.ref a), .val (.ref b), .val (.int (Int32.ofNat o)), .val (.int (Int32.ofNat len)), .val .null, .unset] [.int (Int32.ofNat len), .int (Int32.ofNat o), .ref b])) rfl (by rw [hml]; rfl) c7 (argsL := [.ref b, .int (Int32.ofNat o), .int (Int32.ofNat len)]) (rest := []) rfl rfl (by show 2 * 0 + 0 ≤ _; decide) (hb hbytes d36) (⟨rfl, hA.mv X5.warmed.alike hh5, l1, l2, hp⟩)
  obtain ⟨e8, z8⟩ := E8
  obtain ⟨rfl, N, n1, n2, n3, n4, n5, n6⟩ := NewArr.mv _ T5 s _ _ hh5.symm (Vm.Alike.refl _) rfl e8
  rw [hh5] at z8
  have hB1 := hB.keep X8.warmed.alike (n6 _ _ hB.1)
  have hne : s.heap.size ≠ a := (Nat.ne_of_lt (Array.getElem?_eq_some_iff.mp hB.1).1).symm
  have c9 : Steps p.tables e below (s₁.setTop (entryFrame m #[.ref a, .ref b, .int (Int32.ofNat o), .int (Int32.ofNat len), .null] 6)) (T8.setTop (mkF m 39 #[.val (.ref a), .val (.ref b), .val (.int (Int32.ofNat o)), .val (.int (Int32.ofNat len)), .val .null, .unset] [.ref s.heap.size])) := g8
  have c10 : Steps p.tables e below (s₁.setTop (entryFrame m #[.ref a, .ref b, .int (Int32.ofNat o), .int (Int32.ofNat len), .null] 6)) (T8.setTop (mkF m 45 #[.val (.ref a), .val (.ref b), .val (.int (Int32.ofNat o)), .val (.int (Int32.ofNat len)), .val .null, .val (.ref s.heap.size)] [.int (Int32.ofNat N.slots.size), .ref s.heap.size, .ref a])) := by
    have hc : Steps p.tables e below (s₁.setTop (entryFrame m #[.ref a, .ref b, .int (Int32.ofNat o), .int (Int32.ofNat len), .null] 6)) (T8.setTop (mkF m 45 #[.val (.ref a), .val (.ref b), .val (.int (Int32.ofNat o)), .val (.int (Int32.ofNat len)), .val .null, .val (.ref s.heap.size)] [.int (Int32.ofNat len), .ref s.heap.size, .ref a])) := c9.trans (by
      refine XS.astore X8.here hexec rfl (hb hbytes d39) rfl rfl rfl ?_
      refine XS.aloadN X8.here hexec rfl (hb hbytes d41) rfl rfl ?_
      refine XS.aload X8.here hexec rfl (hb hbytes d42) rfl rfl ?_
      refine XS.iloadN X8.here hexec rfl (hb hbytes d44) rfl ?_
      exact Steps.refl _)
    rw [n4]; exact hc
  obtain ⟨v11, T11, X11, E11, g11⟩ := X8.callS hexec (CodL.law l s.heap.size N) hown (wks W (staticW "java/lang/String" 47 CodL.yN)) (wk W CodL.tab) (W := 1) (Nat.le_of_ble_eq_true rfl) (Nat.le_of_ble_eq_true rfl) (Nat.le_refl _) (by show 0 + len + 0 ≤ len; omega) (g := (mkF m 45 #[.val (.ref a), .val (.ref b), .val (.int (Int32.ofNat o)), .val (.int (Int32.ofNat len)), .val .null, .val (.ref s.heap.size)] [.int (Int32.ofNat N.slots.size), .ref s.heap.size, .ref a])) rfl (by rw [hml]; rfl) c10 (argsL := [.ref s.heap.size, .int (Int32.ofNat N.slots.size)]) (rest := [.ref a]) rfl rfl (by show 2 * 0 + (1 + 0) ≤ _; decide) (hb hbytes d45) (⟨rfl, n1⟩)
  obtain ⟨rfl, q11⟩ := E11
  have hB11 := hB1.mv (X8.warmed.alike.symm.trans X11.warmed.alike) q11
  have c12 : Steps p.tables e below (s₁.setTop (entryFrame m #[.ref a, .ref b, .int (Int32.ofNat o), .int (Int32.ofNat len), .null] 6)) (T11.setTop (mkF m 48 #[.val (.ref a), .val (.ref b), .val (.int (Int32.ofNat o)), .val (.int (Int32.ofNat len)), .val .null, .val (.ref s.heap.size)] [.int 0, .ref a])) := g11
  obtain ⟨T13, X13, p13, bl13, sl13, st13⟩ := X11.finit hexec hown (wk W (.fieldLink "java/lang/String" 15 "java/lang/String" "coder" "B")) (Or.inr ⟨_, (wk W (.laysFinal "java/lang/String" "java/lang/String" "coder" "B"))⟩) (Or.inl ⟨rfl, hnm⟩) f2 (Or.inl rfl) hB11 (t := .byte) (by decide +kernel) rfl (g := (mkF m 48 #[.val (.ref a), .val (.ref b), .val (.int (Int32.ofNat o)), .val (.int (Int32.ofNat len)), .val .null, .val (.ref s.heap.size)] [.int 0, .ref a])) rfl (rest := []) rfl (hb hbytes d48)
  have c14 : Steps p.tables e below (s₁.setTop (entryFrame m #[.ref a, .ref b, .int (Int32.ofNat o), .int (Int32.ofNat len), .null] 6)) (T13.setTop (mkF m 54 #[.val (.ref a), .val (.ref b), .val (.int (Int32.ofNat o)), .val (.int (Int32.ofNat len)), .val .null, .val (.ref s.heap.size)] [.ref s.heap.size, .ref a])) := (c12.trans (st13 _ (Steps.refl _))).trans (by
    refine XS.aloadN X13.here hexec rfl (hb hbytes d51) rfl rfl ?_
    refine XS.aload X13.here hexec rfl (hb hbytes d52) rfl rfl ?_
    exact Steps.refl _)
  obtain ⟨T15, X15, p15, bl15, sl15, st15⟩ := X13.finit hexec hown (wk W (.fieldLink "java/lang/String" 9 "java/lang/String" "value" "[B")) (Or.inr ⟨_, (wk W (.laysFinal "java/lang/String" "java/lang/String" "value" "[B"))⟩) (Or.inl ⟨rfl, hnm⟩) f1 (Or.inl rfl) bl13 (t := (.array .byte)) (by decide +kernel) rfl (g := (mkF m 54 #[.val (.ref a), .val (.ref b), .val (.int (Int32.ofNat o)), .val (.int (Int32.ofNat len)), .val .null, .val (.ref s.heap.size)] [.ref s.heap.size, .ref a])) rfl (rest := []) rfl (hb hbytes d54)
  have c16 : Steps p.tables e below (s₁.setTop (entryFrame m #[.ref a, .ref b, .int (Int32.ofNat o), .int (Int32.ofNat len), .null] 6)) (T15.setTop (mkF m 57 #[.val (.ref a), .val (.ref b), .val (.int (Int32.ofNat o)), .val (.int (Int32.ofNat len)), .val .null, .val (.ref s.heap.size)] [])) := c14.trans (st15 _ (Steps.refl _))
  have ap := apart (Or.inr ⟨_, (wk W (.laysFinal "java/lang/String" "java/lang/String" "value" "[B"))⟩) (Or.inr ⟨_, (wk W (.laysFinal "java/lang/String" "java/lang/String" "coder" "B"))⟩) f1 f2 (t₁ := .array .byte) (t₂ := .byte) (by decide +kernel) (by decide +kernel) (by decide)
  have al := X8.warmed.alike.symm.trans X15.warmed.alike
  have n7 : T11.heap[s.heap.size]? = some N := by rw [q11]; exact n1.1
  exact ⟨T15, none, _, _, _, X15, by simp, rfl, by omega, (fun _ => rfl), ⟨rfl, _, N, bl15, ((Same.refl D _).set _ (by simp)).set _ (by simp), sl15, (Cell.slots_setSlot_ne _ ap).trans sl13, n1.keep al (p15.other hne (p13.other hne n7)), n2, by rw [al.findClass]; exact n3, n4, n5, fun y c h1 h2 => p15.other h1 (p13.other h1 (by rw [q11]; exact n6 y c h2)), by rw [p15.2.2, p13.2.2, q11]; exact z8⟩, fun fs hl => c16.trans (X15.returnOut hexec hret (hb hbytes d57) hl)⟩
end New4
namespace New1
def yN : MethodName := ⟨"java/lang/String", "<init>", "([C)V"⟩
abbrev yB : ByteArray := jdk_42_method_3_code
theorem d0 : decode yB 0 = .ok (.aload_n 0, 1) := by decide +kernel
theorem d1 : decode yB 1 = .ok (.aload_n 1, 1) := by decide +kernel
theorem d2 : decode yB 2 = .ok (.iconst 0, 1) := by decide +kernel
theorem d3 : decode yB 3 = .ok (.aload_n 1, 1) := by decide +kernel
theorem d4 : decode yB 4 = .ok (.arraylength, 1) := by decide +kernel
theorem d5 : decode yB 5 = .ok (.aconst_null, 1) := by decide +kernel
theorem d6 : decode yB 6 = .ok (.invokespecial 27, 3) := by decide +kernel
theorem d9 : decode yB 9 = .ok (.return_, 1) := by decide +kernel
def site : List Cond := [New4.tab] ++ initW "java/lang/String" 27 New4.yN
def tab : Cond := tabOf yN yB 2 none site
def P (a : Addr) (D : Cell) (fV fC : Field) (b : Addr) (A : Cell) (z : Int32) (args : Array Value) (s : State) : Prop := args = #[.ref a, .ref b] ∧ Blank "java/lang/String" a D s ∧ Found "java/lang/String" "value" "[B" fV s ∧ Found "java/lang/String" "coder" "B" fC s ∧ Ch b A s ∧ StaticIs s "java/lang/String" "COMPACT_STRINGS" "Z" (.int z) ∧ ¬ z = 0 ∧ 0 < A.slots.size ∧ A.slots.size ≤ 536870912 ∧ ∀ i, i < A.slots.size → ¬ 255 < cv A i
def E (a : Addr) (D : Cell) (fV fC : Field) (A : Cell) (r : Option Value) (s u : State) : Prop := Got a D fV fC A 0 A.slots.size r s u
/-- new String(chars), not empty, no char above 255: a Latin-1 String of their low bytes -/
theorem law (l : Launch) (a : Addr) (D : Cell) (fV fC : Field) (b : Addr) (A : Cell) (z : Int32) : Law l yN 2 1 3 52 yB 2 none site (P a D fV fC b A z) (E a D fV fC A) [⟨a, fC.slot⟩, ⟨a, fV.slot⟩] 1 A.slots.size := by
  refine Law.of_walk (plainFor_of_name (by decide +kernel)) (by decide +kernel) (by decide +kernel) (by decide) (fun _ _ h => by rw [h.1]; rfl) (fun _ U U' hal hh h => ⟨h.1, h.2.1.mv hal hh, h.2.2.1.al hal, h.2.2.2.1.al hal, h.2.2.2.2.1.mv hal hh, h.2.2.2.2.2.1.there hal hh, h.2.2.2.2.2.2⟩) (fun r U U' V V' h1 hal h2 h => Got.mv r U U' V V' h1 hal h2 h) ?_
  intro p e s m args below meth c s₁ X0 hexec hbytes hml hret hlk hnm hown hh0 W hP
  obtain ⟨rfl, hB, f1, f2, hA, s1, hz, l0, l2, hp⟩ := hP
  have c1 : Steps p.tables e below (s₁.setTop (entryFrame m #[.ref a, .ref b] 2)) (s₁.setTop (mkF m 0 #[.val (.ref a), .val (.ref b)] [])) := entry rfl
  have c2 : Steps p.tables e below (s₁.setTop (entryFrame m #[.ref a, .ref b] 2)) (s₁.setTop (mkF m 6 #[.val (.ref a), .val (.ref b)] [.null, .int (Int32.ofNat A.slots.size), .int 0, .ref b, .ref a])) := c1.trans (by
    refine XS.aloadN X0.here hexec rfl (hb hbytes d0) rfl rfl ?_
    refine XS.aloadN X0.here hexec rfl (hb hbytes d1) rfl rfl ?_
    refine iconstV X0.here hexec rfl 0 (hb hbytes d2) (by decide) ?_
    refine XS.aloadN X0.here hexec rfl (hb hbytes d3) rfl rfl ?_
    refine X0.alen hexec (hA.1.mv X0.warmed.alike hh0) rfl rfl (hb hbytes d4) ?_
    refine XS.aconstNull X0.here hexec rfl (hb hbytes d5) ?_
    exact Steps.refl _)
  obtain ⟨v3, T3, X3, E3, g3⟩ := X0.callN hexec (New4.law l a D fV fC b A z 0 A.slots.size) rfl hown (wks W (initW "java/lang/String" 27 New4.yN)) (W New4.tab (by simp only [site, List.mem_cons, List.mem_append, true_or, or_true])) (W := 0) (Nat.le_of_ble_eq_true rfl) (Nat.le_of_ble_eq_true rfl) (Nat.le_refl _) (by show 0 + A.slots.size ≤ A.slots.size; omega) (g := (mkF m 6 #[.val (.ref a), .val (.ref b)] [.null, .int (Int32.ofNat A.slots.size), .int (Int32.ofNat 0), .ref b, .ref a])) rfl (by rw [hml]; rfl) c2 (argsL := [.ref b, .int (Int32.ofNat 0), .int (Int32.ofNat A.slots.size), .null]) (rest := []) rfl rfl (by show 2 * 0 + 0 ≤ _; decide) (hb hbytes d6) (⟨rfl, hB.mv X0.warmed.alike hh0, f1.al X0.warmed.alike, f2.al X0.warmed.alike, hA.mv X0.warmed.alike hh0, s1.there X0.warmed.alike hh0, hz, l0, by omega, l2, fun i hi => by rw [Nat.zero_add]; exact hp i hi⟩)
  have e0 := Got.mv _ s₁ s _ _ hh0.symm (Vm.Alike.refl _) rfl E3
  obtain rfl := e0.1
  have c4 : Steps p.tables e below (s₁.setTop (entryFrame m #[.ref a, .ref b] 2)) (T3.setTop (mkF m 9 #[.val (.ref a), .val (.ref b)] [])) := g3
  exact ⟨T3, none, _, _, _, X3, by simp, rfl, by omega, (fun _ => rfl), e0, fun fs hl => c4.trans (X3.returnOut hexec hret (hb hbytes d9) hl)⟩
theorem pays {l : Launch} {R : Room} {p : Program} {e : Env} {below : List Frame} {s : State} {sargs : Array Value} {len W : Nat} (a : Addr) (D : Cell) (fV fC : Field) (b : Addr) (A : Cell) (z : Int32) (htab : tab.before sargs s = true) (hfr : 4 ≤ R.frames) (hlo : W + 65 ≤ R.locals) :
    Back l R p e below s sargs yN len W (fun A₁ a₁ => A₁.cells + 1 ≤ R.cells ∧ A₁.slots + A.slots.size ≤ R.slots ∧ P a D fV fC b A z a₁ A₁.U) (fun A₁ _ v₁ B₁ => E a D fV fC A v₁ A₁.U B₁.U ∧ B₁.locs = A₁.locs ++ [⟨a, fC.slot⟩, ⟨a, fV.slot⟩] ∧ B₁.cells = A₁.cells + 1 ∧ B₁.slots = A₁.slots + A.slots.size) :=
  (law l a D fV fC b A z).pays htab hfr (by omega)
end New1
end StrChars
namespace StrChars.Road
open Jvm Sem ClassFile Op Lib Jvm.Stand Jvm.Free Jvm.Free.XT
open Jvm.Lib.Cold (StaticIs)
abbrev ST : String := "java/lang/String"
/-- every table word that New1's law asks, flat -/
abbrev words : List Jvm.Cond := [.code New1.yN New1.yB 2 none, .initialized ST, .methodLink ST 27 New4.yN, .instanceMethod New4.yN,
  .code New4.yN New4.yB 6 none, .fieldLink ST 38 ST "COMPACT_STRINGS" "Z", .laysFinal ST ST "value" "[B", .fieldLink ST 9 ST "value" "[B", .laysFinal ST ST "coder" "B", .fieldLink ST 15 ST "coder" "B",
  .methodLink ST 1 Lib.objectInit, .instanceMethod Lib.objectInit, .code Lib.objectInit ⟨#[0xb1]⟩ 1 none, .methodLink ST 177 Cmp3.yN, .static Cmp3.yN, .methodLink ST 47 CodL.yN, .static CodL.yN,
  .code Cmp3.yN Cmp3.yB 6 (some (.array .byte)), .initialized U16, .arrayClass .byte, .methodLink U16 115 Cmp5.yN, .static Cmp5.yN, .code Cmp5.yN Cmp5.yB 7 (some .int), .code CodL.yN CodL.yB 2 (some .byte)]
theorem tab_of {a : Array Value} {s : State} (h : ∀ w ∈ words, w.before a s = true) : New1.tab.before a s = true := by
  have h5 : Cmp5.tab.before a s = true := unparts (wk h (.code Cmp5.yN Cmp5.yB 7 (some .int))) (wks h (.initialized Cmp5.yN.cls :: Cmp5.site))
  have hc : CodL.tab.before a s = true := unparts (wk h (.code CodL.yN CodL.yB 2 (some .byte))) (wks h (.initialized CodL.yN.cls :: CodL.site))
  have q5 : ∀ w ∈ Cmp5.tab :: words, w.before a s = true := fun w hw => (List.mem_cons.mp hw).elim (fun e => e ▸ h5) (h w)
  have h3 : Cmp3.tab.before a s = true := unparts (wk q5 (.code Cmp3.yN Cmp3.yB 6 (some (.array .byte)))) (wks q5 (.initialized Cmp3.yN.cls :: Cmp3.site))
  have q3 : ∀ w ∈ Cmp3.tab :: CodL.tab :: words, w.before a s = true := fun w hw => (List.mem_cons.mp hw).elim (fun e => e ▸ h3) fun hw => (List.mem_cons.mp hw).elim (fun e => e ▸ hc) (h w)
  have h4 : New4.tab.before a s = true := unparts (wk q3 (.code New4.yN New4.yB 6 none)) (wks q3 (.initialized New4.yN.cls :: New4.site))
  have q4 : ∀ w ∈ New4.tab :: words, w.before a s = true := fun w hw => (List.mem_cons.mp hw).elim (fun e => e ▸ h4) (h w)
  exact unparts (wk q4 (.code New1.yN New1.yB 2 none)) (wks q4 (.initialized New1.yN.cls :: New1.site))
/-- the words ride from the start Z to the walk's own state -/
theorem moved {Z s : State} {a0 args : Array Value} (hZ : Z.Warmed39 s.vm) (hw : ∀ d ∈ words, d.before a0 Z = true) : ∀ d ∈ words, d.before args s = true := fun d hd => by
  have q := hw d hd
  have t : ∀ d ∈ words, d = .arrayClass .byte ∨ (d.onTables && d.keepsFace) = true := by decide +kernel
  rcases t d hd with rfl | t
  · exact RoadKit.mvA hZ q
  · exact RoadKit.mv hZ q t
/-- WHAT COMES BACK, over the tables of the start Z: h the heap at the call, h' behind it -/
def Q (Z : State) (x : Addr) (A : Cell) (h : Heap) (v : Option Value) (h' : Heap) (L : List Loc) : Prop := v = none ∧ (∀ y ∈ L, y.base = x) ∧ RoadKit.Keep h h' [x] ∧ h'.size = h.size + 1 ∧ RoadKit.Exa Z h' x ST ∧ RoadKit.Fld Z h' x ST "value" "[B" (.ref h.size) ∧ RoadKit.Fld Z h' x ST "coder" "B" (.int 0) ∧
  (∃ V : Cell, RoadKit.Arr Z h' h.size V .byte ∧ V.vm = .none ∧ Z.vm.findClass "[B" = some V.cls ∧ V.slots.size = A.slots.size ∧ ∀ j, j < A.slots.size → V.slots[j]? = some (.int (lo8 (cv A j)))) ∧
  ∀ (O n d : String) (w : Value), RoadKit.Fld Z h x O n d w → RoadKit.slotOf Z O n d ≠ RoadKit.slotOf Z ST "value" "[B" → RoadKit.slotOf Z O n d ≠ RoadKit.slotOf Z ST "coder" "B" → RoadKit.Fld Z h' x O n d w
/-- **new String(chars) AT A CALL, IN THE ROAD'S FORM**: for specialBack behind newO: x the fresh String, b the char[] with the cell A -/
theorem back {p : Program} {l : Launch} {e : Env} {R : Room} {s : State} {args : Array Value} {below : List Frame} {len W : Nat} {Z : State} {a0 : Array Value} {h : Heap} (hZ : Z.Warmed39 s.vm) (hw : ∀ d ∈ words, d.before a0 Z = true) {kI : Nat} (wi : (Jvm.Cond.instantiable ST kI).before a0 Z = true)
    {x b : Addr} {A : Cell} {z : Int32} {v0 c0 : Value} (E : RoadKit.Exa Z h x ST) (V : RoadKit.Fld Z h x ST "value" "[B" v0) (C : RoadKit.Fld Z h x ST "coder" "B" c0) (K : RoadKit.Arr Z h b A .char) (hty : Typed .char A) (S : RoadKit.Sta Z h ST "COMPACT_STRINGS" "Z" (.int z)) (hz : ¬ z = 0)
    (l0 : 0 < A.slots.size) (l2 : A.slots.size ≤ 536870912) (hp : ∀ i, i < A.slots.size → ¬ 255 < cv A i) (hfr : 4 ≤ R.frames) (hlo : W + 65 ≤ R.locals) :
    Back l R p e below s args New1.yN len W (fun P a => a = #[.ref x, .ref b] ∧ P.U.heap = h ∧ P.cells + 1 ≤ R.cells ∧ P.slots + A.slots.size ≤ R.slots)
      (fun P _ v B => ∃ L, Q Z x A h v B.U.heap L ∧ B.locs = P.locs ++ L ∧ B.cells = P.cells + 1 ∧ B.slots = P.slots + A.slots.size) := by
  intro m meth c P g ig mk a X hg hsize hdg hW hn hp'
  obtain ⟨rfl, rfl, r1, r2⟩ := hp'
  have al : Z.vm.Alike P.U.vm := hZ.alike.trans X.warmed.alike
  obtain ⟨D, cfV, kV, iV, fV, hD, gV, stV, knV, obV, asV, slV⟩ := id V
  obtain ⟨D', cfC, kC, iC, fC, hD', gC, stC, -, -, asC, slC⟩ := id C
  cases hD.symm.trans hD'
  obtain ⟨D2, kD, e1, e2, e3, e4, e5⟩ := id E
  cases hD.symm.trans e1
  obtain ⟨c2, k2, i1, i2, i3, -⟩ := Cond.instantiable_spec wi
  cases e2.symm.trans i1
  cases e3.symm.trans i2
  obtain ⟨kU, u1, u2⟩ := al.2.2 _ _ e3
  have hB : Blank ST x D P.U := ⟨hD, ⟨knV, fun q hq => by rw [hq] at obV; cases obV⟩, by rw [al.findClass]; exact e2, kU, u1, by rw [u2]; exact i3, by rw [u2]; exact e5 i3⟩
  have F1 : Found ST "value" "[B" fV P.U := ⟨SBG.found_only al ⟨cfV, kV, iV, gV⟩, stV⟩
  have F2 : Found ST "coder" "B" fC P.U := ⟨SBG.found_only al ⟨cfC, kC, iC, gC⟩, stC⟩
  have hA : Ch b A P.U := ⟨⟨K.1, State.isArrayOf_alike al K.2.1, K.2.2, by omega⟩, hty⟩
  have hS : StaticIs P.U ST "COMPACT_STRINGS" "Z" (.int z) := by
    obtain ⟨cfS, iS, kS, fS, st, cS, t1, t2, t3, t4, t5, t6, t7⟩ := S
    exact StaticIs.there (s := { Z with heap := P.U.heap }) ⟨cfS, iS, kS, fS, st, cS, t1, t2, t3, t4, t5, (fun q => by rw [q] at t6; cases t6), t7⟩ al rfl
  obtain ⟨v, B, X', ⟨⟨hv, E', V', q1, q2, q3, q4, q5, q6, q7, q8, q9, q10, q11⟩, hl, hc, hs⟩, st⟩ := New1.pays x D fV fC b A z (tab_of (moved hZ hw)) hfr hlo m meth c P g ig mk _ X hg hsize hdg hW hn ⟨r1, r2, rfl, hB, F1, F2, hA, hS, hz, l0, l2, hp⟩
  have al' : Z.vm.Alike B.U.vm := hZ.alike.trans X'.warmed.alike
  have hsz : E'.slots.size = D.slots.size := by
    obtain ⟨-, -, -, kB, w1, w2, w3⟩ := q1
    obtain ⟨kB', y1, y2⟩ := al'.2.2 _ _ e3
    rw [q2.2.1] at w1
    cases w1.symm.trans y1
    rw [w3, e5 i3, y2]
  refine ⟨v, B, X', ⟨_, ⟨hv, ?_, ⟨by omega, fun y cy hy hn' => q10 y cy (by simpa using hn') hy, fun y cy hy => ?_⟩, q11, ⟨E', _, q1.1, by rw [q2.2.1]; exact e2, by rw [q2.2.1]; exact e3, by rw [q2.1]; exact obV, fun _ => by rw [hsz]; exact e5 i3⟩,
    ⟨E', cfV, kV, iV, fV, q1.1, gV, stV, by rw [q2.1]; exact knV, by rw [q2.1]; exact obV, by rw [q2.2.1]; exact asV, q3⟩, ⟨E', cfC, kC, iC, fC, q1.1, gC, stC, by rw [q2.1]; exact knV, by rw [q2.1]; exact obV, by rw [q2.2.1]; exact asC, q4⟩,
    ⟨V', ⟨q5.1, State.isArrayOf_alike al'.symm q5.2.1, q5.2.2.1⟩, q6, by rw [← al'.findClass]; exact q7, q8, fun j hj => by have := q9 j hj; rwa [Nat.zero_add] at this⟩, fun O n d w F n1 n2 => ?_⟩, hl, hc, hs⟩, st⟩
  · intro y hy
    simp only [List.mem_cons, List.not_mem_nil, or_false] at hy
    rcases hy with rfl | rfl <;> rfl
  · by_cases q : y = x
    · subst q
      cases hD.symm.trans hy
      exact ⟨E', q1.1, q2.2.1, q2.1, hsz⟩
    · exact ⟨cy, q10 y cy q hy, rfl, rfl, rfl⟩
  · obtain ⟨D3, cf, k, i, f, g1, g2, g3, g4, g5, g6, g7⟩ := F
    cases hD.symm.trans g1
    simp only [RoadKit.slotOf, g2, gV, gC, Option.map_some, Option.getD_some] at n1 n2
    exact ⟨E', cf, k, i, f, q1.1, g2, g3, by rw [q2.1]; exact g4, by rw [q2.1]; exact g5, by rw [q2.2.1]; exact g6, by rw [q2.2.2 f.slot (by simp [n1, n2])]; exact g7⟩
end StrChars.Road
namespace StrChars.Road
open Jvm Sem ClassFile Op Lib Jvm.Stand Jvm.Free Jvm.Free.XT
/-- WHAT COMES BACK, the byte[] as a list of values -/
def QA (Z : State) (x : Addr) (zn : Int32) (cs : List Int32) (h : Heap) (v : Option Value) (h' : Heap) (L : List Loc) : Prop := v = none ∧ (∀ y ∈ L, y.base = x) ∧ RoadKit.Keep h h' [x] ∧ h'.size = h.size + 1 ∧ RoadKit.Exa Z h' x ST ∧ RoadKit.Fld Z h' x ST "value" "[B" (.ref h.size) ∧ RoadKit.Fld Z h' x ST "coder" "B" (.int 0) ∧
  (∃ kb, Z.vm.findClass "[B" = some kb ∧ RoadKit.Arv Z h' h.size kb .byte zn (cs.map fun c => .int (lo8 c)) (.int 0)) ∧
  ∀ (O n d : String) (w : Value), RoadKit.Fld Z h x O n d w → RoadKit.slotOf Z O n d ≠ RoadKit.slotOf Z ST "value" "[B" → RoadKit.slotOf Z O n d ≠ RoadKit.slotOf Z ST "coder" "B" → RoadKit.Fld Z h' x O n d w
/-- **new String(chars) AT A CALL, THE ARRAYS AS LISTS**: the char[] at b holds cs, not empty, no char above 255 -/
theorem backArv {p : Program} {l : Launch} {e : Env} {R : Room} {s : State} {args : Array Value} {below : List Frame} {len W : Nat} {Z : State} {a0 : Array Value} {h : Heap} (hZ : Z.Warmed39 s.vm) (hw : ∀ d ∈ words, d.before a0 Z = true) {kI : Nat} (wi : (Jvm.Cond.instantiable ST kI).before a0 Z = true)
    {x b : Addr} {k : ClassId} {zn z : Int32} {cs : List Int32} {dv v0 c0 : Value} (E : RoadKit.Exa Z h x ST) (V : RoadKit.Fld Z h x ST "value" "[B" v0) (C : RoadKit.Fld Z h x ST "coder" "B" c0) (K : RoadKit.Arv Z h b k .char zn (cs.map Value.int) dv) (S : RoadKit.Sta Z h ST "COMPACT_STRINGS" "Z" (.int z)) (hz : ¬ z = 0)
    (hlen : zn.toNatClampNeg = cs.length) (h0 : 0 < cs.length) (hbig : cs.length ≤ 536870912) (hall : ∀ c ∈ cs, ¬ 255 < c) (hfr : 4 ≤ R.frames) (hlo : W + 65 ≤ R.locals) :
    Back l R p e below s args New1.yN len W (fun P a => a = #[.ref x, .ref b] ∧ P.U.heap = h ∧ P.cells + 1 ≤ R.cells ∧ P.slots + cs.length ≤ R.slots)
      (fun P _ v B => ∃ L, QA Z x zn cs h v B.U.heap L ∧ B.locs = P.locs ++ L ∧ B.cells = P.cells + 1 ∧ B.slots = P.slots + cs.length) := by
  obtain ⟨A, K1, K2, K3, K4, K5, K6⟩ := K
  have e : A.slots.size = cs.length := K3.trans hlen
  have hat : ∀ (i : Nat) (hi : i < cs.length), A.slots[i]? = some (.int cs[i]) := fun i hi => by rw [K5 i (by omega)]; simp [List.getD_eq_getElem?_getD, hi]
  have hcv : ∀ (i : Nat) (hi : i < cs.length), cv A i = cs[i] := fun i hi => by unfold cv; rw [hat i hi]
  have hty : Typed .char A := fun i v hv => by
    have hi : i < A.slots.size := (Array.getElem?_eq_some_iff.mp hv).1
    have q := K5 i hi
    rw [hv] at q
    rw [Option.some.inj q]
    exact K6 i hi
  refine Back.mono (back hZ hw wi E V C K1 hty S hz (by omega) (by omega) (fun i hi => by rw [hcv i (by omega)]; exact hall _ (List.getElem_mem _)) hfr hlo) (fun P a hp => ⟨hp.1, hp.2.1, hp.2.2.1, by rw [e]; exact hp.2.2.2⟩) (fun P a v B hp hq => ?_)
  obtain ⟨L, ⟨q1, q2, q3, q4, q5, q6, q7, ⟨V', v1, v2, v3, v4, v5⟩, q9⟩, hl, hc, hs⟩ := hq
  refine ⟨L, ⟨q1, q2, q3, q4, q5, q6, q7, ⟨V'.cls, v3, V', v1, rfl, by rw [v4, e, hlen], K4, fun i hi => ?_, fun i hi => ?_⟩, q9⟩, hl, hc, by rw [hs, e]⟩
  · have hi' : i < cs.length := by omega
    rw [v5 i (by omega), hcv i hi']; simp [List.getD_eq_getElem?_getD, hi']
  · have hi' : i < cs.length := by omega
    simp only [List.getD_eq_getElem?_getD, List.getElem?_map, List.getElem?_eq_getElem hi', Option.map_some, Option.getD_some]
    exact fits_lo8 _
end StrChars.Road
namespace StrChars.Road
open Jvm Sem ClassFile Op Lib Jvm.Stand Jvm.Free Jvm.Free.XT
/-- WHAT COMES BACK, in the writer's own shape -/
def QV (Z : State) (x : Addr) (N : Int32) (bs : List Int32) (h : Heap) (n0 : Nat) (v : Option Value) (h' : Heap) (L : List Loc) : Prop := v = none ∧ RoadKit.Fr n0 L ∧ RoadKit.Keep h h' [x] ∧ RoadKit.Exa Z h' x ST ∧ RoadKit.Fld Z h' x ST "coder" "B" (.int 0) ∧
  ∃ (t : Addr) (kb : ClassId), n0 ≤ t ∧ h.size ≤ t ∧ ¬ t = x ∧ RoadKit.Fld Z h' x ST "value" "[B" (.ref t) ∧ RoadKit.Arv Z h' t kb .byte N (bs.map Value.int) (.int 0)
/-- **new String(chars) AT A CALL, FOR THE WRITER**: a char[] of n known ints, each 0 to 255 -/
theorem backV {p : Program} {l : Launch} {e : Env} {R : Room} {s : State} {args : Array Value} {below : List Frame} {len W : Nat} {Z : State} {a0 : Array Value} {h : Heap} (hZ : Z.Warmed39 s.vm) (hw : ∀ d ∈ words, d.before a0 Z = true) {kI : Nat} (wi : (Jvm.Cond.instantiable ST kI).before a0 Z = true)
    {x b : Addr} {kC : ClassId} {cs bs : List Int32} {d v0 c0 : Value} {z N : Int32} {n n0 : Nat} (hx0 : n0 ≤ x) (hh0 : n0 ≤ h.size) (E : RoadKit.Exa Z h x ST) (V : RoadKit.Fld Z h x ST "value" "[B" v0) (C : RoadKit.Fld Z h x ST "coder" "B" c0) (K : RoadKit.Arv Z h b kC .char N (cs.map Value.int) d) (S : RoadKit.Sta Z h ST "COMPACT_STRINGS" "Z" (.int z)) (hz : ¬ z = 0)
    (hn : cs.length = n) (hN : N = Int32.ofNat n) (l0 : 0 < n) (l2 : n ≤ 4000) (hp : ∀ c ∈ cs, ¬ c < 0 ∧ ¬ (255 : Int32) < c) (hb : bs = cs.map (fun c => c.toInt8.toInt32)) (hfr : 4 ≤ R.frames) (hlo : W + 65 ≤ R.locals) :
    Back l R p e below s args (⟨"java/lang/String", "<init>", "([C)V"⟩ : MethodName) len W (fun P a => a = #[.ref x, .ref b] ∧ P.U.heap = h ∧ P.cells + 1 ≤ R.cells ∧ P.slots + n ≤ R.slots)
      (fun P _ v B => ∃ L, QV Z x N bs h n0 v B.U.heap L ∧ B.locs = P.locs ++ L ∧ B.cells = P.cells + 1 ∧ B.slots = P.slots + n) := by
  subst hn hN hb
  refine Back.mono (backArv hZ hw wi E V C K S hz (n32 (by omega)) l0 (by omega) (fun c hc => (hp c hc).2) hfr hlo) (fun P a hp => hp) (fun P a v B hp hq => ?_)
  obtain ⟨L, ⟨q1, q2, q3, q4, q5, q6, q7, ⟨kb, v1, v2⟩, q9⟩, hl, hc, hs⟩ := hq
  exact ⟨L, ⟨q1, fun y hy => by rw [q2 y hy]; exact hx0, q3, q5, q7, h.size, kb, hh0, Nat.le_refl _, Nat.ne_of_gt E.lt, q6, by rw [List.map_map]; exact v2⟩, hl, hc, hs⟩
end StrChars.Road
end Jvm.Pilot.@@N@@

namespace Jvm.Pilot.@@N@@
open Jvm Jvm.ClassFile Sem Op Lib Jvm.Free Jvm.Stand Jvm.LawKit Jvm.RoadKit Bundle Jvm.Pilot.@@N@@.Jvm.D
theorem own_wid {p : Program} {l : Launch} {e : Env} {R : Room} {s : State} {m : MethodId} {args : Array Value} {below : List Frame} {meth : Method} {c : Code} {T : State} {locs : List Loc} {cells slots c' s' : Nat} (X : Stand p l e R s m args below meth c T locs cells slots) (h1 : cells ≤ c') (h2 : slots ≤ s') : Stand p l e R s m args below meth c T locs c' s' :=
  ⟨X.admits, X.cas, X.clock, X.frames, X.room, X.hears, X.method, X.code, X.here, X.tail, X.warmed, X.limits, X.bytes, X.same.mono h1 h2⟩
abbrev Sx (p : Program) (e : Env) (b : List Frame) (T : State) (m : MethodId) (pc : Nat) (L : Array Slot) (S : List Value) (t : State) : Prop := Steps p.tables e b (T.setTop (mkF m pc L S)) t
abbrev xvi (x : Int32) : Slot := .val (.int x)
abbrev xvj (x : Int64) : Slot := .val (.long x)
abbrev xvr (x : Addr) : Slot := .val (.ref x)
abbrev xwi (x : Int32) : Value := .int x
abbrev xwj (x : Int64) : Value := .long x
abbrev xwr (x : Addr) : Value := .ref x
abbrev xun : Slot := .unset
abbrev xse : Slot := .second
theorem own_selp {Z : State} {a0 : Array Value} {y : MethodName} {n : Nat} (wi : (Cond.instantiable y.cls n).before a0 Z = true) (wp : (Cond.privateMethod y).before a0 Z = true) (wn : (Cond.instanceMethod y).before a0 Z = true) (hy : y.cls ≠ "java/lang/invoke/MethodHandle" ∧ y.cls ≠ "java/lang/invoke/VarHandle") : (Cond.selects y.cls y y).before a0 Z = true := by
  obtain ⟨c, k, h1, h2, -, h4, -⟩ := Cond.instantiable_spec wi
  exact Jvm.Stand.selects_self_of_private h1 h2 (Bool.or_eq_false_iff.mp h4).1 (Cond.privateMethod_at wp) wn hy
theorem y_iload {p : Program} {l : Launch} {e : Env} {R : Room} {s : State} {m : MethodId} {args : Array Value} {below : List Frame} {meth : Method} {c : Code} {T : State} {locs : List Loc} {cells slots : Nat} {t : State} {L : Array Slot} {S : List Value} {pc : Nat} (X : Stand p l e R s m args below meth c T locs cells slots) (hx : p.tables.exec = Jvm.exec) {k : Nat} {v : Int32} (q : Nat) (hd : decode c.code pc = .ok (.iload k, 2)) (hl : L[k]? = some (.val (.int v))) (hq : pc + 2 = q) (hr : Sx p e below T m q L (.int v :: S) t) : Sx p e below T m pc L S t := by subst hq; exact XS.iload X.here hx rfl hd hl hr
theorem y_iloadN {p : Program} {l : Launch} {e : Env} {R : Room} {s : State} {m : MethodId} {args : Array Value} {below : List Frame} {meth : Method} {c : Code} {T : State} {locs : List Loc} {cells slots : Nat} {t : State} {L : Array Slot} {S : List Value} {pc : Nat} (X : Stand p l e R s m args below meth c T locs cells slots) (hx : p.tables.exec = Jvm.exec) {k : Fin 4} {v : Int32} (q : Nat) (hd : decode c.code pc = .ok (.iload_n k, 1)) (hl : L[k.val]? = some (.val (.int v))) (hq : pc + 1 = q) (hr : Sx p e below T m q L (.int v :: S) t) : Sx p e below T m pc L S t := by subst hq; exact XS.iloadN X.here hx rfl hd hl hr
theorem y_lload {p : Program} {l : Launch} {e : Env} {R : Room} {s : State} {m : MethodId} {args : Array Value} {below : List Frame} {meth : Method} {c : Code} {T : State} {locs : List Loc} {cells slots : Nat} {t : State} {L : Array Slot} {S : List Value} {pc : Nat} (X : Stand p l e R s m args below meth c T locs cells slots) (hx : p.tables.exec = Jvm.exec) {k : Nat} {v : Int64} (q : Nat) (hd : decode c.code pc = .ok (.lload k, 2)) (hl : L[k]? = some (.val (.long v))) (hq : pc + 2 = q) (hr : Sx p e below T m q L (.long v :: S) t) : Sx p e below T m pc L S t := by subst hq; exact XS.lload X.here hx rfl hd hl hr
theorem y_lloadN {p : Program} {l : Launch} {e : Env} {R : Room} {s : State} {m : MethodId} {args : Array Value} {below : List Frame} {meth : Method} {c : Code} {T : State} {locs : List Loc} {cells slots : Nat} {t : State} {L : Array Slot} {S : List Value} {pc : Nat} (X : Stand p l e R s m args below meth c T locs cells slots) (hx : p.tables.exec = Jvm.exec) {k : Fin 4} {v : Int64} (q : Nat) (hd : decode c.code pc = .ok (.lload_n k, 1)) (hl : L[k.val]? = some (.val (.long v))) (hq : pc + 1 = q) (hr : Sx p e below T m q L (.long v :: S) t) : Sx p e below T m pc L S t := by subst hq; exact XS.lloadN X.here hx rfl hd hl hr
theorem y_aload {p : Program} {l : Launch} {e : Env} {R : Room} {s : State} {m : MethodId} {args : Array Value} {below : List Frame} {meth : Method} {c : Code} {T : State} {locs : List Loc} {cells slots : Nat} {t : State} {L : Array Slot} {S : List Value} {pc : Nat} (X : Stand p l e R s m args below meth c T locs cells slots) (hx : p.tables.exec = Jvm.exec) {k : Nat} {v : Value} (q : Nat) (hd : decode c.code pc = .ok (.aload k, 2)) (hl : L[k]? = some (.val v)) (hv : v.isRef = true) (hq : pc + 2 = q) (hr : Sx p e below T m q L (v :: S) t) : Sx p e below T m pc L S t := by subst hq; exact XS.aload X.here hx rfl hd hl hv hr
theorem y_aloadN {p : Program} {l : Launch} {e : Env} {R : Room} {s : State} {m : MethodId} {args : Array Value} {below : List Frame} {meth : Method} {c : Code} {T : State} {locs : List Loc} {cells slots : Nat} {t : State} {L : Array Slot} {S : List Value} {pc : Nat} (X : Stand p l e R s m args below meth c T locs cells slots) (hx : p.tables.exec = Jvm.exec) {k : Fin 4} {v : Value} (q : Nat) (hd : decode c.code pc = .ok (.aload_n k, 1)) (hl : L[k.val]? = some (.val v)) (hv : v.isRef = true) (hq : pc + 1 = q) (hr : Sx p e below T m q L (v :: S) t) : Sx p e below T m pc L S t := by subst hq; exact XS.aloadN X.here hx rfl hd hl hv hr
theorem y_iconst {p : Program} {l : Launch} {e : Env} {R : Room} {s : State} {m : MethodId} {args : Array Value} {below : List Frame} {meth : Method} {c : Code} {T : State} {locs : List Loc} {cells slots : Nat} {t : State} {L : Array Slot} {S : List Value} {pc : Nat} (X : Stand p l e R s m args below meth c T locs cells slots) (hx : p.tables.exec = Jvm.exec) {i : Int} (z : Int32) (q : Nat) (hd : decode c.code pc = .ok (.iconst i, 1)) (hz : Int32.ofInt i = z) (hq : pc + 1 = q) (hr : Sx p e below T m q L (.int z :: S) t) : Sx p e below T m pc L S t := by subst hq; exact XS.iconst X.here hx rfl hd (by rw [hz]; exact hr)
theorem y_bipush {p : Program} {l : Launch} {e : Env} {R : Room} {s : State} {m : MethodId} {args : Array Value} {below : List Frame} {meth : Method} {c : Code} {T : State} {locs : List Loc} {cells slots : Nat} {t : State} {L : Array Slot} {S : List Value} {pc : Nat} (X : Stand p l e R s m args below meth c T locs cells slots) (hx : p.tables.exec = Jvm.exec) {i : Int} (z : Int32) (q : Nat) (hd : decode c.code pc = .ok (.bipush i, 2)) (hz : (Int8.ofInt i).toInt32 = z) (hq : pc + 2 = q) (hr : Sx p e below T m q L (.int z :: S) t) : Sx p e below T m pc L S t := by subst hq; exact XS.bipush X.here hx rfl hd (by rw [hz]; exact hr)
theorem y_sipush {p : Program} {l : Launch} {e : Env} {R : Room} {s : State} {m : MethodId} {args : Array Value} {below : List Frame} {meth : Method} {c : Code} {T : State} {locs : List Loc} {cells slots : Nat} {t : State} {L : Array Slot} {S : List Value} {pc : Nat} (X : Stand p l e R s m args below meth c T locs cells slots) (hx : p.tables.exec = Jvm.exec) {i : Int} (z : Int32) (q : Nat) (hd : decode c.code pc = .ok (.sipush i, 3)) (hz : (Int16.ofInt i).toInt32 = z) (hq : pc + 3 = q) (hr : Sx p e below T m q L (.int z :: S) t) : Sx p e below T m pc L S t := by subst hq; exact XS.sipush X.here hx rfl hd (by rw [hz]; exact hr)
theorem y_aconst_null {p : Program} {l : Launch} {e : Env} {R : Room} {s : State} {m : MethodId} {args : Array Value} {below : List Frame} {meth : Method} {c : Code} {T : State} {locs : List Loc} {cells slots : Nat} {t : State} {L : Array Slot} {S : List Value} {pc : Nat} (X : Stand p l e R s m args below meth c T locs cells slots) (hx : p.tables.exec = Jvm.exec) (q : Nat) (hd : decode c.code pc = .ok (.aconst_null, 1)) (hq : pc + 1 = q) (hr : Sx p e below T m q L (.null :: S) t) : Sx p e below T m pc L S t := by subst hq; exact XS.aconstNull X.here hx rfl hd hr
theorem y_iadd {p : Program} {l : Launch} {e : Env} {R : Room} {s : State} {m : MethodId} {args : Array Value} {below : List Frame} {meth : Method} {c : Code} {T : State} {locs : List Loc} {cells slots : Nat} {t : State} {L : Array Slot} {S : List Value} {pc : Nat} (X : Stand p l e R s m args below meth c T locs cells slots) (hx : p.tables.exec = Jvm.exec) {x y : Int32} (q : Nat) (hd : decode c.code pc = .ok (.iadd, 1)) (hq : pc + 1 = q) (hr : Sx p e below T m q L (.int (x + y) :: S) t) : Sx p e below T m pc L (.int y :: .int x :: S) t := by subst hq; exact XS.iadd X.here hx rfl hd rfl hr
theorem y_ladd {p : Program} {l : Launch} {e : Env} {R : Room} {s : State} {m : MethodId} {args : Array Value} {below : List Frame} {meth : Method} {c : Code} {T : State} {locs : List Loc} {cells slots : Nat} {t : State} {L : Array Slot} {S : List Value} {pc : Nat} (X : Stand p l e R s m args below meth c T locs cells slots) (hx : p.tables.exec = Jvm.exec) {x y : Int64} (q : Nat) (hd : decode c.code pc = .ok (.ladd, 1)) (hq : pc + 1 = q) (hr : Sx p e below T m q L (.long (x + y) :: S) t) : Sx p e below T m pc L (.long y :: .long x :: S) t := by subst hq; exact XS.ladd X.here hx rfl hd rfl hr
theorem y_isub {p : Program} {l : Launch} {e : Env} {R : Room} {s : State} {m : MethodId} {args : Array Value} {below : List Frame} {meth : Method} {c : Code} {T : State} {locs : List Loc} {cells slots : Nat} {t : State} {L : Array Slot} {S : List Value} {pc : Nat} (X : Stand p l e R s m args below meth c T locs cells slots) (hx : p.tables.exec = Jvm.exec) {x y : Int32} (q : Nat) (hd : decode c.code pc = .ok (.isub, 1)) (hq : pc + 1 = q) (hr : Sx p e below T m q L (.int (x - y) :: S) t) : Sx p e below T m pc L (.int y :: .int x :: S) t := by subst hq; exact XS.isub X.here hx rfl hd rfl hr
theorem y_lsub {p : Program} {l : Launch} {e : Env} {R : Room} {s : State} {m : MethodId} {args : Array Value} {below : List Frame} {meth : Method} {c : Code} {T : State} {locs : List Loc} {cells slots : Nat} {t : State} {L : Array Slot} {S : List Value} {pc : Nat} (X : Stand p l e R s m args below meth c T locs cells slots) (hx : p.tables.exec = Jvm.exec) {x y : Int64} (q : Nat) (hd : decode c.code pc = .ok (.lsub, 1)) (hq : pc + 1 = q) (hr : Sx p e below T m q L (.long (x - y) :: S) t) : Sx p e below T m pc L (.long y :: .long x :: S) t := by subst hq; exact XS.lsub X.here hx rfl hd rfl hr
theorem y_imul {p : Program} {l : Launch} {e : Env} {R : Room} {s : State} {m : MethodId} {args : Array Value} {below : List Frame} {meth : Method} {c : Code} {T : State} {locs : List Loc} {cells slots : Nat} {t : State} {L : Array Slot} {S : List Value} {pc : Nat} (X : Stand p l e R s m args below meth c T locs cells slots) (hx : p.tables.exec = Jvm.exec) {x y : Int32} (q : Nat) (hd : decode c.code pc = .ok (.imul, 1)) (hq : pc + 1 = q) (hr : Sx p e below T m q L (.int (x * y) :: S) t) : Sx p e below T m pc L (.int y :: .int x :: S) t := by subst hq; exact XS.imul X.here hx rfl hd rfl hr
theorem y_lmul {p : Program} {l : Launch} {e : Env} {R : Room} {s : State} {m : MethodId} {args : Array Value} {below : List Frame} {meth : Method} {c : Code} {T : State} {locs : List Loc} {cells slots : Nat} {t : State} {L : Array Slot} {S : List Value} {pc : Nat} (X : Stand p l e R s m args below meth c T locs cells slots) (hx : p.tables.exec = Jvm.exec) {x y : Int64} (q : Nat) (hd : decode c.code pc = .ok (.lmul, 1)) (hq : pc + 1 = q) (hr : Sx p e below T m q L (.long (x * y) :: S) t) : Sx p e below T m pc L (.long y :: .long x :: S) t := by subst hq; exact XS.lmul X.here hx rfl hd rfl hr
theorem y_iand {p : Program} {l : Launch} {e : Env} {R : Room} {s : State} {m : MethodId} {args : Array Value} {below : List Frame} {meth : Method} {c : Code} {T : State} {locs : List Loc} {cells slots : Nat} {t : State} {L : Array Slot} {S : List Value} {pc : Nat} (X : Stand p l e R s m args below meth c T locs cells slots) (hx : p.tables.exec = Jvm.exec) {x y : Int32} (q : Nat) (hd : decode c.code pc = .ok (.iand, 1)) (hq : pc + 1 = q) (hr : Sx p e below T m q L (.int (x &&& y) :: S) t) : Sx p e below T m pc L (.int y :: .int x :: S) t := by subst hq; exact XS.iand X.here hx rfl hd rfl hr
theorem y_land {p : Program} {l : Launch} {e : Env} {R : Room} {s : State} {m : MethodId} {args : Array Value} {below : List Frame} {meth : Method} {c : Code} {T : State} {locs : List Loc} {cells slots : Nat} {t : State} {L : Array Slot} {S : List Value} {pc : Nat} (X : Stand p l e R s m args below meth c T locs cells slots) (hx : p.tables.exec = Jvm.exec) {x y : Int64} (q : Nat) (hd : decode c.code pc = .ok (.land, 1)) (hq : pc + 1 = q) (hr : Sx p e below T m q L (.long (x &&& y) :: S) t) : Sx p e below T m pc L (.long y :: .long x :: S) t := by subst hq; exact XS.land X.here hx rfl hd rfl hr
theorem y_ior {p : Program} {l : Launch} {e : Env} {R : Room} {s : State} {m : MethodId} {args : Array Value} {below : List Frame} {meth : Method} {c : Code} {T : State} {locs : List Loc} {cells slots : Nat} {t : State} {L : Array Slot} {S : List Value} {pc : Nat} (X : Stand p l e R s m args below meth c T locs cells slots) (hx : p.tables.exec = Jvm.exec) {x y : Int32} (q : Nat) (hd : decode c.code pc = .ok (.ior, 1)) (hq : pc + 1 = q) (hr : Sx p e below T m q L (.int (x ||| y) :: S) t) : Sx p e below T m pc L (.int y :: .int x :: S) t := by subst hq; exact XS.ior X.here hx rfl hd rfl hr
theorem y_lor {p : Program} {l : Launch} {e : Env} {R : Room} {s : State} {m : MethodId} {args : Array Value} {below : List Frame} {meth : Method} {c : Code} {T : State} {locs : List Loc} {cells slots : Nat} {t : State} {L : Array Slot} {S : List Value} {pc : Nat} (X : Stand p l e R s m args below meth c T locs cells slots) (hx : p.tables.exec = Jvm.exec) {x y : Int64} (q : Nat) (hd : decode c.code pc = .ok (.lor, 1)) (hq : pc + 1 = q) (hr : Sx p e below T m q L (.long (x ||| y) :: S) t) : Sx p e below T m pc L (.long y :: .long x :: S) t := by subst hq; exact XS.lor X.here hx rfl hd rfl hr
theorem y_ixor {p : Program} {l : Launch} {e : Env} {R : Room} {s : State} {m : MethodId} {args : Array Value} {below : List Frame} {meth : Method} {c : Code} {T : State} {locs : List Loc} {cells slots : Nat} {t : State} {L : Array Slot} {S : List Value} {pc : Nat} (X : Stand p l e R s m args below meth c T locs cells slots) (hx : p.tables.exec = Jvm.exec) {x y : Int32} (q : Nat) (hd : decode c.code pc = .ok (.ixor, 1)) (hq : pc + 1 = q) (hr : Sx p e below T m q L (.int (x ^^^ y) :: S) t) : Sx p e below T m pc L (.int y :: .int x :: S) t := by subst hq; exact XS.ixor X.here hx rfl hd rfl hr
theorem y_lxor {p : Program} {l : Launch} {e : Env} {R : Room} {s : State} {m : MethodId} {args : Array Value} {below : List Frame} {meth : Method} {c : Code} {T : State} {locs : List Loc} {cells slots : Nat} {t : State} {L : Array Slot} {S : List Value} {pc : Nat} (X : Stand p l e R s m args below meth c T locs cells slots) (hx : p.tables.exec = Jvm.exec) {x y : Int64} (q : Nat) (hd : decode c.code pc = .ok (.lxor, 1)) (hq : pc + 1 = q) (hr : Sx p e below T m q L (.long (x ^^^ y) :: S) t) : Sx p e below T m pc L (.long y :: .long x :: S) t := by subst hq; exact XS.lxor X.here hx rfl hd rfl hr
theorem y_goto {p : Program} {l : Launch} {e : Env} {R : Room} {s : State} {m : MethodId} {args : Array Value} {below : List Frame} {meth : Method} {c : Code} {T : State} {locs : List Loc} {cells slots : Nat} {t : State} {L : Array Slot} {S : List Value} {pc : Nat} (X : Stand p l e R s m args below meth c T locs cells slots) (hx : p.tables.exec = Jvm.exec) {o : Int} (q : Nat) (hd : decode c.code pc = .ok (.goto o, 3)) (ho : 0 ≤ (pc : Int) + o) (hq : ((pc : Int) + o).toNat = q) (hr : Sx p e below T m q L S t) : Sx p e below T m pc L S t := by subst hq; exact XS.goto X.here hx rfl rfl hd ho rfl hr
theorem y_ifYes {p : Program} {l : Launch} {e : Env} {R : Room} {s : State} {m : MethodId} {args : Array Value} {below : List Frame} {meth : Method} {c : Code} {T : State} {locs : List Loc} {cells slots : Nat} {t : State} {L : Array Slot} {S : List Value} {pc : Nat} (X : Stand p l e R s m args below meth c T locs cells slots) (hx : p.tables.exec = Jvm.exec) {cd : ClassFile.Cond} {x : Int32} {o : Int} (q : Nat) (hd : decode c.code pc = .ok (.ifCond cd o, 3)) (hc : ifCond.holds cd x = true) (ho : 0 ≤ (pc : Int) + o) (hq : ((pc : Int) + o).toNat = q) (hr : Sx p e below T m q L S t) : Sx p e below T m pc L (.int x :: S) t := by subst hq; exact XS.ifYes X.here hx rfl rfl hd rfl hc ho rfl hr
theorem y_ifNo {p : Program} {l : Launch} {e : Env} {R : Room} {s : State} {m : MethodId} {args : Array Value} {below : List Frame} {meth : Method} {c : Code} {T : State} {locs : List Loc} {cells slots : Nat} {t : State} {L : Array Slot} {S : List Value} {pc : Nat} (X : Stand p l e R s m args below meth c T locs cells slots) (hx : p.tables.exec = Jvm.exec) {cd : ClassFile.Cond} {x : Int32} {o : Int} (q : Nat) (hd : decode c.code pc = .ok (.ifCond cd o, 3)) (hc : ifCond.holds cd x = false) (hq : pc + 3 = q) (hr : Sx p e below T m q L S t) : Sx p e below T m pc L (.int x :: S) t := by subst hq; exact XS.ifNo X.here hx rfl hd rfl hc hr
theorem y_icmpYes {p : Program} {l : Launch} {e : Env} {R : Room} {s : State} {m : MethodId} {args : Array Value} {below : List Frame} {meth : Method} {c : Code} {T : State} {locs : List Loc} {cells slots : Nat} {t : State} {L : Array Slot} {S : List Value} {pc : Nat} (X : Stand p l e R s m args below meth c T locs cells slots) (hx : p.tables.exec = Jvm.exec) {cd : ClassFile.Cond} {x y : Int32} {o : Int} (q : Nat) (hd : decode c.code pc = .ok (.if_icmp cd o, 3)) (hc : if_icmp.holds cd x y = true) (ho : 0 ≤ (pc : Int) + o) (hq : ((pc : Int) + o).toNat = q) (hr : Sx p e below T m q L S t) : Sx p e below T m pc L (.int y :: .int x :: S) t := by subst hq; exact XS.icmpYes X.here hx rfl rfl hd rfl hc ho rfl hr
theorem y_icmpNo {p : Program} {l : Launch} {e : Env} {R : Room} {s : State} {m : MethodId} {args : Array Value} {below : List Frame} {meth : Method} {c : Code} {T : State} {locs : List Loc} {cells slots : Nat} {t : State} {L : Array Slot} {S : List Value} {pc : Nat} (X : Stand p l e R s m args below meth c T locs cells slots) (hx : p.tables.exec = Jvm.exec) {cd : ClassFile.Cond} {x y : Int32} {o : Int} (q : Nat) (hd : decode c.code pc = .ok (.if_icmp cd o, 3)) (hc : if_icmp.holds cd x y = false) (hq : pc + 3 = q) (hr : Sx p e below T m q L S t) : Sx p e below T m pc L (.int y :: .int x :: S) t := by subst hq; exact XS.icmpNo X.here hx rfl hd rfl hc hr
theorem y_dup {p : Program} {l : Launch} {e : Env} {R : Room} {s : State} {m : MethodId} {args : Array Value} {below : List Frame} {meth : Method} {c : Code} {T : State} {locs : List Loc} {cells slots : Nat} {t : State} {L : Array Slot} {S : List Value} {pc : Nat} (X : Stand p l e R s m args below meth c T locs cells slots) (hx : p.tables.exec = Jvm.exec) {v : Value} (q : Nat) (hd : decode c.code pc = .ok (.dup, 1)) (hc : v.category = 1) (hq : pc + 1 = q) (hr : Sx p e below T m q L (v :: v :: S) t) : Sx p e below T m pc L (v :: S) t := by subst hq; exact XS.dup X.here hx rfl hd rfl hc hr
theorem y_pop {p : Program} {l : Launch} {e : Env} {R : Room} {s : State} {m : MethodId} {args : Array Value} {below : List Frame} {meth : Method} {c : Code} {T : State} {locs : List Loc} {cells slots : Nat} {t : State} {L : Array Slot} {S : List Value} {pc : Nat} (X : Stand p l e R s m args below meth c T locs cells slots) (hx : p.tables.exec = Jvm.exec) {v : Value} (q : Nat) (hd : decode c.code pc = .ok (.pop, 1)) (hc : v.category = 1) (hq : pc + 1 = q) (hr : Sx p e below T m q L S t) : Sx p e below T m pc L (v :: S) t := by subst hq; exact XS.pop X.here hx rfl hd rfl hc hr
theorem own_nar {v : Value} {t : FieldType} (h : v.isRef = true) (ht : t.isReference = true) : narrow t v = v := by
  rcases XT.refc h with rfl | ⟨r, rfl⟩ <;> cases t <;> first | rfl | cases ht
theorem own_fit {v : Value} {t : FieldType} (h : v.isRef = true) (ht : t.isReference = true) : fits t v = true := by
  rcases XT.refc h with rfl | ⟨r, rfl⟩ <;> cases t <;> first | rfl | cases ht
abbrev HW (a0 : Array Value) (Z : State) : Prop := ∀ d ∈ tables_1, d.before a0 Z = true
theorem w_at {a0 : Array Value} {Z : State} (hw : HW a0 Z) {d : Jvm.Cond} (i : Nat) (h : tables_1[i]? = some d) : d.before a0 Z = true := hw _ (List.mem_of_getElem? h)
theorem w_0 {a0 : Array Value} {Z : State} (hw : HW a0 Z) : (Cond.arrayClass FieldType.char).before a0 Z = true := w_at hw 0 rfl
theorem w_1 {a0 : Array Value} {Z : State} (hw : HW a0 Z) : (Cond.classLink "com/example/umq/umq/admin/SelectionAllPinLaw" 7 "java/lang/String").before a0 Z = true := w_at hw 1 rfl
theorem w_2 {a0 : Array Value} {Z : State} (hw : HW a0 Z) : (Cond.instantiable "java/lang/String" 4).before a0 Z = true := w_at hw 2 rfl
theorem w_3 {a0 : Array Value} {Z : State} (hw : HW a0 Z) : (Cond.initialized "java/lang/String").before a0 Z = true := w_at hw 3 rfl
theorem w_4 {a0 : Array Value} {Z : State} (hw : HW a0 Z) : (Cond.methodLink "com/example/umq/umq/admin/SelectionAllPinLaw" 9 ⟨"java/lang/String", "<init>", "([C)V"⟩).before a0 Z = true := w_at hw 4 rfl
theorem w_5 {a0 : Array Value} {Z : State} (hw : HW a0 Z) : (Cond.instanceMethod ⟨"java/lang/String", "<init>", "([C)V"⟩).before a0 Z = true := w_at hw 5 rfl
theorem w_6 {a0 : Array Value} {Z : State} (hw : HW a0 Z) : (Cond.code ⟨"java/lang/String", "<init>", "([C)V"⟩ jdk_42_method_3_code 2 (Option.none : Option FieldType)).before a0 Z = true := w_at hw 6 rfl
theorem w_7 {a0 : Array Value} {Z : State} (hw : HW a0 Z) : (Cond.methodLink "java/lang/String" 27 ⟨"java/lang/String", "<init>", "([CIILjava/lang/Void;)V"⟩).before a0 Z = true := w_at hw 7 rfl
theorem w_8 {a0 : Array Value} {Z : State} (hw : HW a0 Z) : (Cond.instanceMethod ⟨"java/lang/String", "<init>", "([CIILjava/lang/Void;)V"⟩).before a0 Z = true := w_at hw 8 rfl
theorem w_10 {a0 : Array Value} {Z : State} (hw : HW a0 Z) : (Cond.code ⟨"java/lang/String", "<init>", "([CIILjava/lang/Void;)V"⟩ jdk_42_method_149_code 6 (Option.none : Option FieldType)).before a0 Z = true := w_at hw 10 rfl
theorem w_11 {a0 : Array Value} {Z : State} (hw : HW a0 Z) : (Cond.methodLink "java/lang/String" 1 ⟨"java/lang/Object", "<init>", "()V"⟩).before a0 Z = true := w_at hw 11 rfl
theorem w_12 {a0 : Array Value} {Z : State} (hw : HW a0 Z) : (Cond.instanceMethod ⟨"java/lang/Object", "<init>", "()V"⟩).before a0 Z = true := w_at hw 12 rfl
theorem w_13 {a0 : Array Value} {Z : State} (hw : HW a0 Z) : (Cond.code ⟨"java/lang/Object", "<init>", "()V"⟩ object_method_1_code 1 (Option.none : Option FieldType)).before a0 Z = true := w_at hw 13 rfl
theorem w_14 {a0 : Array Value} {Z : State} (hw : HW a0 Z) : (Cond.stringLink "java/lang/String" 7 "").before a0 Z = true := w_at hw 14 rfl
theorem w_15 {a0 : Array Value} {Z : State} (hw : HW a0 Z) : (Cond.arrayClass FieldType.byte).before a0 Z = true := w_at hw 15 rfl
theorem w_16 {a0 : Array Value} {Z : State} (hw : HW a0 Z) : (Cond.laysFinal "java/lang/String" "java/lang/String" "value" "[B").before a0 Z = true := w_at hw 16 rfl
theorem w_17 {a0 : Array Value} {Z : State} (hw : HW a0 Z) : (Cond.laysFinal "java/lang/String" "java/lang/String" "coder" "B").before a0 Z = true := w_at hw 17 rfl
theorem w_20 {a0 : Array Value} {Z : State} (hw : HW a0 Z) : (Cond.fieldLink "java/lang/String" 9 "java/lang/String" "value" "[B").before a0 Z = true := w_at hw 20 rfl
theorem w_21 {a0 : Array Value} {Z : State} (hw : HW a0 Z) : (Cond.fieldLink "java/lang/String" 15 "java/lang/String" "coder" "B").before a0 Z = true := w_at hw 21 rfl
theorem w_22 {a0 : Array Value} {Z : State} (hw : HW a0 Z) : (Cond.methodLink "com/example/umq/umq/admin/SelectionAllPinLaw" 12 ⟨"com/example/umq/umq/admin/Selection", "all", "(Ljava/lang/String;)Lcom/example/umq/umq/admin/Selection;"⟩).before a0 Z = true := w_at hw 22 rfl
theorem w_23 {a0 : Array Value} {Z : State} (hw : HW a0 Z) : (Cond.static ⟨"com/example/umq/umq/admin/Selection", "all", "(Ljava/lang/String;)Lcom/example/umq/umq/admin/Selection;"⟩).before a0 Z = true := w_at hw 23 rfl
theorem w_24 {a0 : Array Value} {Z : State} (hw : HW a0 Z) : (Cond.initialized "com/example/umq/umq/admin/Selection").before a0 Z = true := w_at hw 24 rfl
theorem w_25 {a0 : Array Value} {Z : State} (hw : HW a0 Z) : (Cond.code ⟨"com/example/umq/umq/admin/Selection", "all", "(Ljava/lang/String;)Lcom/example/umq/umq/admin/Selection;"⟩ prog_12_method_2_code 1 (Option.some (FieldType.object "com/example/umq/umq/admin/Selection"))).before a0 Z = true := w_at hw 25 rfl
theorem w_26 {a0 : Array Value} {Z : State} (hw : HW a0 Z) : (Cond.classLink "com/example/umq/umq/admin/Selection" 18 "com/example/umq/umq/admin/Selection").before a0 Z = true := w_at hw 26 rfl
theorem w_27 {a0 : Array Value} {Z : State} (hw : HW a0 Z) : (Cond.instantiable "com/example/umq/umq/admin/Selection" 3).before a0 Z = true := w_at hw 27 rfl
theorem w_28 {a0 : Array Value} {Z : State} (hw : HW a0 Z) : (Cond.methodLink "com/example/umq/umq/admin/Selection" 31 ⟨"java/util/Optional", "empty", "()Ljava/util/Optional;"⟩).before a0 Z = true := w_at hw 28 rfl
theorem w_29 {a0 : Array Value} {Z : State} (hw : HW a0 Z) : (Cond.static ⟨"java/util/Optional", "empty", "()Ljava/util/Optional;"⟩).before a0 Z = true := w_at hw 29 rfl
theorem w_30 {a0 : Array Value} {Z : State} (hw : HW a0 Z) : (Cond.initialized "java/util/Optional").before a0 Z = true := w_at hw 30 rfl
theorem w_31 {a0 : Array Value} {Z : State} (hw : HW a0 Z) : (Cond.code ⟨"java/util/Optional", "empty", "()Ljava/util/Optional;"⟩ jdk_32_method_1_code 1 (Option.some (FieldType.object "java/util/Optional"))).before a0 Z = true := w_at hw 31 rfl
theorem w_32 {a0 : Array Value} {Z : State} (hw : HW a0 Z) : (Cond.fieldLink "java/util/Optional" 1 "java/util/Optional" "EMPTY" "Ljava/util/Optional;").before a0 Z = true := w_at hw 32 rfl
theorem w_33 {a0 : Array Value} {Z : State} (hw : HW a0 Z) : (Cond.constantLong "com/example/umq/umq/admin/Selection" 39 (9223372036854775807 : Int64)).before a0 Z = true := w_at hw 33 rfl
theorem w_34 {a0 : Array Value} {Z : State} (hw : HW a0 Z) : (Cond.methodLink "com/example/umq/umq/admin/Selection" 41 ⟨"com/example/umq/umq/admin/Selection", "<init>", "(Ljava/lang/String;Ljava/util/Optional;J)V"⟩).before a0 Z = true := w_at hw 34 rfl
theorem w_35 {a0 : Array Value} {Z : State} (hw : HW a0 Z) : (Cond.instanceMethod ⟨"com/example/umq/umq/admin/Selection", "<init>", "(Ljava/lang/String;Ljava/util/Optional;J)V"⟩).before a0 Z = true := w_at hw 35 rfl
theorem w_36 {a0 : Array Value} {Z : State} (hw : HW a0 Z) : (Cond.code ⟨"com/example/umq/umq/admin/Selection", "<init>", "(Ljava/lang/String;Ljava/util/Optional;J)V"⟩ prog_12_method_1_code 5 (Option.none : Option FieldType)).before a0 Z = true := w_at hw 36 rfl
theorem w_37 {a0 : Array Value} {Z : State} (hw : HW a0 Z) : (Cond.methodLink "com/example/umq/umq/admin/Selection" 1 ⟨"java/lang/Object", "<init>", "()V"⟩).before a0 Z = true := w_at hw 37 rfl
theorem w_38 {a0 : Array Value} {Z : State} (hw : HW a0 Z) : (Cond.stringLink "com/example/umq/umq/admin/Selection" 7 "level cannot be null").before a0 Z = true := w_at hw 38 rfl
theorem w_39 {a0 : Array Value} {Z : State} (hw : HW a0 Z) : (Cond.methodLink "com/example/umq/umq/admin/Selection" 9 ⟨"java/util/Objects", "requireNonNull", "(Ljava/lang/Object;Ljava/lang/String;)Ljava/lang/Object;"⟩).before a0 Z = true := w_at hw 39 rfl
theorem w_40 {a0 : Array Value} {Z : State} (hw : HW a0 Z) : (Cond.static ⟨"java/util/Objects", "requireNonNull", "(Ljava/lang/Object;Ljava/lang/String;)Ljava/lang/Object;"⟩).before a0 Z = true := w_at hw 40 rfl
theorem w_41 {a0 : Array Value} {Z : State} (hw : HW a0 Z) : (Cond.initialized "java/util/Objects").before a0 Z = true := w_at hw 41 rfl
theorem w_42 {a0 : Array Value} {Z : State} (hw : HW a0 Z) : (Cond.code ⟨"java/util/Objects", "requireNonNull", "(Ljava/lang/Object;Ljava/lang/String;)Ljava/lang/Object;"⟩ jdk_31_method_11_code 2 (Option.some (FieldType.object "java/lang/Object"))).before a0 Z = true := w_at hw 42 rfl
theorem w_43 {a0 : Array Value} {Z : State} (hw : HW a0 Z) : (Cond.classLink "com/example/umq/umq/admin/Selection" 15 "java/lang/String").before a0 Z = true := w_at hw 43 rfl
theorem w_44 {a0 : Array Value} {Z : State} (hw : HW a0 Z) : (Cond.fieldLink "com/example/umq/umq/admin/Selection" 17 "com/example/umq/umq/admin/Selection" "level" "Ljava/lang/String;").before a0 Z = true := w_at hw 44 rfl
theorem w_45 {a0 : Array Value} {Z : State} (hw : HW a0 Z) : (Cond.laysFinal "com/example/umq/umq/admin/Selection" "com/example/umq/umq/admin/Selection" "level" "Ljava/lang/String;").before a0 Z = true := w_at hw 45 rfl
theorem w_46 {a0 : Array Value} {Z : State} (hw : HW a0 Z) : (Cond.fieldLink "com/example/umq/umq/admin/Selection" 23 "com/example/umq/umq/admin/Selection" "named" "Ljava/util/Optional;").before a0 Z = true := w_at hw 46 rfl
theorem w_47 {a0 : Array Value} {Z : State} (hw : HW a0 Z) : (Cond.laysFinal "com/example/umq/umq/admin/Selection" "com/example/umq/umq/admin/Selection" "named" "Ljava/util/Optional;").before a0 Z = true := w_at hw 47 rfl
theorem w_48 {a0 : Array Value} {Z : State} (hw : HW a0 Z) : (Cond.fieldLink "com/example/umq/umq/admin/Selection" 27 "com/example/umq/umq/admin/Selection" "limit" "J").before a0 Z = true := w_at hw 48 rfl
theorem w_49 {a0 : Array Value} {Z : State} (hw : HW a0 Z) : (Cond.laysFinal "com/example/umq/umq/admin/Selection" "com/example/umq/umq/admin/Selection" "limit" "J").before a0 Z = true := w_at hw 49 rfl
theorem w_50 {a0 : Array Value} {Z : State} (hw : HW a0 Z) : (Cond.methodLink "com/example/umq/umq/admin/SelectionAllPinLaw" 18 ⟨"com/example/umq/umq/admin/Selection", "level", "()Ljava/lang/String;"⟩).before a0 Z = true := w_at hw 50 rfl
theorem w_51 {a0 : Array Value} {Z : State} (hw : HW a0 Z) : (Cond.declares ⟨"com/example/umq/umq/admin/Selection", "level", "()Ljava/lang/String;"⟩).before a0 Z = true := w_at hw 51 rfl
theorem w_52 {a0 : Array Value} {Z : State} (hw : HW a0 Z) : (Cond.instanceMethod ⟨"com/example/umq/umq/admin/Selection", "level", "()Ljava/lang/String;"⟩).before a0 Z = true := w_at hw 52 rfl
theorem w_53 {a0 : Array Value} {Z : State} (hw : HW a0 Z) : (Cond.selects "com/example/umq/umq/admin/Selection" ⟨"com/example/umq/umq/admin/Selection", "level", "()Ljava/lang/String;"⟩ ⟨"com/example/umq/umq/admin/Selection", "level", "()Ljava/lang/String;"⟩).before a0 Z = true := w_at hw 53 rfl
theorem w_54 {a0 : Array Value} {Z : State} (hw : HW a0 Z) : (Cond.code ⟨"com/example/umq/umq/admin/Selection", "level", "()Ljava/lang/String;"⟩ prog_12_method_5_code 1 (Option.some (FieldType.object "java/lang/String"))).before a0 Z = true := w_at hw 54 rfl
theorem w_55 {a0 : Array Value} {Z : State} (hw : HW a0 Z) : (Cond.methodLink "com/example/umq/umq/admin/SelectionAllPinLaw" 22 ⟨"java/lang/String", "equals", "(Ljava/lang/Object;)Z"⟩).before a0 Z = true := w_at hw 55 rfl
theorem w_56 {a0 : Array Value} {Z : State} (hw : HW a0 Z) : (Cond.declares ⟨"java/lang/String", "equals", "(Ljava/lang/Object;)Z"⟩).before a0 Z = true := w_at hw 56 rfl
theorem w_57 {a0 : Array Value} {Z : State} (hw : HW a0 Z) : (Cond.instanceMethod ⟨"java/lang/String", "equals", "(Ljava/lang/Object;)Z"⟩).before a0 Z = true := w_at hw 57 rfl
theorem w_58 {a0 : Array Value} {Z : State} (hw : HW a0 Z) : (Cond.selects "java/lang/String" ⟨"java/lang/String", "equals", "(Ljava/lang/Object;)Z"⟩ ⟨"java/lang/String", "equals", "(Ljava/lang/Object;)Z"⟩).before a0 Z = true := w_at hw 58 rfl
theorem w_59 {a0 : Array Value} {Z : State} (hw : HW a0 Z) : (Cond.code ⟨"java/lang/String", "equals", "(Ljava/lang/Object;)Z"⟩ jdk_42_method_66_code 3 (Option.some FieldType.boolean)).before a0 Z = true := w_at hw 59 rfl
theorem w_60 {a0 : Array Value} {Z : State} (hw : HW a0 Z) : (Cond.methodLink "com/example/umq/umq/admin/SelectionAllPinLaw" 26 ⟨"com/example/umq/umq/admin/Selection", "named", "()Ljava/util/Optional;"⟩).before a0 Z = true := w_at hw 60 rfl
theorem w_61 {a0 : Array Value} {Z : State} (hw : HW a0 Z) : (Cond.declares ⟨"com/example/umq/umq/admin/Selection", "named", "()Ljava/util/Optional;"⟩).before a0 Z = true := w_at hw 61 rfl
theorem w_62 {a0 : Array Value} {Z : State} (hw : HW a0 Z) : (Cond.instanceMethod ⟨"com/example/umq/umq/admin/Selection", "named", "()Ljava/util/Optional;"⟩).before a0 Z = true := w_at hw 62 rfl
theorem w_63 {a0 : Array Value} {Z : State} (hw : HW a0 Z) : (Cond.selects "com/example/umq/umq/admin/Selection" ⟨"com/example/umq/umq/admin/Selection", "named", "()Ljava/util/Optional;"⟩ ⟨"com/example/umq/umq/admin/Selection", "named", "()Ljava/util/Optional;"⟩).before a0 Z = true := w_at hw 63 rfl
theorem w_64 {a0 : Array Value} {Z : State} (hw : HW a0 Z) : (Cond.code ⟨"com/example/umq/umq/admin/Selection", "named", "()Ljava/util/Optional;"⟩ prog_12_method_6_code 1 (Option.some (FieldType.object "java/util/Optional"))).before a0 Z = true := w_at hw 64 rfl
theorem w_65 {a0 : Array Value} {Z : State} (hw : HW a0 Z) : (Cond.methodLink "com/example/umq/umq/admin/SelectionAllPinLaw" 30 ⟨"java/util/Optional", "isPresent", "()Z"⟩).before a0 Z = true := w_at hw 65 rfl
theorem w_66 {a0 : Array Value} {Z : State} (hw : HW a0 Z) : (Cond.declares ⟨"java/util/Optional", "isPresent", "()Z"⟩).before a0 Z = true := w_at hw 66 rfl
theorem w_67 {a0 : Array Value} {Z : State} (hw : HW a0 Z) : (Cond.instanceMethod ⟨"java/util/Optional", "isPresent", "()Z"⟩).before a0 Z = true := w_at hw 67 rfl
theorem w_68 {a0 : Array Value} {Z : State} (hw : HW a0 Z) : (Cond.selects "java/util/Optional" ⟨"java/util/Optional", "isPresent", "()Z"⟩ ⟨"java/util/Optional", "isPresent", "()Z"⟩).before a0 Z = true := w_at hw 68 rfl
theorem w_69 {a0 : Array Value} {Z : State} (hw : HW a0 Z) : (Cond.code ⟨"java/util/Optional", "isPresent", "()Z"⟩ jdk_32_method_6_code 1 (Option.some FieldType.boolean)).before a0 Z = true := w_at hw 69 rfl
theorem w_70 {a0 : Array Value} {Z : State} (hw : HW a0 Z) : (Cond.fieldLink "java/util/Optional" 13 "java/util/Optional" "value" "Ljava/lang/Object;").before a0 Z = true := w_at hw 70 rfl
theorem w_72 {a0 : Array Value} {Z : State} (hw : HW a0 Z) : (Cond.methodLink "com/example/umq/umq/admin/SelectionAllPinLaw" 36 ⟨"com/example/umq/umq/admin/Selection", "limit", "()J"⟩).before a0 Z = true := w_at hw 72 rfl
theorem w_73 {a0 : Array Value} {Z : State} (hw : HW a0 Z) : (Cond.declares ⟨"com/example/umq/umq/admin/Selection", "limit", "()J"⟩).before a0 Z = true := w_at hw 73 rfl
theorem w_74 {a0 : Array Value} {Z : State} (hw : HW a0 Z) : (Cond.instanceMethod ⟨"com/example/umq/umq/admin/Selection", "limit", "()J"⟩).before a0 Z = true := w_at hw 74 rfl
theorem w_75 {a0 : Array Value} {Z : State} (hw : HW a0 Z) : (Cond.selects "com/example/umq/umq/admin/Selection" ⟨"com/example/umq/umq/admin/Selection", "limit", "()J"⟩ ⟨"com/example/umq/umq/admin/Selection", "limit", "()J"⟩).before a0 Z = true := w_at hw 75 rfl
theorem w_76 {a0 : Array Value} {Z : State} (hw : HW a0 Z) : (Cond.code ⟨"com/example/umq/umq/admin/Selection", "limit", "()J"⟩ prog_12_method_7_code 1 (Option.some FieldType.long)).before a0 Z = true := w_at hw 76 rfl
theorem w_77 {a0 : Array Value} {Z : State} (hw : HW a0 Z) : (Cond.constantLong "com/example/umq/umq/admin/SelectionAllPinLaw" 42 (9223372036854775807 : Int64)).before a0 Z = true := w_at hw 77 rfl
theorem own_and255 (x : Int32) : ∃ k : Fin 256, (x &&& (255 : Int32)) = Int32.ofNat k.val := by
  have h : (x &&& 255).toBitVec.toNat < 256 := by
    simp only [Int32.toBitVec_and, BitVec.toNat_and]
    exact Nat.lt_succ_of_le Nat.and_le_right
  refine ⟨⟨_, h⟩, ?_⟩
  apply Int32.toBitVec_inj.mp
  show _ = BitVec.ofNat 32 _
  rw [BitVec.ofNat_toNat]; simp
theorem own_i2c (x : Int32) : (x &&& (255 : Int32)).toUInt32.toUInt16.toUInt32.toInt32 = x &&& 255 := by
  have t : ∀ k : Fin 256, (Int32.ofNat k.val).toUInt32.toUInt16.toUInt32.toInt32 = Int32.ofNat k.val := by decide +kernel
  obtain ⟨k, e⟩ := own_and255 x
  rw [e]; exact t k
theorem own_narc {c : Int32} (h : ¬ c < 0 ∧ ¬ (255 : Int32) < c) : nar .char c = c := by
  have t : ∀ k : Fin 256, nar .char (Int32.ofNat k.val) = Int32.ofNat k.val := by decide +kernel
  have h1 := h.1; have h2 := h.2
  rw [Int32.lt_iff_toInt_lt] at h1 h2
  have e1 : (0 : Int32).toInt = 0 := rfl
  have e2 : (255 : Int32).toInt = 255 := rfl
  have e : c = Int32.ofNat c.toInt.toNat := by
    apply Int32.toInt_inj.mp
    rw [Int32.toInt_ofNat_of_lt (by omega)]; omega
  rw [e]; exact t ⟨c.toInt.toNat, by omega⟩
theorem own_c255 (x : Int32) : ¬ (x &&& (255 : Int32)) < 0 ∧ ¬ (255 : Int32) < (x &&& (255 : Int32)) := by
  have t : ∀ k : Fin 256, ¬ (Int32.ofNat k.val) < 0 ∧ ¬ (255 : Int32) < (Int32.ofNat k.val) := by decide +kernel
  obtain ⟨k, e⟩ := own_and255 x
  rw [e]; exact t k
theorem own_nb (x : Int32) : x.toInt8.toInt32.toInt8.toInt32 = x.toInt8.toInt32 := by
  rw [Int8.toInt8_toInt32]
theorem own_up (cs : List Int32) (h : ∀ c ∈ cs, ¬ c < 0 ∧ ¬ (255 : Int32) < c) : ∀ c ∈ cs, ¬ c < 0 ∧ ¬ (65535 : Int32) < c := fun c hc => ⟨(h c hc).1, fun q => (h c hc).2 (by rw [Int32.lt_iff_toInt_lt] at q ⊢; have e1 : (65535 : Int32).toInt = 65535 := rfl; have e2 : (255 : Int32).toInt = 255 := rfl; omega)⟩
abbrev Gs : Type := Int32 × Addr
def StartF (Z : State) (G : Gs) : Prop := Sta Z Z.heap "java/lang/String" "COMPACT_STRINGS" "Z" (.int G.1) ∧ ¬ G.1 = (0 : Int32) ∧ Sta Z Z.heap "java/util/Optional" "EMPTY" "Ljava/util/Optional;" (.ref G.2) ∧ Exa Z Z.heap G.2 "java/util/Optional" ∧ Fld Z Z.heap G.2 "java/util/Optional" "value" "Ljava/lang/Object;" .null
theorem own_wV {a0 : Array Value} {Z : State} (hw : ∀ d ∈ tables_1, d.before a0 Z = true) : ∀ d ∈ StrChars.Road.words, d.before a0 Z = true := fun d hd => hw d ((by decide +kernel : ∀ d ∈ StrChars.Road.words, d ∈ tables_1) d hd)
abbrev EL : List (String × Nat) := [("com/example/umq/umq/admin/Selection", 7), ("java/lang/String", 7)]
theorem own_EW {a0 : Array Value} {Z : State} (hw : ∀ d ∈ tables_1, d.before a0 Z = true) : EW Z a0 EL := (EW.cons (w_38 hw) (by decide) (EW.cons (w_14 hw) (by decide) EW.nil))
theorem own_SA {a0 : Array Value} {Z : State} (hw : ∀ d ∈ tables_1, d.before a0 Z = true) : ∀ d ∈ Bundle.stringAtoms, d.before a0 Z = true := fun d hd => hw d ((by decide +kernel : ∀ d ∈ Bundle.stringAtoms, d ∈ tables_1) d hd)
theorem own_safeN {Z : State} {vm : Vm} {h : Heap} {x : Addr} (hal : Z.vm.Alike vm) (E : Exa Z h x "java/lang/String") (F : Fld Z h x "java/lang/String" "value" "[B" .null) : Safe Z EL vm h x := fun B => by
  obtain ⟨cell, k, e1, e2, e3, -, -⟩ := E
  obtain ⟨p, -, u, a, -, q, -, FB, rfl | rfl⟩ := B
  · cases (show h[q.sa]? = some q.sC from FB.ha).symm.trans e1
    obtain ⟨cS, ⟨⟨-, -, -, ⟨cv, kv, iv, s4, -⟩, -, -, -, s8, -⟩, -⟩, -⟩ := FB
    obtain ⟨k', z4⟩ := ff_back hal s4
    obtain ⟨c2, cf, k2, i, f, f1, f2, -, -, -, -, f7⟩ := F
    cases f1.symm.trans e1
    cases f2.symm.trans z4
    rw [s8] at f7; cases f7
  · cases (show h[q.sd]? = some q.SA from FB.hd).symm.trans e1
    obtain ⟨cS, -, -, f, -⟩ := FB
    have f' : vm.findClass "[B" = some q.SA.cls := f
    rw [hal.findClass] at f'
    obtain ⟨k1, q1, q2⟩ := Vm.findClass_spec f'
    obtain ⟨k2, q3, q4⟩ := Vm.findClass_spec e2
    cases q1.symm.trans q3
    exact absurd (q2.symm.trans q4) (by decide)
theorem own_and3 (x : Int32) : (x &&& (3 : Int32)) = 0 ∨ (x &&& (3 : Int32)) = 1 ∨ (x &&& (3 : Int32)) = 2 ∨ (x &&& (3 : Int32)) = 3 := by
  have h : (x &&& 3).toBitVec.toNat < 4 := by
    simp only [Int32.toBitVec_and, BitVec.toNat_and]
    exact Nat.lt_succ_of_le Nat.and_le_right
  have e : (x &&& 3) = Int32.ofNat (x &&& 3).toBitVec.toNat := by
    apply Int32.toBitVec_inj.mp
    show _ = BitVec.ofNat 32 _
    rw [BitVec.ofNat_toNat]; simp
  have t : ∀ k : Fin 4, Int32.ofNat k.val = 0 ∨ Int32.ofNat k.val = 1 ∨ Int32.ofNat k.val = 2 ∨ Int32.ofNat k.val = 3 := by decide +kernel
  rw [e]; exact t ⟨_, h⟩
theorem ef_rmE4 (m : MethodId) (x0 : Addr) (x1 : Addr) (x2 : Int32) (x3 : Int32)  : entryFrame m #[(.ref x0), (.ref x1), (.int x2), (.int x3), .null] 6 = mkF m 0 #[.val (.ref x0), .val (.ref x1), .val (.int x2), .val (.int x3), .val .null, .unset] [] := by first | (simp [entryFrame, mkF, argsToLocals, Value.category]; done) | rfl
theorem d2_0 : decode jdk_42_method_149_code 0 = .ok (.aload_n 0, 1) := by decide +kernel
theorem d2_1 : decode jdk_42_method_149_code 1 = .ok (.invokespecial 1, 3) := by decide +kernel
theorem d2_4 : decode jdk_42_method_149_code 4 = .ok (.iload_n 3, 1) := by decide +kernel
theorem d2_5 : decode jdk_42_method_149_code 5 = .ok (.ifCond .ne 22, 3) := by decide +kernel
theorem d2_8 : decode jdk_42_method_149_code 8 = .ok (.aload_n 0, 1) := by decide +kernel
theorem d2_9 : decode jdk_42_method_149_code 9 = .ok (.ldc 7, 2) := by decide +kernel
theorem d2_11 : decode jdk_42_method_149_code 11 = .ok (.getfield 9, 3) := by decide +kernel
theorem d2_14 : decode jdk_42_method_149_code 14 = .ok (.putfield 9, 3) := by decide +kernel
theorem d2_17 : decode jdk_42_method_149_code 17 = .ok (.aload_n 0, 1) := by decide +kernel
theorem d2_18 : decode jdk_42_method_149_code 18 = .ok (.ldc 7, 2) := by decide +kernel
theorem d2_20 : decode jdk_42_method_149_code 20 = .ok (.getfield 15, 3) := by decide +kernel
theorem d2_23 : decode jdk_42_method_149_code 23 = .ok (.putfield 15, 3) := by decide +kernel
theorem d2_26 : decode jdk_42_method_149_code 26 = .ok (.return_, 1) := by decide +kernel
theorem pn_0 : plainName "java/lang/String" = true := by first | (simp [plainName, overriddenIn]; done) | decide +kernel
def QrmE4 (Z : State) (G : Gs) (ax : Addr) (cx : Addr) (kc : ClassId) (cs : List Value) (dv : Value) (h0 : Heap) (n0 : Nat) (v : Option Value) (h : Heap) (L : List Loc) : Prop := ∃ (tx : Addr), ∃ (kb : ClassId), v = none ∧ Fr n0 L ∧ Keep h0 h [ax] ∧ Exa Z h ax "java/lang/String" ∧ Fld Z h ax "java/lang/String" "coder" "B" (.int (0 : Int32)) ∧ Fld Z h ax "java/lang/String" "value" "[B" (.ref tx) ∧ Arv Z h tx kb .byte (0 : Int32) [] (.int (0 : Int32))
set_option maxRecDepth 65536 in
set_option maxHeartbeats 40000000 in
theorem rmE4 (l : Launch) (Z : State) (a0 : Array Value) (hw : HW a0 Z) (G : Gs) (ST : StartF Z G) (ws : List Jvm.Cond) (ax : Addr) (cx : Addr) (kc : ClassId) (cs : List Value) (dv : Value) (h0 : Heap) (n0 : Nat) (X00 : Old Z n0 h0) (E1 : Exa Z h0 ax "java/lang/String") (F1 : Fld Z h0 ax "java/lang/String" "value" "[B" .null) (F2 : Fld Z h0 ax "java/lang/String" "coder" "B" (.int (0 : Int32))) (g1 : n0 ≤ ax) (V1 : Arv Z h0 cx kc .char (0 : Int32) cs dv) :
    MetFree l (⟨"java/lang/String", "<init>", "([CIILjava/lang/Void;)V"⟩ : MethodName) (head1 (Jvm.Cond.code (⟨"java/lang/String", "<init>", "([CIILjava/lang/Void;)V"⟩ : MethodName) jdk_42_method_149_code 6 none :: ws) ({ frames := 1, cells := 2, slots := 4, locals := 12 } : Room)) (fun a U => a = #[(.ref ax), (.ref cx), (.int (0 : Int32)), (.int (0 : Int32)), .null] ∧ Z.Warmed39 U.vm ∧ U.heap = h0 ∧ CHv Z EL U.vm h0) (fun _ _ _ _ _ => True) (fun _ U o U' => ∃ v L, o = .returned v ∧ QrmE4 Z G ax cx kc cs dv h0 n0 v U'.heap L ∧ CHr Z EL U.vm U.heap U'.vm U'.heap ∧ ReturnedEndW U o U' L ({ frames := 1, cells := 2, slots := 4, locals := 12 } : Room).cells ({ frames := 1, cells := 2, slots := 4, locals := 12 } : Room).slots) := by
  refine MetFree.of_bodySF (plainFor_of_name pn_0) hisR ?_
  intro p e s m args below meth c s₁ Bd hml0 hP hK
  obtain ⟨rfl, hZ, hh, HC0⟩ := hP
  have hx := Bd.exec
  have hby := Bd.bytes
  have hml : c.maxLocals = 6 := hml0
  have hown : s.vm.findClass "java/lang/String" = some m.cls := findClass_of_methodNamed Bd.named
  have hnm := (name_of_methodNamed Bd.named Bd.method).1
  have X0 : Stand p l e ({ frames := 1, cells := 2, slots := 4, locals := 12 } : Room) (s.setVm s.vm) m #[(.ref ax), (.ref cx), (.int (0 : Int32)), (.int (0 : Int32)), .null] below meth c s₁ [] 0 0 := Stand.of_body Bd
  have e0 : s₁.heap = h0 := by rw [← hh, Bd.state]; rfl
  have N0 := Fr.nil n0
  have Z0 : n0 ≤ h0.size := by have q := X00.2.1; rw [X00.1] at q; exact q
  have C0 := CHr.refl HC0
  have hS0 : s.Since s.vm h0.size := (State.WarmedH.refl s).since h0.size
  obtain ⟨TG, hTG, hT2⟩ : ∃ P : State → Prop, (∀ t, P t → Steps p.tables e below (s₁.setTop (entryFrame m #[(.ref ax), (.ref cx), (.int (0 : Int32)), (.int (0 : Int32)), .null] 6)) t) ∧ (∀ t, Steps p.tables e below (s₁.setTop (entryFrame m #[(.ref ax), (.ref cx), (.int (0 : Int32)), (.int (0 : Int32)), .null] 6)) t → P t) := ⟨_, fun t k => k, fun t k => k⟩
  have pre0 : ∀ t, Sx p e below s₁ m 0 #[xvr ax, xvr cx, xvi (0 : Int32), xvi (0 : Int32), .val .null, xun] [] t → TG t := fun t k => hT2 t (castTop (ef_rmE4 m ax cx (0 : Int32) (0 : Int32) ) k)
  obtain ⟨T101, X101, e101, st101⟩ := initO X0 hx hZ hown (w_11 hw) (w_12 hw) (w_13 hw) e0 (g := (mkF m 1 #[xvr ax, xvr cx, xvi (0 : Int32), xvi (0 : Int32), .val .null, xun] [xwr ax])) rfl (by rw [hml]; rfl) rfl (hb hby d2_1) (by decide) (W := 0) (by show 2 * 0 + _ ≤ _; exact Nat.le_of_eq rfl) (by decide)
  obtain ⟨a102, T102, h102, kk102, d102, k102, X102, e102, E102, hS102, hk102, hZ102, hown102, A102, Fc102, Fv102, V102, -, -, CH102, Li102, sf102, st102⟩ := ldcCH X101 hx hZ hown (w_14 hw) (own_SA hw) e101 hS0 (Nat.le_refl _) (own_EW hw) (by decide) C0.1 (vs := []) (z := (0 : Int32)) ⟨by decide, rfl⟩ (by decide) (by decide) (g := (mkF m 9 #[xvr ax, xvr cx, xvi (0 : Int32), xvi (0 : Int32), .val .null, xun] [xwr ax])) rfl (hb hby d2_9) (n := 0) (by decide) (by decide) (by decide) (by decide)
  have C103 := C0.trans CH102
  obtain ⟨T104, X104, e104, st104⟩ := getF X102 hx hZ102 hown102 (host := "") (Or.inl (w_20 hw)) Via.refl e102 Fv102 (g := (mkF m 11 #[xvr ax, xvr cx, xvi (0 : Int32), xvi (0 : Int32), .val .null, xun] [xwr a102, xwr ax])) rfl rfl (hb hby d2_11)
  have f105 := (F1.ext E102)
  have f106 := (E1.ext E102)
  obtain ⟨T107, h107, X107, e107, W107, st107⟩ := putF X104 hx hZ102 hown102 (host := "") (Or.inl (w_20 hw)) Via.refl e104 f105 f106 (Or.inr ⟨(w_16 hw), rfl, hnm⟩) (w_2 hw) (ty := (.array .byte)) (by decide) rfl rfl (g := (mkF m 14 #[xvr ax, xvr cx, xvi (0 : Int32), xvi (0 : Int32), .val .null, xun] [xwr d102, xwr ax])) rfl rfl (hb hby d2_14)
  have sf110 := (CHr.safe CH102 (Nat.lt_of_lt_of_le E1.lt (Nat.le_refl _)) (own_safeN hZ.alike E1 F1))
  have ch109 := CHr.wr W107 sf110 C103.1
  have C108 := C103.trans ch109
  have Fw107 := f105.same W107
  have N107 := Fr.snoc X107 N0 g1
  have f111 := (Fc102.other W107 (Or.inl (Ne.symm (sf102 ax sf110).1)))
  obtain ⟨T112, X112, e112, st112⟩ := getF X107 hx hZ102 hown102 (host := "") (Or.inl (w_21 hw)) Via.refl e107 f111 (g := (mkF m 20 #[xvr ax, xvr cx, xvi (0 : Int32), xvi (0 : Int32), .val .null, xun] [xwr a102, xwr ax])) rfl rfl (hb hby d2_20)
  have f113 := ((F2.ext E102).other W107 (Or.inr (slot_ne (Or.inr (w_17 hw)) (Or.inr (w_16 hw)) (by decide) (t := .byte) (t' := (.array .byte)) (by decide) (by decide))))
  have f114 := (f106.wr W107)
  obtain ⟨T115, h115, X115, e115, W115, st115⟩ := putFN X112 hx hZ102 hown102 (w_21 hw) Via.refl e112 f113 f114 (Or.inr ⟨(w_17 hw), rfl, hnm⟩) (w_2 hw) (ty := .byte) (v' := (.int (0 : Int32))) (by decide) (by decide) (by decide) (g := (mkF m 23 #[xvr ax, xvr cx, xvi (0 : Int32), xvi (0 : Int32), .val .null, xun] [xwi (0 : Int32), xwr ax])) rfl rfl (hb hby d2_23)
  have sf118 := (CHr.safe ch109 (Nat.lt_of_lt_of_le E1.lt E102.1) sf110)
  have ch117 := CHr.wr W115 sf118 C108.1
  have C116 := C108.trans ch117
  have Fw115 := f113.same W115
  have N115 := Fr.snoc X115 N107 g1
  have f119 := (f114.wr W115)
  have f120 := (Fw107.other W115 (Or.inr (slot_ne (Or.inr (w_16 hw)) (Or.inr (w_17 hw)) (by decide) (t := (.array .byte)) (t' := .byte) (by decide) (by decide))))
  have f121 := ((V102.other W107 (Ne.symm (sf102 ax (CHr.safe CH102 (Nat.lt_of_lt_of_le E1.lt (Nat.le_refl _)) (own_safeN hZ.alike E1 F1))).2)).other W115 (Ne.symm (sf102 ax (CHr.safe CH102 (Nat.lt_of_lt_of_le E1.lt (Nat.le_refl _)) (own_safeN hZ.alike E1 F1))).2))
  have f122 := ((V102.other W107 (Ne.symm (Exa.neArv f119 f121 (w_2 hw)))).other W115 (Ne.symm (Exa.neArv f119 f121 (w_2 hw))))
  have f123 := ((V102.other W107 (Ne.symm (Exa.neArv f119 f122 (w_2 hw)))).other W115 (Ne.symm (Exa.neArv f119 f122 (w_2 hw))))
  have f124 := ((V102.other W107 (Ne.symm (Exa.neArv f119 f123 (w_2 hw)))).other W115 (Ne.symm (Exa.neArv f119 f123 (w_2 hw))))
  have f125 := ((V102.other W107 (Ne.symm (Exa.neArv f119 f124 (w_2 hw)))).other W115 (Ne.symm (Exa.neArv f119 f124 (w_2 hw))))
  have f126 := ((V102.other W107 (Ne.symm (Exa.neArv f119 f125 (w_2 hw)))).other W115 (Ne.symm (Exa.neArv f119 f125 (w_2 hw))))
  have f127 := ((V102.other W107 (Ne.symm (Exa.neArv f119 f126 (w_2 hw)))).other W115 (Ne.symm (Exa.neArv f119 f126 (w_2 hw))))
  have f128 := ((V102.other W107 (Ne.symm (Exa.neArv f119 f127 (w_2 hw)))).other W115 (Ne.symm (Exa.neArv f119 f127 (w_2 hw))))
  have f129 := ((V102.other W107 (Ne.symm (Exa.neArv f119 f128 (w_2 hw)))).other W115 (Ne.symm (Exa.neArv f119 f128 (w_2 hw))))
  have f130 := ((V102.other W107 (Ne.symm (Exa.neArv f119 f129 (w_2 hw)))).other W115 (Ne.symm (Exa.neArv f119 f129 (w_2 hw))))
  have f131 := ((V102.other W107 (Ne.symm (Exa.neArv f119 f130 (w_2 hw)))).other W115 (Ne.symm (Exa.neArv f119 f130 (w_2 hw))))
  have f132 := ((V102.other W107 (Ne.symm (Exa.neArv f119 f131 (w_2 hw)))).other W115 (Ne.symm (Exa.neArv f119 f131 (w_2 hw))))
  have f133 := ((V102.other W107 (Ne.symm (Exa.neArv f119 f132 (w_2 hw)))).other W115 (Ne.symm (Exa.neArv f119 f132 (w_2 hw))))
  have f134 := ((V102.other W107 (Ne.symm (Exa.neArv f119 f133 (w_2 hw)))).other W115 (Ne.symm (Exa.neArv f119 f133 (w_2 hw))))
  have f135 := ((V102.other W107 (Ne.symm (Exa.neArv f119 f134 (w_2 hw)))).other W115 (Ne.symm (Exa.neArv f119 f134 (w_2 hw))))
  have f136 := ((V102.other W107 (Ne.symm (Exa.neArv f119 f135 (w_2 hw)))).other W115 (Ne.symm (Exa.neArv f119 f135 (w_2 hw))))
  have f137 := ((V102.other W107 (Ne.symm (Exa.neArv f119 f136 (w_2 hw)))).other W115 (Ne.symm (Exa.neArv f119 f136 (w_2 hw))))
  have f138 := ((V102.other W107 (Ne.symm (Exa.neArv f119 f137 (w_2 hw)))).other W115 (Ne.symm (Exa.neArv f119 f137 (w_2 hw))))
  have f139 := ((V102.other W107 (Ne.symm (Exa.neArv f119 f138 (w_2 hw)))).other W115 (Ne.symm (Exa.neArv f119 f138 (w_2 hw))))
  have f140 := ((V102.other W107 (Ne.symm (Exa.neArv f119 f139 (w_2 hw)))).other W115 (Ne.symm (Exa.neArv f119 f139 (w_2 hw))))
  have f141 := ((V102.other W107 (Ne.symm (Exa.neArv f119 f140 (w_2 hw)))).other W115 (Ne.symm (Exa.neArv f119 f140 (w_2 hw))))
  have f142 := ((V102.other W107 (Ne.symm (Exa.neArv f119 f141 (w_2 hw)))).other W115 (Ne.symm (Exa.neArv f119 f141 (w_2 hw))))
  have f143 := ((V102.other W107 (Ne.symm (Exa.neArv f119 f142 (w_2 hw)))).other W115 (Ne.symm (Exa.neArv f119 f142 (w_2 hw))))
  have f144 := ((V102.other W107 (Ne.symm (Exa.neArv f119 f143 (w_2 hw)))).other W115 (Ne.symm (Exa.neArv f119 f143 (w_2 hw))))
  have f145 := ((V102.other W107 (Ne.symm (Exa.neArv f119 f144 (w_2 hw)))).other W115 (Ne.symm (Exa.neArv f119 f144 (w_2 hw))))
  have f146 := ((V102.other W107 (Ne.symm (Exa.neArv f119 f145 (w_2 hw)))).other W115 (Ne.symm (Exa.neArv f119 f145 (w_2 hw))))
  have f147 := ((V102.other W107 (Ne.symm (Exa.neArv f119 f146 (w_2 hw)))).other W115 (Ne.symm (Exa.neArv f119 f146 (w_2 hw))))
  have f148 := ((V102.other W107 (Ne.symm (Exa.neArv f119 f147 (w_2 hw)))).other W115 (Ne.symm (Exa.neArv f119 f147 (w_2 hw))))
  have f149 := ((V102.other W107 (Ne.symm (Exa.neArv f119 f148 (w_2 hw)))).other W115 (Ne.symm (Exa.neArv f119 f148 (w_2 hw))))
  have f150 := ((V102.other W107 (Ne.symm (Exa.neArv f119 f149 (w_2 hw)))).other W115 (Ne.symm (Exa.neArv f119 f149 (w_2 hw))))
  have f151 := ((V102.other W107 (Ne.symm (Exa.neArv f119 f150 (w_2 hw)))).other W115 (Ne.symm (Exa.neArv f119 f150 (w_2 hw))))
  have f152 := ((V102.other W107 (Ne.symm (Exa.neArv f119 f151 (w_2 hw)))).other W115 (Ne.symm (Exa.neArv f119 f151 (w_2 hw))))
  have f153 := ((V102.other W107 (Ne.symm (Exa.neArv f119 f152 (w_2 hw)))).other W115 (Ne.symm (Exa.neArv f119 f152 (w_2 hw))))
  have f154 := ((V102.other W107 (Ne.symm (Exa.neArv f119 f153 (w_2 hw)))).other W115 (Ne.symm (Exa.neArv f119 f153 (w_2 hw))))
  have f155 := ((V102.other W107 (Ne.symm (Exa.neArv f119 f154 (w_2 hw)))).other W115 (Ne.symm (Exa.neArv f119 f154 (w_2 hw))))
  have f156 := ((V102.other W107 (Ne.symm (Exa.neArv f119 f155 (w_2 hw)))).other W115 (Ne.symm (Exa.neArv f119 f155 (w_2 hw))))
  have f157 := ((V102.other W107 (Ne.symm (Exa.neArv f119 f156 (w_2 hw)))).other W115 (Ne.symm (Exa.neArv f119 f156 (w_2 hw))))
  have f158 := ((V102.other W107 (Ne.symm (Exa.neArv f119 f157 (w_2 hw)))).other W115 (Ne.symm (Exa.neArv f119 f157 (w_2 hw))))
  have f159 := ((V102.other W107 (Ne.symm (Exa.neArv f119 f158 (w_2 hw)))).other W115 (Ne.symm (Exa.neArv f119 f158 (w_2 hw))))
  have f160 := ((V102.other W107 (Ne.symm (Exa.neArv f119 f159 (w_2 hw)))).other W115 (Ne.symm (Exa.neArv f119 f159 (w_2 hw))))
  have f161 := ((V102.other W107 (Ne.symm (Exa.neArv f119 f160 (w_2 hw)))).other W115 (Ne.symm (Exa.neArv f119 f160 (w_2 hw))))
  have f162 := ((V102.other W107 (Ne.symm (Exa.neArv f119 f161 (w_2 hw)))).other W115 (Ne.symm (Exa.neArv f119 f161 (w_2 hw))))
  have f163 := ((V102.other W107 (Ne.symm (Exa.neArv f119 f162 (w_2 hw)))).other W115 (Ne.symm (Exa.neArv f119 f162 (w_2 hw))))
  have f164 := ((V102.other W107 (Ne.symm (Exa.neArv f119 f163 (w_2 hw)))).other W115 (Ne.symm (Exa.neArv f119 f163 (w_2 hw))))
  have f165 := ((V102.other W107 (Ne.symm (Exa.neArv f119 f164 (w_2 hw)))).other W115 (Ne.symm (Exa.neArv f119 f164 (w_2 hw))))
  have f166 := ((V102.other W107 (Ne.symm (Exa.neArv f119 f165 (w_2 hw)))).other W115 (Ne.symm (Exa.neArv f119 f165 (w_2 hw))))
  have f167 := ((V102.other W107 (Ne.symm (Exa.neArv f119 f166 (w_2 hw)))).other W115 (Ne.symm (Exa.neArv f119 f166 (w_2 hw))))
  have f168 := ((V102.other W107 (Ne.symm (Exa.neArv f119 f167 (w_2 hw)))).other W115 (Ne.symm (Exa.neArv f119 f167 (w_2 hw))))
  have f169 := ((V102.other W107 (Ne.symm (Exa.neArv f119 f168 (w_2 hw)))).other W115 (Ne.symm (Exa.neArv f119 f168 (w_2 hw))))
  have f170 := ((V102.other W107 (Ne.symm (Exa.neArv f119 f169 (w_2 hw)))).other W115 (Ne.symm (Exa.neArv f119 f169 (w_2 hw))))
  have f171 := ((V102.other W107 (Ne.symm (Exa.neArv f119 f170 (w_2 hw)))).other W115 (Ne.symm (Exa.neArv f119 f170 (w_2 hw))))
  have f172 := ((V102.other W107 (Ne.symm (Exa.neArv f119 f171 (w_2 hw)))).other W115 (Ne.symm (Exa.neArv f119 f171 (w_2 hw))))
  have f173 := ((V102.other W107 (Ne.symm (Exa.neArv f119 f172 (w_2 hw)))).other W115 (Ne.symm (Exa.neArv f119 f172 (w_2 hw))))
  have f174 := ((V102.other W107 (Ne.symm (Exa.neArv f119 f173 (w_2 hw)))).other W115 (Ne.symm (Exa.neArv f119 f173 (w_2 hw))))
  have f175 := ((V102.other W107 (Ne.symm (Exa.neArv f119 f174 (w_2 hw)))).other W115 (Ne.symm (Exa.neArv f119 f174 (w_2 hw))))
  have f176 := ((V102.other W107 (Ne.symm (Exa.neArv f119 f175 (w_2 hw)))).other W115 (Ne.symm (Exa.neArv f119 f175 (w_2 hw))))
  have f177 := ((V102.other W107 (Ne.symm (Exa.neArv f119 f176 (w_2 hw)))).other W115 (Ne.symm (Exa.neArv f119 f176 (w_2 hw))))
  have f178 := ((V102.other W107 (Ne.symm (Exa.neArv f119 f177 (w_2 hw)))).other W115 (Ne.symm (Exa.neArv f119 f177 (w_2 hw))))
  have f179 := ((V102.other W107 (Ne.symm (Exa.neArv f119 f178 (w_2 hw)))).other W115 (Ne.symm (Exa.neArv f119 f178 (w_2 hw))))
  have f180 := ((V102.other W107 (Ne.symm (Exa.neArv f119 f179 (w_2 hw)))).other W115 (Ne.symm (Exa.neArv f119 f179 (w_2 hw))))
  have f181 := ((V102.other W107 (Ne.symm (Exa.neArv f119 f180 (w_2 hw)))).other W115 (Ne.symm (Exa.neArv f119 f180 (w_2 hw))))
  have f182 := ((V102.other W107 (Ne.symm (Exa.neArv f119 f181 (w_2 hw)))).other W115 (Ne.symm (Exa.neArv f119 f181 (w_2 hw))))
  have f183 := ((V102.other W107 (Ne.symm (Exa.neArv f119 f182 (w_2 hw)))).other W115 (Ne.symm (Exa.neArv f119 f182 (w_2 hw))))
  have f184 := ((V102.other W107 (Ne.symm (Exa.neArv f119 f183 (w_2 hw)))).other W115 (Ne.symm (Exa.neArv f119 f183 (w_2 hw))))
  have f185 := ((V102.other W107 (Ne.symm (Exa.neArv f119 f184 (w_2 hw)))).other W115 (Ne.symm (Exa.neArv f119 f184 (w_2 hw))))
  have f186 := ((V102.other W107 (Ne.symm (Exa.neArv f119 f185 (w_2 hw)))).other W115 (Ne.symm (Exa.neArv f119 f185 (w_2 hw))))
  have f187 := ((V102.other W107 (Ne.symm (Exa.neArv f119 f186 (w_2 hw)))).other W115 (Ne.symm (Exa.neArv f119 f186 (w_2 hw))))
  have f188 := ((V102.other W107 (Ne.symm (Exa.neArv f119 f187 (w_2 hw)))).other W115 (Ne.symm (Exa.neArv f119 f187 (w_2 hw))))
  have f189 := ((V102.other W107 (Ne.symm (Exa.neArv f119 f188 (w_2 hw)))).other W115 (Ne.symm (Exa.neArv f119 f188 (w_2 hw))))
  have f190 := ((V102.other W107 (Ne.symm (Exa.neArv f119 f189 (w_2 hw)))).other W115 (Ne.symm (Exa.neArv f119 f189 (w_2 hw))))
  have f191 := ((V102.other W107 (Ne.symm (Exa.neArv f119 f190 (w_2 hw)))).other W115 (Ne.symm (Exa.neArv f119 f190 (w_2 hw))))
  have f192 := ((V102.other W107 (Ne.symm (Exa.neArv f119 f191 (w_2 hw)))).other W115 (Ne.symm (Exa.neArv f119 f191 (w_2 hw))))
  have f193 := ((V102.other W107 (Ne.symm (Exa.neArv f119 f192 (w_2 hw)))).other W115 (Ne.symm (Exa.neArv f119 f192 (w_2 hw))))
  have f194 := ((V102.other W107 (Ne.symm (Exa.neArv f119 f193 (w_2 hw)))).other W115 (Ne.symm (Exa.neArv f119 f193 (w_2 hw))))
  have f195 := ((V102.other W107 (Ne.symm (Exa.neArv f119 f194 (w_2 hw)))).other W115 (Ne.symm (Exa.neArv f119 f194 (w_2 hw))))
  have f196 := ((V102.other W107 (Ne.symm (Exa.neArv f119 f195 (w_2 hw)))).other W115 (Ne.symm (Exa.neArv f119 f195 (w_2 hw))))
  have f197 := ((V102.other W107 (Ne.symm (Exa.neArv f119 f196 (w_2 hw)))).other W115 (Ne.symm (Exa.neArv f119 f196 (w_2 hw))))
  have f198 := ((V102.other W107 (Ne.symm (Exa.neArv f119 f197 (w_2 hw)))).other W115 (Ne.symm (Exa.neArv f119 f197 (w_2 hw))))
  have f199 := ((V102.other W107 (Ne.symm (Exa.neArv f119 f198 (w_2 hw)))).other W115 (Ne.symm (Exa.neArv f119 f198 (w_2 hw))))
  have f200 := ((V102.other W107 (Ne.symm (Exa.neArv f119 f199 (w_2 hw)))).other W115 (Ne.symm (Exa.neArv f119 f199 (w_2 hw))))
  have f201 := ((V102.other W107 (Ne.symm (Exa.neArv f119 f200 (w_2 hw)))).other W115 (Ne.symm (Exa.neArv f119 f200 (w_2 hw))))
  have f202 := ((V102.other W107 (Ne.symm (Exa.neArv f119 f201 (w_2 hw)))).other W115 (Ne.symm (Exa.neArv f119 f201 (w_2 hw))))
  have f203 := ((V102.other W107 (Ne.symm (Exa.neArv f119 f202 (w_2 hw)))).other W115 (Ne.symm (Exa.neArv f119 f202 (w_2 hw))))
  have f204 := ((V102.other W107 (Ne.symm (Exa.neArv f119 f203 (w_2 hw)))).other W115 (Ne.symm (Exa.neArv f119 f203 (w_2 hw))))
  have f205 := ((V102.other W107 (Ne.symm (Exa.neArv f119 f204 (w_2 hw)))).other W115 (Ne.symm (Exa.neArv f119 f204 (w_2 hw))))
  have f206 := ((V102.other W107 (Ne.symm (Exa.neArv f119 f205 (w_2 hw)))).other W115 (Ne.symm (Exa.neArv f119 f205 (w_2 hw))))
  have f207 := ((V102.other W107 (Ne.symm (Exa.neArv f119 f206 (w_2 hw)))).other W115 (Ne.symm (Exa.neArv f119 f206 (w_2 hw))))
  have f208 := ((V102.other W107 (Ne.symm (Exa.neArv f119 f207 (w_2 hw)))).other W115 (Ne.symm (Exa.neArv f119 f207 (w_2 hw))))
  have f209 := ((V102.other W107 (Ne.symm (Exa.neArv f119 f208 (w_2 hw)))).other W115 (Ne.symm (Exa.neArv f119 f208 (w_2 hw))))
  have f210 := ((V102.other W107 (Ne.symm (Exa.neArv f119 f209 (w_2 hw)))).other W115 (Ne.symm (Exa.neArv f119 f209 (w_2 hw))))
  have f211 := ((V102.other W107 (Ne.symm (Exa.neArv f119 f210 (w_2 hw)))).other W115 (Ne.symm (Exa.neArv f119 f210 (w_2 hw))))
  have f212 := ((V102.other W107 (Ne.symm (Exa.neArv f119 f211 (w_2 hw)))).other W115 (Ne.symm (Exa.neArv f119 f211 (w_2 hw))))
  have f213 := ((V102.other W107 (Ne.symm (Exa.neArv f119 f212 (w_2 hw)))).other W115 (Ne.symm (Exa.neArv f119 f212 (w_2 hw))))
  have f214 := ((V102.other W107 (Ne.symm (Exa.neArv f119 f213 (w_2 hw)))).other W115 (Ne.symm (Exa.neArv f119 f213 (w_2 hw))))
  have f215 := ((V102.other W107 (Ne.symm (Exa.neArv f119 f214 (w_2 hw)))).other W115 (Ne.symm (Exa.neArv f119 f214 (w_2 hw))))
  have f216 := ((V102.other W107 (Ne.symm (Exa.neArv f119 f215 (w_2 hw)))).other W115 (Ne.symm (Exa.neArv f119 f215 (w_2 hw))))
  have f217 := ((V102.other W107 (Ne.symm (Exa.neArv f119 f216 (w_2 hw)))).other W115 (Ne.symm (Exa.neArv f119 f216 (w_2 hw))))
  have f218 := ((V102.other W107 (Ne.symm (Exa.neArv f119 f217 (w_2 hw)))).other W115 (Ne.symm (Exa.neArv f119 f217 (w_2 hw))))
  have f219 := ((V102.other W107 (Ne.symm (Exa.neArv f119 f218 (w_2 hw)))).other W115 (Ne.symm (Exa.neArv f119 f218 (w_2 hw))))
  have f220 := ((V102.other W107 (Ne.symm (Exa.neArv f119 f219 (w_2 hw)))).other W115 (Ne.symm (Exa.neArv f119 f219 (w_2 hw))))
  have f221 := ((V102.other W107 (Ne.symm (Exa.neArv f119 f220 (w_2 hw)))).other W115 (Ne.symm (Exa.neArv f119 f220 (w_2 hw))))
  have f222 := ((V102.other W107 (Ne.symm (Exa.neArv f119 f221 (w_2 hw)))).other W115 (Ne.symm (Exa.neArv f119 f221 (w_2 hw))))
  have f223 := ((V102.other W107 (Ne.symm (Exa.neArv f119 f222 (w_2 hw)))).other W115 (Ne.symm (Exa.neArv f119 f222 (w_2 hw))))
  have f224 := ((V102.other W107 (Ne.symm (Exa.neArv f119 f223 (w_2 hw)))).other W115 (Ne.symm (Exa.neArv f119 f223 (w_2 hw))))
  have f225 := ((V102.other W107 (Ne.symm (Exa.neArv f119 f224 (w_2 hw)))).other W115 (Ne.symm (Exa.neArv f119 f224 (w_2 hw))))
  have f226 := ((V102.other W107 (Ne.symm (Exa.neArv f119 f225 (w_2 hw)))).other W115 (Ne.symm (Exa.neArv f119 f225 (w_2 hw))))
  have f227 := ((V102.other W107 (Ne.symm (Exa.neArv f119 f226 (w_2 hw)))).other W115 (Ne.symm (Exa.neArv f119 f226 (w_2 hw))))
  have f228 := ((V102.other W107 (Ne.symm (Exa.neArv f119 f227 (w_2 hw)))).other W115 (Ne.symm (Exa.neArv f119 f227 (w_2 hw))))
  have f229 := ((V102.other W107 (Ne.symm (Exa.neArv f119 f228 (w_2 hw)))).other W115 (Ne.symm (Exa.neArv f119 f228 (w_2 hw))))
  have f230 := ((V102.other W107 (Ne.symm (Exa.neArv f119 f229 (w_2 hw)))).other W115 (Ne.symm (Exa.neArv f119 f229 (w_2 hw))))
  have f231 := ((V102.other W107 (Ne.symm (Exa.neArv f119 f230 (w_2 hw)))).other W115 (Ne.symm (Exa.neArv f119 f230 (w_2 hw))))
  have f232 := ((V102.other W107 (Ne.symm (Exa.neArv f119 f231 (w_2 hw)))).other W115 (Ne.symm (Exa.neArv f119 f231 (w_2 hw))))
  have f233 := ((V102.other W107 (Ne.symm (Exa.neArv f119 f232 (w_2 hw)))).other W115 (Ne.symm (Exa.neArv f119 f232 (w_2 hw))))
  have f234 := ((V102.other W107 (Ne.symm (Exa.neArv f119 f233 (w_2 hw)))).other W115 (Ne.symm (Exa.neArv f119 f233 (w_2 hw))))
  have f235 := ((V102.other W107 (Ne.symm (Exa.neArv f119 f234 (w_2 hw)))).other W115 (Ne.symm (Exa.neArv f119 f234 (w_2 hw))))
  have f236 := ((V102.other W107 (Ne.symm (Exa.neArv f119 f235 (w_2 hw)))).other W115 (Ne.symm (Exa.neArv f119 f235 (w_2 hw))))
  have f237 := ((V102.other W107 (Ne.symm (Exa.neArv f119 f236 (w_2 hw)))).other W115 (Ne.symm (Exa.neArv f119 f236 (w_2 hw))))
  have f238 := ((V102.other W107 (Ne.symm (Exa.neArv f119 f237 (w_2 hw)))).other W115 (Ne.symm (Exa.neArv f119 f237 (w_2 hw))))
  have f239 := ((V102.other W107 (Ne.symm (Exa.neArv f119 f238 (w_2 hw)))).other W115 (Ne.symm (Exa.neArv f119 f238 (w_2 hw))))
  have f240 := ((V102.other W107 (Ne.symm (Exa.neArv f119 f239 (w_2 hw)))).other W115 (Ne.symm (Exa.neArv f119 f239 (w_2 hw))))
  have f241 := ((V102.other W107 (Ne.symm (Exa.neArv f119 f240 (w_2 hw)))).other W115 (Ne.symm (Exa.neArv f119 f240 (w_2 hw))))
  have f242 := ((V102.other W107 (Ne.symm (Exa.neArv f119 f241 (w_2 hw)))).other W115 (Ne.symm (Exa.neArv f119 f241 (w_2 hw))))
  have f243 := ((V102.other W107 (Ne.symm (Exa.neArv f119 f242 (w_2 hw)))).other W115 (Ne.symm (Exa.neArv f119 f242 (w_2 hw))))
  have f244 := ((V102.other W107 (Ne.symm (Exa.neArv f119 f243 (w_2 hw)))).other W115 (Ne.symm (Exa.neArv f119 f243 (w_2 hw))))
  have f245 := ((V102.other W107 (Ne.symm (Exa.neArv f119 f244 (w_2 hw)))).other W115 (Ne.symm (Exa.neArv f119 f244 (w_2 hw))))
  have f246 := ((V102.other W107 (Ne.symm (Exa.neArv f119 f245 (w_2 hw)))).other W115 (Ne.symm (Exa.neArv f119 f245 (w_2 hw))))
  have f247 := ((V102.other W107 (Ne.symm (Exa.neArv f119 f246 (w_2 hw)))).other W115 (Ne.symm (Exa.neArv f119 f246 (w_2 hw))))
  have f248 := ((V102.other W107 (Ne.symm (Exa.neArv f119 f247 (w_2 hw)))).other W115 (Ne.symm (Exa.neArv f119 f247 (w_2 hw))))
  have f249 := ((V102.other W107 (Ne.symm (Exa.neArv f119 f248 (w_2 hw)))).other W115 (Ne.symm (Exa.neArv f119 f248 (w_2 hw))))
  have f250 := ((V102.other W107 (Ne.symm (Exa.neArv f119 f249 (w_2 hw)))).other W115 (Ne.symm (Exa.neArv f119 f249 (w_2 hw))))
  have f251 := ((V102.other W107 (Ne.symm (Exa.neArv f119 f250 (w_2 hw)))).other W115 (Ne.symm (Exa.neArv f119 f250 (w_2 hw))))
  have f252 := ((V102.other W107 (Ne.symm (Exa.neArv f119 f251 (w_2 hw)))).other W115 (Ne.symm (Exa.neArv f119 f251 (w_2 hw))))
  have f253 := ((V102.other W107 (Ne.symm (Exa.neArv f119 f252 (w_2 hw)))).other W115 (Ne.symm (Exa.neArv f119 f252 (w_2 hw))))
  have f254 := ((V102.other W107 (Ne.symm (Exa.neArv f119 f253 (w_2 hw)))).other W115 (Ne.symm (Exa.neArv f119 f253 (w_2 hw))))
  have f255 := ((V102.other W107 (Ne.symm (Exa.neArv f119 f254 (w_2 hw)))).other W115 (Ne.symm (Exa.neArv f119 f254 (w_2 hw))))
  have f256 := ((V102.other W107 (Ne.symm (Exa.neArv f119 f255 (w_2 hw)))).other W115 (Ne.symm (Exa.neArv f119 f255 (w_2 hw))))
  have f257 := ((V102.other W107 (Ne.symm (Exa.neArv f119 f256 (w_2 hw)))).other W115 (Ne.symm (Exa.neArv f119 f256 (w_2 hw))))
  have f258 := ((V102.other W107 (Ne.symm (Exa.neArv f119 f257 (w_2 hw)))).other W115 (Ne.symm (Exa.neArv f119 f257 (w_2 hw))))
  have f259 := ((V102.other W107 (Ne.symm (Exa.neArv f119 f258 (w_2 hw)))).other W115 (Ne.symm (Exa.neArv f119 f258 (w_2 hw))))
  have f260 := ((V102.other W107 (Ne.symm (Exa.neArv f119 f259 (w_2 hw)))).other W115 (Ne.symm (Exa.neArv f119 f259 (w_2 hw))))
  have f261 := ((V102.other W107 (Ne.symm (Exa.neArv f119 f260 (w_2 hw)))).other W115 (Ne.symm (Exa.neArv f119 f260 (w_2 hw))))
  have f262 := ((V102.other W107 (Ne.symm (Exa.neArv f119 f261 (w_2 hw)))).other W115 (Ne.symm (Exa.neArv f119 f261 (w_2 hw))))
  have f263 := ((V102.other W107 (Ne.symm (Exa.neArv f119 f262 (w_2 hw)))).other W115 (Ne.symm (Exa.neArv f119 f262 (w_2 hw))))
  have f264 := ((V102.other W107 (Ne.symm (Exa.neArv f119 f263 (w_2 hw)))).other W115 (Ne.symm (Exa.neArv f119 f263 (w_2 hw))))
  have f265 := ((V102.other W107 (Ne.symm (Exa.neArv f119 f264 (w_2 hw)))).other W115 (Ne.symm (Exa.neArv f119 f264 (w_2 hw))))
  have f266 := ((V102.other W107 (Ne.symm (Exa.neArv f119 f265 (w_2 hw)))).other W115 (Ne.symm (Exa.neArv f119 f265 (w_2 hw))))
  have f267 := ((V102.other W107 (Ne.symm (Exa.neArv f119 f266 (w_2 hw)))).other W115 (Ne.symm (Exa.neArv f119 f266 (w_2 hw))))
  have f268 := ((V102.other W107 (Ne.symm (Exa.neArv f119 f267 (w_2 hw)))).other W115 (Ne.symm (Exa.neArv f119 f267 (w_2 hw))))
  have f269 := ((V102.other W107 (Ne.symm (Exa.neArv f119 f268 (w_2 hw)))).other W115 (Ne.symm (Exa.neArv f119 f268 (w_2 hw))))
  have f270 := ((V102.other W107 (Ne.symm (Exa.neArv f119 f269 (w_2 hw)))).other W115 (Ne.symm (Exa.neArv f119 f269 (w_2 hw))))
  have f271 := ((V102.other W107 (Ne.symm (Exa.neArv f119 f270 (w_2 hw)))).other W115 (Ne.symm (Exa.neArv f119 f270 (w_2 hw))))
  have f272 := ((V102.other W107 (Ne.symm (Exa.neArv f119 f271 (w_2 hw)))).other W115 (Ne.symm (Exa.neArv f119 f271 (w_2 hw))))
  have f273 := ((V102.other W107 (Ne.symm (Exa.neArv f119 f272 (w_2 hw)))).other W115 (Ne.symm (Exa.neArv f119 f272 (w_2 hw))))
  have f274 := ((V102.other W107 (Ne.symm (Exa.neArv f119 f273 (w_2 hw)))).other W115 (Ne.symm (Exa.neArv f119 f273 (w_2 hw))))
  have f275 := ((V102.other W107 (Ne.symm (Exa.neArv f119 f274 (w_2 hw)))).other W115 (Ne.symm (Exa.neArv f119 f274 (w_2 hw))))
  have f276 := ((V102.other W107 (Ne.symm (Exa.neArv f119 f275 (w_2 hw)))).other W115 (Ne.symm (Exa.neArv f119 f275 (w_2 hw))))
  have f277 := ((V102.other W107 (Ne.symm (Exa.neArv f119 f276 (w_2 hw)))).other W115 (Ne.symm (Exa.neArv f119 f276 (w_2 hw))))
  have f278 := ((V102.other W107 (Ne.symm (Exa.neArv f119 f277 (w_2 hw)))).other W115 (Ne.symm (Exa.neArv f119 f277 (w_2 hw))))
  have f279 := ((V102.other W107 (Ne.symm (Exa.neArv f119 f278 (w_2 hw)))).other W115 (Ne.symm (Exa.neArv f119 f278 (w_2 hw))))
  have f280 := ((V102.other W107 (Ne.symm (Exa.neArv f119 f279 (w_2 hw)))).other W115 (Ne.symm (Exa.neArv f119 f279 (w_2 hw))))
  have f281 := ((V102.other W107 (Ne.symm (Exa.neArv f119 f280 (w_2 hw)))).other W115 (Ne.symm (Exa.neArv f119 f280 (w_2 hw))))
  have f282 := ((V102.other W107 (Ne.symm (Exa.neArv f119 f281 (w_2 hw)))).other W115 (Ne.symm (Exa.neArv f119 f281 (w_2 hw))))
  have f283 := ((V102.other W107 (Ne.symm (Exa.neArv f119 f282 (w_2 hw)))).other W115 (Ne.symm (Exa.neArv f119 f282 (w_2 hw))))
  have f284 := ((V102.other W107 (Ne.symm (Exa.neArv f119 f283 (w_2 hw)))).other W115 (Ne.symm (Exa.neArv f119 f283 (w_2 hw))))
  have f285 := ((V102.other W107 (Ne.symm (Exa.neArv f119 f284 (w_2 hw)))).other W115 (Ne.symm (Exa.neArv f119 f284 (w_2 hw))))
  have f286 := ((V102.other W107 (Ne.symm (Exa.neArv f119 f285 (w_2 hw)))).other W115 (Ne.symm (Exa.neArv f119 f285 (w_2 hw))))
  have f287 := ((V102.other W107 (Ne.symm (Exa.neArv f119 f286 (w_2 hw)))).other W115 (Ne.symm (Exa.neArv f119 f286 (w_2 hw))))
  have f288 := ((V102.other W107 (Ne.symm (Exa.neArv f119 f287 (w_2 hw)))).other W115 (Ne.symm (Exa.neArv f119 f287 (w_2 hw))))
  have f289 := ((V102.other W107 (Ne.symm (Exa.neArv f119 f288 (w_2 hw)))).other W115 (Ne.symm (Exa.neArv f119 f288 (w_2 hw))))
  have f290 := ((V102.other W107 (Ne.symm (Exa.neArv f119 f289 (w_2 hw)))).other W115 (Ne.symm (Exa.neArv f119 f289 (w_2 hw))))
  have f291 := ((V102.other W107 (Ne.symm (Exa.neArv f119 f290 (w_2 hw)))).other W115 (Ne.symm (Exa.neArv f119 f290 (w_2 hw))))
  have f292 := ((V102.other W107 (Ne.symm (Exa.neArv f119 f291 (w_2 hw)))).other W115 (Ne.symm (Exa.neArv f119 f291 (w_2 hw))))
  have f293 := ((V102.other W107 (Ne.symm (Exa.neArv f119 f292 (w_2 hw)))).other W115 (Ne.symm (Exa.neArv f119 f292 (w_2 hw))))
  have f294 := ((V102.other W107 (Ne.symm (Exa.neArv f119 f293 (w_2 hw)))).other W115 (Ne.symm (Exa.neArv f119 f293 (w_2 hw))))
  have f295 := ((V102.other W107 (Ne.symm (Exa.neArv f119 f294 (w_2 hw)))).other W115 (Ne.symm (Exa.neArv f119 f294 (w_2 hw))))
  have f296 := ((V102.other W107 (Ne.symm (Exa.neArv f119 f295 (w_2 hw)))).other W115 (Ne.symm (Exa.neArv f119 f295 (w_2 hw))))
  have f297 := ((V102.other W107 (Ne.symm (Exa.neArv f119 f296 (w_2 hw)))).other W115 (Ne.symm (Exa.neArv f119 f296 (w_2 hw))))
  have f298 := ((V102.other W107 (Ne.symm (Exa.neArv f119 f297 (w_2 hw)))).other W115 (Ne.symm (Exa.neArv f119 f297 (w_2 hw))))
  have f299 := ((V102.other W107 (Ne.symm (Exa.neArv f119 f298 (w_2 hw)))).other W115 (Ne.symm (Exa.neArv f119 f298 (w_2 hw))))
  have f300 := ((V102.other W107 (Ne.symm (Exa.neArv f119 f299 (w_2 hw)))).other W115 (Ne.symm (Exa.neArv f119 f299 (w_2 hw))))
  have f301 := ((V102.other W107 (Ne.symm (Exa.neArv f119 f300 (w_2 hw)))).other W115 (Ne.symm (Exa.neArv f119 f300 (w_2 hw))))
  have f302 := ((V102.other W107 (Ne.symm (Exa.neArv f119 f301 (w_2 hw)))).other W115 (Ne.symm (Exa.neArv f119 f301 (w_2 hw))))
  have f303 := ((V102.other W107 (Ne.symm (Exa.neArv f119 f302 (w_2 hw)))).other W115 (Ne.symm (Exa.neArv f119 f302 (w_2 hw))))
  have f304 := ((V102.other W107 (Ne.symm (Exa.neArv f119 f303 (w_2 hw)))).other W115 (Ne.symm (Exa.neArv f119 f303 (w_2 hw))))
  have f305 := ((V102.other W107 (Ne.symm (Exa.neArv f119 f304 (w_2 hw)))).other W115 (Ne.symm (Exa.neArv f119 f304 (w_2 hw))))
  have f306 := ((V102.other W107 (Ne.symm (Exa.neArv f119 f305 (w_2 hw)))).other W115 (Ne.symm (Exa.neArv f119 f305 (w_2 hw))))
  have f307 := ((V102.other W107 (Ne.symm (Exa.neArv f119 f306 (w_2 hw)))).other W115 (Ne.symm (Exa.neArv f119 f306 (w_2 hw))))
  have f308 := ((V102.other W107 (Ne.symm (Exa.neArv f119 f307 (w_2 hw)))).other W115 (Ne.symm (Exa.neArv f119 f307 (w_2 hw))))
  have f309 := ((V102.other W107 (Ne.symm (Exa.neArv f119 f308 (w_2 hw)))).other W115 (Ne.symm (Exa.neArv f119 f308 (w_2 hw))))
  have f310 := ((V102.other W107 (Ne.symm (Exa.neArv f119 f309 (w_2 hw)))).other W115 (Ne.symm (Exa.neArv f119 f309 (w_2 hw))))
  have f311 := ((V102.other W107 (Ne.symm (Exa.neArv f119 f310 (w_2 hw)))).other W115 (Ne.symm (Exa.neArv f119 f310 (w_2 hw))))
  have f312 := ((V102.other W107 (Ne.symm (Exa.neArv f119 f311 (w_2 hw)))).other W115 (Ne.symm (Exa.neArv f119 f311 (w_2 hw))))
  have f313 := ((V102.other W107 (Ne.symm (Exa.neArv f119 f312 (w_2 hw)))).other W115 (Ne.symm (Exa.neArv f119 f312 (w_2 hw))))
  have f314 := ((V102.other W107 (Ne.symm (Exa.neArv f119 f313 (w_2 hw)))).other W115 (Ne.symm (Exa.neArv f119 f313 (w_2 hw))))
  have f315 := ((V102.other W107 (Ne.symm (Exa.neArv f119 f314 (w_2 hw)))).other W115 (Ne.symm (Exa.neArv f119 f314 (w_2 hw))))
  have f316 := ((V102.other W107 (Ne.symm (Exa.neArv f119 f315 (w_2 hw)))).other W115 (Ne.symm (Exa.neArv f119 f315 (w_2 hw))))
  have f317 := ((V102.other W107 (Ne.symm (Exa.neArv f119 f316 (w_2 hw)))).other W115 (Ne.symm (Exa.neArv f119 f316 (w_2 hw))))
  have f318 := ((V102.other W107 (Ne.symm (Exa.neArv f119 f317 (w_2 hw)))).other W115 (Ne.symm (Exa.neArv f119 f317 (w_2 hw))))
  have f319 := ((V102.other W107 (Ne.symm (Exa.neArv f119 f318 (w_2 hw)))).other W115 (Ne.symm (Exa.neArv f119 f318 (w_2 hw))))
  have f320 := ((V102.other W107 (Ne.symm (Exa.neArv f119 f319 (w_2 hw)))).other W115 (Ne.symm (Exa.neArv f119 f319 (w_2 hw))))
  have f321 := ((V102.other W107 (Ne.symm (Exa.neArv f119 f320 (w_2 hw)))).other W115 (Ne.symm (Exa.neArv f119 f320 (w_2 hw))))
  have f322 := ((V102.other W107 (Ne.symm (Exa.neArv f119 f321 (w_2 hw)))).other W115 (Ne.symm (Exa.neArv f119 f321 (w_2 hw))))
  have f323 := ((V102.other W107 (Ne.symm (Exa.neArv f119 f322 (w_2 hw)))).other W115 (Ne.symm (Exa.neArv f119 f322 (w_2 hw))))
  have f324 := ((V102.other W107 (Ne.symm (Exa.neArv f119 f323 (w_2 hw)))).other W115 (Ne.symm (Exa.neArv f119 f323 (w_2 hw))))
  have f325 := ((V102.other W107 (Ne.symm (Exa.neArv f119 f324 (w_2 hw)))).other W115 (Ne.symm (Exa.neArv f119 f324 (w_2 hw))))
  have f326 := ((V102.other W107 (Ne.symm (Exa.neArv f119 f325 (w_2 hw)))).other W115 (Ne.symm (Exa.neArv f119 f325 (w_2 hw))))
  have f327 := ((V102.other W107 (Ne.symm (Exa.neArv f119 f326 (w_2 hw)))).other W115 (Ne.symm (Exa.neArv f119 f326 (w_2 hw))))
  have f328 := ((V102.other W107 (Ne.symm (Exa.neArv f119 f327 (w_2 hw)))).other W115 (Ne.symm (Exa.neArv f119 f327 (w_2 hw))))
  have f329 := ((V102.other W107 (Ne.symm (Exa.neArv f119 f328 (w_2 hw)))).other W115 (Ne.symm (Exa.neArv f119 f328 (w_2 hw))))
  have f330 := ((V102.other W107 (Ne.symm (Exa.neArv f119 f329 (w_2 hw)))).other W115 (Ne.symm (Exa.neArv f119 f329 (w_2 hw))))
  have f331 := ((V102.other W107 (Ne.symm (Exa.neArv f119 f330 (w_2 hw)))).other W115 (Ne.symm (Exa.neArv f119 f330 (w_2 hw))))
  have f332 := ((V102.other W107 (Ne.symm (Exa.neArv f119 f331 (w_2 hw)))).other W115 (Ne.symm (Exa.neArv f119 f331 (w_2 hw))))
  have f333 := ((V102.other W107 (Ne.symm (Exa.neArv f119 f332 (w_2 hw)))).other W115 (Ne.symm (Exa.neArv f119 f332 (w_2 hw))))
  have f334 := ((V102.other W107 (Ne.symm (Exa.neArv f119 f333 (w_2 hw)))).other W115 (Ne.symm (Exa.neArv f119 f333 (w_2 hw))))
  have f335 := ((V102.other W107 (Ne.symm (Exa.neArv f119 f334 (w_2 hw)))).other W115 (Ne.symm (Exa.neArv f119 f334 (w_2 hw))))
  have f336 := ((V102.other W107 (Ne.symm (Exa.neArv f119 f335 (w_2 hw)))).other W115 (Ne.symm (Exa.neArv f119 f335 (w_2 hw))))
  have f337 := ((V102.other W107 (Ne.symm (Exa.neArv f119 f336 (w_2 hw)))).other W115 (Ne.symm (Exa.neArv f119 f336 (w_2 hw))))
  have f338 := ((V102.other W107 (Ne.symm (Exa.neArv f119 f337 (w_2 hw)))).other W115 (Ne.symm (Exa.neArv f119 f337 (w_2 hw))))
  have f339 := ((V102.other W107 (Ne.symm (Exa.neArv f119 f338 (w_2 hw)))).other W115 (Ne.symm (Exa.neArv f119 f338 (w_2 hw))))
  have f340 := ((V102.other W107 (Ne.symm (Exa.neArv f119 f339 (w_2 hw)))).other W115 (Ne.symm (Exa.neArv f119 f339 (w_2 hw))))
  have f341 := ((V102.other W107 (Ne.symm (Exa.neArv f119 f340 (w_2 hw)))).other W115 (Ne.symm (Exa.neArv f119 f340 (w_2 hw))))
  have f342 := ((V102.other W107 (Ne.symm (Exa.neArv f119 f341 (w_2 hw)))).other W115 (Ne.symm (Exa.neArv f119 f341 (w_2 hw))))
  have f343 := ((V102.other W107 (Ne.symm (Exa.neArv f119 f342 (w_2 hw)))).other W115 (Ne.symm (Exa.neArv f119 f342 (w_2 hw))))
  have f344 := ((V102.other W107 (Ne.symm (Exa.neArv f119 f343 (w_2 hw)))).other W115 (Ne.symm (Exa.neArv f119 f343 (w_2 hw))))
  have f345 := ((V102.other W107 (Ne.symm (Exa.neArv f119 f344 (w_2 hw)))).other W115 (Ne.symm (Exa.neArv f119 f344 (w_2 hw))))
  have f346 := ((V102.other W107 (Ne.symm (Exa.neArv f119 f345 (w_2 hw)))).other W115 (Ne.symm (Exa.neArv f119 f345 (w_2 hw))))
  have f347 := ((V102.other W107 (Ne.symm (Exa.neArv f119 f346 (w_2 hw)))).other W115 (Ne.symm (Exa.neArv f119 f346 (w_2 hw))))
  have f348 := ((V102.other W107 (Ne.symm (Exa.neArv f119 f347 (w_2 hw)))).other W115 (Ne.symm (Exa.neArv f119 f347 (w_2 hw))))
  have f349 := ((V102.other W107 (Ne.symm (Exa.neArv f119 f348 (w_2 hw)))).other W115 (Ne.symm (Exa.neArv f119 f348 (w_2 hw))))
  have f350 := ((V102.other W107 (Ne.symm (Exa.neArv f119 f349 (w_2 hw)))).other W115 (Ne.symm (Exa.neArv f119 f349 (w_2 hw))))
  have f351 := ((V102.other W107 (Ne.symm (Exa.neArv f119 f350 (w_2 hw)))).other W115 (Ne.symm (Exa.neArv f119 f350 (w_2 hw))))
  have f352 := ((V102.other W107 (Ne.symm (Exa.neArv f119 f351 (w_2 hw)))).other W115 (Ne.symm (Exa.neArv f119 f351 (w_2 hw))))
  have f353 := ((V102.other W107 (Ne.symm (Exa.neArv f119 f352 (w_2 hw)))).other W115 (Ne.symm (Exa.neArv f119 f352 (w_2 hw))))
  have f354 := ((V102.other W107 (Ne.symm (Exa.neArv f119 f353 (w_2 hw)))).other W115 (Ne.symm (Exa.neArv f119 f353 (w_2 hw))))
  have f355 := ((V102.other W107 (Ne.symm (Exa.neArv f119 f354 (w_2 hw)))).other W115 (Ne.symm (Exa.neArv f119 f354 (w_2 hw))))
  have f356 := ((V102.other W107 (Ne.symm (Exa.neArv f119 f355 (w_2 hw)))).other W115 (Ne.symm (Exa.neArv f119 f355 (w_2 hw))))
  have f357 := ((V102.other W107 (Ne.symm (Exa.neArv f119 f356 (w_2 hw)))).other W115 (Ne.symm (Exa.neArv f119 f356 (w_2 hw))))
  have f358 := ((V102.other W107 (Ne.symm (Exa.neArv f119 f357 (w_2 hw)))).other W115 (Ne.symm (Exa.neArv f119 f357 (w_2 hw))))
  have f359 := ((V102.other W107 (Ne.symm (Exa.neArv f119 f358 (w_2 hw)))).other W115 (Ne.symm (Exa.neArv f119 f358 (w_2 hw))))
  have f360 := ((V102.other W107 (Ne.symm (Exa.neArv f119 f359 (w_2 hw)))).other W115 (Ne.symm (Exa.neArv f119 f359 (w_2 hw))))
  have f361 := ((V102.other W107 (Ne.symm (Exa.neArv f119 f360 (w_2 hw)))).other W115 (Ne.symm (Exa.neArv f119 f360 (w_2 hw))))
  have f362 := ((V102.other W107 (Ne.symm (Exa.neArv f119 f361 (w_2 hw)))).other W115 (Ne.symm (Exa.neArv f119 f361 (w_2 hw))))
  have f363 := ((V102.other W107 (Ne.symm (Exa.neArv f119 f362 (w_2 hw)))).other W115 (Ne.symm (Exa.neArv f119 f362 (w_2 hw))))
  have f364 := ((V102.other W107 (Ne.symm (Exa.neArv f119 f363 (w_2 hw)))).other W115 (Ne.symm (Exa.neArv f119 f363 (w_2 hw))))
  have f365 := ((V102.other W107 (Ne.symm (Exa.neArv f119 f364 (w_2 hw)))).other W115 (Ne.symm (Exa.neArv f119 f364 (w_2 hw))))
  have f366 := ((V102.other W107 (Ne.symm (Exa.neArv f119 f365 (w_2 hw)))).other W115 (Ne.symm (Exa.neArv f119 f365 (w_2 hw))))
  obtain ⟨fs, hr, hrun, hended, hE⟩ := X115.leaveW hS102 (by rw [e115]; exact (Nat.le_trans hk102 (Nat.le_trans (Nat.le_of_eq W107.size.symm) (Nat.le_of_eq W115.size.symm)))) (v := none) (fun _ => rfl)
  refine ⟨_, _, hTG _ (pre0 _ ?_), hrun, hended, _, _, rfl, ?_, ?_, hE.1, hE.2.1, hE.2.2.1, hE.2.2.2.mono (by decide) (by decide)⟩
  · refine y_aloadN X0 hx 1 (hb hby d2_0) rfl rfl rfl ?_
    refine st101 _ ?_
    show Sx p e below T101 m 4 #[xvr ax, xvr cx, xvi (0 : Int32), xvi (0 : Int32), .val .null, xun] [] _
    refine y_iloadN X101 hx 5 (hb hby d2_4) rfl rfl ?_
    refine y_ifNo X101 hx 8 (hb hby d2_5) (XT.i0_ne_f (by decide)) rfl ?_
    refine y_aloadN X101 hx 9 (hb hby d2_8) rfl rfl rfl ?_
    refine st102 _ ?_
    show Sx p e below T102 m 11 #[xvr ax, xvr cx, xvi (0 : Int32), xvi (0 : Int32), .val .null, xun] [xwr a102, xwr ax] _
    refine st104 _ ?_
    show Sx p e below T104 m 14 #[xvr ax, xvr cx, xvi (0 : Int32), xvi (0 : Int32), .val .null, xun] [xwr d102, xwr ax] _
    refine st107 _ ?_
    show Sx p e below T107 m 17 #[xvr ax, xvr cx, xvi (0 : Int32), xvi (0 : Int32), .val .null, xun] [] _
    refine y_aloadN X107 hx 18 (hb hby d2_17) rfl rfl rfl ?_
    refine ldcAgain X107 hx hZ102 hown102 (w_14 hw) Li102 (g := (mkF m 18 #[xvr ax, xvr cx, xvi (0 : Int32), xvi (0 : Int32), .val .null, xun] [xwr ax])) rfl (hb hby d2_18) _ ?_
    show Sx p e below T107 m 20 #[xvr ax, xvr cx, xvi (0 : Int32), xvi (0 : Int32), .val .null, xun] [xwr a102, xwr ax] _
    refine st112 _ ?_
    show Sx p e below T112 m 23 #[xvr ax, xvr cx, xvi (0 : Int32), xvi (0 : Int32), .val .null, xun] [xwi (0 : Int32), xwr ax] _
    refine st115 _ ?_
    show Sx p e below T115 m 26 #[xvr ax, xvr cx, xvi (0 : Int32), xvi (0 : Int32), .val .null, xun] [] _
    exact X115.returnOut hx Bd.returns (hb hby d2_26) hr
  · show QrmE4 Z G ax cx kc cs dv h0 n0 _ T115.heap _
    rw [e115]
    exact ⟨d102, k102, rfl, N115, ((((Keep.refl h0 [ax]).ext E102).wr W107 (Or.inl (List.mem_of_getElem? (i := 0) rfl))).wr W115 (Or.inl (List.mem_of_getElem? (i := 0) rfl))), f119, Fw115, f120, f366⟩
  · rw [hh]; show CHr Z EL s.vm h0 T115.vm T115.heap; rw [e115]; exact C116.trans (CHv.at X115 hZ102 (own_EW hw) C116.1)
theorem ef_rmE1 (m : MethodId) (x0 : Addr) (x1 : Addr)  : entryFrame m #[(.ref x0), (.ref x1)] 2 = mkF m 0 #[.val (.ref x0), .val (.ref x1)] [] := by first | (simp [entryFrame, mkF, argsToLocals, Value.category]; done) | rfl
theorem d1_0 : decode jdk_42_method_3_code 0 = .ok (.aload_n 0, 1) := by decide +kernel
theorem d1_1 : decode jdk_42_method_3_code 1 = .ok (.aload_n 1, 1) := by decide +kernel
theorem d1_2 : decode jdk_42_method_3_code 2 = .ok (.iconst 0, 1) := by decide +kernel
theorem d1_3 : decode jdk_42_method_3_code 3 = .ok (.aload_n 1, 1) := by decide +kernel
theorem d1_4 : decode jdk_42_method_3_code 4 = .ok (.arraylength, 1) := by decide +kernel
theorem d1_5 : decode jdk_42_method_3_code 5 = .ok (.aconst_null, 1) := by decide +kernel
theorem d1_6 : decode jdk_42_method_3_code 6 = .ok (.invokespecial 27, 3) := by decide +kernel
theorem pd_0 : parseMethodDescriptor "([CIILjava/lang/Void;)V" = some ⟨[(.array .char), .int, .int, (.object "java/lang/Void")], none⟩ := by decide +kernel
theorem d1_9 : decode jdk_42_method_3_code 9 = .ok (.return_, 1) := by decide +kernel
def QrmE1 (Z : State) (G : Gs) (ax : Addr) (cx : Addr) (kc : ClassId) (cs : List Value) (dv : Value) (h0 : Heap) (n0 : Nat) (v : Option Value) (h : Heap) (L : List Loc) : Prop := ∃ (tx : Addr), ∃ (kb : ClassId), v = none ∧ Fr n0 L ∧ Keep h0 h [ax] ∧ Exa Z h ax "java/lang/String" ∧ Fld Z h ax "java/lang/String" "coder" "B" (.int (0 : Int32)) ∧ Fld Z h ax "java/lang/String" "value" "[B" (.ref tx) ∧ Arv Z h tx kb .byte (0 : Int32) [] (.int (0 : Int32))
set_option maxRecDepth 65536 in
set_option maxHeartbeats 40000000 in
theorem rmE1 (l : Launch) (Z : State) (a0 : Array Value) (hw : HW a0 Z) (G : Gs) (ST : StartF Z G) (ws : List Jvm.Cond) (ax : Addr) (cx : Addr) (kc : ClassId) (cs : List Value) (dv : Value) (h0 : Heap) (n0 : Nat) (X00 : Old Z n0 h0) (E1 : Exa Z h0 ax "java/lang/String") (F1 : Fld Z h0 ax "java/lang/String" "value" "[B" .null) (F2 : Fld Z h0 ax "java/lang/String" "coder" "B" (.int (0 : Int32))) (g1 : n0 ≤ ax) (V1 : Arv Z h0 cx kc .char (0 : Int32) cs dv) :
    MetFree l (⟨"java/lang/String", "<init>", "([C)V"⟩ : MethodName) (head1 (Jvm.Cond.code (⟨"java/lang/String", "<init>", "([C)V"⟩ : MethodName) jdk_42_method_3_code 2 none :: ws) ({ frames := 2, cells := 2, slots := 4, locals := 29 } : Room)) (fun a U => a = #[(.ref ax), (.ref cx)] ∧ Z.Warmed39 U.vm ∧ U.heap = h0 ∧ CHv Z EL U.vm h0) (fun _ _ _ _ _ => True) (fun _ U o U' => ∃ v L, o = .returned v ∧ QrmE1 Z G ax cx kc cs dv h0 n0 v U'.heap L ∧ CHr Z EL U.vm U.heap U'.vm U'.heap ∧ ReturnedEndW U o U' L ({ frames := 2, cells := 2, slots := 4, locals := 29 } : Room).cells ({ frames := 2, cells := 2, slots := 4, locals := 29 } : Room).slots) := by
  refine MetFree.of_bodySF (plainFor_of_name pn_0) hisR ?_
  intro p e s m args below meth c s₁ Bd hml0 hP hK
  obtain ⟨rfl, hZ, hh, HC0⟩ := hP
  have hx := Bd.exec
  have hby := Bd.bytes
  have hml : c.maxLocals = 2 := hml0
  have hown : s.vm.findClass "java/lang/String" = some m.cls := findClass_of_methodNamed Bd.named
  have hnm := (name_of_methodNamed Bd.named Bd.method).1
  have X0 : Stand p l e ({ frames := 2, cells := 2, slots := 4, locals := 29 } : Room) (s.setVm s.vm) m #[(.ref ax), (.ref cx)] below meth c s₁ [] 0 0 := Stand.of_body Bd
  have e0 : s₁.heap = h0 := by rw [← hh, Bd.state]; rfl
  have N0 := Fr.nil n0
  have Z0 : n0 ≤ h0.size := by have q := X00.2.1; rw [X00.1] at q; exact q
  have C0 := CHr.refl HC0
  have hS0 : s.Since s.vm h0.size := (State.WarmedH.refl s).since h0.size
  obtain ⟨TG, hTG, hT2⟩ : ∃ P : State → Prop, (∀ t, P t → Steps p.tables e below (s₁.setTop (entryFrame m #[(.ref ax), (.ref cx)] 2)) t) ∧ (∀ t, Steps p.tables e below (s₁.setTop (entryFrame m #[(.ref ax), (.ref cx)] 2)) t → P t) := ⟨_, fun t k => k, fun t k => k⟩
  have pre0 : ∀ t, Sx p e below s₁ m 0 #[xvr ax, xvr cx] [] t → TG t := fun t k => hT2 t (castTop (ef_rmE1 m ax cx ) k)
  obtain ⟨cl367, Ar367, q367, S367, M367, H367, G367⟩ := id V1
  obtain ⟨_, _, ⟨T368, L368, k368, n368⟩, -, X368, hS368, g368, ⟨Lc368, hQ368, l368, y368, z368, CH368⟩, st368⟩ := X0.specialBackS hx (y := (⟨"java/lang/String", "<init>", "([CIILjava/lang/Void;)V"⟩ : MethodName)) rfl hown (mvT hZ (w_7 hw)) (mvT hZ (w_8 hw)) (mvT hZ (w_10 hw)) (by decide) (backOfSH (W := 0) (rmE4 l Z a0 hw G ST [] ax cx kc (cs : List Value) dv h0 n0 X00 E1 F1 F2 g1 V1) hZ (w_10 hw) (w_3 hw) (by decide) (by decide) (own_EW hw) C0.1) (g := (mkF m 6 #[xvr ax, xvr cx] [.null, xwi (0 : Int32), xwi (0 : Int32), xwr cx, xwr ax])) rfl (by rw [hml]; rfl) (Steps.refl _) (a := ax) (argsL := [(.ref cx), (.int (0 : Int32)), (.int (0 : Int32)), .null]) (rest := []) (lenOf pd_0 rfl) rfl (by show 2 * 0 + _ ≤ _; exact Nat.le_of_eq rfl) (hb hby d1_6) (fun _ _ => ⟨rfl, e0, (by decide : 0 + 2 ≤ _), (by decide : 0 + 4 ≤ _)⟩)
  dsimp only [Pt.U, Pt.locs, Pt.cells, Pt.slots] at X368 l368 y368 z368 st368 hQ368 CH368 hS368 g368
  subst l368 y368 z368
  obtain ⟨hp368, e368⟩ : ∃ z, T368.heap = z := ⟨_, rfl⟩
  rw [e368] at hQ368 CH368 hS368 g368
  rw [e0] at g368
  obtain ⟨X368, hS368, hZ368, hown368⟩ := rebS hS0 (Nat.le_refl _) X368 hS368 g368 hZ hown
  obtain ⟨o369, o370, rfl, N368q, K368, p371, p372, p373, p374⟩ := hQ368
  have N368 := Fr.app N0 N368q
  have C375 := C0.trans CH368
  obtain ⟨fs, hr, hrun, hended, hE⟩ := X368.leaveW hS368 (by rw [e368]; exact (Nat.le_refl _)) (v := none) (fun _ => rfl)
  refine ⟨_, _, hTG _ (pre0 _ ?_), hrun, hended, _, _, rfl, ?_, ?_, hE.1, hE.2.1, hE.2.2.1, hE.2.2.2.mono (by decide) (by decide)⟩
  · refine y_aloadN X0 hx 1 (hb hby d1_0) rfl rfl rfl ?_
    refine y_aloadN X0 hx 2 (hb hby d1_1) rfl rfl rfl ?_
    refine y_iconst X0 hx (0 : Int32) 3 (hb hby d1_2) rfl rfl ?_
    refine y_aloadN X0 hx 4 (hb hby d1_3) rfl rfl rfl ?_
    refine X0.arraylength hx (by rw [e0]; exact Ar367.1) (State.isArrayOf_alike hZ.alike Ar367.2.1) (g := (mkF m 4 #[xvr ax, xvr cx] [xwr cx, xwi (0 : Int32), xwr cx, xwr ax])) rfl rfl (hb hby d1_4) _ ?_
    rw [len_of S367 M367]
    show Sx p e below s₁ m 5 #[xvr ax, xvr cx] [xwi (0 : Int32), xwi (0 : Int32), xwr cx, xwr ax] _
    refine y_aconst_null X0 hx 6 (hb hby d1_5) rfl ?_
    refine st368.trans ?_
    show Sx p e below T368 m 9 #[xvr ax, xvr cx] [] _
    exact X368.returnOut hx Bd.returns (hb hby d1_9) hr
  · show QrmE1 Z G ax cx kc cs dv h0 n0 _ T368.heap _
    rw [e368]
    exact ⟨o369, o370, rfl, N368, ((Keep.refl h0 [ax]).trans K368 (allS (Or.inl (List.mem_of_getElem? (i := 0) rfl)) all0)), p371, p372, p373, p374⟩
  · rw [hh]; show CHr Z EL s.vm h0 T368.vm T368.heap; rw [e368]; exact C375.trans (CHv.at X368 hZ368 (own_EW hw) C375.1)
theorem ef_rmNN (m : MethodId) (x0 : Addr) (x1 : Addr)  : entryFrame m #[(.ref x0), (.ref x1)] 2 = mkF m 0 #[.val (.ref x0), .val (.ref x1)] [] := by first | (simp [entryFrame, mkF, argsToLocals, Value.category]; done) | rfl
theorem d7_0 : decode jdk_31_method_11_code 0 = .ok (.aload_n 0, 1) := by decide +kernel
theorem d7_1 : decode jdk_31_method_11_code 1 = .ok (.ifnonnull 12, 3) := by decide +kernel
theorem d7_13 : decode jdk_31_method_11_code 13 = .ok (.aload_n 0, 1) := by decide +kernel
theorem d7_14 : decode jdk_31_method_11_code 14 = .ok (.areturn, 1) := by decide +kernel
theorem pn_1 : plainName "java/util/Objects" = true := by first | (simp [plainName, overriddenIn]; done) | decide +kernel
def QrmNN (Z : State) (G : Gs) (ax : Addr) (bx : Addr) (h0 : Heap) (n0 : Nat) (v : Option Value) (h : Heap) (L : List Loc) : Prop := v = some (.ref ax) ∧ Fr n0 L ∧ h = h0
set_option maxRecDepth 65536 in
set_option maxHeartbeats 40000000 in
theorem rmNN (l : Launch) (Z : State) (a0 : Array Value) (hw : HW a0 Z) (G : Gs) (ST : StartF Z G) (ws : List Jvm.Cond) (ax : Addr) (bx : Addr) (h0 : Heap) (n0 : Nat) (X00 : Old Z n0 h0) :
    MetFree l (⟨"java/util/Objects", "requireNonNull", "(Ljava/lang/Object;Ljava/lang/String;)Ljava/lang/Object;"⟩ : MethodName) (head1 (Jvm.Cond.code (⟨"java/util/Objects", "requireNonNull", "(Ljava/lang/Object;Ljava/lang/String;)Ljava/lang/Object;"⟩ : MethodName) jdk_31_method_11_code 2 (some (.object "java/lang/Object")) :: ws) ({ frames := 0, cells := 0, slots := 0, locals := 0 } : Room)) (fun a U => a = #[(.ref ax), (.ref bx)] ∧ Z.Warmed39 U.vm ∧ U.heap = h0) (fun _ _ _ _ _ => True) (fun _ U o U' => ∃ v L, o = .returned v ∧ QrmNN Z G ax bx h0 n0 v U'.heap L ∧ FrameEnd U o U' L ({ frames := 0, cells := 0, slots := 0, locals := 0 } : Room).cells ({ frames := 0, cells := 0, slots := 0, locals := 0 } : Room).slots) := by
  refine MetFree.of_bodySF (plainFor_of_name pn_1) hisR ?_
  intro p e s m args below meth c s₁ Bd hml0 hP hK
  obtain ⟨rfl, hZ, hh⟩ := hP
  have hx := Bd.exec
  have hby := Bd.bytes
  have hml : c.maxLocals = 2 := hml0
  have hown : s.vm.findClass "java/util/Objects" = some m.cls := findClass_of_methodNamed Bd.named
  have hnm := (name_of_methodNamed Bd.named Bd.method).1
  have X0 : Stand p l e ({ frames := 0, cells := 0, slots := 0, locals := 0 } : Room) s m #[(.ref ax), (.ref bx)] below meth c s₁ [] 0 0 := Stand.of_body Bd
  have e0 : s₁.heap = h0 := by rw [← hh, Bd.state]; rfl
  have N0 := Fr.nil n0
  have Z0 : n0 ≤ h0.size := by have q := X00.2.1; rw [X00.1] at q; exact q
  obtain ⟨TG, hTG, hT2⟩ : ∃ P : State → Prop, (∀ t, P t → Steps p.tables e below (s₁.setTop (entryFrame m #[(.ref ax), (.ref bx)] 2)) t) ∧ (∀ t, Steps p.tables e below (s₁.setTop (entryFrame m #[(.ref ax), (.ref bx)] 2)) t → P t) := ⟨_, fun t k => k, fun t k => k⟩
  have pre0 : ∀ t, Sx p e below s₁ m 0 #[xvr ax, xvr bx] [] t → TG t := fun t k => hT2 t (castTop (ef_rmNN m ax bx ) k)
  obtain ⟨fs, hr, hrun, hended, hW, hsame⟩ := X0.leave (v := some (.ref ax)) (fun h => by rw [Bd.returns] at h; cases h)
  refine ⟨_, _, hTG _ (pre0 _ ?_), hrun, hended, _, _, rfl, ?_, ⟨_, rfl⟩, hW, hsame.mono (by decide) (by decide)⟩
  · refine y_aloadN X0 hx 1 (hb hby d7_0) rfl rfl rfl ?_
    refine XS.ifnonnullYes X0.here hx rfl (pc0 := 1) (pc' := 13) rfl (hb hby d7_1) rfl (by decide) (by decide) ?_
    show Sx p e below s₁ m 13 #[xvr ax, xvr bx] [] _
    refine y_aloadN X0 hx 14 (hb hby d7_13) rfl rfl rfl ?_
    show Sx p e below s₁ m 14 #[xvr ax, xvr bx] [xwr ax] _
    exact retOut X0 hx Bd.returns rfl (Or.inr (Or.inr (Or.inr (Or.inr ⟨rfl, rfl, rfl⟩)))) (hb hby d7_14) hr
  · show QrmNN Z G ax bx h0 n0 _ s₁.heap _
    rw [e0]
    exact ⟨rfl, N0, rfl⟩
theorem ef_rmOE (m : MethodId)   : entryFrame m #[] 1 = mkF m 0 #[.unset] [] := by first | (simp [entryFrame, mkF, argsToLocals, Value.category]; done) | rfl
theorem d5_0 : decode jdk_32_method_1_code 0 = .ok (.getstatic 1, 3) := by decide +kernel
theorem d5_3 : decode jdk_32_method_1_code 3 = .ok (.astore_n 0, 1) := by decide +kernel
theorem d5_4 : decode jdk_32_method_1_code 4 = .ok (.aload_n 0, 1) := by decide +kernel
theorem d5_5 : decode jdk_32_method_1_code 5 = .ok (.areturn, 1) := by decide +kernel
theorem pn_2 : plainName "java/util/Optional" = true := by first | (simp [plainName, overriddenIn]; done) | decide +kernel
def QrmOE (Z : State) (G : Gs)  (h0 : Heap) (n0 : Nat) (v : Option Value) (h : Heap) (L : List Loc) : Prop := v = some (.ref G.2) ∧ Fr n0 L ∧ h = h0
set_option maxRecDepth 65536 in
set_option maxHeartbeats 40000000 in
theorem rmOE (l : Launch) (Z : State) (a0 : Array Value) (hw : HW a0 Z) (G : Gs) (ST : StartF Z G) (ws : List Jvm.Cond)  (h0 : Heap) (n0 : Nat) (X00 : Old Z n0 h0) :
    MetFree l (⟨"java/util/Optional", "empty", "()Ljava/util/Optional;"⟩ : MethodName) (head1 (Jvm.Cond.code (⟨"java/util/Optional", "empty", "()Ljava/util/Optional;"⟩ : MethodName) jdk_32_method_1_code 1 (some (.object "java/util/Optional")) :: ws) ({ frames := 0, cells := 0, slots := 0, locals := 0 } : Room)) (fun a U => a = #[] ∧ Z.Warmed39 U.vm ∧ U.heap = h0) (fun _ _ _ _ _ => True) (fun _ U o U' => ∃ v L, o = .returned v ∧ QrmOE Z G  h0 n0 v U'.heap L ∧ FrameEnd U o U' L ({ frames := 0, cells := 0, slots := 0, locals := 0 } : Room).cells ({ frames := 0, cells := 0, slots := 0, locals := 0 } : Room).slots) := by
  refine MetFree.of_bodySF (plainFor_of_name pn_2) hisR ?_
  intro p e s m args below meth c s₁ Bd hml0 hP hK
  obtain ⟨rfl, hZ, hh⟩ := hP
  have hx := Bd.exec
  have hby := Bd.bytes
  have hml : c.maxLocals = 1 := hml0
  have hown : s.vm.findClass "java/util/Optional" = some m.cls := findClass_of_methodNamed Bd.named
  have hnm := (name_of_methodNamed Bd.named Bd.method).1
  have X0 : Stand p l e ({ frames := 0, cells := 0, slots := 0, locals := 0 } : Room) s m #[] below meth c s₁ [] 0 0 := Stand.of_body Bd
  have e0 : s₁.heap = h0 := by rw [← hh, Bd.state]; rfl
  have N0 := Fr.nil n0
  have Z0 : n0 ≤ h0.size := by have q := X00.2.1; rw [X00.1] at q; exact q
  obtain ⟨TG, hTG, hT2⟩ : ∃ P : State → Prop, (∀ t, P t → Steps p.tables e below (s₁.setTop (entryFrame m #[] 1)) t) ∧ (∀ t, Steps p.tables e below (s₁.setTop (entryFrame m #[] 1)) t → P t) := ⟨_, fun t k => k, fun t k => k⟩
  have pre0 : ∀ t, Sx p e below s₁ m 0 #[xun] [] t → TG t := fun t k => hT2 t (castTop (ef_rmOE m  ) k)
  obtain ⟨T376, X376, e376, st376⟩ := getS2 X0 hx hZ hown (host := "") (Or.inl (w_32 hw)) Via.refl e0 (ST.2.2.1.ext X00.2) (g := (mkF m 0 #[xun] [])) rfl (hb hby d5_0)
  obtain ⟨fs, hr, hrun, hended, hW, hsame⟩ := X376.leave (v := some (.ref G.2)) (fun h => by rw [Bd.returns] at h; cases h)
  refine ⟨_, _, hTG _ (pre0 _ ?_), hrun, hended, _, _, rfl, ?_, ⟨_, rfl⟩, hW, hsame.mono (by decide) (by decide)⟩
  · refine st376 _ ?_
    show Sx p e below T376 m 3 #[xun] [xwr G.2] _
    refine XS.astoreN X376.here hx rfl (hb hby d5_3) rfl rfl (l' := #[xvr G.2]) rfl ?_
    show Sx p e below T376 m 4 #[xvr G.2] [] _
    refine y_aloadN X376 hx 5 (hb hby d5_4) rfl rfl rfl ?_
    show Sx p e below T376 m 5 #[xvr G.2] [xwr G.2] _
    exact retOut X376 hx Bd.returns rfl (Or.inr (Or.inr (Or.inr (Or.inr ⟨rfl, rfl, rfl⟩)))) (hb hby d5_5) hr
  · show QrmOE Z G  h0 n0 _ T376.heap _
    rw [e376]
    exact ⟨rfl, N0, rfl⟩
theorem ef_rmSI (m : MethodId) (x0 : Addr) (x1 : Addr) (x2 : Addr) (x3 : Int64)  : entryFrame m #[(.ref x0), (.ref x1), (.ref x2), (.long x3)] 5 = mkF m 0 #[.val (.ref x0), .val (.ref x1), .val (.ref x2), .val (.long x3), .second] [] := by first | (simp [entryFrame, mkF, argsToLocals, Value.category]; done) | rfl
theorem d6_0 : decode prog_12_method_1_code 0 = .ok (.aload_n 0, 1) := by decide +kernel
theorem d6_1 : decode prog_12_method_1_code 1 = .ok (.invokespecial 1, 3) := by decide +kernel
theorem d6_4 : decode prog_12_method_1_code 4 = .ok (.aload_n 0, 1) := by decide +kernel
theorem d6_5 : decode prog_12_method_1_code 5 = .ok (.aload_n 1, 1) := by decide +kernel
theorem d6_6 : decode prog_12_method_1_code 6 = .ok (.ldc 7, 2) := by decide +kernel
theorem d6_8 : decode prog_12_method_1_code 8 = .ok (.invokestatic 9, 3) := by decide +kernel
theorem pd_1 : parseMethodDescriptor "(Ljava/lang/Object;Ljava/lang/String;)Ljava/lang/Object;" = some ⟨[(.object "java/lang/Object"), (.object "java/lang/String")], some (.object "java/lang/Object")⟩ := by decide +kernel
theorem d6_11 : decode prog_12_method_1_code 11 = .ok (.checkcast 15, 3) := by decide +kernel
theorem d6_14 : decode prog_12_method_1_code 14 = .ok (.putfield 17, 3) := by decide +kernel
theorem d6_17 : decode prog_12_method_1_code 17 = .ok (.aload_n 0, 1) := by decide +kernel
theorem d6_18 : decode prog_12_method_1_code 18 = .ok (.aload_n 2, 1) := by decide +kernel
theorem d6_19 : decode prog_12_method_1_code 19 = .ok (.putfield 23, 3) := by decide +kernel
theorem d6_22 : decode prog_12_method_1_code 22 = .ok (.aload_n 0, 1) := by decide +kernel
theorem d6_23 : decode prog_12_method_1_code 23 = .ok (.lload_n 3, 1) := by decide +kernel
theorem d6_24 : decode prog_12_method_1_code 24 = .ok (.putfield 27, 3) := by decide +kernel
theorem d6_27 : decode prog_12_method_1_code 27 = .ok (.return_, 1) := by decide +kernel
theorem pn_3 : plainName "com/example/umq/umq/admin/Selection" = true := by first | (simp [plainName, overriddenIn]; done) | decide +kernel
def QrmSI (Z : State) (G : Gs) (ax : Addr) (tx : Addr) (ox : Addr) (jx : Int64) (u1 : Value) (u2 : Value) (u3 : Value) (h0 : Heap) (n0 : Nat) (v : Option Value) (h : Heap) (L : List Loc) : Prop := v = none ∧ Fr n0 L ∧ Keep h0 h [ax] ∧ Exa Z h ax "com/example/umq/umq/admin/Selection" ∧ Fld Z h ax "com/example/umq/umq/admin/Selection" "level" "Ljava/lang/String;" (.ref tx) ∧ Fld Z h ax "com/example/umq/umq/admin/Selection" "named" "Ljava/util/Optional;" (.ref ox) ∧ Fld Z h ax "com/example/umq/umq/admin/Selection" "limit" "J" (.long jx)
set_option maxRecDepth 65536 in
set_option maxHeartbeats 40000000 in
theorem rmSI (l : Launch) (Z : State) (a0 : Array Value) (hw : HW a0 Z) (G : Gs) (ST : StartF Z G) (ws : List Jvm.Cond) (ax : Addr) (tx : Addr) (ox : Addr) (jx : Int64) (u1 : Value) (u2 : Value) (u3 : Value) (h0 : Heap) (n0 : Nat) (X00 : Old Z n0 h0) (E1 : Exa Z h0 ax "com/example/umq/umq/admin/Selection") (E2 : Exa Z h0 tx "java/lang/String") (F1 : Fld Z h0 ax "com/example/umq/umq/admin/Selection" "level" "Ljava/lang/String;" u1) (F2 : Fld Z h0 ax "com/example/umq/umq/admin/Selection" "named" "Ljava/util/Optional;" u2) (F3 : Fld Z h0 ax "com/example/umq/umq/admin/Selection" "limit" "J" u3) (g1 : n0 ≤ ax) :
    MetFree l (⟨"com/example/umq/umq/admin/Selection", "<init>", "(Ljava/lang/String;Ljava/util/Optional;J)V"⟩ : MethodName) (head1 (Jvm.Cond.code (⟨"com/example/umq/umq/admin/Selection", "<init>", "(Ljava/lang/String;Ljava/util/Optional;J)V"⟩ : MethodName) prog_12_method_1_code 5 none :: ws) ({ frames := 1, cells := 2, slots := 84, locals := 14 } : Room)) (fun a U => a = #[(.ref ax), (.ref tx), (.ref ox), (.long jx)] ∧ Z.Warmed39 U.vm ∧ U.heap = h0 ∧ CHv Z EL U.vm h0) (fun _ _ _ _ _ => True) (fun _ U o U' => ∃ v L, o = .returned v ∧ QrmSI Z G ax tx ox jx u1 u2 u3 h0 n0 v U'.heap L ∧ CHr Z EL U.vm U.heap U'.vm U'.heap ∧ ReturnedEndW U o U' L ({ frames := 1, cells := 2, slots := 84, locals := 14 } : Room).cells ({ frames := 1, cells := 2, slots := 84, locals := 14 } : Room).slots) := by
  refine MetFree.of_bodySF (plainFor_of_name pn_3) hisR ?_
  intro p e s m args below meth c s₁ Bd hml0 hP hK
  obtain ⟨rfl, hZ, hh, HC0⟩ := hP
  have hx := Bd.exec
  have hby := Bd.bytes
  have hml : c.maxLocals = 5 := hml0
  have hown : s.vm.findClass "com/example/umq/umq/admin/Selection" = some m.cls := findClass_of_methodNamed Bd.named
  have hnm := (name_of_methodNamed Bd.named Bd.method).1
  have X0 : Stand p l e ({ frames := 1, cells := 2, slots := 84, locals := 14 } : Room) (s.setVm s.vm) m #[(.ref ax), (.ref tx), (.ref ox), (.long jx)] below meth c s₁ [] 0 0 := Stand.of_body Bd
  have e0 : s₁.heap = h0 := by rw [← hh, Bd.state]; rfl
  have N0 := Fr.nil n0
  have Z0 : n0 ≤ h0.size := by have q := X00.2.1; rw [X00.1] at q; exact q
  have C0 := CHr.refl HC0
  have hS0 : s.Since s.vm h0.size := (State.WarmedH.refl s).since h0.size
  obtain ⟨TG, hTG, hT2⟩ : ∃ P : State → Prop, (∀ t, P t → Steps p.tables e below (s₁.setTop (entryFrame m #[(.ref ax), (.ref tx), (.ref ox), (.long jx)] 5)) t) ∧ (∀ t, Steps p.tables e below (s₁.setTop (entryFrame m #[(.ref ax), (.ref tx), (.ref ox), (.long jx)] 5)) t → P t) := ⟨_, fun t k => k, fun t k => k⟩
  have pre0 : ∀ t, Sx p e below s₁ m 0 #[xvr ax, xvr tx, xvr ox, xvj jx, xse] [] t → TG t := fun t k => hT2 t (castTop (ef_rmSI m ax tx ox jx ) k)
  obtain ⟨T377, X377, e377, st377⟩ := initO X0 hx hZ hown (w_37 hw) (w_12 hw) (w_13 hw) e0 (g := (mkF m 1 #[xvr ax, xvr tx, xvr ox, xvj jx, xse] [xwr ax])) rfl (by rw [hml]; rfl) rfl (hb hby d6_1) (by decide) (W := 0) (by show 2 * 0 + _ ≤ _; exact Nat.le_of_eq rfl) (by decide)
  obtain ⟨a378, T378, h378, kk378, X378, e378, E378, hS378, hk378, hZ378, hown378, CH378, Li378, st378⟩ := ldcOH X377 hx hZ hown (w_38 hw) (own_SA hw) e377 hS0 (Nat.le_refl _) (own_EW hw) C0.1 (g := (mkF m 6 #[xvr ax, xvr tx, xvr ox, xvj jx, xse] [xwr tx, xwr ax])) rfl (hb hby d6_6) (n := 80) (by decide) (by decide) (by decide) (by decide)
  have C379 := C0.trans CH378
  have Ol380 : Old Z n0 h378 := (X00.ext E378)
  obtain ⟨_, _, ⟨T381, L381, k381, n381⟩, -, X381, ⟨Lc381, hQ381, l381, y381, z381⟩, st381⟩ := Jvm.LawKit.callS X378 hx (y := (⟨"java/util/Objects", "requireNonNull", "(Ljava/lang/Object;Ljava/lang/String;)Ljava/lang/Object;"⟩ : MethodName)) hown378 (mvT hZ378 (w_39 hw)) (mvT hZ378 (w_40 hw)) (mvT hZ378 (w_41 hw)) (mvT hZ378 (w_42 hw)) (by decide) (backOf (W := 1) (rmNN l Z a0 hw G ST [] tx a378 h378 n0 Ol380 ) hZ378 (w_42 hw) (w_41 hw) (by decide) (by decide)) (g := (mkF m 8 #[xvr ax, xvr tx, xvr ox, xvj jx, xse] [xwr a378, xwr tx, xwr ax])) rfl (by rw [hml]; rfl) (argsL := [(.ref tx), (.ref a378)]) (rest := [(.ref ax)]) (lenOf pd_1 rfl) rfl (by show 2 * 0 + _ ≤ _; exact Nat.le_of_eq rfl) (hb hby d6_8) (fun _ _ => ⟨rfl, e378, (by decide : 2 + 0 ≤ _), (by decide : 84 + 0 ≤ _)⟩)
  dsimp only [Pt.U, Pt.locs, Pt.cells, Pt.slots] at X381 l381 y381 z381 st381 hQ381
  subst l381 y381 z381
  obtain ⟨rfl, N381q, e381⟩ := hQ381
  have N381 := Fr.app N0 N381q
  have f382 := (E2.ext E378)
  obtain ⟨T383, X383, e383, st383⟩ := castY X381 hx hZ378 hown378 (w_43 hw) e381 (Ins.self f382) (g := (mkF m 11 #[xvr ax, xvr tx, xvr ox, xvj jx, xse] [xwr tx, xwr ax])) rfl rfl (hb hby d6_11)
  have f384 := (F1.ext E378)
  have f385 := (E1.ext E378)
  obtain ⟨T386, h386, X386, e386, W386, st386⟩ := putF X383 hx hZ378 hown378 (host := "") (Or.inl (w_44 hw)) Via.refl e383 f384 f385 (Or.inr ⟨(w_45 hw), rfl, hnm⟩) (w_27 hw) (ty := (.object "java/lang/String")) (by decide) rfl rfl (g := (mkF m 14 #[xvr ax, xvr tx, xvr ox, xvj jx, xse] [xwr tx, xwr ax])) rfl rfl (hb hby d6_14)
  have ch388 := CHr.wr W386 (Safe.exa hZ378.alike f385 (by decide) (by decide)) C379.1
  have C387 := C379.trans ch388
  have Fw386 := f384.same W386
  have N386 := Fr.snoc X386 N381 g1
  have f389 := ((F2.ext E378).other W386 (Or.inr (slot_ne (Or.inr (w_47 hw)) (Or.inr (w_45 hw)) (by decide) (t := (.object "java/util/Optional")) (t' := (.object "java/lang/String")) (by decide) (by decide))))
  have f390 := (f385.wr W386)
  obtain ⟨T391, h391, X391, e391, W391, st391⟩ := putF X386 hx hZ378 hown378 (host := "") (Or.inl (w_46 hw)) Via.refl e386 f389 f390 (Or.inr ⟨(w_47 hw), rfl, hnm⟩) (w_27 hw) (ty := (.object "java/util/Optional")) (by decide) rfl rfl (g := (mkF m 19 #[xvr ax, xvr tx, xvr ox, xvj jx, xse] [xwr ox, xwr ax])) rfl rfl (hb hby d6_19)
  have ch393 := CHr.wr W391 (Safe.exa hZ378.alike f390 (by decide) (by decide)) C387.1
  have C392 := C387.trans ch393
  have Fw391 := f389.same W391
  have N391 := Fr.snoc X391 N386 g1
  have f394 := (((F3.ext E378).other W386 (Or.inr (slot_ne (Or.inr (w_49 hw)) (Or.inr (w_45 hw)) (by decide) (t := .long) (t' := (.object "java/lang/String")) (by decide) (by decide)))).other W391 (Or.inr (slot_ne (Or.inr (w_49 hw)) (Or.inr (w_47 hw)) (by decide) (t := .long) (t' := (.object "java/util/Optional")) (by decide) (by decide))))
  have f395 := (f390.wr W391)
  obtain ⟨T396, h396, X396, e396, W396, st396⟩ := putF X391 hx hZ378 hown378 (host := "") (Or.inl (w_48 hw)) Via.refl e391 f394 f395 (Or.inr ⟨(w_49 hw), rfl, hnm⟩) (w_27 hw) (ty := .long) (by decide) rfl rfl (g := (mkF m 24 #[xvr ax, xvr tx, xvr ox, xvj jx, xse] [xwj jx, xwr ax])) rfl rfl (hb hby d6_24)
  have ch398 := CHr.wr W396 (Safe.exa hZ378.alike f395 (by decide) (by decide)) C392.1
  have C397 := C392.trans ch398
  have Fw396 := f394.same W396
  have N396 := Fr.snoc X396 N391 g1
  have f399 := (f395.wr W396)
  have f400 := ((Fw386.other W391 (Or.inr (slot_ne (Or.inr (w_45 hw)) (Or.inr (w_47 hw)) (by decide) (t := (.object "java/lang/String")) (t' := (.object "java/util/Optional")) (by decide) (by decide)))).other W396 (Or.inr (slot_ne (Or.inr (w_45 hw)) (Or.inr (w_49 hw)) (by decide) (t := (.object "java/lang/String")) (t' := .long) (by decide) (by decide))))
  have f401 := (Fw391.other W396 (Or.inr (slot_ne (Or.inr (w_47 hw)) (Or.inr (w_49 hw)) (by decide) (t := (.object "java/util/Optional")) (t' := .long) (by decide) (by decide))))
  obtain ⟨fs, hr, hrun, hended, hE⟩ := X396.leaveW hS378 (by rw [e396]; exact (Nat.le_trans hk378 (Nat.le_trans (Nat.le_trans (Nat.le_of_eq W386.size.symm) (Nat.le_of_eq W391.size.symm)) (Nat.le_of_eq W396.size.symm)))) (v := none) (fun _ => rfl)
  refine ⟨_, _, hTG _ (pre0 _ ?_), hrun, hended, _, _, rfl, ?_, ?_, hE.1, hE.2.1, hE.2.2.1, hE.2.2.2.mono (by decide) (by decide)⟩
  · refine y_aloadN X0 hx 1 (hb hby d6_0) rfl rfl rfl ?_
    refine st377 _ ?_
    show Sx p e below T377 m 4 #[xvr ax, xvr tx, xvr ox, xvj jx, xse] [] _
    refine y_aloadN X377 hx 5 (hb hby d6_4) rfl rfl rfl ?_
    refine y_aloadN X377 hx 6 (hb hby d6_5) rfl rfl rfl ?_
    refine st378 _ ?_
    show Sx p e below T378 m 8 #[xvr ax, xvr tx, xvr ox, xvj jx, xse] [xwr a378, xwr tx, xwr ax] _
    refine st381 _ ?_
    show Sx p e below T381 m 11 #[xvr ax, xvr tx, xvr ox, xvj jx, xse] [xwr tx, xwr ax] _
    refine st383 _ ?_
    show Sx p e below T383 m 14 #[xvr ax, xvr tx, xvr ox, xvj jx, xse] [xwr tx, xwr ax] _
    refine st386 _ ?_
    show Sx p e below T386 m 17 #[xvr ax, xvr tx, xvr ox, xvj jx, xse] [] _
    refine y_aloadN X386 hx 18 (hb hby d6_17) rfl rfl rfl ?_
    refine y_aloadN X386 hx 19 (hb hby d6_18) rfl rfl rfl ?_
    refine st391 _ ?_
    show Sx p e below T391 m 22 #[xvr ax, xvr tx, xvr ox, xvj jx, xse] [] _
    refine y_aloadN X391 hx 23 (hb hby d6_22) rfl rfl rfl ?_
    refine y_lloadN X391 hx 24 (hb hby d6_23) rfl rfl ?_
    refine st396 _ ?_
    show Sx p e below T396 m 27 #[xvr ax, xvr tx, xvr ox, xvj jx, xse] [] _
    exact X396.returnOut hx Bd.returns (hb hby d6_27) hr
  · show QrmSI Z G ax tx ox jx u1 u2 u3 h0 n0 _ T396.heap _
    rw [e396]
    exact ⟨rfl, N396, (((((Keep.refl h0 [ax]).ext E378).wr W386 (Or.inl (List.mem_of_getElem? (i := 0) rfl))).wr W391 (Or.inl (List.mem_of_getElem? (i := 0) rfl))).wr W396 (Or.inl (List.mem_of_getElem? (i := 0) rfl))), f399, f400, f401, Fw396⟩
  · rw [hh]; show CHr Z EL s.vm h0 T396.vm T396.heap; rw [e396]; exact C397.trans (CHv.at X396 hZ378 (own_EW hw) C397.1)
theorem ef_rmAll (m : MethodId) (x0 : Addr)  : entryFrame m #[(.ref x0)] 1 = mkF m 0 #[.val (.ref x0)] [] := by first | (simp [entryFrame, mkF, argsToLocals, Value.category]; done) | rfl
theorem d4_0 : decode prog_12_method_2_code 0 = .ok (.new 18, 3) := by decide +kernel
theorem d4_3 : decode prog_12_method_2_code 3 = .ok (.dup, 1) := by decide +kernel
theorem d4_4 : decode prog_12_method_2_code 4 = .ok (.aload_n 0, 1) := by decide +kernel
theorem d4_5 : decode prog_12_method_2_code 5 = .ok (.invokestatic 31, 3) := by decide +kernel
theorem pd_2 : parseMethodDescriptor "()Ljava/util/Optional;" = some ⟨[], some (.object "java/util/Optional")⟩ := by decide +kernel
theorem d4_8 : decode prog_12_method_2_code 8 = .ok (.ldc2_w 39, 3) := by decide +kernel
theorem d4_11 : decode prog_12_method_2_code 11 = .ok (.invokespecial 41, 3) := by decide +kernel
theorem pd_3 : parseMethodDescriptor "(Ljava/lang/String;Ljava/util/Optional;J)V" = some ⟨[(.object "java/lang/String"), (.object "java/util/Optional"), .long], none⟩ := by decide +kernel
theorem d4_14 : decode prog_12_method_2_code 14 = .ok (.areturn, 1) := by decide +kernel
def QrmAll (Z : State) (G : Gs) (tx : Addr) (h0 : Heap) (n0 : Nat) (v : Option Value) (h : Heap) (L : List Loc) : Prop := ∃ (bx : Addr), v = some (.ref bx) ∧ Fr n0 L ∧ Keep h0 h [] ∧ h0.size ≤ bx ∧ Exa Z h bx "com/example/umq/umq/admin/Selection" ∧ Fld Z h bx "com/example/umq/umq/admin/Selection" "level" "Ljava/lang/String;" (.ref tx) ∧ Fld Z h bx "com/example/umq/umq/admin/Selection" "named" "Ljava/util/Optional;" (.ref G.2) ∧ Fld Z h bx "com/example/umq/umq/admin/Selection" "limit" "J" (.long (9223372036854775807 : Int64))
set_option maxRecDepth 65536 in
set_option maxHeartbeats 40000000 in
theorem rmAll (l : Launch) (Z : State) (a0 : Array Value) (hw : HW a0 Z) (G : Gs) (ST : StartF Z G) (ws : List Jvm.Cond) (tx : Addr) (h0 : Heap) (n0 : Nat) (X00 : Old Z n0 h0) (E2 : Exa Z h0 tx "java/lang/String") :
    MetFree l (⟨"com/example/umq/umq/admin/Selection", "all", "(Ljava/lang/String;)Lcom/example/umq/umq/admin/Selection;"⟩ : MethodName) (head1 (Jvm.Cond.code (⟨"com/example/umq/umq/admin/Selection", "all", "(Ljava/lang/String;)Lcom/example/umq/umq/admin/Selection;"⟩ : MethodName) prog_12_method_2_code 1 (some (.object "com/example/umq/umq/admin/Selection")) :: ws) ({ frames := 2, cells := 3, slots := 87, locals := 31 } : Room)) (fun a U => a = #[(.ref tx)] ∧ Z.Warmed39 U.vm ∧ U.heap = h0 ∧ CHv Z EL U.vm h0) (fun _ _ _ _ _ => True) (fun _ U o U' => ∃ v L, o = .returned v ∧ QrmAll Z G tx h0 n0 v U'.heap L ∧ CHr Z EL U.vm U.heap U'.vm U'.heap ∧ ReturnedEndW U o U' L ({ frames := 2, cells := 3, slots := 87, locals := 31 } : Room).cells ({ frames := 2, cells := 3, slots := 87, locals := 31 } : Room).slots) := by
  refine MetFree.of_bodySF (plainFor_of_name pn_3) hisR ?_
  intro p e s m args below meth c s₁ Bd hml0 hP hK
  obtain ⟨rfl, hZ, hh, HC0⟩ := hP
  have hx := Bd.exec
  have hby := Bd.bytes
  have hml : c.maxLocals = 1 := hml0
  have hown : s.vm.findClass "com/example/umq/umq/admin/Selection" = some m.cls := findClass_of_methodNamed Bd.named
  have hnm := (name_of_methodNamed Bd.named Bd.method).1
  have X0 : Stand p l e ({ frames := 2, cells := 3, slots := 87, locals := 31 } : Room) (s.setVm s.vm) m #[(.ref tx)] below meth c s₁ [] 0 0 := Stand.of_body Bd
  have e0 : s₁.heap = h0 := by rw [← hh, Bd.state]; rfl
  have N0 := Fr.nil n0
  have Z0 : n0 ≤ h0.size := by have q := X00.2.1; rw [X00.1] at q; exact q
  have C0 := CHr.refl HC0
  have hS0 : s.Since s.vm h0.size := (State.WarmedH.refl s).since h0.size
  obtain ⟨TG, hTG, hT2⟩ : ∃ P : State → Prop, (∀ t, P t → Steps p.tables e below (s₁.setTop (entryFrame m #[(.ref tx)] 1)) t) ∧ (∀ t, Steps p.tables e below (s₁.setTop (entryFrame m #[(.ref tx)] 1)) t → P t) := ⟨_, fun t k => k, fun t k => k⟩
  have pre0 : ∀ t, Sx p e below s₁ m 0 #[xvr tx] [] t → TG t := fun t k => hT2 t (castTop (ef_rmAll m tx ) k)
  obtain ⟨T402, h402, X402, e402, E402, A402, D402, -, st402⟩ := newO X0 hx hZ hown (w_26 hw) (w_27 hw) (w_24 hw) e0 (g := (mkF m 0 #[xvr tx] [])) rfl (hb hby d4_0) (by decide) (by decide)
  obtain ⟨b402, g402⟩ : ∃ z, z = h0.size := ⟨_, rfl⟩
  rw [← g402] at A402 D402 st402
  have ch404 := CHr.ext E402 C0.1
  have C403 := C0.trans ch404
  have Fb402_level : Fld Z h402 b402 "com/example/umq/umq/admin/Selection" "level" "Ljava/lang/String;" .null := D402 (Or.inr (w_45 hw)) (ty := (.object "java/lang/String")) (by decide)
  have Fb402_named : Fld Z h402 b402 "com/example/umq/umq/admin/Selection" "named" "Ljava/util/Optional;" .null := D402 (Or.inr (w_47 hw)) (ty := (.object "java/util/Optional")) (by decide)
  have Fb402_limit : Fld Z h402 b402 "com/example/umq/umq/admin/Selection" "limit" "J" (.long (0 : Int64)) := D402 (Or.inr (w_49 hw)) (ty := .long) (by decide)
  have Ol405 : Old Z n0 h402 := (X00.ext E402)
  obtain ⟨_, _, ⟨T406, L406, k406, n406⟩, -, X406, ⟨Lc406, hQ406, l406, y406, z406⟩, st406⟩ := Jvm.LawKit.callS X402 hx (y := (⟨"java/util/Optional", "empty", "()Ljava/util/Optional;"⟩ : MethodName)) hown (mvT hZ (w_28 hw)) (mvT hZ (w_29 hw)) (mvT hZ (w_30 hw)) (mvT hZ (w_31 hw)) (by decide) (backOf (W := 3) (rmOE l Z a0 hw G ST []  h402 n0 Ol405 ) hZ (w_31 hw) (w_30 hw) (by decide) (by decide)) (g := (mkF m 5 #[xvr tx] [xwr tx, xwr b402, xwr b402])) rfl (by rw [hml]; rfl) (argsL := []) (rest := [(.ref tx), (.ref b402), (.ref b402)]) (lenOf pd_2 rfl) rfl (by show 2 * 0 + _ ≤ _; exact Nat.le_of_eq rfl) (hb hby d4_5) (fun _ _ => ⟨rfl, e402, (by decide : 1 + 0 ≤ _), (by decide : 3 + 0 ≤ _)⟩)
  dsimp only [Pt.U, Pt.locs, Pt.cells, Pt.slots] at X406 l406 y406 z406 st406 hQ406
  subst l406 y406 z406
  obtain ⟨rfl, N406q, e406⟩ := hQ406
  have N406 := Fr.app N0 N406q
  have f407 := (E2.ext E402)
  obtain ⟨_, _, ⟨T408, L408, k408, n408⟩, -, X408, hS408, g408, ⟨Lc408, hQ408, l408, y408, z408, CH408⟩, st408⟩ := X406.specialBackS hx (y := (⟨"com/example/umq/umq/admin/Selection", "<init>", "(Ljava/lang/String;Ljava/util/Optional;J)V"⟩ : MethodName)) rfl hown (mvT hZ (w_34 hw)) (mvT hZ (w_35 hw)) (mvT hZ (w_36 hw)) (by decide) (backOfSH (W := 1) (rmSI l Z a0 hw G ST [] b402 tx G.2 (9223372036854775807 : Int64) .null .null (.long (0 : Int64)) h402 n0 Ol405 A402 f407 Fb402_level Fb402_named Fb402_limit (Nat.le_trans Z0 (Nat.le_trans (Nat.le_refl _) (Nat.le_of_eq g402.symm)))) hZ (w_36 hw) (w_24 hw) (by decide) (by decide) (own_EW hw) C403.1) (g := (mkF m 11 #[xvr tx] [xwj (9223372036854775807 : Int64), xwr G.2, xwr tx, xwr b402, xwr b402])) rfl (by rw [hml]; rfl) (Steps.refl _) (a := b402) (argsL := [(.ref tx), (.ref G.2), (.long (9223372036854775807 : Int64))]) (rest := [(.ref b402)]) (lenOf pd_3 rfl) rfl (by show 2 * 0 + _ ≤ _; exact Nat.le_of_eq rfl) (hb hby d4_11) (fun _ _ => ⟨rfl, e406, (by decide : 1 + 2 ≤ _), (by decide : 3 + 84 ≤ _)⟩)
  dsimp only [Pt.U, Pt.locs, Pt.cells, Pt.slots] at X408 l408 y408 z408 st408 hQ408 CH408 hS408 g408
  subst l408 y408 z408
  obtain ⟨hp408, e408⟩ : ∃ z, T408.heap = z := ⟨_, rfl⟩
  rw [e408] at hQ408 CH408 hS408 g408
  rw [e406] at g408
  obtain ⟨X408, hS408, hZ408, hown408⟩ := rebS hS0 E402.1 X408 hS408 g408 hZ hown
  obtain ⟨rfl, N408q, K408, p409, p410, p411, p412⟩ := hQ408
  have N408 := Fr.app N406 N408q
  have C413 := C403.trans CH408
  obtain ⟨fs, hr, hrun, hended, hE⟩ := X408.leaveW hS408 (by rw [e408]; exact (Nat.le_refl _)) (v := some (.ref b402)) (fun h => by rw [Bd.returns] at h; cases h)
  refine ⟨_, _, hTG _ (pre0 _ ?_), hrun, hended, _, _, rfl, ?_, ?_, hE.1, hE.2.1, hE.2.2.1, hE.2.2.2.mono (by decide) (by decide)⟩
  · refine st402 _ ?_
    show Sx p e below T402 m 3 #[xvr tx] [xwr b402] _
    refine y_dup X402 hx 4 (hb hby d4_3) rfl rfl ?_
    refine y_aloadN X402 hx 5 (hb hby d4_4) rfl rfl rfl ?_
    refine st406 _ ?_
    show Sx p e below T406 m 8 #[xvr tx] [xwr G.2, xwr tx, xwr b402, xwr b402] _
    refine X406.ldc2Long hx hown (mvT hZ (w_33 hw)) (g := (mkF m 8 #[xvr tx] [xwr G.2, xwr tx, xwr b402, xwr b402])) rfl (hb hby d4_8) _ ?_
    show Sx p e below T406 m 11 #[xvr tx] [xwj (9223372036854775807 : Int64), xwr G.2, xwr tx, xwr b402, xwr b402] _
    refine st408.trans ?_
    show Sx p e below T408 m 14 #[xvr tx] [xwr b402] _
    exact retOut X408 hx Bd.returns rfl (Or.inr (Or.inr (Or.inr (Or.inr ⟨rfl, rfl, rfl⟩)))) (hb hby d4_14) hr
  · show QrmAll Z G tx h0 n0 _ T408.heap _
    rw [e408]
    exact ⟨b402, rfl, N408, (((Keep.refl h0 []).ext E402).trans K408 (allS (Or.inr (Nat.le_trans (Nat.le_refl _) (Nat.le_of_eq g402.symm))) all0)), (Nat.le_trans (Nat.le_refl _) (Nat.le_of_eq g402.symm)), p409, p410, p411, p412⟩
  · rw [hh]; show CHr Z EL s.vm h0 T408.vm T408.heap; rw [e408]; exact C413.trans (CHv.at X408 hZ408 (own_EW hw) C413.1)
theorem ef_rmLv (m : MethodId) (x0 : Addr)  : entryFrame m #[(.ref x0)] 1 = mkF m 0 #[.val (.ref x0)] [] := by first | (simp [entryFrame, mkF, argsToLocals, Value.category]; done) | rfl
theorem d8_0 : decode prog_12_method_5_code 0 = .ok (.aload_n 0, 1) := by decide +kernel
theorem d8_1 : decode prog_12_method_5_code 1 = .ok (.getfield 17, 3) := by decide +kernel
theorem d8_4 : decode prog_12_method_5_code 4 = .ok (.areturn, 1) := by decide +kernel
def QrmLv (Z : State) (G : Gs) (ax : Addr) (wx : Addr) (h0 : Heap) (n0 : Nat) (v : Option Value) (h : Heap) (L : List Loc) : Prop := v = some (.ref wx) ∧ Fr n0 L ∧ h = h0
set_option maxRecDepth 65536 in
set_option maxHeartbeats 40000000 in
theorem rmLv (l : Launch) (Z : State) (a0 : Array Value) (hw : HW a0 Z) (G : Gs) (ST : StartF Z G) (ws : List Jvm.Cond) (ax : Addr) (wx : Addr) (h0 : Heap) (n0 : Nat) (X00 : Old Z n0 h0) (F1 : Fld Z h0 ax "com/example/umq/umq/admin/Selection" "level" "Ljava/lang/String;" (.ref wx)) :
    MetFree l (⟨"com/example/umq/umq/admin/Selection", "level", "()Ljava/lang/String;"⟩ : MethodName) (head1 (Jvm.Cond.code (⟨"com/example/umq/umq/admin/Selection", "level", "()Ljava/lang/String;"⟩ : MethodName) prog_12_method_5_code 1 (some (.object "java/lang/String")) :: ws) ({ frames := 0, cells := 0, slots := 0, locals := 0 } : Room)) (fun a U => a = #[(.ref ax)] ∧ Z.Warmed39 U.vm ∧ U.heap = h0) (fun _ _ _ _ _ => True) (fun _ U o U' => ∃ v L, o = .returned v ∧ QrmLv Z G ax wx h0 n0 v U'.heap L ∧ FrameEnd U o U' L ({ frames := 0, cells := 0, slots := 0, locals := 0 } : Room).cells ({ frames := 0, cells := 0, slots := 0, locals := 0 } : Room).slots) := by
  refine MetFree.of_bodySF (plainFor_of_name pn_3) hisR ?_
  intro p e s m args below meth c s₁ Bd hml0 hP hK
  obtain ⟨rfl, hZ, hh⟩ := hP
  have hx := Bd.exec
  have hby := Bd.bytes
  have hml : c.maxLocals = 1 := hml0
  have hown : s.vm.findClass "com/example/umq/umq/admin/Selection" = some m.cls := findClass_of_methodNamed Bd.named
  have hnm := (name_of_methodNamed Bd.named Bd.method).1
  have X0 : Stand p l e ({ frames := 0, cells := 0, slots := 0, locals := 0 } : Room) s m #[(.ref ax)] below meth c s₁ [] 0 0 := Stand.of_body Bd
  have e0 : s₁.heap = h0 := by rw [← hh, Bd.state]; rfl
  have N0 := Fr.nil n0
  have Z0 : n0 ≤ h0.size := by have q := X00.2.1; rw [X00.1] at q; exact q
  obtain ⟨TG, hTG, hT2⟩ : ∃ P : State → Prop, (∀ t, P t → Steps p.tables e below (s₁.setTop (entryFrame m #[(.ref ax)] 1)) t) ∧ (∀ t, Steps p.tables e below (s₁.setTop (entryFrame m #[(.ref ax)] 1)) t → P t) := ⟨_, fun t k => k, fun t k => k⟩
  have pre0 : ∀ t, Sx p e below s₁ m 0 #[xvr ax] [] t → TG t := fun t k => hT2 t (castTop (ef_rmLv m ax ) k)
  obtain ⟨T414, X414, e414, st414⟩ := getF X0 hx hZ hown (host := "") (Or.inl (w_44 hw)) Via.refl e0 F1 (g := (mkF m 1 #[xvr ax] [xwr ax])) rfl rfl (hb hby d8_1)
  obtain ⟨fs, hr, hrun, hended, hW, hsame⟩ := X414.leave (v := some (.ref wx)) (fun h => by rw [Bd.returns] at h; cases h)
  refine ⟨_, _, hTG _ (pre0 _ ?_), hrun, hended, _, _, rfl, ?_, ⟨_, rfl⟩, hW, hsame.mono (by decide) (by decide)⟩
  · refine y_aloadN X0 hx 1 (hb hby d8_0) rfl rfl rfl ?_
    refine st414 _ ?_
    show Sx p e below T414 m 4 #[xvr ax] [xwr wx] _
    exact retOut X414 hx Bd.returns rfl (Or.inr (Or.inr (Or.inr (Or.inr ⟨rfl, rfl, rfl⟩)))) (hb hby d8_4) hr
  · show QrmLv Z G ax wx h0 n0 _ T414.heap _
    rw [e414]
    exact ⟨rfl, N0, rfl⟩
theorem ef_rmNm (m : MethodId) (x0 : Addr)  : entryFrame m #[(.ref x0)] 1 = mkF m 0 #[.val (.ref x0)] [] := by first | (simp [entryFrame, mkF, argsToLocals, Value.category]; done) | rfl
theorem d10_0 : decode prog_12_method_6_code 0 = .ok (.aload_n 0, 1) := by decide +kernel
theorem d10_1 : decode prog_12_method_6_code 1 = .ok (.getfield 23, 3) := by decide +kernel
theorem d10_4 : decode prog_12_method_6_code 4 = .ok (.areturn, 1) := by decide +kernel
def QrmNm (Z : State) (G : Gs) (ax : Addr) (wx : Addr) (h0 : Heap) (n0 : Nat) (v : Option Value) (h : Heap) (L : List Loc) : Prop := v = some (.ref wx) ∧ Fr n0 L ∧ h = h0
set_option maxRecDepth 65536 in
set_option maxHeartbeats 40000000 in
theorem rmNm (l : Launch) (Z : State) (a0 : Array Value) (hw : HW a0 Z) (G : Gs) (ST : StartF Z G) (ws : List Jvm.Cond) (ax : Addr) (wx : Addr) (h0 : Heap) (n0 : Nat) (X00 : Old Z n0 h0) (F1 : Fld Z h0 ax "com/example/umq/umq/admin/Selection" "named" "Ljava/util/Optional;" (.ref wx)) :
    MetFree l (⟨"com/example/umq/umq/admin/Selection", "named", "()Ljava/util/Optional;"⟩ : MethodName) (head1 (Jvm.Cond.code (⟨"com/example/umq/umq/admin/Selection", "named", "()Ljava/util/Optional;"⟩ : MethodName) prog_12_method_6_code 1 (some (.object "java/util/Optional")) :: ws) ({ frames := 0, cells := 0, slots := 0, locals := 0 } : Room)) (fun a U => a = #[(.ref ax)] ∧ Z.Warmed39 U.vm ∧ U.heap = h0) (fun _ _ _ _ _ => True) (fun _ U o U' => ∃ v L, o = .returned v ∧ QrmNm Z G ax wx h0 n0 v U'.heap L ∧ FrameEnd U o U' L ({ frames := 0, cells := 0, slots := 0, locals := 0 } : Room).cells ({ frames := 0, cells := 0, slots := 0, locals := 0 } : Room).slots) := by
  refine MetFree.of_bodySF (plainFor_of_name pn_3) hisR ?_
  intro p e s m args below meth c s₁ Bd hml0 hP hK
  obtain ⟨rfl, hZ, hh⟩ := hP
  have hx := Bd.exec
  have hby := Bd.bytes
  have hml : c.maxLocals = 1 := hml0
  have hown : s.vm.findClass "com/example/umq/umq/admin/Selection" = some m.cls := findClass_of_methodNamed Bd.named
  have hnm := (name_of_methodNamed Bd.named Bd.method).1
  have X0 : Stand p l e ({ frames := 0, cells := 0, slots := 0, locals := 0 } : Room) s m #[(.ref ax)] below meth c s₁ [] 0 0 := Stand.of_body Bd
  have e0 : s₁.heap = h0 := by rw [← hh, Bd.state]; rfl
  have N0 := Fr.nil n0
  have Z0 : n0 ≤ h0.size := by have q := X00.2.1; rw [X00.1] at q; exact q
  obtain ⟨TG, hTG, hT2⟩ : ∃ P : State → Prop, (∀ t, P t → Steps p.tables e below (s₁.setTop (entryFrame m #[(.ref ax)] 1)) t) ∧ (∀ t, Steps p.tables e below (s₁.setTop (entryFrame m #[(.ref ax)] 1)) t → P t) := ⟨_, fun t k => k, fun t k => k⟩
  have pre0 : ∀ t, Sx p e below s₁ m 0 #[xvr ax] [] t → TG t := fun t k => hT2 t (castTop (ef_rmNm m ax ) k)
  obtain ⟨T415, X415, e415, st415⟩ := getF X0 hx hZ hown (host := "") (Or.inl (w_46 hw)) Via.refl e0 F1 (g := (mkF m 1 #[xvr ax] [xwr ax])) rfl rfl (hb hby d10_1)
  obtain ⟨fs, hr, hrun, hended, hW, hsame⟩ := X415.leave (v := some (.ref wx)) (fun h => by rw [Bd.returns] at h; cases h)
  refine ⟨_, _, hTG _ (pre0 _ ?_), hrun, hended, _, _, rfl, ?_, ⟨_, rfl⟩, hW, hsame.mono (by decide) (by decide)⟩
  · refine y_aloadN X0 hx 1 (hb hby d10_0) rfl rfl rfl ?_
    refine st415 _ ?_
    show Sx p e below T415 m 4 #[xvr ax] [xwr wx] _
    exact retOut X415 hx Bd.returns rfl (Or.inr (Or.inr (Or.inr (Or.inr ⟨rfl, rfl, rfl⟩)))) (hb hby d10_4) hr
  · show QrmNm Z G ax wx h0 n0 _ T415.heap _
    rw [e415]
    exact ⟨rfl, N0, rfl⟩
theorem ef_rmLi (m : MethodId) (x0 : Addr)  : entryFrame m #[(.ref x0)] 1 = mkF m 0 #[.val (.ref x0)] [] := by first | (simp [entryFrame, mkF, argsToLocals, Value.category]; done) | rfl
theorem d12_0 : decode prog_12_method_7_code 0 = .ok (.aload_n 0, 1) := by decide +kernel
theorem d12_1 : decode prog_12_method_7_code 1 = .ok (.getfield 27, 3) := by decide +kernel
theorem d12_4 : decode prog_12_method_7_code 4 = .ok (.lreturn, 1) := by decide +kernel
def QrmLi (Z : State) (G : Gs) (ax : Addr) (wx : Int64) (h0 : Heap) (n0 : Nat) (v : Option Value) (h : Heap) (L : List Loc) : Prop := v = some (.long wx) ∧ Fr n0 L ∧ h = h0
set_option maxRecDepth 65536 in
set_option maxHeartbeats 40000000 in
theorem rmLi (l : Launch) (Z : State) (a0 : Array Value) (hw : HW a0 Z) (G : Gs) (ST : StartF Z G) (ws : List Jvm.Cond) (ax : Addr) (wx : Int64) (h0 : Heap) (n0 : Nat) (X00 : Old Z n0 h0) (F1 : Fld Z h0 ax "com/example/umq/umq/admin/Selection" "limit" "J" (.long wx)) :
    MetFree l (⟨"com/example/umq/umq/admin/Selection", "limit", "()J"⟩ : MethodName) (head1 (Jvm.Cond.code (⟨"com/example/umq/umq/admin/Selection", "limit", "()J"⟩ : MethodName) prog_12_method_7_code 1 (some .long) :: ws) ({ frames := 0, cells := 0, slots := 0, locals := 0 } : Room)) (fun a U => a = #[(.ref ax)] ∧ Z.Warmed39 U.vm ∧ U.heap = h0) (fun _ _ _ _ _ => True) (fun _ U o U' => ∃ v L, o = .returned v ∧ QrmLi Z G ax wx h0 n0 v U'.heap L ∧ FrameEnd U o U' L ({ frames := 0, cells := 0, slots := 0, locals := 0 } : Room).cells ({ frames := 0, cells := 0, slots := 0, locals := 0 } : Room).slots) := by
  refine MetFree.of_bodySF (plainFor_of_name pn_3) hisR ?_
  intro p e s m args below meth c s₁ Bd hml0 hP hK
  obtain ⟨rfl, hZ, hh⟩ := hP
  have hx := Bd.exec
  have hby := Bd.bytes
  have hml : c.maxLocals = 1 := hml0
  have hown : s.vm.findClass "com/example/umq/umq/admin/Selection" = some m.cls := findClass_of_methodNamed Bd.named
  have hnm := (name_of_methodNamed Bd.named Bd.method).1
  have X0 : Stand p l e ({ frames := 0, cells := 0, slots := 0, locals := 0 } : Room) s m #[(.ref ax)] below meth c s₁ [] 0 0 := Stand.of_body Bd
  have e0 : s₁.heap = h0 := by rw [← hh, Bd.state]; rfl
  have N0 := Fr.nil n0
  have Z0 : n0 ≤ h0.size := by have q := X00.2.1; rw [X00.1] at q; exact q
  obtain ⟨TG, hTG, hT2⟩ : ∃ P : State → Prop, (∀ t, P t → Steps p.tables e below (s₁.setTop (entryFrame m #[(.ref ax)] 1)) t) ∧ (∀ t, Steps p.tables e below (s₁.setTop (entryFrame m #[(.ref ax)] 1)) t → P t) := ⟨_, fun t k => k, fun t k => k⟩
  have pre0 : ∀ t, Sx p e below s₁ m 0 #[xvr ax] [] t → TG t := fun t k => hT2 t (castTop (ef_rmLi m ax ) k)
  obtain ⟨T416, X416, e416, st416⟩ := getF X0 hx hZ hown (host := "") (Or.inl (w_48 hw)) Via.refl e0 F1 (g := (mkF m 1 #[xvr ax] [xwr ax])) rfl rfl (hb hby d12_1)
  obtain ⟨fs, hr, hrun, hended, hW, hsame⟩ := X416.leave (v := some (.long wx)) (fun h => by rw [Bd.returns] at h; cases h)
  refine ⟨_, _, hTG _ (pre0 _ ?_), hrun, hended, _, _, rfl, ?_, ⟨_, rfl⟩, hW, hsame.mono (by decide) (by decide)⟩
  · refine y_aloadN X0 hx 1 (hb hby d12_0) rfl rfl rfl ?_
    refine st416 _ ?_
    show Sx p e below T416 m 4 #[xvr ax] [xwj wx] _
    exact retOut X416 hx Bd.returns rfl (Or.inr (Or.inl ⟨rfl, rfl, _, rfl⟩)) (hb hby d12_4) hr
  · show QrmLi Z G ax wx h0 n0 _ T416.heap _
    rw [e416]
    exact ⟨rfl, N0, rfl⟩
theorem ef_rmEqS (m : MethodId) (x0 : Addr) (x1 : Addr)  : entryFrame m #[(.ref x0), (.ref x1)] 3 = mkF m 0 #[.val (.ref x0), .val (.ref x1), .unset] [] := by first | (simp [entryFrame, mkF, argsToLocals, Value.category]; done) | rfl
theorem d9_0 : decode jdk_42_method_66_code 0 = .ok (.aload_n 0, 1) := by decide +kernel
theorem d9_1 : decode jdk_42_method_66_code 1 = .ok (.aload_n 1, 1) := by decide +kernel
theorem d9_2 : decode jdk_42_method_66_code 2 = .ok (.if_acmp .ne 5, 3) := by decide +kernel
theorem d9_5 : decode jdk_42_method_66_code 5 = .ok (.iconst 1, 1) := by decide +kernel
theorem d9_6 : decode jdk_42_method_66_code 6 = .ok (.ireturn, 1) := by decide +kernel
def QrmEqS (Z : State) (G : Gs) (ax : Addr) (h0 : Heap) (n0 : Nat) (v : Option Value) (h : Heap) (L : List Loc) : Prop := v = some (.int (1 : Int32)) ∧ Fr n0 L ∧ h = h0
set_option maxRecDepth 65536 in
set_option maxHeartbeats 40000000 in
theorem rmEqS (l : Launch) (Z : State) (a0 : Array Value) (hw : HW a0 Z) (G : Gs) (ST : StartF Z G) (ws : List Jvm.Cond) (ax : Addr) (h0 : Heap) (n0 : Nat) (X00 : Old Z n0 h0) :
    MetFree l (⟨"java/lang/String", "equals", "(Ljava/lang/Object;)Z"⟩ : MethodName) (head1 (Jvm.Cond.code (⟨"java/lang/String", "equals", "(Ljava/lang/Object;)Z"⟩ : MethodName) jdk_42_method_66_code 3 (some .boolean) :: ws) ({ frames := 0, cells := 0, slots := 0, locals := 0 } : Room)) (fun a U => a = #[(.ref ax), (.ref ax)] ∧ Z.Warmed39 U.vm ∧ U.heap = h0) (fun _ _ _ _ _ => True) (fun _ U o U' => ∃ v L, o = .returned v ∧ QrmEqS Z G ax h0 n0 v U'.heap L ∧ FrameEnd U o U' L ({ frames := 0, cells := 0, slots := 0, locals := 0 } : Room).cells ({ frames := 0, cells := 0, slots := 0, locals := 0 } : Room).slots) := by
  refine MetFree.of_bodySF (plainFor_of_name pn_0) hisR ?_
  intro p e s m args below meth c s₁ Bd hml0 hP hK
  obtain ⟨rfl, hZ, hh⟩ := hP
  have hx := Bd.exec
  have hby := Bd.bytes
  have hml : c.maxLocals = 3 := hml0
  have hown : s.vm.findClass "java/lang/String" = some m.cls := findClass_of_methodNamed Bd.named
  have hnm := (name_of_methodNamed Bd.named Bd.method).1
  have X0 : Stand p l e ({ frames := 0, cells := 0, slots := 0, locals := 0 } : Room) s m #[(.ref ax), (.ref ax)] below meth c s₁ [] 0 0 := Stand.of_body Bd
  have e0 : s₁.heap = h0 := by rw [← hh, Bd.state]; rfl
  have N0 := Fr.nil n0
  have Z0 : n0 ≤ h0.size := by have q := X00.2.1; rw [X00.1] at q; exact q
  obtain ⟨TG, hTG, hT2⟩ : ∃ P : State → Prop, (∀ t, P t → Steps p.tables e below (s₁.setTop (entryFrame m #[(.ref ax), (.ref ax)] 3)) t) ∧ (∀ t, Steps p.tables e below (s₁.setTop (entryFrame m #[(.ref ax), (.ref ax)] 3)) t → P t) := ⟨_, fun t k => k, fun t k => k⟩
  have pre0 : ∀ t, Sx p e below s₁ m 0 #[xvr ax, xvr ax, xun] [] t → TG t := fun t k => hT2 t (castTop (ef_rmEqS m ax ax ) k)
  obtain ⟨fs, hr, hrun, hended, hW, hsame⟩ := X0.leave (v := some (.int (1 : Int32))) (fun h => by rw [Bd.returns] at h; cases h)
  refine ⟨_, _, hTG _ (pre0 _ ?_), hrun, hended, _, _, rfl, ?_, ⟨_, rfl⟩, hW, hsame.mono (by decide) (by decide)⟩
  · refine y_aloadN X0 hx 1 (hb hby d9_0) rfl rfl rfl ?_
    refine y_aloadN X0 hx 2 (hb hby d9_1) rfl rfl rfl ?_
    refine Jvm.RoadKit.acmp (g := (mkF m 2 #[xvr ax, xvr ax, xun] [xwr ax, xwr ax])) X0 hx rfl rfl rfl (pc0 := 2) (pc' := 5) (same := true) rfl (hb hby d9_2) rfl (decide_eq_true rfl) (by decide) (by decide) ?_
    show Sx p e below s₁ m 5 #[xvr ax, xvr ax, xun] [] _
    refine y_iconst X0 hx (1 : Int32) 6 (hb hby d9_5) rfl rfl ?_
    show Sx p e below s₁ m 6 #[xvr ax, xvr ax, xun] [xwi (1 : Int32)] _
    exact retN X0 hx (t := .boolean) Bd.returns (by simp) (hb hby d9_6) (hr)
  · show QrmEqS Z G ax h0 n0 _ s₁.heap _
    rw [e0]
    exact ⟨rfl, N0, rfl⟩
theorem ef_rmIP (m : MethodId) (x0 : Addr)  : entryFrame m #[(.ref x0)] 1 = mkF m 0 #[.val (.ref x0)] [] := by first | (simp [entryFrame, mkF, argsToLocals, Value.category]; done) | rfl
theorem d11_0 : decode jdk_32_method_6_code 0 = .ok (.aload_n 0, 1) := by decide +kernel
theorem d11_1 : decode jdk_32_method_6_code 1 = .ok (.getfield 13, 3) := by decide +kernel
theorem d11_4 : decode jdk_32_method_6_code 4 = .ok (.ifnull 7, 3) := by decide +kernel
theorem d11_11 : decode jdk_32_method_6_code 11 = .ok (.iconst 0, 1) := by decide +kernel
theorem d11_12 : decode jdk_32_method_6_code 12 = .ok (.ireturn, 1) := by decide +kernel
def QrmIP (Z : State) (G : Gs) (ax : Addr) (h0 : Heap) (n0 : Nat) (v : Option Value) (h : Heap) (L : List Loc) : Prop := v = some (.int (0 : Int32)) ∧ Fr n0 L ∧ h = h0
set_option maxRecDepth 65536 in
set_option maxHeartbeats 40000000 in
theorem rmIP (l : Launch) (Z : State) (a0 : Array Value) (hw : HW a0 Z) (G : Gs) (ST : StartF Z G) (ws : List Jvm.Cond) (ax : Addr) (h0 : Heap) (n0 : Nat) (X00 : Old Z n0 h0) (F1 : Fld Z h0 ax "java/util/Optional" "value" "Ljava/lang/Object;" .null) :
    MetFree l (⟨"java/util/Optional", "isPresent", "()Z"⟩ : MethodName) (head1 (Jvm.Cond.code (⟨"java/util/Optional", "isPresent", "()Z"⟩ : MethodName) jdk_32_method_6_code 1 (some .boolean) :: ws) ({ frames := 0, cells := 0, slots := 0, locals := 0 } : Room)) (fun a U => a = #[(.ref ax)] ∧ Z.Warmed39 U.vm ∧ U.heap = h0) (fun _ _ _ _ _ => True) (fun _ U o U' => ∃ v L, o = .returned v ∧ QrmIP Z G ax h0 n0 v U'.heap L ∧ FrameEnd U o U' L ({ frames := 0, cells := 0, slots := 0, locals := 0 } : Room).cells ({ frames := 0, cells := 0, slots := 0, locals := 0 } : Room).slots) := by
  refine MetFree.of_bodySF (plainFor_of_name pn_2) hisR ?_
  intro p e s m args below meth c s₁ Bd hml0 hP hK
  obtain ⟨rfl, hZ, hh⟩ := hP
  have hx := Bd.exec
  have hby := Bd.bytes
  have hml : c.maxLocals = 1 := hml0
  have hown : s.vm.findClass "java/util/Optional" = some m.cls := findClass_of_methodNamed Bd.named
  have hnm := (name_of_methodNamed Bd.named Bd.method).1
  have X0 : Stand p l e ({ frames := 0, cells := 0, slots := 0, locals := 0 } : Room) s m #[(.ref ax)] below meth c s₁ [] 0 0 := Stand.of_body Bd
  have e0 : s₁.heap = h0 := by rw [← hh, Bd.state]; rfl
  have N0 := Fr.nil n0
  have Z0 : n0 ≤ h0.size := by have q := X00.2.1; rw [X00.1] at q; exact q
  obtain ⟨TG, hTG, hT2⟩ : ∃ P : State → Prop, (∀ t, P t → Steps p.tables e below (s₁.setTop (entryFrame m #[(.ref ax)] 1)) t) ∧ (∀ t, Steps p.tables e below (s₁.setTop (entryFrame m #[(.ref ax)] 1)) t → P t) := ⟨_, fun t k => k, fun t k => k⟩
  have pre0 : ∀ t, Sx p e below s₁ m 0 #[xvr ax] [] t → TG t := fun t k => hT2 t (castTop (ef_rmIP m ax ) k)
  obtain ⟨T417, X417, e417, st417⟩ := getF X0 hx hZ hown (host := "") (Or.inl (w_70 hw)) Via.refl e0 F1 (g := (mkF m 1 #[xvr ax] [xwr ax])) rfl rfl (hb hby d11_1)
  obtain ⟨fs, hr, hrun, hended, hW, hsame⟩ := X417.leave (v := some (.int (0 : Int32))) (fun h => by rw [Bd.returns] at h; cases h)
  refine ⟨_, _, hTG _ (pre0 _ ?_), hrun, hended, _, _, rfl, ?_, ⟨_, rfl⟩, hW, hsame.mono (by decide) (by decide)⟩
  · refine y_aloadN X0 hx 1 (hb hby d11_0) rfl rfl rfl ?_
    refine st417 _ ?_
    show Sx p e below T417 m 4 #[xvr ax] [.null] _
    refine XS.ifnullYes X417.here hx rfl (pc0 := 4) (pc' := 11) rfl (hb hby d11_4) rfl (by decide) (by decide) ?_
    show Sx p e below T417 m 11 #[xvr ax] [] _
    refine y_iconst X417 hx (0 : Int32) 12 (hb hby d11_11) rfl rfl ?_
    show Sx p e below T417 m 12 #[xvr ax] [xwi (0 : Int32)] _
    exact retN X417 hx (t := .boolean) Bd.returns (by simp) (hb hby d11_12) (hr)
  · show QrmIP Z G ax h0 n0 _ T417.heap _
    rw [e417]
    exact ⟨rfl, N0, rfl⟩
theorem ef_rm0 (m : MethodId) (x0 : Int32) (x1 : Int32) (x2 : Int32) (x3 : Int32)  : entryFrame m #[(.int x0), (.int x1), (.int x2), (.int x3)] maxLocals = mkF m 0 #[.val (.int x0), .val (.int x1), .val (.int x2), .val (.int x3), .unset, .unset, .unset, .unset] [] := by first | (simp [entryFrame, mkF, argsToLocals, Value.category, maxLocals]; done) | rfl
theorem pd_4 : parseMethodDescriptor "([C)V" = some ⟨[(.array .char)], none⟩ := by decide +kernel
theorem pd_5 : parseMethodDescriptor "(Ljava/lang/String;)Lcom/example/umq/umq/admin/Selection;" = some ⟨[(.object "java/lang/String")], some (.object "com/example/umq/umq/admin/Selection")⟩ := by decide +kernel
theorem pd_6 : parseMethodDescriptor "()Ljava/lang/String;" = some ⟨[], some (.object "java/lang/String")⟩ := by decide +kernel
theorem pd_7 : parseMethodDescriptor "(Ljava/lang/Object;)Z" = some ⟨[(.object "java/lang/Object")], some .boolean⟩ := by decide +kernel
theorem pd_8 : parseMethodDescriptor "()Z" = some ⟨[], some .boolean⟩ := by decide +kernel
theorem pd_9 : parseMethodDescriptor "()J" = some ⟨[], some .long⟩ := by decide +kernel
theorem pn_4 : plainName "com/example/umq/umq/admin/SelectionAllPinLaw" = true := by first | (simp [plainName, overriddenIn]; done) | decide +kernel
def Qrm0 (Z : State) (G : Gs) (p0 : Int32) (p1 : Int32) (p2 : Int32) (p3 : Int32) (h0 : Heap) (n0 : Nat) (v : Option Value) (h : Heap) (L : List Loc) : Prop := v = some (.int (1 : Int32)) ∧ Fr n0 L ∧ Keep h0 h []
set_option maxRecDepth 65536 in
set_option maxHeartbeats 40000000 in
theorem rm0 (l : Launch) (Z : State) (a0 : Array Value) (hw : HW a0 Z) (G : Gs) (ST : StartF Z G) (ws : List Jvm.Cond) (p0 : Int32) (p1 : Int32) (p2 : Int32) (p3 : Int32) (h0 : Heap) (n0 : Nat) (X00 : Old Z n0 h0) :
    MetFree l x (head1 (Jvm.Cond.code x code maxLocals ret :: ws) room_1) (fun a U => a = #[(.int p0), (.int p1), (.int p2), (.int p3)] ∧ Z.Warmed39 U.vm ∧ U.heap = h0 ∧ CHv Z EL U.vm h0) (fun _ _ _ _ _ => True) (fun _ U o U' => ∃ v L, o = .returned v ∧ Qrm0 Z G p0 p1 p2 p3 h0 n0 v U'.heap L ∧ CHr Z EL U.vm U.heap U'.vm U'.heap ∧ ReturnedEndW U o U' L 7 97) := by
  refine MetFree.of_bodySF (plainFor_of_name pn_4) hisR ?_
  intro p e s m args below meth c s₁ Bd hml0 hP hK
  obtain ⟨rfl, hZ, hh, HC0⟩ := hP
  have hx := Bd.exec
  have hby := Bd.bytes
  have hml : c.maxLocals = 8 := hml0
  have hown : s.vm.findClass "com/example/umq/umq/admin/SelectionAllPinLaw" = some m.cls := findClass_of_methodNamed Bd.named
  have hnm := (name_of_methodNamed Bd.named Bd.method).1
  have X0 : Stand p l e room_1 (s.setVm s.vm) m #[(.int p0), (.int p1), (.int p2), (.int p3)] below meth c s₁ [] 0 0 := Stand.of_body Bd
  have e0 : s₁.heap = h0 := by rw [← hh, Bd.state]; rfl
  have N0 := Fr.nil n0
  have Z0 : n0 ≤ h0.size := by have q := X00.2.1; rw [X00.1] at q; exact q
  have C0 := CHr.refl HC0
  have hS0 : s.Since s.vm h0.size := (State.WarmedH.refl s).since h0.size
  obtain ⟨TG, hTG, hT2⟩ : ∃ P : State → Prop, (∀ t, P t → Steps p.tables e below (s₁.setTop (entryFrame m #[(.int p0), (.int p1), (.int p2), (.int p3)] maxLocals)) t) ∧ (∀ t, Steps p.tables e below (s₁.setTop (entryFrame m #[(.int p0), (.int p1), (.int p2), (.int p3)] maxLocals)) t → P t) := ⟨_, fun t k => k, fun t k => k⟩
  have pre0 : ∀ t, Sx p e below s₁ m 0 #[xvi p0, xvi p1, xvi p2, xvi p3, xun, xun, xun, xun] [] t → TG t := fun t k => hT2 t (castTop (ef_rm0 m p0 p1 p2 p3 ) k)
  have c418 : ∀ t, Sx p e below s₁ m 3 #[xvi p0, xvi p1, xvi p2, xvi p3, xun, xun, xun, xun] [xwi (p0 &&& (3 : Int32))] t → TG t := fun t k => pre0 t (by
    refine y_iloadN X0 hx 1 (hb hby at_0) rfl rfl ?_
    refine y_iconst X0 hx (3 : Int32) 2 (hb hby at_1) rfl rfl ?_
    refine y_iand X0 hx 3 (hb hby at_2) rfl ?_
    exact k)
  have j419 : ∃ (T' : State) (h' : Heap) (locs' : List Loc) (vm' : Vm) (k' : Nat) (i4 : Int32) (c5 : Addr) (s6 : Addr), Stand p l e room_1 (s.setVm vm') m #[(.int p0), (.int p1), (.int p2), (.int p3)] below meth c T' locs' 4 10 ∧ T'.heap = h' ∧ Fr n0 locs' ∧ Keep h0 h' [] ∧ Z.Warmed39 (s.setVm vm').vm ∧ (s.setVm vm').vm.findClass "com/example/umq/umq/admin/SelectionAllPinLaw" = some m.cls ∧ s.Since vm' k' ∧ k' ≤ h'.size ∧ CHr Z EL s.vm h0 vm' h' ∧ Exa Z h' s6 "java/lang/String" ∧ ∀ t, Sx p e below T' m 67 #[xvi p0, xvi p1, xvi p2, xvi p3, xvi i4, xvr c5, xun, xun] [xwr s6] t → TG t := by
    rcases own_and3 p0 with hk420 | hk420 | hk420 | hk420
    · obtain ⟨T421, h421, k421, X421, e421, E421, A421, st421⟩ := newP (aty := .char) X0 hx hZ (w_0 hw) e0 (g := (mkF m 7 #[xvi p0, xvi p1, xvi p2, xvi p3, xvi (0 : Int32), xun, xun, xun] [xwi (0 : Int32)])) rfl (hb hby at_7) rfl (by decide) (cap := 0) (by decide) (by decide) (by decide) (by decide)
      obtain ⟨b421, g421⟩ : ∃ z, z = h0.size := ⟨_, rfl⟩
      rw [← g421] at A421 st421
      have ch423 := CHr.ext E421 C0.1
      have C422 := C0.trans ch423
      have V421 : Arv Z h421 b421 k421 .char (0 : Int32) [] (.int (0 : Int32)) := Arv.new A421 (by decide)
      obtain ⟨T424, h424, X424, e424, E424, A424, D424, -, st424⟩ := newO X421 hx hZ hown (w_1 hw) (w_2 hw) (w_3 hw) e421 (g := (mkF m 58 #[xvi p0, xvi p1, xvi p2, xvi p3, xvi (0 : Int32), xvr b421, xun, xun] [])) rfl (hb hby at_58) (by decide) (by decide)
      obtain ⟨b424, g424⟩ : ∃ z, z = h421.size := ⟨_, rfl⟩
      rw [← g424] at A424 D424 st424
      have ch426 := CHr.ext E424 C422.1
      have C425 := C422.trans ch426
      have Fb424_value : Fld Z h424 b424 "java/lang/String" "value" "[B" .null := D424 (Or.inr (w_16 hw)) (ty := (.array .byte)) (by decide)
      have Fb424_coder : Fld Z h424 b424 "java/lang/String" "coder" "B" (.int (0 : Int32)) := D424 (Or.inr (w_17 hw)) (ty := .byte) (by decide)
      have f427 := (V421.ext E424)
      have Ol428 : Old Z n0 h424 := ((X00.ext E421).ext E424)
      obtain ⟨_, _, ⟨T429, L429, k429, n429⟩, -, X429, hS429, g429, ⟨Lc429, hQ429, l429, y429, z429, CH429⟩, st429⟩ := X424.specialBackS hx (y := (⟨"java/lang/String", "<init>", "([C)V"⟩ : MethodName)) rfl hown (mvT hZ (w_4 hw)) (mvT hZ (w_5 hw)) (mvT hZ (w_6 hw)) (by decide) (backOfSH (W := 1) (rmE1 l Z a0 hw G ST [] b424 b421 k421 ([] : List Value) (.int (0 : Int32)) h424 n0 Ol428 A424 Fb424_value Fb424_coder (Nat.le_trans Z0 (Nat.le_trans E421.1 (Nat.le_of_eq g424.symm))) f427) hZ (w_6 hw) (w_3 hw) (by decide) (by decide) (own_EW hw) C425.1) (g := (mkF m 64 #[xvi p0, xvi p1, xvi p2, xvi p3, xvi (0 : Int32), xvr b421, xun, xun] [xwr b421, xwr b424, xwr b424])) rfl (by rw [hml]; rfl) (Steps.refl _) (a := b424) (argsL := [(.ref b421)]) (rest := [(.ref b424)]) (lenOf pd_4 rfl) rfl (by show 2 * 0 + _ ≤ _; exact Nat.le_of_eq rfl) (hb hby at_64) (fun _ _ => ⟨rfl, e424, (by decide : 2 + 2 ≤ _), (by decide : 4 + 4 ≤ _)⟩)
      dsimp only [Pt.U, Pt.locs, Pt.cells, Pt.slots] at X429 l429 y429 z429 st429 hQ429 CH429 hS429 g429
      subst l429 y429 z429
      obtain ⟨hp429, e429⟩ : ∃ z, T429.heap = z := ⟨_, rfl⟩
      rw [e429] at hQ429 CH429 hS429 g429
      rw [e424] at g429
      obtain ⟨X429, hS429, hZ429, hown429⟩ := rebS hS0 (Nat.le_trans E421.1 E424.1) X429 hS429 g429 hZ hown
      obtain ⟨o430, o431, rfl, N429q, K429, p432, p433, p434, p435⟩ := hQ429
      have N429 := Fr.app N0 N429q
      have C436 := C425.trans CH429
      refine ⟨T429, hp429, _, T429.vm, _, (0 : Int32), b421, b424, own_wid X429 (by decide : 4 ≤ 4) (by decide : 8 ≤ 10), e429, N429, ((((Keep.refl h0 []).ext E421).ext E424).trans K429 (allS (Or.inr (Nat.le_trans E421.1 (Nat.le_of_eq g424.symm))) all0)), hZ429, hown429, hS429, (Nat.le_refl _), ((ch423.trans ch426).trans CH429), p432, fun t k => c418 t ?_⟩
      rw [hk420]
      refine XS.istore X0.here hx rfl (hb hby at_3) rfl (l' := #[xvi p0, xvi p1, xvi p2, xvi p3, xvi (0 : Int32), xun, xun, xun]) rfl ?_
      show Sx p e below s₁ m 5 #[xvi p0, xvi p1, xvi p2, xvi p3, xvi (0 : Int32), xun, xun, xun] [] _
      refine y_iload X0 hx 7 (hb hby at_5) rfl rfl ?_
      refine st421 _ ?_
      show Sx p e below T421 m 9 #[xvi p0, xvi p1, xvi p2, xvi p3, xvi (0 : Int32), xun, xun, xun] [xwr b421] _
      refine XS.astore X421.here hx rfl (hb hby at_9) rfl rfl (l' := #[xvi p0, xvi p1, xvi p2, xvi p3, xvi (0 : Int32), xvr b421, xun, xun]) rfl ?_
      show Sx p e below T421 m 11 #[xvi p0, xvi p1, xvi p2, xvi p3, xvi (0 : Int32), xvr b421, xun, xun] [] _
      refine y_iload X421 hx 13 (hb hby at_11) rfl rfl ?_
      refine y_ifYes X421 hx 26 (hb hby at_13) (XT.i0_le_t (by decide)) (by decide) (by decide) ?_
      refine y_iload X421 hx 28 (hb hby at_26) rfl rfl ?_
      refine y_iconst X421 hx (1 : Int32) 29 (hb hby at_28) rfl rfl ?_
      refine y_icmpYes X421 hx 42 (hb hby at_29) (XT.ii_le_t (by decide)) (by decide) (by decide) ?_
      refine y_iload X421 hx 44 (hb hby at_42) rfl rfl ?_
      refine y_iconst X421 hx (2 : Int32) 45 (hb hby at_44) rfl rfl ?_
      refine y_icmpYes X421 hx 58 (hb hby at_45) (XT.ii_le_t (by decide)) (by decide) (by decide) ?_
      refine st424 _ ?_
      show Sx p e below T424 m 61 #[xvi p0, xvi p1, xvi p2, xvi p3, xvi (0 : Int32), xvr b421, xun, xun] [xwr b424] _
      refine y_dup X424 hx 62 (hb hby at_61) rfl rfl ?_
      refine y_aload X424 hx 64 (hb hby at_62) rfl rfl rfl ?_
      refine st429.trans ?_
      show Sx p e below T429 m 67 #[xvi p0, xvi p1, xvi p2, xvi p3, xvi (0 : Int32), xvr b421, xun, xun] [xwr b424] _
      exact k
    · obtain ⟨T437, h437, k437, X437, e437, E437, A437, st437⟩ := newP (aty := .char) X0 hx hZ (w_0 hw) e0 (g := (mkF m 7 #[xvi p0, xvi p1, xvi p2, xvi p3, xvi (1 : Int32), xun, xun, xun] [xwi (1 : Int32)])) rfl (hb hby at_7) rfl (by decide) (cap := 1) (by decide) (by decide) (by decide) (by decide)
      obtain ⟨b437, g437⟩ : ∃ z, z = h0.size := ⟨_, rfl⟩
      rw [← g437] at A437 st437
      have ch439 := CHr.ext E437 C0.1
      have C438 := C0.trans ch439
      have V437 : Arv Z h437 b437 k437 .char (1 : Int32) [(.int (0 : Int32))] (.int (0 : Int32)) := (Arv.new A437 (by decide)).pad (pad_rep [] (.int (0 : Int32)) 1)
      obtain ⟨cl440, Ar440, q440, S440, M440, H440, G440⟩ := id V437
      have in440 : ¬ ((0 : Int32) < 0 ∨ cl440.slots.size ≤ ((0 : Int32)).toNatClampNeg) := inb_of S440 ⟨by decide, by decide⟩
      obtain ⟨T441, h441, X441, e441, W441, st441⟩ := stC X437 hx hZ e437 Ar440 (j := (0 : Int32)) in440 (g := (mkF m 25 #[xvi p0, xvi p1, xvi p2, xvi p3, xvi (1 : Int32), xvr b437, xun, xun] [xwi (p1 &&& (255 : Int32)), xwi (0 : Int32), xwr b437])) rfl rfl (hb hby at_25)
      have ch443 := CHr.wr W441 (Safe.arv hZ.alike V437 (by decide)) C438.1
      have C442 := C438.trans ch443
      have V441 : Arv Z h441 b437 k437 .char (1 : Int32) [(.int (p1 &&& (255 : Int32)))] (.int (0 : Int32)) := by have q := Arv.set Ar440 q440 S440 M440 H440 G440 (fits_nar_char _) W441 0 rfl (Nat.le_of_ble_eq_true rfl); rw [own_narc (own_c255 p1)] at q; exact q
      have N441 := Fr.snoc X441 N0 (Nat.le_trans Z0 (Nat.le_trans (Nat.le_refl _) (Nat.le_of_eq g437.symm)))
      obtain ⟨T444, h444, X444, e444, E444, A444, D444, -, st444⟩ := newO X441 hx hZ hown (w_1 hw) (w_2 hw) (w_3 hw) e441 (g := (mkF m 58 #[xvi p0, xvi p1, xvi p2, xvi p3, xvi (1 : Int32), xvr b437, xun, xun] [])) rfl (hb hby at_58) (by decide) (by decide)
      obtain ⟨b444, g444⟩ : ∃ z, z = h441.size := ⟨_, rfl⟩
      rw [← g444] at A444 D444 st444
      have ch446 := CHr.ext E444 C442.1
      have C445 := C442.trans ch446
      have Fb444_value : Fld Z h444 b444 "java/lang/String" "value" "[B" .null := D444 (Or.inr (w_16 hw)) (ty := (.array .byte)) (by decide)
      have Fb444_coder : Fld Z h444 b444 "java/lang/String" "coder" "B" (.int (0 : Int32)) := D444 (Or.inr (w_17 hw)) (ty := .byte) (by decide)
      have hp447 : ∀ c ∈ ([(p1 &&& (255 : Int32))] : List Int32), ¬ c < 0 ∧ ¬ (255 : Int32) < c := by
        intro c hc
        simp only [List.mem_cons, List.not_mem_nil, or_false] at hc
        subst hc
        exact (own_c255 p1)
      have f448 := (V441.ext E444)
      have Ol449 : Old Z n0 h444 := (((X00.ext E437).wr W441 (Nat.le_trans Z0 (Nat.le_trans (Nat.le_refl _) (Nat.le_of_eq g437.symm)))).ext E444)
      obtain ⟨_, _, ⟨T450, L450, k450, n450⟩, -, X450, ⟨Lc450, hQ450, l450, y450, z450⟩, st450⟩ := X444.specialBack hx (y := (⟨"java/lang/String", "<init>", "([C)V"⟩ : MethodName)) rfl hown (mvT hZ (w_4 hw)) (mvT hZ (w_5 hw)) (mvT hZ (w_6 hw)) (by decide) (StrChars.Road.backV (W := 1) hZ (own_wV hw) (kI := 4) (w_2 hw) (cs := ([(p1 &&& (255 : Int32))] : List Int32)) (bs := (([(p1 &&& (255 : Int32))] : List Int32).map (fun c => c.toInt8.toInt32))) (n := 1) (Nat.le_trans Z0 (Nat.le_trans (Nat.le_trans E437.1 (Nat.le_of_eq W441.size.symm)) (Nat.le_of_eq g444.symm))) (Nat.le_trans Z0 (Nat.le_trans (Nat.le_trans E437.1 (Nat.le_of_eq W441.size.symm)) E444.1)) A444 Fb444_value Fb444_coder f448 (ST.1.ext Ol449.2) ST.2.1 rfl rfl (by decide) (by decide) hp447 rfl (by decide) (by decide)) (g := (mkF m 64 #[xvi p0, xvi p1, xvi p2, xvi p3, xvi (1 : Int32), xvr b437, xun, xun] [xwr b437, xwr b444, xwr b444])) rfl (by rw [hml]; rfl) (Steps.refl _) (a := b444) (argsL := [(.ref b437)]) (rest := [(.ref b444)]) (lenOf pd_4 rfl) rfl (by show 2 * 0 + _ ≤ _; exact Nat.le_of_eq rfl) (hb hby at_64) (fun _ _ => ⟨rfl, e444, (by decide : 2 + 1 ≤ _), (by decide : 5 + 1 ≤ _)⟩)
      dsimp only [Pt.U, Pt.locs, Pt.cells, Pt.slots] at X450 l450 y450 z450 st450 hQ450
      subst l450 y450 z450
      obtain ⟨hp450, e450⟩ : ∃ z, T450.heap = z := ⟨_, rfl⟩
      rw [e450] at hQ450
      obtain ⟨rfl, N450q, K450, E450, Fc450, t450, kb450, -, gt450, -, Fv450, V450⟩ := hQ450
      have N450 := Fr.app N441 N450q
      have sf453 := (Safe.ext E444 C442.1 (Safe.new (Nat.le_of_eq g444.symm)))
      have ch452 := CHr.keep K450 (sfS sf453 sf0) C445.1
      have C451 := C445.trans ch452
      refine ⟨T450, hp450, _, s.vm, _, (1 : Int32), b437, b444, own_wid X450 (by decide : 3 ≤ 4) (by decide : 6 ≤ 10), e450, N450, (((((Keep.refl h0 []).ext E437).wr W441 (Or.inr (Nat.le_trans (Nat.le_refl _) (Nat.le_of_eq g437.symm)))).ext E444).trans K450 (allS (Or.inr (Nat.le_trans (Nat.le_trans E437.1 (Nat.le_of_eq W441.size.symm)) (Nat.le_of_eq g444.symm))) all0)), hZ, hown, hS0, (Nat.le_trans (Nat.le_trans (Nat.le_trans E437.1 (Nat.le_of_eq W441.size.symm)) E444.1) K450.1), (((ch439.trans ch443).trans ch446).trans ch452), E450, fun t k => c418 t ?_⟩
      rw [hk420]
      refine XS.istore X0.here hx rfl (hb hby at_3) rfl (l' := #[xvi p0, xvi p1, xvi p2, xvi p3, xvi (1 : Int32), xun, xun, xun]) rfl ?_
      show Sx p e below s₁ m 5 #[xvi p0, xvi p1, xvi p2, xvi p3, xvi (1 : Int32), xun, xun, xun] [] _
      refine y_iload X0 hx 7 (hb hby at_5) rfl rfl ?_
      refine st437 _ ?_
      show Sx p e below T437 m 9 #[xvi p0, xvi p1, xvi p2, xvi p3, xvi (1 : Int32), xun, xun, xun] [xwr b437] _
      refine XS.astore X437.here hx rfl (hb hby at_9) rfl rfl (l' := #[xvi p0, xvi p1, xvi p2, xvi p3, xvi (1 : Int32), xvr b437, xun, xun]) rfl ?_
      show Sx p e below T437 m 11 #[xvi p0, xvi p1, xvi p2, xvi p3, xvi (1 : Int32), xvr b437, xun, xun] [] _
      refine y_iload X437 hx 13 (hb hby at_11) rfl rfl ?_
      refine y_ifNo X437 hx 16 (hb hby at_13) (XT.i0_le_f (by decide)) rfl ?_
      refine y_aload X437 hx 18 (hb hby at_16) rfl rfl rfl ?_
      refine y_iconst X437 hx (0 : Int32) 19 (hb hby at_18) rfl rfl ?_
      refine y_iloadN X437 hx 20 (hb hby at_19) rfl rfl ?_
      refine y_sipush X437 hx (255 : Int32) 23 (hb hby at_20) rfl rfl ?_
      refine y_iand X437 hx 24 (hb hby at_23) rfl ?_
      refine XS.i2c X437.here hx rfl (hb hby at_24) rfl ?_
      show Sx p e below T437 m 25 #[xvi p0, xvi p1, xvi p2, xvi p3, xvi (1 : Int32), xvr b437, xun, xun] [xwi ((p1 &&& (255 : Int32)).toUInt32.toUInt16.toUInt32.toInt32), xwi (0 : Int32), xwr b437] _
      rw [own_i2c p1]
      refine st441 _ ?_
      show Sx p e below T441 m 26 #[xvi p0, xvi p1, xvi p2, xvi p3, xvi (1 : Int32), xvr b437, xun, xun] [] _
      refine y_iload X441 hx 28 (hb hby at_26) rfl rfl ?_
      refine y_iconst X441 hx (1 : Int32) 29 (hb hby at_28) rfl rfl ?_
      refine y_icmpYes X441 hx 42 (hb hby at_29) (XT.ii_le_t (by decide)) (by decide) (by decide) ?_
      refine y_iload X441 hx 44 (hb hby at_42) rfl rfl ?_
      refine y_iconst X441 hx (2 : Int32) 45 (hb hby at_44) rfl rfl ?_
      refine y_icmpYes X441 hx 58 (hb hby at_45) (XT.ii_le_t (by decide)) (by decide) (by decide) ?_
      refine st444 _ ?_
      show Sx p e below T444 m 61 #[xvi p0, xvi p1, xvi p2, xvi p3, xvi (1 : Int32), xvr b437, xun, xun] [xwr b444] _
      refine y_dup X444 hx 62 (hb hby at_61) rfl rfl ?_
      refine y_aload X444 hx 64 (hb hby at_62) rfl rfl rfl ?_
      refine st450.trans ?_
      show Sx p e below T450 m 67 #[xvi p0, xvi p1, xvi p2, xvi p3, xvi (1 : Int32), xvr b437, xun, xun] [xwr b444] _
      exact k
    · obtain ⟨T454, h454, k454, X454, e454, E454, A454, st454⟩ := newP (aty := .char) X0 hx hZ (w_0 hw) e0 (g := (mkF m 7 #[xvi p0, xvi p1, xvi p2, xvi p3, xvi (2 : Int32), xun, xun, xun] [xwi (2 : Int32)])) rfl (hb hby at_7) rfl (by decide) (cap := 2) (by decide) (by decide) (by decide) (by decide)
      obtain ⟨b454, g454⟩ : ∃ z, z = h0.size := ⟨_, rfl⟩
      rw [← g454] at A454 st454
      have ch456 := CHr.ext E454 C0.1
      have C455 := C0.trans ch456
      have V454 : Arv Z h454 b454 k454 .char (2 : Int32) [(.int (0 : Int32)), (.int (0 : Int32))] (.int (0 : Int32)) := (Arv.new A454 (by decide)).pad (pad_rep [] (.int (0 : Int32)) 2)
      obtain ⟨cl457, Ar457, q457, S457, M457, H457, G457⟩ := id V454
      have in457 : ¬ ((0 : Int32) < 0 ∨ cl457.slots.size ≤ ((0 : Int32)).toNatClampNeg) := inb_of S457 ⟨by decide, by decide⟩
      obtain ⟨T458, h458, X458, e458, W458, st458⟩ := stC X454 hx hZ e454 Ar457 (j := (0 : Int32)) in457 (g := (mkF m 25 #[xvi p0, xvi p1, xvi p2, xvi p3, xvi (2 : Int32), xvr b454, xun, xun] [xwi (p1 &&& (255 : Int32)), xwi (0 : Int32), xwr b454])) rfl rfl (hb hby at_25)
      have ch460 := CHr.wr W458 (Safe.arv hZ.alike V454 (by decide)) C455.1
      have C459 := C455.trans ch460
      have V458 : Arv Z h458 b454 k454 .char (2 : Int32) [(.int (p1 &&& (255 : Int32))), (.int (0 : Int32))] (.int (0 : Int32)) := by have q := Arv.set Ar457 q457 S457 M457 H457 G457 (fits_nar_char _) W458 0 rfl (Nat.le_of_ble_eq_true rfl); rw [own_narc (own_c255 p1)] at q; exact q
      have N458 := Fr.snoc X458 N0 (Nat.le_trans Z0 (Nat.le_trans (Nat.le_refl _) (Nat.le_of_eq g454.symm)))
      obtain ⟨cl461, Ar461, q461, S461, M461, H461, G461⟩ := id V458
      have in461 : ¬ ((1 : Int32) < 0 ∨ cl461.slots.size ≤ ((1 : Int32)).toNatClampNeg) := inb_of S461 ⟨by decide, by decide⟩
      obtain ⟨T462, h462, X462, e462, W462, st462⟩ := stC X458 hx hZ e458 Ar461 (j := (1 : Int32)) in461 (g := (mkF m 41 #[xvi p0, xvi p1, xvi p2, xvi p3, xvi (2 : Int32), xvr b454, xun, xun] [xwi (p2 &&& (255 : Int32)), xwi (1 : Int32), xwr b454])) rfl rfl (hb hby at_41)
      have ch464 := CHr.wr W462 (Safe.arv hZ.alike V458 (by decide)) C459.1
      have C463 := C459.trans ch464
      have V462 : Arv Z h462 b454 k454 .char (2 : Int32) [(.int (p1 &&& (255 : Int32))), (.int (p2 &&& (255 : Int32)))] (.int (0 : Int32)) := by have q := Arv.set Ar461 q461 S461 M461 H461 G461 (fits_nar_char _) W462 1 rfl (Nat.le_of_ble_eq_true rfl); rw [own_narc (own_c255 p2)] at q; exact q
      have N462 := Fr.snoc X462 N458 (Nat.le_trans Z0 (Nat.le_trans (Nat.le_refl _) (Nat.le_of_eq g454.symm)))
      obtain ⟨T465, h465, X465, e465, E465, A465, D465, -, st465⟩ := newO X462 hx hZ hown (w_1 hw) (w_2 hw) (w_3 hw) e462 (g := (mkF m 58 #[xvi p0, xvi p1, xvi p2, xvi p3, xvi (2 : Int32), xvr b454, xun, xun] [])) rfl (hb hby at_58) (by decide) (by decide)
      obtain ⟨b465, g465⟩ : ∃ z, z = h462.size := ⟨_, rfl⟩
      rw [← g465] at A465 D465 st465
      have ch467 := CHr.ext E465 C463.1
      have C466 := C463.trans ch467
      have Fb465_value : Fld Z h465 b465 "java/lang/String" "value" "[B" .null := D465 (Or.inr (w_16 hw)) (ty := (.array .byte)) (by decide)
      have Fb465_coder : Fld Z h465 b465 "java/lang/String" "coder" "B" (.int (0 : Int32)) := D465 (Or.inr (w_17 hw)) (ty := .byte) (by decide)
      have hp468 : ∀ c ∈ ([(p1 &&& (255 : Int32)), (p2 &&& (255 : Int32))] : List Int32), ¬ c < 0 ∧ ¬ (255 : Int32) < c := by
        intro c hc
        simp only [List.mem_cons, List.not_mem_nil, or_false] at hc
        rcases hc with rfl | rfl
        · exact (own_c255 p1)
        · exact (own_c255 p2)
      have f469 := (V462.ext E465)
      have Ol470 : Old Z n0 h465 := ((((X00.ext E454).wr W458 (Nat.le_trans Z0 (Nat.le_trans (Nat.le_refl _) (Nat.le_of_eq g454.symm)))).wr W462 (Nat.le_trans Z0 (Nat.le_trans (Nat.le_refl _) (Nat.le_of_eq g454.symm)))).ext E465)
      obtain ⟨_, _, ⟨T471, L471, k471, n471⟩, -, X471, ⟨Lc471, hQ471, l471, y471, z471⟩, st471⟩ := X465.specialBack hx (y := (⟨"java/lang/String", "<init>", "([C)V"⟩ : MethodName)) rfl hown (mvT hZ (w_4 hw)) (mvT hZ (w_5 hw)) (mvT hZ (w_6 hw)) (by decide) (StrChars.Road.backV (W := 1) hZ (own_wV hw) (kI := 4) (w_2 hw) (cs := ([(p1 &&& (255 : Int32)), (p2 &&& (255 : Int32))] : List Int32)) (bs := (([(p1 &&& (255 : Int32)), (p2 &&& (255 : Int32))] : List Int32).map (fun c => c.toInt8.toInt32))) (n := 2) (Nat.le_trans Z0 (Nat.le_trans (Nat.le_trans (Nat.le_trans E454.1 (Nat.le_of_eq W458.size.symm)) (Nat.le_of_eq W462.size.symm)) (Nat.le_of_eq g465.symm))) (Nat.le_trans Z0 (Nat.le_trans (Nat.le_trans (Nat.le_trans E454.1 (Nat.le_of_eq W458.size.symm)) (Nat.le_of_eq W462.size.symm)) E465.1)) A465 Fb465_value Fb465_coder f469 (ST.1.ext Ol470.2) ST.2.1 rfl rfl (by decide) (by decide) hp468 rfl (by decide) (by decide)) (g := (mkF m 64 #[xvi p0, xvi p1, xvi p2, xvi p3, xvi (2 : Int32), xvr b454, xun, xun] [xwr b454, xwr b465, xwr b465])) rfl (by rw [hml]; rfl) (Steps.refl _) (a := b465) (argsL := [(.ref b454)]) (rest := [(.ref b465)]) (lenOf pd_4 rfl) rfl (by show 2 * 0 + _ ≤ _; exact Nat.le_of_eq rfl) (hb hby at_64) (fun _ _ => ⟨rfl, e465, (by decide : 2 + 1 ≤ _), (by decide : 6 + 2 ≤ _)⟩)
      dsimp only [Pt.U, Pt.locs, Pt.cells, Pt.slots] at X471 l471 y471 z471 st471 hQ471
      subst l471 y471 z471
      obtain ⟨hp471, e471⟩ : ∃ z, T471.heap = z := ⟨_, rfl⟩
      rw [e471] at hQ471
      obtain ⟨rfl, N471q, K471, E471, Fc471, t471, kb471, -, gt471, -, Fv471, V471⟩ := hQ471
      have N471 := Fr.app N462 N471q
      have sf474 := (Safe.ext E465 C463.1 (Safe.new (Nat.le_of_eq g465.symm)))
      have ch473 := CHr.keep K471 (sfS sf474 sf0) C466.1
      have C472 := C466.trans ch473
      refine ⟨T471, hp471, _, s.vm, _, (2 : Int32), b454, b465, own_wid X471 (by decide : 3 ≤ 4) (by decide : 8 ≤ 10), e471, N471, ((((((Keep.refl h0 []).ext E454).wr W458 (Or.inr (Nat.le_trans (Nat.le_refl _) (Nat.le_of_eq g454.symm)))).wr W462 (Or.inr (Nat.le_trans (Nat.le_refl _) (Nat.le_of_eq g454.symm)))).ext E465).trans K471 (allS (Or.inr (Nat.le_trans (Nat.le_trans (Nat.le_trans E454.1 (Nat.le_of_eq W458.size.symm)) (Nat.le_of_eq W462.size.symm)) (Nat.le_of_eq g465.symm))) all0)), hZ, hown, hS0, (Nat.le_trans (Nat.le_trans (Nat.le_trans (Nat.le_trans E454.1 (Nat.le_of_eq W458.size.symm)) (Nat.le_of_eq W462.size.symm)) E465.1) K471.1), ((((ch456.trans ch460).trans ch464).trans ch467).trans ch473), E471, fun t k => c418 t ?_⟩
      rw [hk420]
      refine XS.istore X0.here hx rfl (hb hby at_3) rfl (l' := #[xvi p0, xvi p1, xvi p2, xvi p3, xvi (2 : Int32), xun, xun, xun]) rfl ?_
      show Sx p e below s₁ m 5 #[xvi p0, xvi p1, xvi p2, xvi p3, xvi (2 : Int32), xun, xun, xun] [] _
      refine y_iload X0 hx 7 (hb hby at_5) rfl rfl ?_
      refine st454 _ ?_
      show Sx p e below T454 m 9 #[xvi p0, xvi p1, xvi p2, xvi p3, xvi (2 : Int32), xun, xun, xun] [xwr b454] _
      refine XS.astore X454.here hx rfl (hb hby at_9) rfl rfl (l' := #[xvi p0, xvi p1, xvi p2, xvi p3, xvi (2 : Int32), xvr b454, xun, xun]) rfl ?_
      show Sx p e below T454 m 11 #[xvi p0, xvi p1, xvi p2, xvi p3, xvi (2 : Int32), xvr b454, xun, xun] [] _
      refine y_iload X454 hx 13 (hb hby at_11) rfl rfl ?_
      refine y_ifNo X454 hx 16 (hb hby at_13) (XT.i0_le_f (by decide)) rfl ?_
      refine y_aload X454 hx 18 (hb hby at_16) rfl rfl rfl ?_
      refine y_iconst X454 hx (0 : Int32) 19 (hb hby at_18) rfl rfl ?_
      refine y_iloadN X454 hx 20 (hb hby at_19) rfl rfl ?_
      refine y_sipush X454 hx (255 : Int32) 23 (hb hby at_20) rfl rfl ?_
      refine y_iand X454 hx 24 (hb hby at_23) rfl ?_
      refine XS.i2c X454.here hx rfl (hb hby at_24) rfl ?_
      show Sx p e below T454 m 25 #[xvi p0, xvi p1, xvi p2, xvi p3, xvi (2 : Int32), xvr b454, xun, xun] [xwi ((p1 &&& (255 : Int32)).toUInt32.toUInt16.toUInt32.toInt32), xwi (0 : Int32), xwr b454] _
      rw [own_i2c p1]
      refine st458 _ ?_
      show Sx p e below T458 m 26 #[xvi p0, xvi p1, xvi p2, xvi p3, xvi (2 : Int32), xvr b454, xun, xun] [] _
      refine y_iload X458 hx 28 (hb hby at_26) rfl rfl ?_
      refine y_iconst X458 hx (1 : Int32) 29 (hb hby at_28) rfl rfl ?_
      refine y_icmpNo X458 hx 32 (hb hby at_29) (XT.ii_le_f (by decide)) rfl ?_
      refine y_aload X458 hx 34 (hb hby at_32) rfl rfl rfl ?_
      refine y_iconst X458 hx (1 : Int32) 35 (hb hby at_34) rfl rfl ?_
      refine y_iloadN X458 hx 36 (hb hby at_35) rfl rfl ?_
      refine y_sipush X458 hx (255 : Int32) 39 (hb hby at_36) rfl rfl ?_
      refine y_iand X458 hx 40 (hb hby at_39) rfl ?_
      refine XS.i2c X458.here hx rfl (hb hby at_40) rfl ?_
      show Sx p e below T458 m 41 #[xvi p0, xvi p1, xvi p2, xvi p3, xvi (2 : Int32), xvr b454, xun, xun] [xwi ((p2 &&& (255 : Int32)).toUInt32.toUInt16.toUInt32.toInt32), xwi (1 : Int32), xwr b454] _
      rw [own_i2c p2]
      refine st462 _ ?_
      show Sx p e below T462 m 42 #[xvi p0, xvi p1, xvi p2, xvi p3, xvi (2 : Int32), xvr b454, xun, xun] [] _
      refine y_iload X462 hx 44 (hb hby at_42) rfl rfl ?_
      refine y_iconst X462 hx (2 : Int32) 45 (hb hby at_44) rfl rfl ?_
      refine y_icmpYes X462 hx 58 (hb hby at_45) (XT.ii_le_t (by decide)) (by decide) (by decide) ?_
      refine st465 _ ?_
      show Sx p e below T465 m 61 #[xvi p0, xvi p1, xvi p2, xvi p3, xvi (2 : Int32), xvr b454, xun, xun] [xwr b465] _
      refine y_dup X465 hx 62 (hb hby at_61) rfl rfl ?_
      refine y_aload X465 hx 64 (hb hby at_62) rfl rfl rfl ?_
      refine st471.trans ?_
      show Sx p e below T471 m 67 #[xvi p0, xvi p1, xvi p2, xvi p3, xvi (2 : Int32), xvr b454, xun, xun] [xwr b465] _
      exact k
    · obtain ⟨T475, h475, k475, X475, e475, E475, A475, st475⟩ := newP (aty := .char) X0 hx hZ (w_0 hw) e0 (g := (mkF m 7 #[xvi p0, xvi p1, xvi p2, xvi p3, xvi (3 : Int32), xun, xun, xun] [xwi (3 : Int32)])) rfl (hb hby at_7) rfl (by decide) (cap := 3) (by decide) (by decide) (by decide) (by decide)
      obtain ⟨b475, g475⟩ : ∃ z, z = h0.size := ⟨_, rfl⟩
      rw [← g475] at A475 st475
      have ch477 := CHr.ext E475 C0.1
      have C476 := C0.trans ch477
      have V475 : Arv Z h475 b475 k475 .char (3 : Int32) [(.int (0 : Int32)), (.int (0 : Int32)), (.int (0 : Int32))] (.int (0 : Int32)) := (Arv.new A475 (by decide)).pad (pad_rep [] (.int (0 : Int32)) 3)
      obtain ⟨cl478, Ar478, q478, S478, M478, H478, G478⟩ := id V475
      have in478 : ¬ ((0 : Int32) < 0 ∨ cl478.slots.size ≤ ((0 : Int32)).toNatClampNeg) := inb_of S478 ⟨by decide, by decide⟩
      obtain ⟨T479, h479, X479, e479, W479, st479⟩ := stC X475 hx hZ e475 Ar478 (j := (0 : Int32)) in478 (g := (mkF m 25 #[xvi p0, xvi p1, xvi p2, xvi p3, xvi (3 : Int32), xvr b475, xun, xun] [xwi (p1 &&& (255 : Int32)), xwi (0 : Int32), xwr b475])) rfl rfl (hb hby at_25)
      have ch481 := CHr.wr W479 (Safe.arv hZ.alike V475 (by decide)) C476.1
      have C480 := C476.trans ch481
      have V479 : Arv Z h479 b475 k475 .char (3 : Int32) [(.int (p1 &&& (255 : Int32))), (.int (0 : Int32)), (.int (0 : Int32))] (.int (0 : Int32)) := by have q := Arv.set Ar478 q478 S478 M478 H478 G478 (fits_nar_char _) W479 0 rfl (Nat.le_of_ble_eq_true rfl); rw [own_narc (own_c255 p1)] at q; exact q
      have N479 := Fr.snoc X479 N0 (Nat.le_trans Z0 (Nat.le_trans (Nat.le_refl _) (Nat.le_of_eq g475.symm)))
      obtain ⟨cl482, Ar482, q482, S482, M482, H482, G482⟩ := id V479
      have in482 : ¬ ((1 : Int32) < 0 ∨ cl482.slots.size ≤ ((1 : Int32)).toNatClampNeg) := inb_of S482 ⟨by decide, by decide⟩
      obtain ⟨T483, h483, X483, e483, W483, st483⟩ := stC X479 hx hZ e479 Ar482 (j := (1 : Int32)) in482 (g := (mkF m 41 #[xvi p0, xvi p1, xvi p2, xvi p3, xvi (3 : Int32), xvr b475, xun, xun] [xwi (p2 &&& (255 : Int32)), xwi (1 : Int32), xwr b475])) rfl rfl (hb hby at_41)
      have ch485 := CHr.wr W483 (Safe.arv hZ.alike V479 (by decide)) C480.1
      have C484 := C480.trans ch485
      have V483 : Arv Z h483 b475 k475 .char (3 : Int32) [(.int (p1 &&& (255 : Int32))), (.int (p2 &&& (255 : Int32))), (.int (0 : Int32))] (.int (0 : Int32)) := by have q := Arv.set Ar482 q482 S482 M482 H482 G482 (fits_nar_char _) W483 1 rfl (Nat.le_of_ble_eq_true rfl); rw [own_narc (own_c255 p2)] at q; exact q
      have N483 := Fr.snoc X483 N479 (Nat.le_trans Z0 (Nat.le_trans (Nat.le_refl _) (Nat.le_of_eq g475.symm)))
      obtain ⟨cl486, Ar486, q486, S486, M486, H486, G486⟩ := id V483
      have in486 : ¬ ((2 : Int32) < 0 ∨ cl486.slots.size ≤ ((2 : Int32)).toNatClampNeg) := inb_of S486 ⟨by decide, by decide⟩
      obtain ⟨T487, h487, X487, e487, W487, st487⟩ := stC X483 hx hZ e483 Ar486 (j := (2 : Int32)) in486 (g := (mkF m 57 #[xvi p0, xvi p1, xvi p2, xvi p3, xvi (3 : Int32), xvr b475, xun, xun] [xwi (p3 &&& (255 : Int32)), xwi (2 : Int32), xwr b475])) rfl rfl (hb hby at_57)
      have ch489 := CHr.wr W487 (Safe.arv hZ.alike V483 (by decide)) C484.1
      have C488 := C484.trans ch489
      have V487 : Arv Z h487 b475 k475 .char (3 : Int32) [(.int (p1 &&& (255 : Int32))), (.int (p2 &&& (255 : Int32))), (.int (p3 &&& (255 : Int32)))] (.int (0 : Int32)) := by have q := Arv.set Ar486 q486 S486 M486 H486 G486 (fits_nar_char _) W487 2 rfl (Nat.le_of_ble_eq_true rfl); rw [own_narc (own_c255 p3)] at q; exact q
      have N487 := Fr.snoc X487 N483 (Nat.le_trans Z0 (Nat.le_trans (Nat.le_refl _) (Nat.le_of_eq g475.symm)))
      obtain ⟨T490, h490, X490, e490, E490, A490, D490, -, st490⟩ := newO X487 hx hZ hown (w_1 hw) (w_2 hw) (w_3 hw) e487 (g := (mkF m 58 #[xvi p0, xvi p1, xvi p2, xvi p3, xvi (3 : Int32), xvr b475, xun, xun] [])) rfl (hb hby at_58) (by decide) (by decide)
      obtain ⟨b490, g490⟩ : ∃ z, z = h487.size := ⟨_, rfl⟩
      rw [← g490] at A490 D490 st490
      have ch492 := CHr.ext E490 C488.1
      have C491 := C488.trans ch492
      have Fb490_value : Fld Z h490 b490 "java/lang/String" "value" "[B" .null := D490 (Or.inr (w_16 hw)) (ty := (.array .byte)) (by decide)
      have Fb490_coder : Fld Z h490 b490 "java/lang/String" "coder" "B" (.int (0 : Int32)) := D490 (Or.inr (w_17 hw)) (ty := .byte) (by decide)
      have hp493 : ∀ c ∈ ([(p1 &&& (255 : Int32)), (p2 &&& (255 : Int32)), (p3 &&& (255 : Int32))] : List Int32), ¬ c < 0 ∧ ¬ (255 : Int32) < c := by
        intro c hc
        simp only [List.mem_cons, List.not_mem_nil, or_false] at hc
        rcases hc with rfl | rfl | rfl
        · exact (own_c255 p1)
        · exact (own_c255 p2)
        · exact (own_c255 p3)
      have f494 := (V487.ext E490)
      have Ol495 : Old Z n0 h490 := (((((X00.ext E475).wr W479 (Nat.le_trans Z0 (Nat.le_trans (Nat.le_refl _) (Nat.le_of_eq g475.symm)))).wr W483 (Nat.le_trans Z0 (Nat.le_trans (Nat.le_refl _) (Nat.le_of_eq g475.symm)))).wr W487 (Nat.le_trans Z0 (Nat.le_trans (Nat.le_refl _) (Nat.le_of_eq g475.symm)))).ext E490)
      obtain ⟨_, _, ⟨T496, L496, k496, n496⟩, -, X496, ⟨Lc496, hQ496, l496, y496, z496⟩, st496⟩ := X490.specialBack hx (y := (⟨"java/lang/String", "<init>", "([C)V"⟩ : MethodName)) rfl hown (mvT hZ (w_4 hw)) (mvT hZ (w_5 hw)) (mvT hZ (w_6 hw)) (by decide) (StrChars.Road.backV (W := 1) hZ (own_wV hw) (kI := 4) (w_2 hw) (cs := ([(p1 &&& (255 : Int32)), (p2 &&& (255 : Int32)), (p3 &&& (255 : Int32))] : List Int32)) (bs := (([(p1 &&& (255 : Int32)), (p2 &&& (255 : Int32)), (p3 &&& (255 : Int32))] : List Int32).map (fun c => c.toInt8.toInt32))) (n := 3) (Nat.le_trans Z0 (Nat.le_trans (Nat.le_trans (Nat.le_trans (Nat.le_trans E475.1 (Nat.le_of_eq W479.size.symm)) (Nat.le_of_eq W483.size.symm)) (Nat.le_of_eq W487.size.symm)) (Nat.le_of_eq g490.symm))) (Nat.le_trans Z0 (Nat.le_trans (Nat.le_trans (Nat.le_trans (Nat.le_trans E475.1 (Nat.le_of_eq W479.size.symm)) (Nat.le_of_eq W483.size.symm)) (Nat.le_of_eq W487.size.symm)) E490.1)) A490 Fb490_value Fb490_coder f494 (ST.1.ext Ol495.2) ST.2.1 rfl rfl (by decide) (by decide) hp493 rfl (by decide) (by decide)) (g := (mkF m 64 #[xvi p0, xvi p1, xvi p2, xvi p3, xvi (3 : Int32), xvr b475, xun, xun] [xwr b475, xwr b490, xwr b490])) rfl (by rw [hml]; rfl) (Steps.refl _) (a := b490) (argsL := [(.ref b475)]) (rest := [(.ref b490)]) (lenOf pd_4 rfl) rfl (by show 2 * 0 + _ ≤ _; exact Nat.le_of_eq rfl) (hb hby at_64) (fun _ _ => ⟨rfl, e490, (by decide : 2 + 1 ≤ _), (by decide : 7 + 3 ≤ _)⟩)
      dsimp only [Pt.U, Pt.locs, Pt.cells, Pt.slots] at X496 l496 y496 z496 st496 hQ496
      subst l496 y496 z496
      obtain ⟨hp496, e496⟩ : ∃ z, T496.heap = z := ⟨_, rfl⟩
      rw [e496] at hQ496
      obtain ⟨rfl, N496q, K496, E496, Fc496, t496, kb496, -, gt496, -, Fv496, V496⟩ := hQ496
      have N496 := Fr.app N487 N496q
      have sf499 := (Safe.ext E490 C488.1 (Safe.new (Nat.le_of_eq g490.symm)))
      have ch498 := CHr.keep K496 (sfS sf499 sf0) C491.1
      have C497 := C491.trans ch498
      refine ⟨T496, hp496, _, s.vm, _, (3 : Int32), b475, b490, own_wid X496 (by decide : 3 ≤ 4) (by decide : 10 ≤ 10), e496, N496, (((((((Keep.refl h0 []).ext E475).wr W479 (Or.inr (Nat.le_trans (Nat.le_refl _) (Nat.le_of_eq g475.symm)))).wr W483 (Or.inr (Nat.le_trans (Nat.le_refl _) (Nat.le_of_eq g475.symm)))).wr W487 (Or.inr (Nat.le_trans (Nat.le_refl _) (Nat.le_of_eq g475.symm)))).ext E490).trans K496 (allS (Or.inr (Nat.le_trans (Nat.le_trans (Nat.le_trans (Nat.le_trans E475.1 (Nat.le_of_eq W479.size.symm)) (Nat.le_of_eq W483.size.symm)) (Nat.le_of_eq W487.size.symm)) (Nat.le_of_eq g490.symm))) all0)), hZ, hown, hS0, (Nat.le_trans (Nat.le_trans (Nat.le_trans (Nat.le_trans (Nat.le_trans E475.1 (Nat.le_of_eq W479.size.symm)) (Nat.le_of_eq W483.size.symm)) (Nat.le_of_eq W487.size.symm)) E490.1) K496.1), (((((ch477.trans ch481).trans ch485).trans ch489).trans ch492).trans ch498), E496, fun t k => c418 t ?_⟩
      rw [hk420]
      refine XS.istore X0.here hx rfl (hb hby at_3) rfl (l' := #[xvi p0, xvi p1, xvi p2, xvi p3, xvi (3 : Int32), xun, xun, xun]) rfl ?_
      show Sx p e below s₁ m 5 #[xvi p0, xvi p1, xvi p2, xvi p3, xvi (3 : Int32), xun, xun, xun] [] _
      refine y_iload X0 hx 7 (hb hby at_5) rfl rfl ?_
      refine st475 _ ?_
      show Sx p e below T475 m 9 #[xvi p0, xvi p1, xvi p2, xvi p3, xvi (3 : Int32), xun, xun, xun] [xwr b475] _
      refine XS.astore X475.here hx rfl (hb hby at_9) rfl rfl (l' := #[xvi p0, xvi p1, xvi p2, xvi p3, xvi (3 : Int32), xvr b475, xun, xun]) rfl ?_
      show Sx p e below T475 m 11 #[xvi p0, xvi p1, xvi p2, xvi p3, xvi (3 : Int32), xvr b475, xun, xun] [] _
      refine y_iload X475 hx 13 (hb hby at_11) rfl rfl ?_
      refine y_ifNo X475 hx 16 (hb hby at_13) (XT.i0_le_f (by decide)) rfl ?_
      refine y_aload X475 hx 18 (hb hby at_16) rfl rfl rfl ?_
      refine y_iconst X475 hx (0 : Int32) 19 (hb hby at_18) rfl rfl ?_
      refine y_iloadN X475 hx 20 (hb hby at_19) rfl rfl ?_
      refine y_sipush X475 hx (255 : Int32) 23 (hb hby at_20) rfl rfl ?_
      refine y_iand X475 hx 24 (hb hby at_23) rfl ?_
      refine XS.i2c X475.here hx rfl (hb hby at_24) rfl ?_
      show Sx p e below T475 m 25 #[xvi p0, xvi p1, xvi p2, xvi p3, xvi (3 : Int32), xvr b475, xun, xun] [xwi ((p1 &&& (255 : Int32)).toUInt32.toUInt16.toUInt32.toInt32), xwi (0 : Int32), xwr b475] _
      rw [own_i2c p1]
      refine st479 _ ?_
      show Sx p e below T479 m 26 #[xvi p0, xvi p1, xvi p2, xvi p3, xvi (3 : Int32), xvr b475, xun, xun] [] _
      refine y_iload X479 hx 28 (hb hby at_26) rfl rfl ?_
      refine y_iconst X479 hx (1 : Int32) 29 (hb hby at_28) rfl rfl ?_
      refine y_icmpNo X479 hx 32 (hb hby at_29) (XT.ii_le_f (by decide)) rfl ?_
      refine y_aload X479 hx 34 (hb hby at_32) rfl rfl rfl ?_
      refine y_iconst X479 hx (1 : Int32) 35 (hb hby at_34) rfl rfl ?_
      refine y_iloadN X479 hx 36 (hb hby at_35) rfl rfl ?_
      refine y_sipush X479 hx (255 : Int32) 39 (hb hby at_36) rfl rfl ?_
      refine y_iand X479 hx 40 (hb hby at_39) rfl ?_
      refine XS.i2c X479.here hx rfl (hb hby at_40) rfl ?_
      show Sx p e below T479 m 41 #[xvi p0, xvi p1, xvi p2, xvi p3, xvi (3 : Int32), xvr b475, xun, xun] [xwi ((p2 &&& (255 : Int32)).toUInt32.toUInt16.toUInt32.toInt32), xwi (1 : Int32), xwr b475] _
      rw [own_i2c p2]
      refine st483 _ ?_
      show Sx p e below T483 m 42 #[xvi p0, xvi p1, xvi p2, xvi p3, xvi (3 : Int32), xvr b475, xun, xun] [] _
      refine y_iload X483 hx 44 (hb hby at_42) rfl rfl ?_
      refine y_iconst X483 hx (2 : Int32) 45 (hb hby at_44) rfl rfl ?_
      refine y_icmpNo X483 hx 48 (hb hby at_45) (XT.ii_le_f (by decide)) rfl ?_
      refine y_aload X483 hx 50 (hb hby at_48) rfl rfl rfl ?_
      refine y_iconst X483 hx (2 : Int32) 51 (hb hby at_50) rfl rfl ?_
      refine y_iloadN X483 hx 52 (hb hby at_51) rfl rfl ?_
      refine y_sipush X483 hx (255 : Int32) 55 (hb hby at_52) rfl rfl ?_
      refine y_iand X483 hx 56 (hb hby at_55) rfl ?_
      refine XS.i2c X483.here hx rfl (hb hby at_56) rfl ?_
      show Sx p e below T483 m 57 #[xvi p0, xvi p1, xvi p2, xvi p3, xvi (3 : Int32), xvr b475, xun, xun] [xwi ((p3 &&& (255 : Int32)).toUInt32.toUInt16.toUInt32.toInt32), xwi (2 : Int32), xwr b475] _
      rw [own_i2c p3]
      refine st487 _ ?_
      show Sx p e below T487 m 58 #[xvi p0, xvi p1, xvi p2, xvi p3, xvi (3 : Int32), xvr b475, xun, xun] [] _
      refine st490 _ ?_
      show Sx p e below T490 m 61 #[xvi p0, xvi p1, xvi p2, xvi p3, xvi (3 : Int32), xvr b475, xun, xun] [xwr b490] _
      refine y_dup X490 hx 62 (hb hby at_61) rfl rfl ?_
      refine y_aload X490 hx 64 (hb hby at_62) rfl rfl rfl ?_
      refine st496.trans ?_
      show Sx p e below T496 m 67 #[xvi p0, xvi p1, xvi p2, xvi p3, xvi (3 : Int32), xvr b475, xun, xun] [xwr b490] _
      exact k
  obtain ⟨T419, h419, locs419, vm419, kk419, o500, o501, o502, X419, e419, N419, K419, hZ419, hown419, hS419, hk419, CH419, p503, c419⟩ := j419
  have C504 := C0.trans CH419
  have Ol505 : Old Z n0 h419 := (X00.keep K419 all0)
  obtain ⟨_, _, ⟨T506, L506, k506, n506⟩, -, X506, hS506, g506, ⟨Lc506, hQ506, l506, y506, z506, CH506⟩, st506⟩ := callSS X419 hx (y := (⟨"com/example/umq/umq/admin/Selection", "all", "(Ljava/lang/String;)Lcom/example/umq/umq/admin/Selection;"⟩ : MethodName)) hown419 (mvT hZ419 (w_22 hw)) (mvT hZ419 (w_23 hw)) (mvT hZ419 (w_24 hw)) (mvT hZ419 (w_25 hw)) (by decide) (backOfSH (W := 0) (rmAll l Z a0 hw G ST [] o502 h419 n0 Ol505 p503) hZ419 (w_25 hw) (w_24 hw) (by decide) (by decide) (own_EW hw) C504.1) (g := (mkF m 71 #[xvi p0, xvi p1, xvi p2, xvi p3, xvi o500, xvr o501, xvr o502, xun] [xwr o502])) rfl (by rw [hml]; rfl) (argsL := [(.ref o502)]) (rest := []) (lenOf pd_5 rfl) rfl (by show 2 * 0 + _ ≤ _; exact Nat.le_of_eq rfl) (hb hby at_71) (fun _ _ => ⟨rfl, e419, (by decide : 4 + 3 ≤ _), (by decide : 10 + 87 ≤ _)⟩)
  dsimp only [Pt.U, Pt.locs, Pt.cells, Pt.slots] at X506 l506 y506 z506 st506 hQ506 CH506 hS506 g506
  subst l506 y506 z506
  obtain ⟨hp506, e506⟩ : ∃ z, T506.heap = z := ⟨_, rfl⟩
  rw [e506] at hQ506 CH506 hS506 g506
  rw [e419] at g506
  obtain ⟨X506, hS506, hZ506, hown506⟩ := rebS hS419 hk419 X506 hS506 g506 hZ419 hown419
  obtain ⟨o507, rfl, N506q, K506, p508, p509, p510, p511, p512⟩ := hQ506
  have N506 := Fr.app N419 N506q
  have C513 := C504.trans CH506
  have Ol514 : Old Z n0 hp506 := (Ol505.keep K506 all0)
  obtain ⟨cq516, kq516, q516a, q516b, q516c⟩ := isOf hZ506 e506 p509
  obtain ⟨_, _, ⟨T515, L515, k515, n515⟩, -, X515, ⟨Lc515, hQ515, l515, y515, z515⟩, st515⟩ := X506.virtualBack hx (y := (⟨"com/example/umq/umq/admin/Selection", "level", "()Ljava/lang/String;"⟩ : MethodName)) (z := (⟨"com/example/umq/umq/admin/Selection", "level", "()Ljava/lang/String;"⟩ : MethodName)) hown506 (mvT hZ506 (w_50 hw)) (mvT hZ506 (w_51 hw)) (notFace_of_selects (args := #[]) (mvT hZ506 (w_53 hw))) (mvT hZ506 (w_53 hw)) (mvT hZ506 (w_52 hw)) (by decide) (backOf (W := 1) (rmLv l Z a0 hw G ST [] o507 o502 hp506 n0 Ol514 p510) hZ506 (w_54 hw) (w_24 hw) (by decide) (by decide)) q516a q516c (g := (mkF m 80 #[xvi p0, xvi p1, xvi p2, xvi p3, xvi o500, xvr o501, xvr o502, xvr o507] [xwr o507, xwr o502])) rfl (by rw [hml]; rfl) (Steps.refl _) (argsL := []) (rest := [(.ref o502)]) (lenOf pd_6 rfl) rfl (by show 2 * 0 + _ ≤ _; exact Nat.le_of_eq rfl) (hb hby at_80) (fun _ _ => ⟨rfl, e506, (by decide : 7 + 0 ≤ _), (by decide : 97 + 0 ≤ _)⟩)
  dsimp only [Pt.U, Pt.locs, Pt.cells, Pt.slots] at X515 l515 y515 z515 st515 hQ515
  subst l515 y515 z515
  obtain ⟨rfl, N515q, e515⟩ := hQ515
  have N515 := Fr.app N506 N515q
  have f518 := (p503.keep K506)
  obtain ⟨cq519, kq519, q519a, q519b, q519c⟩ := isOf hZ506 e515 f518
  obtain ⟨_, _, ⟨T517, L517, k517, n517⟩, -, X517, ⟨Lc517, hQ517, l517, y517, z517⟩, st517⟩ := X515.virtualBack hx (y := (⟨"java/lang/String", "equals", "(Ljava/lang/Object;)Z"⟩ : MethodName)) (z := (⟨"java/lang/String", "equals", "(Ljava/lang/Object;)Z"⟩ : MethodName)) hown506 (mvT hZ506 (w_55 hw)) (mvT hZ506 (w_56 hw)) (notFace_of_selects (args := #[]) (mvT hZ506 (w_58 hw))) (mvT hZ506 (w_58 hw)) (mvT hZ506 (w_57 hw)) (by decide) (backOf (W := 0) (rmEqS l Z a0 hw G ST [] o502 hp506 n0 Ol514 ) hZ506 (w_59 hw) (w_3 hw) (by decide) (by decide)) q519a q519c (g := (mkF m 83 #[xvi p0, xvi p1, xvi p2, xvi p3, xvi o500, xvr o501, xvr o502, xvr o507] [xwr o502, xwr o502])) rfl (by rw [hml]; rfl) (Steps.refl _) (argsL := [(.ref o502)]) (rest := []) (lenOf pd_7 rfl) rfl (by show 2 * 0 + _ ≤ _; exact Nat.le_of_eq rfl) (hb hby at_83) (fun _ _ => ⟨rfl, e515, (by decide : 7 + 0 ≤ _), (by decide : 97 + 0 ≤ _)⟩)
  dsimp only [Pt.U, Pt.locs, Pt.cells, Pt.slots] at X517 l517 y517 z517 st517 hQ517
  subst l517 y517 z517
  obtain ⟨rfl, N517q, e517⟩ := hQ517
  have N517 := Fr.app N515 N517q
  obtain ⟨cq521, kq521, q521a, q521b, q521c⟩ := isOf hZ506 e517 p509
  obtain ⟨_, _, ⟨T520, L520, k520, n520⟩, -, X520, ⟨Lc520, hQ520, l520, y520, z520⟩, st520⟩ := X517.virtualBack hx (y := (⟨"com/example/umq/umq/admin/Selection", "named", "()Ljava/util/Optional;"⟩ : MethodName)) (z := (⟨"com/example/umq/umq/admin/Selection", "named", "()Ljava/util/Optional;"⟩ : MethodName)) hown506 (mvT hZ506 (w_60 hw)) (mvT hZ506 (w_61 hw)) (notFace_of_selects (args := #[]) (mvT hZ506 (w_63 hw))) (mvT hZ506 (w_63 hw)) (mvT hZ506 (w_62 hw)) (by decide) (backOf (W := 0) (rmNm l Z a0 hw G ST [] o507 G.2 hp506 n0 Ol514 p511) hZ506 (w_64 hw) (w_24 hw) (by decide) (by decide)) q521a q521c (g := (mkF m 93 #[xvi p0, xvi p1, xvi p2, xvi p3, xvi o500, xvr o501, xvr o502, xvr o507] [xwr o507])) rfl (by rw [hml]; rfl) (Steps.refl _) (argsL := []) (rest := []) (lenOf pd_2 rfl) rfl (by show 2 * 0 + _ ≤ _; exact Nat.le_of_eq rfl) (hb hby at_93) (fun _ _ => ⟨rfl, e517, (by decide : 7 + 0 ≤ _), (by decide : 97 + 0 ≤ _)⟩)
  dsimp only [Pt.U, Pt.locs, Pt.cells, Pt.slots] at X520 l520 y520 z520 st520 hQ520
  subst l520 y520 z520
  obtain ⟨rfl, N520q, e520⟩ := hQ520
  have N520 := Fr.app N517 N520q
  obtain ⟨cq523, kq523, q523a, q523b, q523c⟩ := isOf hZ506 e520 (ST.2.2.2.1.ext Ol514.2)
  obtain ⟨_, _, ⟨T522, L522, k522, n522⟩, -, X522, ⟨Lc522, hQ522, l522, y522, z522⟩, st522⟩ := X520.virtualBack hx (y := (⟨"java/util/Optional", "isPresent", "()Z"⟩ : MethodName)) (z := (⟨"java/util/Optional", "isPresent", "()Z"⟩ : MethodName)) hown506 (mvT hZ506 (w_65 hw)) (mvT hZ506 (w_66 hw)) (notFace_of_selects (args := #[]) (mvT hZ506 (w_68 hw))) (mvT hZ506 (w_68 hw)) (mvT hZ506 (w_67 hw)) (by decide) (backOf (W := 0) (rmIP l Z a0 hw G ST [] G.2 hp506 n0 Ol514 (ST.2.2.2.2.ext Ol514.2)) hZ506 (w_69 hw) (w_30 hw) (by decide) (by decide)) q523a q523c (g := (mkF m 96 #[xvi p0, xvi p1, xvi p2, xvi p3, xvi o500, xvr o501, xvr o502, xvr o507] [xwr G.2])) rfl (by rw [hml]; rfl) (Steps.refl _) (argsL := []) (rest := []) (lenOf pd_8 rfl) rfl (by show 2 * 0 + _ ≤ _; exact Nat.le_of_eq rfl) (hb hby at_96) (fun _ _ => ⟨rfl, e520, (by decide : 7 + 0 ≤ _), (by decide : 97 + 0 ≤ _)⟩)
  dsimp only [Pt.U, Pt.locs, Pt.cells, Pt.slots] at X522 l522 y522 z522 st522 hQ522
  subst l522 y522 z522
  obtain ⟨rfl, N522q, e522⟩ := hQ522
  have N522 := Fr.app N520 N522q
  obtain ⟨cq525, kq525, q525a, q525b, q525c⟩ := isOf hZ506 e522 p509
  obtain ⟨_, _, ⟨T524, L524, k524, n524⟩, -, X524, ⟨Lc524, hQ524, l524, y524, z524⟩, st524⟩ := X522.virtualBack hx (y := (⟨"com/example/umq/umq/admin/Selection", "limit", "()J"⟩ : MethodName)) (z := (⟨"com/example/umq/umq/admin/Selection", "limit", "()J"⟩ : MethodName)) hown506 (mvT hZ506 (w_72 hw)) (mvT hZ506 (w_73 hw)) (notFace_of_selects (args := #[]) (mvT hZ506 (w_75 hw))) (mvT hZ506 (w_75 hw)) (mvT hZ506 (w_74 hw)) (by decide) (backOf (W := 0) (rmLi l Z a0 hw G ST [] o507 (9223372036854775807 : Int64) hp506 n0 Ol514 p512) hZ506 (w_76 hw) (w_24 hw) (by decide) (by decide)) q525a q525c (g := (mkF m 106 #[xvi p0, xvi p1, xvi p2, xvi p3, xvi o500, xvr o501, xvr o502, xvr o507] [xwr o507])) rfl (by rw [hml]; rfl) (Steps.refl _) (argsL := []) (rest := []) (lenOf pd_9 rfl) rfl (by show 2 * 0 + _ ≤ _; exact Nat.le_of_eq rfl) (hb hby at_106) (fun _ _ => ⟨rfl, e522, (by decide : 7 + 0 ≤ _), (by decide : 97 + 0 ≤ _)⟩)
  dsimp only [Pt.U, Pt.locs, Pt.cells, Pt.slots] at X524 l524 y524 z524 st524 hQ524
  subst l524 y524 z524
  obtain ⟨rfl, N524q, e524⟩ := hQ524
  have N524 := Fr.app N522 N524q
  obtain ⟨fs, hr, hrun, hended, hE⟩ := X524.leaveW hS506 (by rw [e524]; exact (Nat.le_refl _)) (v := some (.int (1 : Int32))) (fun h => by rw [Bd.returns] at h; cases h)
  refine ⟨_, _, hTG _ (c419 _ ?_), hrun, hended, _, _, rfl, ?_, ?_, hE.1, hE.2.1, hE.2.2.1, hE.2.2.2.mono (by decide) (by decide)⟩
  · refine XS.astore X419.here hx rfl (hb hby at_67) rfl rfl (l' := #[xvi p0, xvi p1, xvi p2, xvi p3, xvi o500, xvr o501, xvr o502, xun]) rfl ?_
    show Sx p e below T419 m 69 #[xvi p0, xvi p1, xvi p2, xvi p3, xvi o500, xvr o501, xvr o502, xun] [] _
    refine y_aload X419 hx 71 (hb hby at_69) rfl rfl rfl ?_
    refine st506.trans ?_
    show Sx p e below T506 m 74 #[xvi p0, xvi p1, xvi p2, xvi p3, xvi o500, xvr o501, xvr o502, xun] [xwr o507] _
    refine XS.astore X506.here hx rfl (hb hby at_74) rfl rfl (l' := #[xvi p0, xvi p1, xvi p2, xvi p3, xvi o500, xvr o501, xvr o502, xvr o507]) rfl ?_
    show Sx p e below T506 m 76 #[xvi p0, xvi p1, xvi p2, xvi p3, xvi o500, xvr o501, xvr o502, xvr o507] [] _
    refine y_aload X506 hx 78 (hb hby at_76) rfl rfl rfl ?_
    refine y_aload X506 hx 80 (hb hby at_78) rfl rfl rfl ?_
    refine st515.trans ?_
    show Sx p e below T515 m 83 #[xvi p0, xvi p1, xvi p2, xvi p3, xvi o500, xvr o501, xvr o502, xvr o507] [xwr o502, xwr o502] _
    refine st517.trans ?_
    show Sx p e below T517 m 86 #[xvi p0, xvi p1, xvi p2, xvi p3, xvi o500, xvr o501, xvr o502, xvr o507] [xwi (1 : Int32)] _
    refine y_ifYes X517 hx 91 (hb hby at_86) (XT.i0_ne_t (by decide)) (by decide) (by decide) ?_
    refine y_aload X517 hx 93 (hb hby at_91) rfl rfl rfl ?_
    refine st520.trans ?_
    show Sx p e below T520 m 96 #[xvi p0, xvi p1, xvi p2, xvi p3, xvi o500, xvr o501, xvr o502, xvr o507] [xwr G.2] _
    refine st522.trans ?_
    show Sx p e below T522 m 99 #[xvi p0, xvi p1, xvi p2, xvi p3, xvi o500, xvr o501, xvr o502, xvr o507] [xwi (0 : Int32)] _
    refine y_ifYes X522 hx 104 (hb hby at_99) (XT.i0_eq_t (by decide)) (by decide) (by decide) ?_
    refine y_aload X522 hx 106 (hb hby at_104) rfl rfl rfl ?_
    refine st524.trans ?_
    show Sx p e below T524 m 109 #[xvi p0, xvi p1, xvi p2, xvi p3, xvi o500, xvr o501, xvr o502, xvr o507] [xwj (9223372036854775807 : Int64)] _
    refine X524.ldc2Long hx hown506 (mvT hZ506 (w_77 hw)) (g := (mkF m 109 #[xvi p0, xvi p1, xvi p2, xvi p3, xvi o500, xvr o501, xvr o502, xvr o507] [xwj (9223372036854775807 : Int64)])) rfl (hb hby at_109) _ ?_
    show Sx p e below T524 m 112 #[xvi p0, xvi p1, xvi p2, xvi p3, xvi o500, xvr o501, xvr o502, xvr o507] [xwj (9223372036854775807 : Int64), xwj (9223372036854775807 : Int64)] _
    refine XT.lcmp X524.here hx rfl (hb hby at_112) rfl ?_
    show Sx p e below T524 m 113 #[xvi p0, xvi p1, xvi p2, xvi p3, xvi o500, xvr o501, xvr o502, xvr o507] [(.int (XT.cmpL (9223372036854775807 : Int64) (9223372036854775807 : Int64)))] _
    refine y_ifNo X524 hx 116 (hb hby at_113) (XT.ll_ne_f (by decide)) rfl ?_
    refine y_iconst X524 hx (1 : Int32) 117 (hb hby at_116) rfl rfl ?_
    refine y_goto X524 hx 121 (hb hby at_117) (by decide) (by decide) ?_
    show Sx p e below T524 m 121 #[xvi p0, xvi p1, xvi p2, xvi p3, xvi o500, xvr o501, xvr o502, xvr o507] [xwi (1 : Int32)] _
    exact retN X524 hx (t := .boolean) Bd.returns (by simp) (hb hby at_121) (hr)
  · show Qrm0 Z G p0 p1 p2 p3 h0 n0 _ T524.heap _
    rw [e524]
    exact ⟨rfl, N524, (((Keep.refl h0 []).trans K419 all0).trans K506 all0)⟩
  · rw [hh]; show CHr Z EL s.vm h0 T524.vm T524.heap; rw [e524]; exact C513.trans (CHv.at X524 hZ506 (own_EW hw) C513.1)
set_option maxRecDepth 65536 in
set_option maxHeartbeats 40000000 in
theorem comes_1 {Post : Tables → Env → Array Value → State → Outcome → State → Prop} (hpost : ∀ tb e args s v u, (limb_1_1.after args s (.returned v) u = true ∧ limb_1_2.after args s (.returned v) u = true ∧ True) → ReturnedEndW s (.returned v) u (Jvm.fieldLocs frame_1_writes args s ++ Jvm.arrayLocs frame_1_arrays args s ++ Jvm.staticLocs frame_1_statics s) 24 2176 → Post tb e args s (.returned v) u) :
    ArmFor flags0 classFile x code maxLocals ret World_1 tables_1 room_1 Calls_1 rest_1 Pre_1 Post := by
  intro l hfl _ _ p e ha hc hk s m args below hf hA hF happ hP
  obtain ⟨hcalls, hrest, hpre⟩ := hP
  obtain ⟨-, -, -, hnamed, -, -, -, hat⟩ := (Spec.applies_iff hf).mp happ
  obtain ⟨hg, hn⟩ := and_e (Cond.before_iff.mp (show (Jvm.Cond.and given_1 narrow_1).before args s = true from hpre))
  obtain ⟨hcnt, hg⟩ := and_e hg
  obtain ⟨w0, w1, w2, w3, rfl⟩ : ∃ w0 w1 w2 w3 : Value, args = #[w0, w1, w2, w3] := by
    have hs : args.size = 4 := by simpa [Cond.value, given_1] using hcnt
    obtain ⟨L⟩ := args
    match L, hs with
    | [w0, w1, w2, w3], _ => exact ⟨w0, w1, w2, w3, rfl⟩
  have hw := fun d (hd : d ∈ tables_1) => atoms_spec (ws := Jvm.Cond.code x code maxLocals ret :: tables_1) hat d (List.mem_cons_of_mem _ hd)
  have hfit : Fit s := fun {y c} hc i hi => by
    obtain ⟨ha, rfl⟩ := Array.getElem?_eq_some_iff.mp hc
    have q := List.all_eq_true.mp ((Array.all_eq_true_iff_forall_mem.mp hF) _ (Array.getElem_mem ha)) i (List.mem_range.mpr hi)
    simpa [Array.getElem?_eq_getElem hi] using q
  obtain ⟨hsets, hown0⟩ := atoms_of _ (rest_1_c_eq ▸ (show rest_1_c.before _ s = true from hrest))
  obtain ⟨ga0, gb0⟩ := and_e hg
  obtain ⟨i0, ei0⟩ := is_v ga0
  obtain rfl : w0 = (.int i0) := Option.some.inj ei0
  obtain ⟨ga1, gb1⟩ := and_e gb0
  obtain ⟨i1, ei1⟩ := is_v ga1
  obtain rfl : w1 = (.int i1) := Option.some.inj ei1
  obtain ⟨ga2, gb2⟩ := and_e gb1
  obtain ⟨i2, ei2⟩ := is_v ga2
  obtain rfl : w2 = (.int i2) := Option.some.inj ei2
  obtain ⟨i3, ei3⟩ := is_v gb2
  obtain rfl : w3 = (.int i3) := Option.some.inj ei3
  obtain ⟨z1, ez1⟩ := is_v (Cond.before_iff.mp (hsets _ (List.mem_of_getElem? (i := 5) rfl)))
  have O1 : Sta s s.heap "java/lang/String" "COMPACT_STRINGS" "Z" (.int z1) := Sta.start ez1 (Or.inl (hsets _ (List.mem_of_getElem? (i := 4) rfl)))
  have P1 : ¬ z1 = (0 : Int32) := gotF (Cond.eq_ints ez1 (Term.int_eval (0))) (not_v (Cond.before_iff.mp (hsets _ (List.mem_of_getElem? (i := 6) rfl))))
  obtain ⟨ae, eae⟩ := exa_v (Cond.before_iff.mp (hsets _ (List.mem_of_getElem? (i := 2) rfl)))
  have O2 := Sta.start eae (Or.inl (hsets _ (List.mem_of_getElem? (i := 1) rfl)))
  have E2 := Exa.start eae (Cond.before_iff.mp (hsets _ (List.mem_of_getElem? (i := 2) rfl)))
  have F2 : Fld s s.heap ae "java/util/Optional" "value" "Ljava/lang/Object;" .null := Fld.start ((fld_at eae).symm.trans (null_v (Cond.before_iff.mp (hsets _ (List.mem_of_getElem? (i := 3) rfl)))))
  obtain ⟨G0, eG⟩ : ∃ g : Gs, g = (z1, ae) := ⟨_, rfl⟩
  have ST0 : StartF s G0 := by rw [eG]; exact ⟨O1, P1, O2, E2, F2⟩
  have HC : CHv s EL s.vm s.heap := CHv.start (own_EW hw) (fun p hp => hcalls.1 p hp) (hsets _ (List.mem_of_getElem? (i := 6) rfl)) (w_15 hw) (w_2 hw)
  obtain ⟨n, o, h1, h2, h3, _, L, rfl, ⟨rfl, N, -⟩, -, hq⟩ := rm0 l s _ hw G0 ST0 tables_1 i0 i1 i2 i3 s.heap s.heap.size (Old.start s) p e ha hc hk s m _ below hf ((Spec.applies_iff_loose hf).mp happ).1 ⟨rfl, State.Warmed39.refl s, rfl, HC⟩ trivial
  refine ⟨n, _, h1, h2, h3, hpost _ _ _ _ _ _ ⟨Cond.after_iff.mpr rfl, Cond.after_iff.mpr (eq_i res_at (Term.int_eval (1)) rfl), trivial⟩ ⟨hq.1, hq.2.1, hq.2.2.1, (hq.2.2.2.sift fun y hy => Or.inr (N y hy)).mono (by decide) (by decide)⟩⟩
theorem main_1_1 : Claimed_1_1 := comes_1 fun _ _ _ _ _ _ h hF => ⟨h.1, hF⟩
theorem main_1_2 : Claimed_1_2 := comes_1 fun _ _ _ _ _ _ h hF => ⟨h.2.1, hF⟩
end Jvm.Pilot.@@N@@
namespace Jvm.Pilot.@@N@@
open Jvm Jvm.ClassFile Sem Op Lib Jvm.Free Jvm.Stand Jvm.Pilot.@@N@@.Jvm.D
/-! MADE BY PROGRAM (witnessworld.py) out of the Statement's table words and the real class files: 22 classes; the members and pool entries that the words name. The judged class is class 1, her method 1. -/
namespace start1
open Jvm.ClassFile
def u (s : String) : CpInfo := .utf8 (stringToUtf16 s)
/-- a pool by its gaps: so many unusable entries, then the entry; so many at the end -/
def gap : Nat → List CpInfo → List CpInfo
  | 0, r => r
  | n + 1, r => .unusable :: gap n r
def poolList (es : List (Nat × CpInfo)) (last : Nat) : List CpInfo := es.foldr (fun e r => gap e.1 (e.2 :: r)) (gap last [])
def pool (es : List (Nat × CpInfo)) (last : Nat) : Array CpInfo := ⟨poolList es last⟩
def fileOf (pool : Array CpInfo) (this : Nat) (attrs : Array Attribute := #[]) (ms : Array MethodInfo := #[]) (fl : Nat := 33) (sup : Nat := 0) (ifs : Array Nat := #[]) (fds : Array FieldInfo := #[]) : ClassFile where
  minorVersion := 0
  majorVersion := 65
  constantPool := pool
  accessFlags := fl
  thisClass := this
  superClass := sup
  interfaces := ifs
  fields := fds
  methods := ms
  attributes := attrs
def plain (name : String) (sup : Option ClassId) : Class where
  name := name
  kind := .ordinary
  loader := none
  accessFlags := 33
  super := sup
  interfaces := #[]
  cf := none
  fields := #[]
  methods := #[]
  instanceTypes := #[]
  staticTypes := #[]
  resolved := #[]
  callSites := []
  init := .initialized
  statics := none
  mirror := none

def pool0 : Array CpInfo := pool [(5, u "<init>"), (0, u "()V"), (1, .class_ 10), (1, u "java/lang/Object")] 113

def k0c0 : Code := { maxStack := 0, maxLocals := 1, code := object_method_1_code, exceptionTable := #[], attributes := #[] }
def k0m0 : Method := { name := "<init>", desc := "()V", sig := { parameters := [], returnType := none }, accessFlags := 1, code := some k0c0 }
/-- java/lang/Object -/
def k0 : Class := { plain "java/lang/Object" none with
  accessFlags := 33
  interfaces := #[]
  cf := some (fileOf pool0 8 #[] #[{ accessFlags := 1, nameIndex := 5, descriptorIndex := 6, attributes := #[] }] 33 0 #[] #[])
  fields := #[]
  methods := #[k0m0]
  instanceTypes := #[]
  staticTypes := #[]
  resolved := Array.replicate 124 none
  statics := none }

def pool1 : Array CpInfo := pool [(2, .class_ 4), (1, u "java/lang/Object"), (0, u "<init>"), (0, u "()V"), (0, .class_ 8), (0, u "java/lang/String"), (0, .methodref 7 10), (0, .nameAndType 5 11), (0, u "([C)V"), (0, .methodref 13 14), (0, .class_ 15), (0, .nameAndType 16 17), (0, u "com/example/umq/umq/admin/Selection"), (0, u "all"), (0, u "(Ljava/lang/String;)Lcom/example/umq/umq/admin/Selection;"), (0, .methodref 13 19), (0, .nameAndType 20 21), (0, u "level"), (0, u "()Ljava/lang/String;"), (0, .methodref 7 23), (0, .nameAndType 24 25), (0, u "equals"), (0, u "(Ljava/lang/Object;)Z"), (0, .methodref 13 27), (0, .nameAndType 28 29), (0, u "named"), (0, u "()Ljava/util/Optional;"), (0, .methodref 31 32), (0, .class_ 33), (0, .nameAndType 34 35), (0, u "java/util/Optional"), (0, u "isPresent"), (0, u "()Z"), (0, .methodref 13 37), (0, .nameAndType 38 39), (0, u "limit"), (0, u "()J"), (2, .long 9223372036854775807), (1, .class_ 45), (0, u "com/example/umq/umq/admin/SelectionAllPinLaw"), (2, u "law"), (0, u "(IIII)Z")] 5

def k1m0 : Method := { name := "<init>", desc := "()V", sig := { parameters := [], returnType := none }, accessFlags := 1, code := none }
def k1c1 : Code := { maxStack := 4, maxLocals := 8, code := code, exceptionTable := #[], attributes := #[] }
def k1m1 : Method := { name := "law", desc := "(IIII)Z", sig := { parameters := [.int, .int, .int, .int], returnType := some .boolean }, accessFlags := 9, code := some k1c1 }
/-- com/example/umq/umq/admin/SelectionAllPinLaw -/
def k1 : Class := { plain "com/example/umq/umq/admin/SelectionAllPinLaw" (some 0) with
  accessFlags := 49
  interfaces := #[]
  cf := some (fileOf pool1 44 #[] #[{ accessFlags := 1, nameIndex := 5, descriptorIndex := 6, attributes := #[] }, { accessFlags := 9, nameIndex := 48, descriptorIndex := 49, attributes := #[] }] 49 2 #[] #[])
  fields := #[]
  methods := #[k1m0, k1m1]
  instanceTypes := #[]
  staticTypes := #[]
  resolved := Array.replicate 55 none
  statics := none }

def pool2 : Array CpInfo := pool [(1, .class_ 2), (0, u "java/io/Serializable"), (0, .class_ 4), (0, u "java/lang/Object")] 2

/-- java/io/Serializable -/
def k2 : Class := { plain "java/io/Serializable" (some 0) with
  accessFlags := 1537
  interfaces := #[]
  cf := some (fileOf pool2 1 #[] #[] 1537 3 #[] #[])
  fields := #[]
  methods := #[]
  instanceTypes := #[]
  staticTypes := #[]
  resolved := Array.replicate 7 none
  statics := none }

def pool3 : Array CpInfo := pool [(1, .class_ 2), (0, u "java/lang/Comparable"), (0, .class_ 4), (0, u "java/lang/Object")] 7

/-- java/lang/Comparable -/
def k3 : Class := { plain "java/lang/Comparable" (some 0) with
  accessFlags := 1537
  interfaces := #[]
  cf := some (fileOf pool3 1 #[] #[] 1537 3 #[] #[])
  fields := #[]
  methods := #[]
  instanceTypes := #[]
  staticTypes := #[]
  resolved := Array.replicate 12 none
  statics := none }

def pool4 : Array CpInfo := pool [(2, .class_ 4), (1, u "java/lang/CharSequence"), (42, .class_ 48), (0, u "java/lang/CharSequence$1CodePointIterator"), (10, .class_ 60), (0, u "java/lang/CharSequence$1CharIterator"), (5, .class_ 67), (0, u "java/lang/Object")] 63

/-- java/lang/CharSequence -/
def k4 : Class := { plain "java/lang/CharSequence" (some 0) with
  accessFlags := 1537
  interfaces := #[]
  cf := some (fileOf pool4 2 #[.nestMembers #[47, 59]] #[] 1537 66 #[] #[])
  fields := #[]
  methods := #[]
  instanceTypes := #[]
  staticTypes := #[]
  resolved := Array.replicate 131 none
  statics := none }

def pool5 : Array CpInfo := pool [(1, .class_ 2), (0, u "java/lang/constant/Constable"), (0, .class_ 4), (0, u "java/lang/Object")] 6

/-- java/lang/constant/Constable -/
def k5 : Class := { plain "java/lang/constant/Constable" (some 0) with
  accessFlags := 1537
  interfaces := #[]
  cf := some (fileOf pool5 1 #[] #[] 1537 3 #[] #[])
  fields := #[]
  methods := #[]
  instanceTypes := #[]
  staticTypes := #[]
  resolved := Array.replicate 11 none
  statics := none }

def pool6 : Array CpInfo := pool [(1, .class_ 2), (0, u "java/lang/constant/ConstantDesc"), (0, .class_ 4), (0, u "java/lang/Object")] 32

/-- java/lang/constant/ConstantDesc -/
def k6 : Class := { plain "java/lang/constant/ConstantDesc" (some 0) with
  accessFlags := 1537
  interfaces := #[]
  cf := some (fileOf pool6 1 #[] #[] 1537 3 #[] #[])
  fields := #[]
  methods := #[]
  instanceTypes := #[]
  staticTypes := #[]
  resolved := Array.replicate 37 none
  statics := none }

def pool7 : Array CpInfo := pool [(1, .methodref 2 3), (0, .class_ 4), (0, .nameAndType 5 6), (0, u "java/lang/Object"), (0, u "<init>"), (0, u "()V"), (0, .string 8), (0, u ""), (0, .fieldref 10 11), (0, .class_ 12), (0, .nameAndType 13 14), (0, u "java/lang/String"), (0, u "value"), (0, u "[B"), (0, .fieldref 10 16), (0, .nameAndType 17 18), (0, u "coder"), (0, u "B"), (2, u "hash"), (0, u "I"), (2, u "hashIsZero"), (0, u "Z"), (0, .methodref 10 28), (0, .nameAndType 5 29), (0, u "([CIILjava/lang/Void;)V"), (8, .fieldref 10 39), (0, .nameAndType 40 26), (0, u "COMPACT_STRINGS"), (1, .class_ 44), (1, u "java/lang/StringUTF16"), (0, u "compress"), (1, .methodref 42 48), (0, .nameAndType 49 50), (0, u "coderFromArrayLen"), (0, u "([BI)B"), (126, .methodref 42 178), (0, .nameAndType 45 179), (0, u "([CII)[B"), (363, u "equals"), (29, u "(Ljava/lang/Object;)Z"), (1, .class_ 576), (0, u "java/lang/CharSequence"), (22, u "CASE_INSENSITIVE_ORDER"), (0, u "Ljava/util/Comparator;"), (409, u "([C)V"), (90, u "serialPersistentFields"), (0, u "[Ljava/io/ObjectStreamField;"), (0, .class_ 1104), (0, u "java/lang/String$CaseInsensitiveComparator"), (1, .class_ 1107), (0, u "java/io/Serializable"), (0, .class_ 1109), (0, u "java/lang/Comparable"), (0, .class_ 1111), (0, u "java/lang/constant/Constable"), (0, .class_ 1113), (0, u "java/lang/constant/ConstantDesc"), (2, u "serialVersionUID"), (0, u "J"), (3, u "REPL"), (0, u "C"), (2, u "LATIN1"), (1, u "UTF16")] 323

def k7m0 : Method := { name := "<init>", desc := "()V", sig := { parameters := [], returnType := none }, accessFlags := 1, code := none }
def k7c1 : Code := { maxStack := 5, maxLocals := 2, code := jdk_42_method_3_code, exceptionTable := #[], attributes := #[] }
def k7m1 : Method := { name := "<init>", desc := "([C)V", sig := { parameters := [(.array .char)], returnType := none }, accessFlags := 1, code := some k7c1 }
def k7c2 : Code := { maxStack := 2, maxLocals := 3, code := jdk_42_method_66_code, exceptionTable := #[], attributes := #[] }
def k7m2 : Method := { name := "equals", desc := "(Ljava/lang/Object;)Z", sig := { parameters := [(.object "java/lang/Object")], returnType := some .boolean }, accessFlags := 1, code := some k7c2 }
def k7c3 : Code := { maxStack := 4, maxLocals := 6, code := jdk_42_method_149_code, exceptionTable := #[], attributes := #[] }
def k7m3 : Method := { name := "<init>", desc := "([CIILjava/lang/Void;)V", sig := { parameters := [(.array .char), .int, .int, (.object "java/lang/Void")], returnType := none }, accessFlags := 2, code := some k7c3 }
/-- java/lang/String -/
def k7 : Class := { plain "java/lang/String" (some 0) with
  accessFlags := 49
  interfaces := #[2, 3, 4, 5, 6]
  cf := some (fileOf pool7 10 #[.nestMembers #[1103]] #[{ accessFlags := 1, nameIndex := 5, descriptorIndex := 6, attributes := #[] }, { accessFlags := 1, nameIndex := 5, descriptorIndex := 1010, attributes := #[] }, { accessFlags := 1, nameIndex := 543, descriptorIndex := 573, attributes := #[] }, { accessFlags := 2, nameIndex := 5, descriptorIndex := 29, attributes := #[] }] 49 2 #[1106, 1108, 575, 1110, 1112] #[{ accessFlags := 18, nameIndex := 13, descriptorIndex := 14, attributes := #[] }, { accessFlags := 18, nameIndex := 17, descriptorIndex := 18, attributes := #[] }, { accessFlags := 2, nameIndex := 21, descriptorIndex := 22, attributes := #[] }, { accessFlags := 2, nameIndex := 25, descriptorIndex := 26, attributes := #[] }, { accessFlags := 26, nameIndex := 1116, descriptorIndex := 1117, attributes := #[] }, { accessFlags := 24, nameIndex := 40, descriptorIndex := 26, attributes := #[] }, { accessFlags := 26, nameIndex := 1101, descriptorIndex := 1102, attributes := #[] }, { accessFlags := 26, nameIndex := 1121, descriptorIndex := 1122, attributes := #[] }, { accessFlags := 25, nameIndex := 599, descriptorIndex := 600, attributes := #[] }, { accessFlags := 24, nameIndex := 1125, descriptorIndex := 18, attributes := #[] }, { accessFlags := 24, nameIndex := 1127, descriptorIndex := 18, attributes := #[] }])
  fields := #[{ name := "value", type := (.array .byte), accessFlags := 18, slot := 0, constantValue := 0 }, { name := "coder", type := .byte, accessFlags := 18, slot := 1, constantValue := 0 }, { name := "hash", type := .int, accessFlags := 2, slot := 2, constantValue := 0 }, { name := "hashIsZero", type := .boolean, accessFlags := 2, slot := 3, constantValue := 0 }, { name := "serialVersionUID", type := .long, accessFlags := 26, slot := 0, constantValue := 0 }, { name := "COMPACT_STRINGS", type := .boolean, accessFlags := 24, slot := 1, constantValue := 0 }, { name := "serialPersistentFields", type := (.array (.object "java/io/ObjectStreamField")), accessFlags := 26, slot := 2, constantValue := 0 }, { name := "REPL", type := .char, accessFlags := 26, slot := 3, constantValue := 0 }, { name := "CASE_INSENSITIVE_ORDER", type := (.object "java/util/Comparator"), accessFlags := 25, slot := 4, constantValue := 0 }, { name := "LATIN1", type := .byte, accessFlags := 24, slot := 5, constantValue := 0 }, { name := "UTF16", type := .byte, accessFlags := 24, slot := 6, constantValue := 0 }]
  methods := #[k7m0, k7m1, k7m2, k7m3]
  instanceTypes := #[(.array .byte), .byte, .int, .boolean]
  staticTypes := #[.long, .boolean, (.array (.object "java/io/ObjectStreamField")), .char, (.object "java/util/Comparator"), .byte, .byte]
  resolved := Array.replicate 1451 none
  statics := some 0 }

def pool8 : Array CpInfo := pool [(1, .methodref 2 3), (0, .class_ 4), (0, .nameAndType 5 6), (0, u "java/lang/Object"), (0, u "<init>"), (0, u "()V"), (0, .string 8), (0, u "level cannot be null"), (0, .methodref 10 11), (0, .class_ 12), (0, .nameAndType 13 14), (0, u "java/util/Objects"), (0, u "requireNonNull"), (0, u "(Ljava/lang/Object;Ljava/lang/String;)Ljava/lang/Object;"), (0, .class_ 16), (0, u "java/lang/String"), (0, .fieldref 18 19), (0, .class_ 20), (0, .nameAndType 21 22), (0, u "com/example/umq/umq/admin/Selection"), (0, u "level"), (0, u "Ljava/lang/String;"), (0, .fieldref 18 24), (0, .nameAndType 25 26), (0, u "named"), (0, u "Ljava/util/Optional;"), (0, .fieldref 18 28), (0, .nameAndType 29 30), (0, u "limit"), (0, u "J"), (0, .methodref 32 33), (0, .class_ 34), (0, .nameAndType 35 36), (0, u "java/util/Optional"), (0, u "empty"), (0, u "()Ljava/util/Optional;"), (2, .long 9223372036854775807), (1, .methodref 18 42), (0, .nameAndType 5 43), (0, u "(Ljava/lang/String;Ljava/util/Optional;J)V"), (29, u "all"), (0, u "(Ljava/lang/String;)Lcom/example/umq/umq/admin/Selection;"), (5, u "()Ljava/lang/String;"), (1, u "()J")] 17

def k8c0 : Code := { maxStack := 3, maxLocals := 5, code := prog_12_method_1_code, exceptionTable := #[], attributes := #[] }
def k8m0 : Method := { name := "<init>", desc := "(Ljava/lang/String;Ljava/util/Optional;J)V", sig := { parameters := [(.object "java/lang/String"), (.object "java/util/Optional"), .long], returnType := none }, accessFlags := 2, code := some k8c0 }
def k8c1 : Code := { maxStack := 6, maxLocals := 1, code := prog_12_method_2_code, exceptionTable := #[], attributes := #[] }
def k8m1 : Method := { name := "all", desc := "(Ljava/lang/String;)Lcom/example/umq/umq/admin/Selection;", sig := { parameters := [(.object "java/lang/String")], returnType := some (.object "com/example/umq/umq/admin/Selection") }, accessFlags := 9, code := some k8c1 }
def k8c2 : Code := { maxStack := 1, maxLocals := 1, code := prog_12_method_5_code, exceptionTable := #[], attributes := #[] }
def k8m2 : Method := { name := "level", desc := "()Ljava/lang/String;", sig := { parameters := [], returnType := some (.object "java/lang/String") }, accessFlags := 1, code := some k8c2 }
def k8c3 : Code := { maxStack := 1, maxLocals := 1, code := prog_12_method_6_code, exceptionTable := #[], attributes := #[] }
def k8m3 : Method := { name := "named", desc := "()Ljava/util/Optional;", sig := { parameters := [], returnType := some (.object "java/util/Optional") }, accessFlags := 1, code := some k8c3 }
def k8c4 : Code := { maxStack := 2, maxLocals := 1, code := prog_12_method_7_code, exceptionTable := #[], attributes := #[] }
def k8m4 : Method := { name := "limit", desc := "()J", sig := { parameters := [], returnType := some .long }, accessFlags := 1, code := some k8c4 }
/-- com/example/umq/umq/admin/Selection -/
def k8 : Class := { plain "com/example/umq/umq/admin/Selection" (some 0) with
  accessFlags := 49
  interfaces := #[]
  cf := some (fileOf pool8 18 #[] #[{ accessFlags := 2, nameIndex := 5, descriptorIndex := 43, attributes := #[] }, { accessFlags := 9, nameIndex := 73, descriptorIndex := 74, attributes := #[] }, { accessFlags := 1, nameIndex := 21, descriptorIndex := 80, attributes := #[] }, { accessFlags := 1, nameIndex := 25, descriptorIndex := 36, attributes := #[] }, { accessFlags := 1, nameIndex := 29, descriptorIndex := 82, attributes := #[] }] 49 2 #[] #[{ accessFlags := 18, nameIndex := 21, descriptorIndex := 22, attributes := #[] }, { accessFlags := 18, nameIndex := 25, descriptorIndex := 26, attributes := #[] }, { accessFlags := 18, nameIndex := 29, descriptorIndex := 30, attributes := #[] }])
  fields := #[{ name := "level", type := (.object "java/lang/String"), accessFlags := 18, slot := 0, constantValue := 0 }, { name := "named", type := (.object "java/util/Optional"), accessFlags := 18, slot := 1, constantValue := 0 }, { name := "limit", type := .long, accessFlags := 18, slot := 2, constantValue := 0 }]
  methods := #[k8m0, k8m1, k8m2, k8m3, k8m4]
  instanceTypes := #[(.object "java/lang/String"), (.object "java/util/Optional"), .long]
  staticTypes := #[]
  resolved := Array.replicate 100 none
  statics := none }

def pool9 : Array CpInfo := pool [(1, .fieldref 2 3), (0, .class_ 4), (0, .nameAndType 5 6), (0, u "java/util/Optional"), (0, u "EMPTY"), (0, u "Ljava/util/Optional;"), (1, .class_ 10), (1, u "java/lang/Object"), (2, .fieldref 2 14), (0, .nameAndType 15 16), (0, u "value"), (0, u "Ljava/lang/Object;"), (29, u "()Z"), (8, u "empty"), (0, u "()Ljava/util/Optional;"), (11, u "isPresent")] 118

def k9c0 : Code := { maxStack := 1, maxLocals := 1, code := jdk_32_method_1_code, exceptionTable := #[], attributes := #[] }
def k9m0 : Method := { name := "empty", desc := "()Ljava/util/Optional;", sig := { parameters := [], returnType := some (.object "java/util/Optional") }, accessFlags := 9, code := some k9c0 }
def k9c1 : Code := { maxStack := 1, maxLocals := 1, code := jdk_32_method_6_code, exceptionTable := #[], attributes := #[] }
def k9m1 : Method := { name := "isPresent", desc := "()Z", sig := { parameters := [], returnType := some .boolean }, accessFlags := 1, code := some k9c1 }
/-- java/util/Optional -/
def k9 : Class := { plain "java/util/Optional" (some 0) with
  accessFlags := 49
  interfaces := #[]
  cf := some (fileOf pool9 2 #[] #[{ accessFlags := 9, nameIndex := 55, descriptorIndex := 56, attributes := #[] }, { accessFlags := 1, nameIndex := 68, descriptorIndex := 46, attributes := #[] }] 49 8 #[] #[{ accessFlags := 26, nameIndex := 5, descriptorIndex := 6, attributes := #[] }, { accessFlags := 18, nameIndex := 15, descriptorIndex := 16, attributes := #[] }])
  fields := #[{ name := "EMPTY", type := (.object "java/util/Optional"), accessFlags := 26, slot := 0, constantValue := 0 }, { name := "value", type := (.object "java/lang/Object"), accessFlags := 18, slot := 0, constantValue := 0 }]
  methods := #[k9m0, k9m1]
  instanceTypes := #[(.object "java/lang/Object")]
  staticTypes := #[(.object "java/util/Optional")]
  resolved := Array.replicate 187 none
  statics := some 1 }

def pool10 : Array CpInfo := pool [(2, .class_ 4), (1, u "java/lang/Object"), (0, u "<init>"), (0, u "()V"), (35, .class_ 44), (1, u "java/util/Objects"), (0, u "requireNonNull"), (48, u "(Ljava/lang/Object;Ljava/lang/String;)Ljava/lang/Object;")] 89

def k10m0 : Method := { name := "<init>", desc := "()V", sig := { parameters := [], returnType := none }, accessFlags := 2, code := none }
def k10c1 : Code := { maxStack := 3, maxLocals := 2, code := jdk_31_method_11_code, exceptionTable := #[], attributes := #[] }
def k10m1 : Method := { name := "requireNonNull", desc := "(Ljava/lang/Object;Ljava/lang/String;)Ljava/lang/Object;", sig := { parameters := [(.object "java/lang/Object"), (.object "java/lang/String")], returnType := some (.object "java/lang/Object") }, accessFlags := 9, code := some k10c1 }
/-- java/util/Objects -/
def k10 : Class := { plain "java/util/Objects" (some 0) with
  accessFlags := 49
  interfaces := #[]
  cf := some (fileOf pool10 42 #[] #[{ accessFlags := 2, nameIndex := 5, descriptorIndex := 6, attributes := #[] }, { accessFlags := 9, nameIndex := 45, descriptorIndex := 94, attributes := #[] }] 49 2 #[] #[])
  fields := #[]
  methods := #[k10m0, k10m1]
  instanceTypes := #[]
  staticTypes := #[]
  resolved := Array.replicate 184 none
  statics := none }

def pool11 : Array CpInfo := pool [(6, .class_ 8), (1, u "java/lang/Object"), (0, u "<init>"), (0, u "()V"), (1, .class_ 14), (1, u "java/lang/StringUTF16"), (31, u "$assertionsDisabled"), (0, u "Z"), (13, u "HI_BYTE_SHIFT"), (0, u "I"), (2, u "LO_BYTE_SHIFT"), (49, .methodref 12 116), (0, .nameAndType 117 118), (0, u "compress"), (0, u "([CI[BII)I"), (3, u "([CII)[B"), (138, u "coderFromArrayLen"), (0, u "([BI)B"), (106, .class_ 371), (1, u "java/lang/StringUTF16$LinesSpliterator"), (58, u "MAX_LENGTH"), (196, .class_ 628), (0, u "java/lang/StringUTF16$CodePointsSpliterator"), (0, .class_ 630), (0, u "java/lang/StringUTF16$CharsSpliterator")] 4

def k11m0 : Method := { name := "<init>", desc := "()V", sig := { parameters := [], returnType := none }, accessFlags := 0, code := none }
def k11c1 : Code := { maxStack := 2, maxLocals := 2, code := jdk_52_method_15_code, exceptionTable := #[], attributes := #[] }
def k11m1 : Method := { name := "coderFromArrayLen", desc := "([BI)B", sig := { parameters := [(.array .byte), .int], returnType := some .byte }, accessFlags := 8, code := some k11c1 }
def k11c2 : Code := { maxStack := 5, maxLocals := 6, code := jdk_52_method_16_code, exceptionTable := #[], attributes := #[] }
def k11m2 : Method := { name := "compress", desc := "([CII)[B", sig := { parameters := [(.array .char), .int, .int], returnType := some (.array .byte) }, accessFlags := 9, code := some k11c2 }
def k11c3 : Code := { maxStack := 3, maxLocals := 7, code := jdk_52_method_21_code, exceptionTable := #[], attributes := #[] }
def k11m3 : Method := { name := "compress", desc := "([CI[BII)I", sig := { parameters := [(.array .char), .int, (.array .byte), .int, .int], returnType := some .int }, accessFlags := 9, code := some k11c3 }
/-- java/lang/StringUTF16 -/
def k11 : Class := { plain "java/lang/StringUTF16" (some 0) with
  accessFlags := 48
  interfaces := #[]
  cf := some (fileOf pool11 12 #[.nestMembers #[627, 629, 369]] #[{ accessFlags := 0, nameIndex := 9, descriptorIndex := 10, attributes := #[] }, { accessFlags := 8, nameIndex := 261, descriptorIndex := 262, attributes := #[] }, { accessFlags := 9, nameIndex := 117, descriptorIndex := 122, attributes := #[] }, { accessFlags := 9, nameIndex := 117, descriptorIndex := 118, attributes := #[] }] 48 6 #[] #[{ accessFlags := 26, nameIndex := 61, descriptorIndex := 62, attributes := #[] }, { accessFlags := 26, nameIndex := 65, descriptorIndex := 62, attributes := #[] }, { accessFlags := 24, nameIndex := 430, descriptorIndex := 62, attributes := #[] }, { accessFlags := 4120, nameIndex := 46, descriptorIndex := 47, attributes := #[] }])
  fields := #[{ name := "HI_BYTE_SHIFT", type := .int, accessFlags := 26, slot := 0, constantValue := 0 }, { name := "LO_BYTE_SHIFT", type := .int, accessFlags := 26, slot := 1, constantValue := 0 }, { name := "MAX_LENGTH", type := .int, accessFlags := 24, slot := 2, constantValue := 0 }, { name := "$assertionsDisabled", type := .boolean, accessFlags := 4120, slot := 3, constantValue := 0 }]
  methods := #[k11m0, k11m1, k11m2, k11m3]
  instanceTypes := #[]
  staticTypes := #[.int, .int, .int, .boolean]
  resolved := Array.replicate 635 none
  statics := none }

def pool12 : Array CpInfo := pool [(4, .class_ 6), (1, u "java/lang/Object"), (0, u "<init>"), (0, u "()V"), (5, .class_ 16), (1, u "java/lang/StringLatin1"), (104, u "$assertionsDisabled"), (0, u "Z"), (98, .class_ 223), (1, u "java/lang/StringLatin1$LinesSpliterator"), (166, .class_ 391), (0, u "java/lang/StringLatin1$CharsSpliterator")] 3

def k12m0 : Method := { name := "<init>", desc := "()V", sig := { parameters := [], returnType := none }, accessFlags := 0, code := none }
/-- java/lang/StringLatin1 -/
def k12 : Class := { plain "java/lang/StringLatin1" (some 0) with
  accessFlags := 48
  interfaces := #[]
  cf := some (fileOf pool12 14 #[.nestMembers #[390, 221]] #[{ accessFlags := 0, nameIndex := 7, descriptorIndex := 8, attributes := #[] }] 48 4 #[] #[{ accessFlags := 4120, nameIndex := 121, descriptorIndex := 122, attributes := #[] }])
  fields := #[{ name := "$assertionsDisabled", type := .boolean, accessFlags := 4120, slot := 0, constantValue := 0 }]
  methods := #[k12m0]
  instanceTypes := #[]
  staticTypes := #[.boolean]
  resolved := Array.replicate 395 none
  statics := none }

def pool13 : Array CpInfo := pool [(2, .class_ 4), (1, u "java/lang/Object"), (0, u "<init>"), (0, u "()V"), (17, .class_ 26), (1, u "jdk/internal/util/Preconditions"), (28, .class_ 56), (0, u "jdk/internal/util/Preconditions$4"), (57, .class_ 115), (0, u "jdk/internal/util/Preconditions$1"), (7, u "SIOOBE_FORMATTER"), (0, u "Ljava/util/function/BiFunction;"), (0, .class_ 126), (0, u "jdk/internal/util/Preconditions$2"), (3, u "AIOOBE_FORMATTER"), (0, .class_ 132), (0, u "jdk/internal/util/Preconditions$3"), (3, u "IOOBE_FORMATTER")] 57

def k13m0 : Method := { name := "<init>", desc := "()V", sig := { parameters := [], returnType := none }, accessFlags := 1, code := none }
/-- jdk/internal/util/Preconditions -/
def k13 : Class := { plain "jdk/internal/util/Preconditions" (some 0) with
  accessFlags := 33
  interfaces := #[]
  cf := some (fileOf pool13 24 #[.nestMembers #[55, 131, 125, 114]] #[{ accessFlags := 1, nameIndex := 5, descriptorIndex := 6, attributes := #[] }] 33 2 #[] #[{ accessFlags := 25, nameIndex := 123, descriptorIndex := 124, attributes := #[] }, { accessFlags := 25, nameIndex := 130, descriptorIndex := 124, attributes := #[] }, { accessFlags := 25, nameIndex := 136, descriptorIndex := 124, attributes := #[] }])
  fields := #[{ name := "SIOOBE_FORMATTER", type := (.object "java/util/function/BiFunction"), accessFlags := 25, slot := 0, constantValue := 0 }, { name := "AIOOBE_FORMATTER", type := (.object "java/util/function/BiFunction"), accessFlags := 25, slot := 1, constantValue := 0 }, { name := "IOOBE_FORMATTER", type := (.object "java/util/function/BiFunction"), accessFlags := 25, slot := 2, constantValue := 0 }]
  methods := #[k13m0]
  instanceTypes := #[]
  staticTypes := #[(.object "java/util/function/BiFunction"), (.object "java/util/function/BiFunction"), (.object "java/util/function/BiFunction")]
  resolved := Array.replicate 194 none
  statics := some 2 }

def pool14 : Array CpInfo := pool [(9, u "<init>"), (6, .class_ 18), (1, u "java/lang/Object"), (0, u "()V"), (1, .class_ 23), (1, u "jdk/internal/util/ArraysSupport"), (0, u "LOG2_ARRAY_LONG_INDEX_SCALE"), (0, u "I"), (2, u "U"), (0, u "Ljdk/internal/misc/Unsafe;"), (8, u "BIG_ENDIAN"), (0, u "Z"), (8, u "LOG2_BYTE_BIT_SIZE"), (4, u "LOG2_ARRAY_INT_INDEX_SCALE"), (54, u "JLA"), (0, u "Ljdk/internal/access/JavaLangAccess;"), (11, u "LOG2_ARRAY_BOOLEAN_INDEX_SCALE"), (9, u "LOG2_ARRAY_BYTE_INDEX_SCALE"), (5, u "LOG2_ARRAY_CHAR_INDEX_SCALE"), (5, u "LOG2_ARRAY_SHORT_INDEX_SCALE"), (18, u "LOG2_ARRAY_FLOAT_INDEX_SCALE"), (24, u "LOG2_ARRAY_DOUBLE_INDEX_SCALE"), (89, u "T_BOOLEAN"), (2, u "T_CHAR"), (1, u "T_FLOAT"), (1, u "T_DOUBLE"), (1, u "T_BYTE"), (1, u "T_SHORT"), (1, u "T_INT"), (1, u "T_LONG"), (1, u "SOFT_MAX_ARRAY_LENGTH")] 83

def k14m0 : Method := { name := "<init>", desc := "()V", sig := { parameters := [], returnType := none }, accessFlags := 2, code := none }
/-- jdk/internal/util/ArraysSupport -/
def k14 : Class := { plain "jdk/internal/util/ArraysSupport" (some 0) with
  accessFlags := 33
  interfaces := #[]
  cf := some (fileOf pool14 21 #[] #[{ accessFlags := 2, nameIndex := 9, descriptorIndex := 19, attributes := #[] }] 33 16 #[] #[{ accessFlags := 24, nameIndex := 28, descriptorIndex := 29, attributes := #[] }, { accessFlags := 26, nameIndex := 38, descriptorIndex := 39, attributes := #[] }, { accessFlags := 25, nameIndex := 121, descriptorIndex := 25, attributes := #[] }, { accessFlags := 25, nameIndex := 131, descriptorIndex := 25, attributes := #[] }, { accessFlags := 25, nameIndex := 137, descriptorIndex := 25, attributes := #[] }, { accessFlags := 25, nameIndex := 143, descriptorIndex := 25, attributes := #[] }, { accessFlags := 25, nameIndex := 53, descriptorIndex := 25, attributes := #[] }, { accessFlags := 25, nameIndex := 24, descriptorIndex := 25, attributes := #[] }, { accessFlags := 25, nameIndex := 162, descriptorIndex := 25, attributes := #[] }, { accessFlags := 25, nameIndex := 187, descriptorIndex := 25, attributes := #[] }, { accessFlags := 26, nameIndex := 48, descriptorIndex := 25, attributes := #[] }, { accessFlags := 25, nameIndex := 277, descriptorIndex := 25, attributes := #[] }, { accessFlags := 25, nameIndex := 280, descriptorIndex := 25, attributes := #[] }, { accessFlags := 25, nameIndex := 282, descriptorIndex := 25, attributes := #[] }, { accessFlags := 25, nameIndex := 284, descriptorIndex := 25, attributes := #[] }, { accessFlags := 25, nameIndex := 286, descriptorIndex := 25, attributes := #[] }, { accessFlags := 25, nameIndex := 288, descriptorIndex := 25, attributes := #[] }, { accessFlags := 25, nameIndex := 290, descriptorIndex := 25, attributes := #[] }, { accessFlags := 25, nameIndex := 292, descriptorIndex := 25, attributes := #[] }, { accessFlags := 26, nameIndex := 108, descriptorIndex := 109, attributes := #[] }, { accessFlags := 25, nameIndex := 294, descriptorIndex := 25, attributes := #[] }])
  fields := #[{ name := "U", type := (.object "jdk/internal/misc/Unsafe"), accessFlags := 24, slot := 0, constantValue := 0 }, { name := "BIG_ENDIAN", type := .boolean, accessFlags := 26, slot := 1, constantValue := 0 }, { name := "LOG2_ARRAY_BOOLEAN_INDEX_SCALE", type := .int, accessFlags := 25, slot := 2, constantValue := 0 }, { name := "LOG2_ARRAY_BYTE_INDEX_SCALE", type := .int, accessFlags := 25, slot := 3, constantValue := 0 }, { name := "LOG2_ARRAY_CHAR_INDEX_SCALE", type := .int, accessFlags := 25, slot := 4, constantValue := 0 }, { name := "LOG2_ARRAY_SHORT_INDEX_SCALE", type := .int, accessFlags := 25, slot := 5, constantValue := 0 }, { name := "LOG2_ARRAY_INT_INDEX_SCALE", type := .int, accessFlags := 25, slot := 6, constantValue := 0 }, { name := "LOG2_ARRAY_LONG_INDEX_SCALE", type := .int, accessFlags := 25, slot := 7, constantValue := 0 }, { name := "LOG2_ARRAY_FLOAT_INDEX_SCALE", type := .int, accessFlags := 25, slot := 8, constantValue := 0 }, { name := "LOG2_ARRAY_DOUBLE_INDEX_SCALE", type := .int, accessFlags := 25, slot := 9, constantValue := 0 }, { name := "LOG2_BYTE_BIT_SIZE", type := .int, accessFlags := 26, slot := 10, constantValue := 0 }, { name := "T_BOOLEAN", type := .int, accessFlags := 25, slot := 11, constantValue := 0 }, { name := "T_CHAR", type := .int, accessFlags := 25, slot := 12, constantValue := 0 }, { name := "T_FLOAT", type := .int, accessFlags := 25, slot := 13, constantValue := 0 }, { name := "T_DOUBLE", type := .int, accessFlags := 25, slot := 14, constantValue := 0 }, { name := "T_BYTE", type := .int, accessFlags := 25, slot := 15, constantValue := 0 }, { name := "T_SHORT", type := .int, accessFlags := 25, slot := 16, constantValue := 0 }, { name := "T_INT", type := .int, accessFlags := 25, slot := 17, constantValue := 0 }, { name := "T_LONG", type := .int, accessFlags := 25, slot := 18, constantValue := 0 }, { name := "JLA", type := (.object "jdk/internal/access/JavaLangAccess"), accessFlags := 26, slot := 19, constantValue := 0 }, { name := "SOFT_MAX_ARRAY_LENGTH", type := .int, accessFlags := 25, slot := 20, constantValue := 0 }]
  methods := #[k14m0]
  instanceTypes := #[]
  staticTypes := #[(.object "jdk/internal/misc/Unsafe"), .boolean, .int, .int, .int, .int, .int, .int, .int, .int, .int, .int, .int, .int, .int, .int, .int, .int, .int, (.object "jdk/internal/access/JavaLangAccess"), .int]
  resolved := Array.replicate 378 none
  statics := none }

def pool15 : Array CpInfo := pool [(1, u "java/lang/Cloneable"), (0, .class_ 1), (0, u "java/lang/Object"), (0, .class_ 3)] 3

/-- java/lang/Cloneable -/
def k15 : Class := { plain "java/lang/Cloneable" (some 0) with
  accessFlags := 1537
  interfaces := #[]
  cf := some (fileOf pool15 2 #[] #[] 1537 4 #[] #[])
  fields := #[]
  methods := #[]
  instanceTypes := #[]
  staticTypes := #[]
  resolved := Array.replicate 8 none
  statics := none }

/-- the primitive byte -/
def k16 : Class := { plain "byte" none with kind := .primitive 'B', accessFlags := 0x411 }
/-- [B -/
def k17 : Class := { plain "[B" (some 0) with kind := .array 16 .byte, interfaces := #[15, 2], accessFlags := 1041 }

/-- the primitive char -/
def k18 : Class := { plain "char" none with kind := .primitive 'C', accessFlags := 0x411 }
/-- [C -/
def k19 : Class := { plain "[C" (some 0) with kind := .array 18 .char, interfaces := #[15, 2], accessFlags := 1041 }

/-- the primitive int -/
def k20 : Class := { plain "int" none with kind := .primitive 'I', accessFlags := 0x411 }
/-- [I -/
def k21 : Class := { plain "[I" (some 0) with kind := .array 20 .int, interfaces := #[15, 2], accessFlags := 1041 }

def heap : Heap := #[{ cls := 7, slots := #[.long 0, .int 1, .null, .int 0, .null, .int 0, .int 0], vm := .statics 7 },
  { cls := 9, slots := #[.ref 3], vm := .statics 9 },
  { cls := 13, slots := #[.null, .null, .null], vm := .statics 13 },
  { cls := 9, slots := #[.null], vm := .none }]
def classes : Array Class := #[k0, k1, k2, k3, k4, k5, k6, k7, k8, k9, k10, k11, k12, k13, k14, k15, k16, k17, k18, k19, k20, k21]
def interned : List (Array UInt16 × Addr) := []
def slotsUsed : Nat := 12
def theMethod : MethodId := ⟨1, 1⟩
def args0 : Array Value := #[.int 5, .int 5, .int 5, .int 5]
def aboutOver (below : List Frame) : State where
  vm := { classes := classes, interned := interned.toArray }
  heap := heap
  slotsUsed := slotsUsed
  threads := #[{ frames := .invoking theMethod args0 :: below }]
def below0 : List Frame := [.native { method := ⟨0, 0⟩, args := #[] }]
def about1 : State := aboutOver below0
def p0 : Program := .bare "" "" ""
def e0 : Env := launch0.env 0 0 0
theorem w_frames : about1.frames = Frame.invoking theMethod args0 :: below0 := rfl
set_option maxRecDepth 65536 in
theorem w_args : argsFit about1.vm theMethod args0 = true := by decide +kernel
set_option maxRecDepth 65536 in
theorem w_heap : heapFits about1 = true := by decide +kernel
set_option maxRecDepth 65536 in
theorem w_runnable : about1.curStatus? = some .runnable := by decide +kernel
set_option maxRecDepth 65536 in
theorem w_alone : about1.alone = true := by decide +kernel
set_option maxRecDepth 65536 in
theorem w_named : about1.methodNamed? x = some theMethod := by decide +kernel
set_option maxRecDepth 65536 in
theorem w_hears : about1.hears theMethod below0 = true := by decide +kernel
set_option maxRecDepth 65536 in
theorem w_ripe : about1.ripe theMethod args0 below0 = true := by decide +kernel
theorem w_running : about1.status = .running := rfl
set_option maxRecDepth 65536 in
theorem w_room : about1.hasRoom e0.platform room_1 = true :=
  launch0.hasRoom_least _ room_1 (by decide +kernel) (by decide +kernel) (by decide +kernel) (by decide +kernel) (by decide +kernel) (by decide +kernel)
theorem allAtoms_all (ts : List Jvm.Cond) (a : Array Jvm.Value) (st : Jvm.State) : (allAtoms ts).before a st = ts.all (fun c => c.before a st) := by
  induction ts with
  | nil => rfl
  | cons c t ih =>
    show (Jvm.Cond.and c (allAtoms t)).before a st = _
    rw [Jvm.Cond.before_and, ih, List.all_cons]
def words1 : List Jvm.Cond := Jvm.Cond.code x code maxLocals ret :: tables_1
/-- a 'code' word, met by the world's own term for the bytes: nothing is compared byte by byte -/
theorem code_word {y : MethodName} {bytes : ByteArray} {mx : Nat} {rt : Option FieldType} {a : Array Value} {s : State} {m : MethodId} {meth : Method} {c : Code} (h1 : s.methodNamed? y = some m) (h2 : s.vm.method? m = some meth) (h3 : meth.code = some c) (h4 : c.code = bytes)
    (h5 : (c.maxLocals == mx && c.exceptionTable.isEmpty && decide (c.maxStack ≤ mostOperands) && decide (meth.sig.returnType = rt) && !meth.locks && decide (parseMethodDescriptor y.desc = some meth.sig)) = true) : (Jvm.Cond.code y bytes mx rt).before a s = true := by
  simp only [Bool.and_eq_true, beq_iff_eq, Bool.not_eq_true', decide_eq_true_eq] at h5
  obtain ⟨⟨⟨⟨⟨g1, g2⟩, g3⟩, g4⟩, g5⟩, g6⟩ := h5
  simp [Cond.before, Cond.holds, Cond.value, h1, h2, h3, h4, g1, g2, g3, g4, g5, g6]
def isCode : Jvm.Cond → Bool
  | .code _ _ _ _ => true
  | _ => false
theorem all_split {L : List Jvm.Cond} {P : Jvm.Cond → Bool} (h1 : L.all (fun c => isCode c || P c) = true) (h2 : ∀ c ∈ L.filter isCode, P c = true) : L.all P = true := by
  refine List.all_eq_true.mpr fun c hc => ?_
  have h := List.all_eq_true.mp h1 c hc
  rcases Bool.eq_false_or_eq_true (isCode c) with hi | hi
  · exact h2 c (List.mem_filter.mpr ⟨hc, hi⟩)
  · simpa [hi] using h
set_option maxRecDepth 65536 in
theorem w_c0 : (Jvm.Cond.code x code maxLocals ret).before args0 about1 = true := code_word (m := ⟨1, 1⟩) (meth := k1m1) (c := k1c1) (by decide +kernel) rfl rfl rfl (by decide +kernel)
set_option maxRecDepth 65536 in
theorem w_c1 : (Jvm.Cond.code ({ cls := "java/lang/String", name := "<init>", desc := "([C)V" } : Jvm.MethodName) jdk_42_method_3_code (2 : Nat) (Option.none : Option Jvm.ClassFile.FieldType)).before args0 about1 = true := code_word (m := ⟨7, 1⟩) (meth := k7m1) (c := k7c1) (by decide +kernel) rfl rfl rfl (by decide +kernel)
set_option maxRecDepth 65536 in
theorem w_c2 : (Jvm.Cond.code ({ cls := "java/lang/String", name := "<init>", desc := "([CIILjava/lang/Void;)V" } : Jvm.MethodName) jdk_42_method_149_code (6 : Nat) (Option.none : Option Jvm.ClassFile.FieldType)).before args0 about1 = true := code_word (m := ⟨7, 3⟩) (meth := k7m3) (c := k7c3) (by decide +kernel) rfl rfl rfl (by decide +kernel)
set_option maxRecDepth 65536 in
theorem w_c3 : (Jvm.Cond.code ({ cls := "java/lang/Object", name := "<init>", desc := "()V" } : Jvm.MethodName) object_method_1_code (1 : Nat) (Option.none : Option Jvm.ClassFile.FieldType)).before args0 about1 = true := code_word (m := ⟨0, 0⟩) (meth := k0m0) (c := k0c0) (by decide +kernel) rfl rfl rfl (by decide +kernel)
set_option maxRecDepth 65536 in
theorem w_c4 : (Jvm.Cond.code ({ cls := "com/example/umq/umq/admin/Selection", name := "all", desc := "(Ljava/lang/String;)Lcom/example/umq/umq/admin/Selection;" } : Jvm.MethodName) prog_12_method_2_code (1 : Nat) (Option.some (Jvm.ClassFile.FieldType.object "com/example/umq/umq/admin/Selection"))).before args0 about1 = true := code_word (m := ⟨8, 1⟩) (meth := k8m1) (c := k8c1) (by decide +kernel) rfl rfl rfl (by decide +kernel)
set_option maxRecDepth 65536 in
theorem w_c5 : (Jvm.Cond.code ({ cls := "java/util/Optional", name := "empty", desc := "()Ljava/util/Optional;" } : Jvm.MethodName) jdk_32_method_1_code (1 : Nat) (Option.some (Jvm.ClassFile.FieldType.object "java/util/Optional"))).before args0 about1 = true := code_word (m := ⟨9, 0⟩) (meth := k9m0) (c := k9c0) (by decide +kernel) rfl rfl rfl (by decide +kernel)
set_option maxRecDepth 65536 in
theorem w_c6 : (Jvm.Cond.code ({ cls := "com/example/umq/umq/admin/Selection", name := "<init>", desc := "(Ljava/lang/String;Ljava/util/Optional;J)V" } : Jvm.MethodName) prog_12_method_1_code (5 : Nat) (Option.none : Option Jvm.ClassFile.FieldType)).before args0 about1 = true := code_word (m := ⟨8, 0⟩) (meth := k8m0) (c := k8c0) (by decide +kernel) rfl rfl rfl (by decide +kernel)
set_option maxRecDepth 65536 in
theorem w_c7 : (Jvm.Cond.code ({ cls := "java/util/Objects", name := "requireNonNull", desc := "(Ljava/lang/Object;Ljava/lang/String;)Ljava/lang/Object;" } : Jvm.MethodName) jdk_31_method_11_code (2 : Nat) (Option.some (Jvm.ClassFile.FieldType.object "java/lang/Object"))).before args0 about1 = true := code_word (m := ⟨10, 1⟩) (meth := k10m1) (c := k10c1) (by decide +kernel) rfl rfl rfl (by decide +kernel)
set_option maxRecDepth 65536 in
theorem w_c8 : (Jvm.Cond.code ({ cls := "com/example/umq/umq/admin/Selection", name := "level", desc := "()Ljava/lang/String;" } : Jvm.MethodName) prog_12_method_5_code (1 : Nat) (Option.some (Jvm.ClassFile.FieldType.object "java/lang/String"))).before args0 about1 = true := code_word (m := ⟨8, 2⟩) (meth := k8m2) (c := k8c2) (by decide +kernel) rfl rfl rfl (by decide +kernel)
set_option maxRecDepth 65536 in
theorem w_c9 : (Jvm.Cond.code ({ cls := "java/lang/String", name := "equals", desc := "(Ljava/lang/Object;)Z" } : Jvm.MethodName) jdk_42_method_66_code (3 : Nat) (Option.some Jvm.ClassFile.FieldType.boolean)).before args0 about1 = true := code_word (m := ⟨7, 2⟩) (meth := k7m2) (c := k7c2) (by decide +kernel) rfl rfl rfl (by decide +kernel)
set_option maxRecDepth 65536 in
theorem w_c10 : (Jvm.Cond.code ({ cls := "com/example/umq/umq/admin/Selection", name := "named", desc := "()Ljava/util/Optional;" } : Jvm.MethodName) prog_12_method_6_code (1 : Nat) (Option.some (Jvm.ClassFile.FieldType.object "java/util/Optional"))).before args0 about1 = true := code_word (m := ⟨8, 3⟩) (meth := k8m3) (c := k8c3) (by decide +kernel) rfl rfl rfl (by decide +kernel)
set_option maxRecDepth 65536 in
theorem w_c11 : (Jvm.Cond.code ({ cls := "java/util/Optional", name := "isPresent", desc := "()Z" } : Jvm.MethodName) jdk_32_method_6_code (1 : Nat) (Option.some Jvm.ClassFile.FieldType.boolean)).before args0 about1 = true := code_word (m := ⟨9, 1⟩) (meth := k9m1) (c := k9c1) (by decide +kernel) rfl rfl rfl (by decide +kernel)
set_option maxRecDepth 65536 in
theorem w_c12 : (Jvm.Cond.code ({ cls := "com/example/umq/umq/admin/Selection", name := "limit", desc := "()J" } : Jvm.MethodName) prog_12_method_7_code (1 : Nat) (Option.some Jvm.ClassFile.FieldType.long)).before args0 about1 = true := code_word (m := ⟨8, 4⟩) (meth := k8m4) (c := k8c4) (by decide +kernel) rfl rfl rfl (by decide +kernel)
set_option maxRecDepth 65536 in
theorem w_c13 : (Jvm.Cond.code ({ cls := "java/lang/StringUTF16", name := "compress", desc := "([CII)[B" } : Jvm.MethodName) jdk_52_method_16_code (6 : Nat) (Option.some (Jvm.ClassFile.FieldType.array Jvm.ClassFile.FieldType.byte))).before args0 about1 = true := code_word (m := ⟨11, 2⟩) (meth := k11m2) (c := k11c2) (by decide +kernel) rfl rfl rfl (by decide +kernel)
set_option maxRecDepth 65536 in
theorem w_c14 : (Jvm.Cond.code ({ cls := "java/lang/StringUTF16", name := "compress", desc := "([CI[BII)I" } : Jvm.MethodName) jdk_52_method_21_code (7 : Nat) (Option.some Jvm.ClassFile.FieldType.int)).before args0 about1 = true := code_word (m := ⟨11, 3⟩) (meth := k11m3) (c := k11c3) (by decide +kernel) rfl rfl rfl (by decide +kernel)
set_option maxRecDepth 65536 in
theorem w_c15 : (Jvm.Cond.code ({ cls := "java/lang/StringUTF16", name := "coderFromArrayLen", desc := "([BI)B" } : Jvm.MethodName) jdk_52_method_15_code (2 : Nat) (Option.some Jvm.ClassFile.FieldType.byte)).before args0 about1 = true := code_word (m := ⟨11, 1⟩) (meth := k11m1) (c := k11c1) (by decide +kernel) rfl rfl rfl (by decide +kernel)
def codes1 : List Jvm.Cond := [Jvm.Cond.code x code maxLocals ret, Jvm.Cond.code ({ cls := "java/lang/String", name := "<init>", desc := "([C)V" } : Jvm.MethodName) jdk_42_method_3_code (2 : Nat) (Option.none : Option Jvm.ClassFile.FieldType), Jvm.Cond.code ({ cls := "java/lang/String", name := "<init>", desc := "([CIILjava/lang/Void;)V" } : Jvm.MethodName) jdk_42_method_149_code (6 : Nat) (Option.none : Option Jvm.ClassFile.FieldType), Jvm.Cond.code ({ cls := "java/lang/Object", name := "<init>", desc := "()V" } : Jvm.MethodName) object_method_1_code (1 : Nat) (Option.none : Option Jvm.ClassFile.FieldType), Jvm.Cond.code ({ cls := "com/example/umq/umq/admin/Selection", name := "all", desc := "(Ljava/lang/String;)Lcom/example/umq/umq/admin/Selection;" } : Jvm.MethodName) prog_12_method_2_code (1 : Nat) (Option.some (Jvm.ClassFile.FieldType.object "com/example/umq/umq/admin/Selection")), Jvm.Cond.code ({ cls := "java/util/Optional", name := "empty", desc := "()Ljava/util/Optional;" } : Jvm.MethodName) jdk_32_method_1_code (1 : Nat) (Option.some (Jvm.ClassFile.FieldType.object "java/util/Optional")), Jvm.Cond.code ({ cls := "com/example/umq/umq/admin/Selection", name := "<init>", desc := "(Ljava/lang/String;Ljava/util/Optional;J)V" } : Jvm.MethodName) prog_12_method_1_code (5 : Nat) (Option.none : Option Jvm.ClassFile.FieldType), Jvm.Cond.code ({ cls := "java/util/Objects", name := "requireNonNull", desc := "(Ljava/lang/Object;Ljava/lang/String;)Ljava/lang/Object;" } : Jvm.MethodName) jdk_31_method_11_code (2 : Nat) (Option.some (Jvm.ClassFile.FieldType.object "java/lang/Object")), Jvm.Cond.code ({ cls := "com/example/umq/umq/admin/Selection", name := "level", desc := "()Ljava/lang/String;" } : Jvm.MethodName) prog_12_method_5_code (1 : Nat) (Option.some (Jvm.ClassFile.FieldType.object "java/lang/String")), Jvm.Cond.code ({ cls := "java/lang/String", name := "equals", desc := "(Ljava/lang/Object;)Z" } : Jvm.MethodName) jdk_42_method_66_code (3 : Nat) (Option.some Jvm.ClassFile.FieldType.boolean), Jvm.Cond.code ({ cls := "com/example/umq/umq/admin/Selection", name := "named", desc := "()Ljava/util/Optional;" } : Jvm.MethodName) prog_12_method_6_code (1 : Nat) (Option.some (Jvm.ClassFile.FieldType.object "java/util/Optional")), Jvm.Cond.code ({ cls := "java/util/Optional", name := "isPresent", desc := "()Z" } : Jvm.MethodName) jdk_32_method_6_code (1 : Nat) (Option.some Jvm.ClassFile.FieldType.boolean), Jvm.Cond.code ({ cls := "com/example/umq/umq/admin/Selection", name := "limit", desc := "()J" } : Jvm.MethodName) prog_12_method_7_code (1 : Nat) (Option.some Jvm.ClassFile.FieldType.long), Jvm.Cond.code ({ cls := "java/lang/StringUTF16", name := "compress", desc := "([CII)[B" } : Jvm.MethodName) jdk_52_method_16_code (6 : Nat) (Option.some (Jvm.ClassFile.FieldType.array Jvm.ClassFile.FieldType.byte)), Jvm.Cond.code ({ cls := "java/lang/StringUTF16", name := "compress", desc := "([CI[BII)I" } : Jvm.MethodName) jdk_52_method_21_code (7 : Nat) (Option.some Jvm.ClassFile.FieldType.int), Jvm.Cond.code ({ cls := "java/lang/StringUTF16", name := "coderFromArrayLen", desc := "([BI)B" } : Jvm.MethodName) jdk_52_method_15_code (2 : Nat) (Option.some Jvm.ClassFile.FieldType.byte)]
set_option maxRecDepth 65536 in
theorem codes_eq : words1.filter isCode = codes1 := rfl
theorem w_codes : ∀ c ∈ words1.filter isCode, c.before args0 about1 = true := by
  rw [codes_eq]
  intro c hc
  simp only [codes1, List.mem_cons, List.not_mem_nil, or_false] at hc
  rcases hc with rfl | rfl | rfl | rfl | rfl | rfl | rfl | rfl | rfl | rfl | rfl | rfl | rfl | rfl | rfl | rfl
  · exact w_c0
  · exact w_c1
  · exact w_c2
  · exact w_c3
  · exact w_c4
  · exact w_c5
  · exact w_c6
  · exact w_c7
  · exact w_c8
  · exact w_c9
  · exact w_c10
  · exact w_c11
  · exact w_c12
  · exact w_c13
  · exact w_c14
  · exact w_c15
set_option maxRecDepth 65536 in
theorem w_t1 : (words1.take 24).all (fun c => isCode c || c.before args0 about1) = true := by decide +kernel
set_option maxRecDepth 65536 in
theorem w_t2 : ((words1.drop 24).take 24).all (fun c => isCode c || c.before args0 about1) = true := by decide +kernel
set_option maxRecDepth 65536 in
theorem w_t3 : (((words1.drop 24).drop 24).take 24).all (fun c => isCode c || c.before args0 about1) = true := by decide +kernel
set_option maxRecDepth 65536 in
theorem w_t4 : (((words1.drop 24).drop 24).drop 24).all (fun c => isCode c || c.before args0 about1) = true := by decide +kernel
theorem w_tables : (allAtoms (Jvm.Cond.code x code maxLocals ret :: tables_1)).before args0 about1 = true := by
  rw [allAtoms_all]
  show words1.all (fun c => c.before args0 about1) = true
  refine all_split ?_ w_codes
  rw [← List.take_append_drop 24 words1, List.all_append, w_t1, ← List.take_append_drop 24 (words1.drop 24), List.all_append, w_t2, ← List.take_append_drop 24 ((words1.drop 24).drop 24), List.all_append, w_t3, w_t4]
  rfl
set_option maxRecDepth 65536 in
theorem w_rest : rest_1_c.before args0 about1 = true := by decide +kernel
set_option maxRecDepth 65536 in
theorem w_case : (Jvm.Cond.and given_1 narrow_1).before args0 about1 = true := by decide +kernel
set_option maxRecDepth 65536 in
theorem w_consts : constsHeld consts_1 about1 := Jvm.Lit.constsHeldB_iff.mp (by decide +kernel)
theorem w_applies : (headSpec (Jvm.Cond.code x code maxLocals ret :: tables_1) room_1).applies x e0.platform about1 = true :=
  (Spec.applies_iff w_frames).mpr ⟨w_running, w_runnable, w_alone, w_named, w_hears, w_ripe, w_room, w_tables⟩
theorem atStart : AtStart classFile x code maxLocals ret World_1 tables_1 room_1 Calls_1 rest_1 Pre_1 launch0 p0 e0 about1 theMethod args0 below0 :=
  ⟨lists_1, trivial, launch0.admits_env _ _ _, launch0.least_env, fairChoices_fair.cas, fairChoices_fair.clock, w_frames, w_args, w_heap, w_applies, ⟨w_consts, trivial⟩, w_rest, w_case⟩
end start1
theorem witness_1 : WitnessClaimed_1 := ⟨start1.p0, start1.e0, start1.about1, start1.theMethod, start1.args0, start1.below0, start1.atStart⟩
end Jvm.Pilot.@@N@@
