import JvmDerived
import JvmDerived.Pilot.@@N@@Statement
import JvmDerived.Pilot.@@N@@Code
set_option linter.unusedVariables false
set_option linter.unusedSimpArgs false
/- laws to paste: Road.backV (cut by pick.py; bodies as the Statement names them) -/
namespace Jvm.Pilot.@@N@@
namespace StrChars
open Jvm Sem ClassFile Op Lib Jvm.Stand Jvm.Free.XT Jvm.Free.ALB Jvm.Free.JM Jvm.Free
open Jvm.Lib.Cold (StaticIs)
/-- a char array whose places are chars -/
def Ch (a : Addr) (A : Cell) (U : State) : Prop := Arr .char a A U ∧ Typed .char A
theorem Ch.mv {a : Addr} {A : Cell} {U U' : State} (h : Ch a A U) (hal : U.vm.Alike U'.vm) (hh : U'.heap = U.heap) : Ch a A U' := ⟨h.1.mv hal hh, h.2⟩
theorem Ch.keep {a : Addr} {A : Cell} {U U' : State} (h : Ch a A U) (hal : U.vm.Alike U'.vm) (hk : U'.heap[a]? = some A) : Ch a A U' := ⟨h.1.keep hal hk, h.2⟩
/-- what place i of a char[]'s cell holds -/
def cv (A : Cell) (i : Nat) : Int32 := match A.slots[i]? with | some (.int x) => x | _ => 0
theorem Ch.get {a : Addr} {A : Cell} {U : State} (h : Ch a A U) {i : Nat} (hi : i < A.slots.size) : A.slots[i]? = some (.int (cv A i)) := by
  have e := Array.getElem?_eq_getElem hi
  have f := h.2 i _ e
  unfold cv; rw [e]
  generalize A.slots[i] = v at f
  cases v <;> simp [fits] at f ⊢
/-- the byte that i2b leaves of a char -/
def lo8 (x : Int32) : Int32 := x.toInt8.toInt32
theorem fits_lo8 (y : Int32) : fits .byte (.int (lo8 y)) = true := by
  have h1 := y.toInt8.le_toInt
  have h2 := y.toInt8.toInt_lt
  simp only [lo8, fits, Bool.and_eq_true, decide_eq_true_eq, Int32.le_iff_toInt_le, Int8.toInt_toInt32, show (-128 : Int32).toInt = -128 from by decide, show (127 : Int32).toInt = 127 from by decide]
  omega
/-- A' is A but that each place j of lo .. hi - 1 holds f j -/
def Laid (A A' : Cell) (lo hi : Nat) (f : Nat → Value) : Prop := A'.cls = A.cls ∧ A'.vm = A.vm ∧ A'.slots.size = A.slots.size ∧ ∀ i, A'.slots[i]? = if lo ≤ i ∧ i < hi then some (f i) else A.slots[i]?
theorem Laid.zero (A : Cell) (lo : Nat) (f : Nat → Value) : Laid A A lo (lo + 0) f := ⟨rfl, rfl, rfl, fun i => by rw [if_neg (by omega)]⟩
theorem Laid.step {A Ak : Cell} {lo k : Nat} {f : Nat → Value} {v : Value} (h : Laid A Ak lo k f) (hlo : lo ≤ k) (hk : k < Ak.slots.size) (hv : v = f k) : Laid A (Ak.setSlot k v) lo (k + 1) f := by
  refine ⟨h.1, h.2.1, by simpa [Cell.setSlot] using h.2.2.1, fun i => ?_⟩
  by_cases e : k = i
  · subst e; rw [Cell.slots_setSlot_self v hk, if_pos (by omega), hv]
  · rw [Cell.slots_setSlot_ne v e, h.2.2.2 i]
    by_cases q : lo ≤ i ∧ i < k
    · rw [if_pos q, if_pos (by omega)]
    · rw [if_neg q, if_neg (by omega)]
def U16 : String := "java/lang/StringUTF16"
namespace Cmp5
def yN : MethodName := ⟨"java/lang/StringUTF16", "compress", "([CI[BII)I"⟩
abbrev yB : ByteArray := jdk_52_method_21_code
theorem d0 : decode yB 0 = .ok (.iconst 0, 1) := by decide +kernel
theorem d1 : decode yB 1 = .ok (.istore 5, 2) := by decide +kernel
theorem d3 : decode yB 3 = .ok (.iload 5, 2) := by decide +kernel
theorem d5 : decode yB 5 = .ok (.iload 4, 2) := by decide +kernel
theorem d7 : decode yB 7 = .ok (.if_icmp (.ge) 37, 3) := by decide +kernel
theorem d10 : decode yB 10 = .ok (.aload_n 0, 1) := by decide +kernel
theorem d11 : decode yB 11 = .ok (.iload_n 1, 1) := by decide +kernel
theorem d12 : decode yB 12 = .ok (.caload, 1) := by decide +kernel
theorem d13 : decode yB 13 = .ok (.istore 6, 2) := by decide +kernel
theorem d15 : decode yB 15 = .ok (.iload 6, 2) := by decide +kernel
theorem d17 : decode yB 17 = .ok (.sipush 255, 3) := by decide +kernel
theorem d20 : decode yB 20 = .ok (.if_icmp (.le) 6, 3) := by decide +kernel
theorem d26 : decode yB 26 = .ok (.aload_n 2, 1) := by decide +kernel
theorem d27 : decode yB 27 = .ok (.iload_n 3, 1) := by decide +kernel
theorem d28 : decode yB 28 = .ok (.iload 6, 2) := by decide +kernel
theorem d30 : decode yB 30 = .ok (.i2b, 1) := by decide +kernel
theorem d31 : decode yB 31 = .ok (.bastore, 1) := by decide +kernel
theorem d32 : decode yB 32 = .ok (.iinc 1 1, 3) := by decide +kernel
theorem d35 : decode yB 35 = .ok (.iinc 3 1, 3) := by decide +kernel
theorem d38 : decode yB 38 = .ok (.iinc 5 1, 3) := by decide +kernel
theorem d41 : decode yB 41 = .ok (.goto (-38), 3) := by decide +kernel
theorem d44 : decode yB 44 = .ok (.iload 4, 2) := by decide +kernel
theorem d46 : decode yB 46 = .ok (.ireturn, 1) := by decide +kernel
def site : List Cond := []
def tab : Cond := tabOf yN yB 7 (some .int) site
def P (b : Addr) (A : Cell) (d : Addr) (B : Cell) (o q len : Nat) (args : Array Value) (s : State) : Prop := args = #[.ref b, .int (Int32.ofNat o), .ref d, .int (Int32.ofNat q), .int (Int32.ofNat len)] ∧ Ch b A s ∧ Arr .byte d B s ∧ b ≠ d ∧ o + len ≤ A.slots.size ∧ q + len ≤ B.slots.size ∧ ∀ i, i < len → ¬ 255 < cv A (o + i)
def E (b : Addr) (A : Cell) (d : Addr) (B : Cell) (o q len : Nat) (r : Option Value) (s u : State) : Prop := r = some (.int (Int32.ofNat len)) ∧ ∃ B', Put d B' s u ∧ Laid B B' q (q + len) (fun j => Value.int (lo8 (cv A (o + (j - q)))))
/-- no char of the range above 255: len; the places written hold each char's low byte -/
theorem law (l : Launch) (b : Addr) (A : Cell) (d : Addr) (B : Cell) (o q len : Nat) : Law l yN 5 5 0 0 yB 7 (some .int) site (P b A d B o q len) (E b A d B o q len) (copyLocs d q len) 0 0 := by
  refine Law.of_walk (plainFor_of_name (by decide +kernel)) (by decide +kernel) (by decide +kernel) (by decide) (fun _ _ h => by rw [h.1]; rfl) (fun _ U U' hal hh h => ⟨h.1, h.2.1.mv hal hh, h.2.2.1.mv hal hh, h.2.2.2⟩) (fun r U U' V V' h1 hal h2 h => ⟨h.1, h.2.elim fun B' q => ⟨B', q.1.mv h1 h2, q.2⟩⟩) ?_
  intro p e s m args below meth c s₁ X0 hexec hbytes hml hret hlk hnm hown hh0 W hP
  obtain ⟨rfl, hA, hB, hne, l1, l2, hp⟩ := hP
  have c1 : Steps p.tables e below (s₁.setTop (entryFrame m #[.ref b, .int (Int32.ofNat o), .ref d, .int (Int32.ofNat q), .int (Int32.ofNat len)] 7)) (s₁.setTop (mkF m 0 #[.val (.ref b), .val (.int (Int32.ofNat o)), .val (.ref d), .val (.int (Int32.ofNat q)), .val (.int (Int32.ofNat len)), .unset, .unset] [])) := entry rfl
  have hA0 := hA.1.mv X0.warmed.alike hh0
  have hB0 := hB.mv X0.warmed.alike hh0
  have a31 := hA.1.2.2.2
  have c2 : Steps p.tables e below (s₁.setTop (entryFrame m #[.ref b, .int (Int32.ofNat o), .ref d, .int (Int32.ofNat q), .int (Int32.ofNat len)] 7)) (s₁.setTop (mkF m 3 #[.val (.ref b), .val (.int (Int32.ofNat o)), .val (.ref d), .val (.int (Int32.ofNat q)), .val (.int (Int32.ofNat len)), .val (.int 0), .unset] [])) := c1.trans (by
    refine iconstV X0.here hexec rfl 0 (hb hbytes d0) (by decide) ?_
    refine XS.istore X0.here hexec rfl (hb hbytes d1) rfl rfl ?_
    exact Steps.refl _)
  have loop : ∀ (r i : Nat), i + r = len → ∀ (z : Slot), (z = .unset ∨ ∃ w, z = .val w ∧ w.category = 1) → ∀ (Tl : State) (Bk : Cell), Stand p l e { frames := 0, locals := 0, cells := 0, slots := 0 } s m #[.ref b, .int (Int32.ofNat o), .ref d, .int (Int32.ofNat q), .int (Int32.ofNat len)] below meth c Tl ([] ++ copyLocs d q i) 0 0 → Put d Bk s₁ Tl → Laid B Bk q (q + i) (fun j => Value.int (lo8 (cv A (o + (j - q))))) →
      Steps p.tables e below (s₁.setTop (entryFrame m #[.ref b, .int (Int32.ofNat o), .ref d, .int (Int32.ofNat q), .int (Int32.ofNat len)] 7)) (Tl.setTop (mkF m 3 #[.val (.ref b), .val (.int (Int32.ofNat (o + i))), .val (.ref d), .val (.int (Int32.ofNat (q + i))), .val (.int (Int32.ofNat len)), .val (.int (Int32.ofNat i)), z] [])) → ∃ (T' : State) (B' : Cell) (z' : Slot), Stand p l e { frames := 0, locals := 0, cells := 0, slots := 0 } s m #[.ref b, .int (Int32.ofNat o), .ref d, .int (Int32.ofNat q), .int (Int32.ofNat len)] below meth c T' ([] ++ copyLocs d q len) 0 0 ∧ Put d B' s₁ T' ∧ Laid B B' q (q + len) (fun j => Value.int (lo8 (cv A (o + (j - q))))) ∧
      Steps p.tables e below (s₁.setTop (entryFrame m #[.ref b, .int (Int32.ofNat o), .ref d, .int (Int32.ofNat q), .int (Int32.ofNat len)] 7)) (T'.setTop (mkF m 3 #[.val (.ref b), .val (.int (Int32.ofNat (o + len))), .val (.ref d), .val (.int (Int32.ofNat (q + len))), .val (.int (Int32.ofNat len)), .val (.int (Int32.ofNat len)), z'] [])) := by
    intro r
    induction r with
    | zero =>
      intro i hi z hz Tl Bk Xl pl fl cl
      have hil : i = len := by omega
      rw [hil] at Xl fl cl
      exact ⟨Tl, Bk, z, Xl, pl, fl, cl⟩
    | succ r ih =>
      intro i hi z hz Tl Bk Xl pl fl cl
      have all := X0.warmed.alike.symm.trans Xl.warmed.alike
      have hAl := hA0.keep all (pl.other hne hA0.1)
      have hBk := hB0.like all pl.1 fl.1 fl.2.1 fl.2.2.1
      have hlt : q + i < Bk.slots.size := by rw [fl.2.2.1]; omega
      have c3 : Steps p.tables e below (s₁.setTop (entryFrame m #[.ref b, .int (Int32.ofNat o), .ref d, .int (Int32.ofNat q), .int (Int32.ofNat len)] 7)) (Tl.setTop (mkF m 12 #[.val (.ref b), .val (.int (Int32.ofNat (o + i))), .val (.ref d), .val (.int (Int32.ofNat (q + i))), .val (.int (Int32.ofNat len)), .val (.int (Int32.ofNat i)), z] [.int (Int32.ofNat (o + i)), .ref b])) := cl.trans (by
        refine XS.iload Xl.here hexec rfl (hb hbytes d3) rfl ?_
        refine XS.iload Xl.here hexec rfl (hb hbytes d5) rfl ?_
        refine XS.icmpNo Xl.here hexec rfl (hb hbytes d7) rfl (ii_ge_f (lt32 (by omega) (by omega))) ?_
        refine XS.aloadN Xl.here hexec rfl (hb hbytes d10) rfl rfl ?_
        refine XS.iloadN Xl.here hexec rfl (hb hbytes d11) rfl ?_
        exact Steps.refl _)
      have c4 : Steps p.tables e below (s₁.setTop (entryFrame m #[.ref b, .int (Int32.ofNat o), .ref d, .int (Int32.ofNat q), .int (Int32.ofNat len)] 7)) (Tl.setTop (mkF m 13 #[.val (.ref b), .val (.int (Int32.ofNat (o + i))), .val (.ref d), .val (.int (Int32.ofNat (q + i))), .val (.int (Int32.ofNat len)), .val (.int (Int32.ofNat i)), z] [.int (cv A (o + i))])) := c3.trans (by
        refine Xl.aget hexec hAl rfl (hA.get (i := o + i) (by omega)) rfl rfl (hb hbytes d12) ?_
        exact Steps.refl _)
      have c5 : Steps p.tables e below (s₁.setTop (entryFrame m #[.ref b, .int (Int32.ofNat o), .ref d, .int (Int32.ofNat q), .int (Int32.ofNat len)] 7)) (Tl.setTop (mkF m 15 #[.val (.ref b), .val (.int (Int32.ofNat (o + i))), .val (.ref d), .val (.int (Int32.ofNat (q + i))), .val (.int (Int32.ofNat len)), .val (.int (Int32.ofNat i)), .val (.int (cv A (o + i)))] [])) := c4.trans (by
        refine XS.istoreS Xl.here hexec rfl (hb hbytes d13) rfl rfl hz ?_
        exact Steps.refl _)
      have c6 : Steps p.tables e below (s₁.setTop (entryFrame m #[.ref b, .int (Int32.ofNat o), .ref d, .int (Int32.ofNat q), .int (Int32.ofNat len)] 7)) (Tl.setTop (mkF m 31 #[.val (.ref b), .val (.int (Int32.ofNat (o + i))), .val (.ref d), .val (.int (Int32.ofNat (q + i))), .val (.int (Int32.ofNat len)), .val (.int (Int32.ofNat i)), .val (.int (cv A (o + i)))] [.int (lo8 (cv A (o + i))), .int (Int32.ofNat (q + i)), .ref d])) := c5.trans (by
        refine XS.iload Xl.here hexec rfl (hb hbytes d15) rfl ?_
        refine sipushV Xl.here hexec rfl 255 (hb hbytes d17) (by decide) ?_
        refine XS.icmpYes Xl.here hexec rfl (pc0 := 20) rfl (hb hbytes d20) rfl (ii_le_t (hp i (by omega))) (by decide) rfl ?_
        refine XS.aloadN Xl.here hexec rfl (hb hbytes d26) rfl rfl ?_
        refine XS.iloadN Xl.here hexec rfl (hb hbytes d27) rfl ?_
        refine XS.iload Xl.here hexec rfl (hb hbytes d28) rfl ?_
        refine i2b Xl.here hexec rfl (hb hbytes d30) rfl ?_
        exact Steps.refl _)
      obtain ⟨T7, X7, p7, st7⟩ := Xl.aput hexec hBk rfl hlt rfl (fits_lo8 (cv A (o + i))) (g := (mkF m 31 #[.val (.ref b), .val (.int (Int32.ofNat (o + i))), .val (.ref d), .val (.int (Int32.ofNat (q + i))), .val (.int (Int32.ofNat len)), .val (.int (Int32.ofNat i)), .val (.int (cv A (o + i)))] [.int (lo8 (cv A (o + i))), .int (Int32.ofNat (q + i)), .ref d])) rfl (rest := []) rfl (hb hbytes d31)
      have c8 : Steps p.tables e below (s₁.setTop (entryFrame m #[.ref b, .int (Int32.ofNat o), .ref d, .int (Int32.ofNat q), .int (Int32.ofNat len)] 7)) (T7.setTop (mkF m 32 #[.val (.ref b), .val (.int (Int32.ofNat (o + i))), .val (.ref d), .val (.int (Int32.ofNat (q + i))), .val (.int (Int32.ofNat len)), .val (.int (Int32.ofNat i)), .val (.int (cv A (o + i)))] [])) := c6.trans (st7 _ (Steps.refl _))
      have c9 : Steps p.tables e below (s₁.setTop (entryFrame m #[.ref b, .int (Int32.ofNat o), .ref d, .int (Int32.ofNat q), .int (Int32.ofNat len)] 7)) (T7.setTop (mkF m 3 #[.val (.ref b), .val (.int (Int32.ofNat (o + i) + 1)), .val (.ref d), .val (.int (Int32.ofNat (q + i) + 1)), .val (.int (Int32.ofNat len)), .val (.int (Int32.ofNat i + 1)), .val (.int (cv A (o + i)))] [])) := c8.trans (by
        refine iincV X7.here hexec rfl 1 (hb hbytes d32) (by decide) rfl rfl ?_
        refine iincV X7.here hexec rfl 1 (hb hbytes d35) (by decide) rfl rfl ?_
        refine iincV X7.here hexec rfl 1 (hb hbytes d38) (by decide) rfl rfl ?_
        refine XS.goto X7.here hexec rfl (pc0 := 41) rfl (hb hbytes d41) (by decide) rfl ?_
        exact Steps.refl _)
      have c10 : Steps p.tables e below (s₁.setTop (entryFrame m #[.ref b, .int (Int32.ofNat o), .ref d, .int (Int32.ofNat q), .int (Int32.ofNat len)] 7)) (T7.setTop (mkF m 3 #[.val (.ref b), .val (.int (Int32.ofNat (o + (i + 1)))), .val (.ref d), .val (.int (Int32.ofNat (q + (i + 1)))), .val (.int (Int32.ofNat len)), .val (.int (Int32.ofNat (i + 1))), .val (.int (cv A (o + i)))] [])) := by
        have := c9
        rw [succ32, succ32, succ32] at this
        exact this
      exact ih (i + 1) (by omega) _ (Or.inr ⟨_, rfl, rfl⟩) T7 _ (by rw [copyLocs_step, ← List.append_assoc]; exact X7) (pl.trans p7) (fl.step (by omega) hlt (by simp)) c10
  obtain ⟨T9, B9, z9, X9, p9, f9, g9⟩ := loop len 0 (by omega) .unset (Or.inl rfl) s₁ B (by simpa [copyLocs] using X0) ⟨hB0.1, fun _ _ => rfl, rfl⟩ (Laid.zero _ _ _) c2
  have c11 : Steps p.tables e below (s₁.setTop (entryFrame m #[.ref b, .int (Int32.ofNat o), .ref d, .int (Int32.ofNat q), .int (Int32.ofNat len)] 7)) (T9.setTop (mkF m 46 #[.val (.ref b), .val (.int (Int32.ofNat (o + len))), .val (.ref d), .val (.int (Int32.ofNat (q + len))), .val (.int (Int32.ofNat len)), .val (.int (Int32.ofNat len)), z9] [.int (Int32.ofNat len)])) := g9.trans (by
    refine XS.iload X9.here hexec rfl (hb hbytes d3) rfl ?_
    refine XS.iload X9.here hexec rfl (hb hbytes d5) rfl ?_
    refine XS.icmpYes X9.here hexec rfl (pc0 := 7) rfl (hb hbytes d7) rfl (ii_ge_t (nlt32 (by omega) (Nat.le_refl _))) (by decide) rfl ?_
    refine XS.iload X9.here hexec rfl (hb hbytes d44) rfl ?_
    exact Steps.refl _)
  exact ⟨T9, some (.int (Int32.ofNat len)), _, _, _, X9, by simp, rfl, rfl, (fun h => by cases h), ⟨rfl, B9, p9.from hh0, f9⟩, fun fs hl => c11.trans (X9.ireturnOut hexec hret rfl (Or.inl rfl) (hb hbytes d46) hl)⟩
end Cmp5
namespace Cmp3
def yN : MethodName := ⟨"java/lang/StringUTF16", "compress", "([CII)[B"⟩
abbrev yB : ByteArray := jdk_52_method_16_code
theorem d0 : decode yB 0 = .ok (.iload_n 2, 1) := by decide +kernel
theorem d1 : decode yB 1 = .ok (.newarray .byte, 2) := by decide +kernel
theorem d3 : decode yB 3 = .ok (.astore_n 3, 1) := by decide +kernel
theorem d4 : decode yB 4 = .ok (.aload_n 0, 1) := by decide +kernel
theorem d5 : decode yB 5 = .ok (.iload_n 1, 1) := by decide +kernel
theorem d6 : decode yB 6 = .ok (.aload_n 3, 1) := by decide +kernel
theorem d7 : decode yB 7 = .ok (.iconst 0, 1) := by decide +kernel
theorem d8 : decode yB 8 = .ok (.iload_n 2, 1) := by decide +kernel
theorem d9 : decode yB 9 = .ok (.invokestatic 115, 3) := by decide +kernel
theorem d12 : decode yB 12 = .ok (.istore 4, 2) := by decide +kernel
theorem d14 : decode yB 14 = .ok (.iload 4, 2) := by decide +kernel
theorem d16 : decode yB 16 = .ok (.iload_n 2, 1) := by decide +kernel
theorem d17 : decode yB 17 = .ok (.if_icmp (.eq) 40, 3) := by decide +kernel
theorem d57 : decode yB 57 = .ok (.aload_n 3, 1) := by decide +kernel
theorem d58 : decode yB 58 = .ok (.areturn, 1) := by decide +kernel
def site : List Cond := [.arrayClass .byte, Cmp5.tab] ++ staticW U16 115 Cmp5.yN
def tab : Cond := tabOf yN yB 6 (some (.array .byte)) site
def P (b : Addr) (A : Cell) (o len : Nat) (args : Array Value) (s : State) : Prop := args = #[.ref b, .int (Int32.ofNat o), .int (Int32.ofNat len)] ∧ Ch b A s ∧ o + len ≤ A.slots.size ∧ len ≤ 536870912 ∧ ∀ i, i < len → ¬ 255 < cv A (o + i)
def E (b : Addr) (A : Cell) (o len : Nat) (r : Option Value) (s u : State) : Prop := NewArr .byte "[B" len (fun j => .int (lo8 (cv A (o + j)))) r s u ∧ u.heap.size = s.heap.size + 1
/-- no char of the range above 255: a new byte[] of their low bytes -/
theorem law (l : Launch) (b : Addr) (A : Cell) (o len : Nat) : Law l yN 3 3 1 18 yB 6 (some (.array .byte)) site (P b A o len) (E b A o len) [] 1 len := by
  refine Law.of_walk (plainFor_of_name (by decide +kernel)) (by decide +kernel) (by decide +kernel) (by decide) (fun _ _ h => by rw [h.1]; rfl) (fun _ U U' hal hh h => ⟨h.1, h.2.1.mv hal hh, h.2.2⟩) (fun r U U' V V' h1 hal h2 h => ⟨NewArr.mv r U U' V V' h1 hal h2 h.1, by rw [h1, h2]; exact h.2⟩) ?_
  intro p e s m args below meth c s₁ X0 hexec hbytes hml hret hlk hnm hown hh0 W hP
  obtain ⟨rfl, hA, l1, l2, hp⟩ := hP
  have a31 := hA.1.2.2.2
  have c1 : Steps p.tables e below (s₁.setTop (entryFrame m #[.ref b, .int (Int32.ofNat o), .int (Int32.ofNat len)] 6)) (s₁.setTop (mkF m 0 #[.val (.ref b), .val (.int (Int32.ofNat o)), .val (.int (Int32.ofNat len)), .unset, .unset, .unset] [])) := entry rfl
  have c2 : Steps p.tables e below (s₁.setTop (entryFrame m #[.ref b, .int (Int32.ofNat o), .int (Int32.ofNat len)] 6)) (s₁.setTop (mkF m 1 #[.val (.ref b), .val (.int (Int32.ofNat o)), .val (.int (Int32.ofNat len)), .unset, .unset, .unset] [.int (Int32.ofNat len)])) := c1.trans (by
    refine XS.iloadN X0.here hexec rfl (hb hbytes d0) rfl ?_
    exact Steps.refl _)
  obtain ⟨T3, B3, X3, ba3, bs3, bv3, bh3, bf3, st3⟩ := X0.anew hexec (atype := .byte) (wk W (.arrayClass .byte)) rfl (by show len * 1 ≤ _; omega) (by omega) (g := (mkF m 1 #[.val (.ref b), .val (.int (Int32.ofNat o)), .val (.int (Int32.ofNat len)), .unset, .unset, .unset] [.int (Int32.ofNat len)])) rfl (hb hbytes d1) (rest := []) rfl (Nat.le_refl _) (by show 0 + len ≤ len; omega)
  rw [hh0] at ba3 st3
  have kp3 : XT.Kept s T3 := (XT.Kept.of_eq hh0).push bh3
  have hA3 := hA.keep X3.warmed.alike (kp3 _ _ hA.1.1)
  have hne : b ≠ s.heap.size := hA.1.ne
  have c4 : Steps p.tables e below (s₁.setTop (entryFrame m #[.ref b, .int (Int32.ofNat o), .int (Int32.ofNat len)] 6)) (T3.setTop (mkF m 3 #[.val (.ref b), .val (.int (Int32.ofNat o)), .val (.int (Int32.ofNat len)), .unset, .unset, .unset] [.ref s.heap.size])) := c2.trans (st3 _ (Steps.refl _))
  have c5 : Steps p.tables e below (s₁.setTop (entryFrame m #[.ref b, .int (Int32.ofNat o), .int (Int32.ofNat len)] 6)) (T3.setTop (mkF m 9 #[.val (.ref b), .val (.int (Int32.ofNat o)), .val (.int (Int32.ofNat len)), .val (.ref s.heap.size), .unset, .unset] [.int (Int32.ofNat len), .int 0, .ref s.heap.size, .int (Int32.ofNat o), .ref b])) := c4.trans (by
    refine XS.astoreN X3.here hexec rfl (hb hbytes d3) rfl rfl rfl ?_
    refine XS.aloadN X3.here hexec rfl (hb hbytes d4) rfl rfl ?_
    refine XS.iloadN X3.here hexec rfl (hb hbytes d5) rfl ?_
    refine XS.aloadN X3.here hexec rfl (hb hbytes d6) rfl rfl ?_
    refine iconstV X3.here hexec rfl 0 (hb hbytes d7) (by decide) ?_
    refine XS.iloadN X3.here hexec rfl (hb hbytes d8) rfl ?_
    exact Steps.refl _)
  obtain ⟨v6, T6, X6, E6, g6⟩ := X3.callS hexec (Cmp5.law l b A s.heap.size B3 o 0 len) hown (wks W (staticW U16 115 Cmp5.yN)) (wk W Cmp5.tab) (W := 0) (Nat.le_of_ble_eq_true rfl) (Nat.le_of_ble_eq_true rfl) (Nat.le_refl _) (by show 0 + len + 0 ≤ len; omega) (g := (mkF m 9 #[.val (.ref b), .val (.int (Int32.ofNat o)), .val (.int (Int32.ofNat len)), .val (.ref s.heap.size), .unset, .unset] [.int (Int32.ofNat len), .int (Int32.ofNat 0), .ref s.heap.size, .int (Int32.ofNat o), .ref b])) rfl (by rw [hml]; rfl) c5 (argsL := [.ref b, .int (Int32.ofNat o), .ref s.heap.size, .int (Int32.ofNat 0), .int (Int32.ofNat len)]) (rest := []) rfl rfl (by show 2 * 0 + 0 ≤ _; decide) (hb hbytes d9) (⟨rfl, hA3, ba3, hne, l1, by rw [bs3]; simp, hp⟩)
  obtain ⟨rfl, B6, p6, f6⟩ := E6
  have c7 : Steps p.tables e below (s₁.setTop (entryFrame m #[.ref b, .int (Int32.ofNat o), .int (Int32.ofNat len)] 6)) (T6.setTop (mkF m 12 #[.val (.ref b), .val (.int (Int32.ofNat o)), .val (.int (Int32.ofNat len)), .val (.ref s.heap.size), .unset, .unset] [.int (Int32.ofNat len)])) := g6
  have c8 : Steps p.tables e below (s₁.setTop (entryFrame m #[.ref b, .int (Int32.ofNat o), .int (Int32.ofNat len)] 6)) (T6.setTop (mkF m 58 #[.val (.ref b), .val (.int (Int32.ofNat o)), .val (.int (Int32.ofNat len)), .val (.ref s.heap.size), .val (.int (Int32.ofNat len)), .unset] [.ref s.heap.size])) := c7.trans (by
    refine XS.istore X6.here hexec rfl (hb hbytes d12) rfl rfl ?_
    refine XS.iload X6.here hexec rfl (hb hbytes d14) rfl ?_
    refine XS.iloadN X6.here hexec rfl (hb hbytes d16) rfl ?_
    refine XS.icmpYes X6.here hexec rfl (pc0 := 17) rfl (hb hbytes d17) rfl (ii_eq_t rfl) (by decide) rfl ?_
    refine XS.aloadN X6.here hexec rfl (hb hbytes d57) rfl rfl ?_
    exact Steps.refl _)
  have X8 := X6.wide (L' := []) (cells' := 1) (slots' := len) (fun x hx hlt => by
    simp only [List.nil_append, copyLocs, List.mem_map, List.mem_range] at hx
    obtain ⟨i, -, rfl⟩ := hx
    exact absurd hlt (Nat.lt_irrefl _)) (Nat.le_refl _) (by omega)
  exact ⟨T6, some (.ref s.heap.size), _, _, _, X8, rfl, rfl, rfl, (fun h => by cases h), ⟨⟨rfl, B6, ba3.like (X3.warmed.alike.symm.trans X6.warmed.alike) p6.1 f6.1 f6.2.1 f6.2.2.1, f6.2.1.trans bv3, by rw [X6.warmed.alike.findClass, f6.1]; exact bf3, by rw [f6.2.2.1, bs3]; simp, fun j hj => by rw [f6.2.2.2 j, if_pos (by omega)]; rfl, kp3.put p6 (Nat.le_refl _)⟩, by rw [p6.2.2, bh3, hh0]; simp⟩, fun fs hl => c8.trans (X8.areturnOut hexec rfl hret rfl (hb hbytes d58) hl)⟩
end Cmp3
namespace CodL
def yN : MethodName := ⟨"java/lang/StringUTF16", "coderFromArrayLen", "([BI)B"⟩
abbrev yB : ByteArray := jdk_52_method_15_code
theorem d0 : decode yB 0 = .ok (.iload_n 1, 1) := by decide +kernel
theorem d1 : decode yB 1 = .ok (.aload_n 0, 1) := by decide +kernel
theorem d2 : decode yB 2 = .ok (.arraylength, 1) := by decide +kernel
theorem d3 : decode yB 3 = .ok (.isub, 1) := by decide +kernel
theorem d4 : decode yB 4 = .ok (.bipush 31, 2) := by decide +kernel
theorem d6 : decode yB 6 = .ok (.iushr, 1) := by decide +kernel
theorem d7 : decode yB 7 = .ok (.i2b, 1) := by decide +kernel
theorem d8 : decode yB 8 = .ok (.ireturn, 1) := by decide +kernel
def site : List Cond := []
def tab : Cond := tabOf yN yB 2 (some .byte) site
def P (d : Addr) (B : Cell) (args : Array Value) (s : State) : Prop := args = #[.ref d, .int (Int32.ofNat B.slots.size)] ∧ Arr .byte d B s
def E (r : Option Value) (s u : State) : Prop := XT.PureE (some (.int 0)) r s u
/-- an array as long as the number of chars: LATIN1 -/
theorem law (l : Launch) (d : Addr) (B : Cell) : Law l yN 2 2 0 0 yB 2 (some .byte) site (P d B) E [] 0 0 := by
  refine Law.of_walk (plainFor_of_name (by decide +kernel)) (by decide +kernel) (by decide +kernel) (by decide) (fun _ _ h => by rw [h.1]; rfl) (fun _ U U' hal hh h => ⟨h.1, h.2.mv hal hh⟩) (fun r U U' V V' h1 hal h2 h => XT.PureE.mv r U U' V V' h1 hal h2 h) ?_
  intro p e s m args below meth c s₁ X0 hexec hbytes hml hret hlk hnm hown hh0 W hP
  obtain ⟨rfl, hB⟩ := hP
  have hB0 := hB.mv X0.warmed.alike hh0
  have c1 : Steps p.tables e below (s₁.setTop (entryFrame m #[.ref d, .int (Int32.ofNat B.slots.size)] 2)) (s₁.setTop (mkF m 0 #[.val (.ref d), .val (.int (Int32.ofNat B.slots.size))] [])) := entry rfl
  have c2 : Steps p.tables e below (s₁.setTop (entryFrame m #[.ref d, .int (Int32.ofNat B.slots.size)] 2)) (s₁.setTop (mkF m 2 #[.val (.ref d), .val (.int (Int32.ofNat B.slots.size))] [.ref d, .int (Int32.ofNat B.slots.size)])) := c1.trans (by
    refine XS.iloadN X0.here hexec rfl (hb hbytes d0) rfl ?_
    refine XS.aloadN X0.here hexec rfl (hb hbytes d1) rfl rfl ?_
    exact Steps.refl _)
  have c3 : Steps p.tables e below (s₁.setTop (entryFrame m #[.ref d, .int (Int32.ofNat B.slots.size)] 2)) (s₁.setTop (mkF m 8 #[.val (.ref d), .val (.int (Int32.ofNat B.slots.size))] [.int (lo8 (ushr (Int32.ofNat B.slots.size - Int32.ofNat B.slots.size) 31))])) := c2.trans (by
    refine X0.alen hexec hB0 rfl rfl (hb hbytes d2) ?_
    refine XS.isub X0.here hexec rfl (hb hbytes d3) rfl ?_
    refine bipushV X0.here hexec rfl 31 (hb hbytes d4) (by decide) ?_
    refine iushr X0.here hexec rfl (hb hbytes d6) rfl ?_
    refine i2b X0.here hexec rfl (hb hbytes d7) rfl ?_
    exact Steps.refl _)
  have e0 : lo8 (ushr (Int32.ofNat B.slots.size - Int32.ofNat B.slots.size) 31) = 0 := by rw [Int32.sub_self]; decide
  rw [e0] at c3
  exact ⟨s₁, some (.int 0), _, _, _, X0, rfl, rfl, rfl, (fun h => by cases h), ⟨rfl, hh0⟩, fun fs hl => c3.trans (X0.ireturnOut hexec hret rfl (Or.inr (Or.inr (Or.inl rfl))) (hb hbytes d8) hl)⟩
end CodL
/-- the String at a is Latin-1 over a new byte[] (the heap's one new cell): the low bytes of the len chars of A from o on; every cell but a is kept -/
def Got (a : Addr) (D : Cell) (fV fC : Field) (A : Cell) (o len : Nat) (r : Option Value) (s u : State) : Prop := r = none ∧ ∃ D' V : Cell, Blank "java/lang/String" a D' u ∧ Same D D' [fV.slot, fC.slot] ∧ D'.slots[fV.slot]? = some (.ref s.heap.size) ∧ D'.slots[fC.slot]? = some (.int 0) ∧ Arr .byte s.heap.size V u ∧ V.vm = .none ∧ u.vm.findClass "[B" = some V.cls ∧ V.slots.size = len ∧ (∀ j, j < len → V.slots[j]? = some (.int (lo8 (cv A (o + j))))) ∧ (∀ (y : Addr) (c : Cell), y ≠ a → s.heap[y]? = some c → u.heap[y]? = some c) ∧ u.heap.size = s.heap.size + 1
theorem Got.mv {a : Addr} {D A : Cell} {fV fC : Field} {o len : Nat} : ∀ r (U U' V V' : State), U'.heap = U.heap → V.vm.Alike V'.vm → V'.heap = V.heap → Got a D fV fC A o len r U V → Got a D fV fC A o len r U' V' :=
  fun r U U' V V' h1 hal h2 ⟨e0, D', X, a1, a2, a3, a4, a5, a6, a7, a8, a9, a10, a11⟩ => ⟨e0, D', X, a1.mv hal h2, a2, by rw [h1]; exact a3, a4, by rw [h1]; exact a5.mv hal h2, a6, by rw [hal.findClass]; exact a7, a8, a9, by rw [h1, h2]; exact a10, by rw [h1, h2]; exact a11⟩
namespace New4
def yN : MethodName := ⟨"java/lang/String", "<init>", "([CIILjava/lang/Void;)V"⟩
abbrev yB : ByteArray := jdk_42_method_149_code
theorem d0 : decode yB 0 = .ok (.aload_n 0, 1) := by decide +kernel
theorem d1 : decode yB 1 = .ok (.invokespecial 1, 3) := by decide +kernel
theorem d4 : decode yB 4 = .ok (.iload_n 3, 1) := by decide +kernel
theorem d5 : decode yB 5 = .ok (.ifCond (.ne) 22, 3) := by decide +kernel
theorem d27 : decode yB 27 = .ok (.getstatic 38, 3) := by decide +kernel
theorem d30 : decode yB 30 = .ok (.ifCond (.eq) 28, 3) := by decide +kernel
theorem d33 : decode yB 33 = .ok (.aload_n 1, 1) := by decide +kernel
theorem d34 : decode yB 34 = .ok (.iload_n 2, 1) := by decide +kernel
theorem d35 : decode yB 35 = .ok (.iload_n 3, 1) := by decide +kernel
theorem d36 : decode yB 36 = .ok (.invokestatic 177, 3) := by decide +kernel
theorem d39 : decode yB 39 = .ok (.astore 5, 2) := by decide +kernel
theorem d41 : decode yB 41 = .ok (.aload_n 0, 1) := by decide +kernel
theorem d42 : decode yB 42 = .ok (.aload 5, 2) := by decide +kernel
theorem d44 : decode yB 44 = .ok (.iload_n 3, 1) := by decide +kernel
theorem d45 : decode yB 45 = .ok (.invokestatic 47, 3) := by decide +kernel
theorem d48 : decode yB 48 = .ok (.putfield 15, 3) := by decide +kernel
theorem d51 : decode yB 51 = .ok (.aload_n 0, 1) := by decide +kernel
theorem d52 : decode yB 52 = .ok (.aload 5, 2) := by decide +kernel
theorem d54 : decode yB 54 = .ok (.putfield 9, 3) := by decide +kernel
theorem d57 : decode yB 57 = .ok (.return_, 1) := by decide +kernel
def site : List Cond := [.fieldLink "java/lang/String" 38 "java/lang/String" "COMPACT_STRINGS" "Z", Cmp3.tab, CodL.tab, .laysFinal "java/lang/String" "java/lang/String" "value" "[B", .fieldLink "java/lang/String" 9 "java/lang/String" "value" "[B", .laysFinal "java/lang/String" "java/lang/String" "coder" "B", .fieldLink "java/lang/String" 15 "java/lang/String" "coder" "B"] ++ objW "java/lang/String" 1 ++ staticW "java/lang/String" 177 Cmp3.yN ++ staticW "java/lang/String" 47 CodL.yN
def tab : Cond := tabOf yN yB 6 none site
def P (a : Addr) (D : Cell) (fV fC : Field) (b : Addr) (A : Cell) (z : Int32) (o len : Nat) (args : Array Value) (s : State) : Prop := args = #[.ref a, .ref b, .int (Int32.ofNat o), .int (Int32.ofNat len), .null] ∧ Blank "java/lang/String" a D s ∧ Found "java/lang/String" "value" "[B" fV s ∧ Found "java/lang/String" "coder" "B" fC s ∧ Ch b A s ∧ StaticIs s "java/lang/String" "COMPACT_STRINGS" "Z" (.int z) ∧ ¬ z = 0 ∧ 0 < len ∧ o + len ≤ A.slots.size ∧ len ≤ 536870912 ∧ ∀ i, i < len → ¬ 255 < cv A (o + i)
def E (a : Addr) (D : Cell) (fV fC : Field) (A : Cell) (o len : Nat) (r : Option Value) (s u : State) : Prop := Got a D fV fC A o len r s u
/-- len > 0, no char of the range above 255: a Latin-1 String of their low bytes -/
theorem law (l : Launch) (a : Addr) (D : Cell) (fV fC : Field) (b : Addr) (A : Cell) (z : Int32) (o len : Nat) : Law l yN 5 4 2 35 yB 6 none site (P a D fV fC b A z o len) (E a D fV fC A o len) [⟨a, fC.slot⟩, ⟨a, fV.slot⟩] 1 len := by
  refine Law.of_walk (plainFor_of_name (by decide +kernel)) (by decide +kernel) (by decide +kernel) (by decide) (fun _ _ h => by rw [h.1]; rfl) (fun _ U U' hal hh h => ⟨h.1, h.2.1.mv hal hh, h.2.2.1.al hal, h.2.2.2.1.al hal, h.2.2.2.2.1.mv hal hh, h.2.2.2.2.2.1.there hal hh, h.2.2.2.2.2.2⟩) (fun r U U' V V' h1 hal h2 h => Got.mv r U U' V V' h1 hal h2 h) ?_
  intro p e s m args below meth c s₁ X0 hexec hbytes hml hret hlk hnm hown hh0 W hP
  obtain ⟨rfl, hB, f1, f2, hA, s1, hz, l0, l1, l2, hp⟩ := hP
  have a31 := hA.1.2.2.2
  have c1 : Steps p.tables e below (s₁.setTop (entryFrame m #[.ref a, .ref b, .int (Int32.ofNat o), .int (Int32.ofNat len), .null] 6)) (s₁.setTop (mkF m 0 #[.val (.ref a), .val (.ref b), .val (.int (Int32.ofNat o)), .val (.int (Int32.ofNat len)), .val .null, .unset] [])) := entry rfl
  have c2 : Steps p.tables e below (s₁.setTop (entryFrame m #[.ref a, .ref b, .int (Int32.ofNat o), .int (Int32.ofNat len), .null] 6)) (s₁.setTop (mkF m 1 #[.val (.ref a), .val (.ref b), .val (.int (Int32.ofNat o)), .val (.int (Int32.ofNat len)), .val .null, .unset] [.ref a])) := c1.trans (by
    refine XS.aloadN X0.here hexec rfl (hb hbytes d0) rfl rfl ?_
    exact Steps.refl _)
  obtain ⟨T3, X3, q3, st3⟩ := X0.oinit hexec hown (wks W (objW "java/lang/String" 1)) (g := (mkF m 1 #[.val (.ref a), .val (.ref b), .val (.int (Int32.ofNat o)), .val (.int (Int32.ofNat len)), .val .null, .unset] [.ref a])) rfl (by rw [hml]; rfl) (rest := []) rfl (hb hbytes d1) (W := 0) (by show 2 * 0 + 0 ≤ _; decide) (Nat.le_of_ble_eq_true rfl) (Nat.le_of_ble_eq_true rfl)
  have hh3 := q3.trans hh0
  have c4 : Steps p.tables e below (s₁.setTop (entryFrame m #[.ref a, .ref b, .int (Int32.ofNat o), .int (Int32.ofNat len), .null] 6)) (T3.setTop (mkF m 27 #[.val (.ref a), .val (.ref b), .val (.int (Int32.ofNat o)), .val (.int (Int32.ofNat len)), .val .null, .unset] [])) := (c2.trans (st3 _ (Steps.refl _))).trans (by
    refine XS.iloadN X3.here hexec rfl (hb hbytes d4) rfl ?_
    refine XS.ifYes X3.here hexec rfl (pc0 := 5) rfl (hb hbytes d5) rfl (i0_ne_t (nz32 (by omega) l0)) (by decide) rfl ?_
    exact Steps.refl _)
  obtain ⟨T5, X5, q5, st5⟩ := X3.sget hexec hown (wk W (.fieldLink "java/lang/String" 38 "java/lang/String" "COMPACT_STRINGS" "Z")) s1 (fun _ _ h => by rw [hh3]; exact h) (g := (mkF m 27 #[.val (.ref a), .val (.ref b), .val (.int (Int32.ofNat o)), .val (.int (Int32.ofNat len)), .val .null, .unset] [])) rfl (hb hbytes d27)
  have hh5 := q5.trans hh3
  have c6 : Steps p.tables e below (s₁.setTop (entryFrame m #[.ref a, .ref b, .int (Int32.ofNat o), .int (Int32.ofNat len), .null] 6)) (T5.setTop (mkF m 30 #[.val (.ref a), .val (.ref b), .val (.int (Int32.ofNat o)), .val (.int (Int32.ofNat len)), .val .null, .unset] [.int z])) := c4.trans (st5 _ (Steps.refl _))
  have c7 : Steps p.tables e below (s₁.setTop (entryFrame m #[.ref a, .ref b, .int (Int32.ofNat o), .int (Int32.ofNat len), .null] 6)) (T5.setTop (mkF m 36 #[.val (.ref a), .val (.ref b), .val (.int (Int32.ofNat o)), .val (.int (Int32.ofNat len)), .val .null, .unset] [.int (Int32.ofNat len), .int (Int32.ofNat o), .ref b])) := c6.trans (by
    refine XS.ifNo X5.here hexec rfl (hb hbytes d30) rfl (i0_eq_f hz) ?_
    refine XS.aloadN X5.here hexec rfl (hb hbytes d33) rfl rfl ?_
    refine XS.iloadN X5.here hexec rfl (hb hbytes d34) rfl ?_
    refine XS.iloadN X5.here hexec rfl (hb hbytes d35) rfl ?_
    exact Steps.refl _)
  obtain ⟨v8, T8, X8, E8, g8⟩ := X5.callS hexec (Cmp3.law l b A o len) hown (wks W (staticW "java/lang/String" 177 Cmp3.yN)) (wk W Cmp3.tab) (W := 0) (Nat.le_of_ble_eq_true rfl) (Nat.le_of_ble_eq_true rfl) (Nat.le_refl _) (by show 0 + len ≤ len; omega) (g := (mkF m 36 #[.val (.ref a), .val (.ref b), .val (.int (Int32.ofNat o)), .val (.int (Int32.ofNat len)), .val .null, .unset] [.int (Int32.ofNat len), .int (Int32.ofNat o), .ref b])) rfl (by rw [hml]; rfl) c7 (argsL := [.ref b, .int (Int32.ofNat o), .int (Int32.ofNat len)]) (rest := []) rfl rfl (by show 2 * 0 + 0 ≤ _; decide) (hb hbytes d36) (⟨rfl, hA.mv X5.warmed.alike hh5, l1, l2, hp⟩)
  obtain ⟨e8, z8⟩ := E8
  obtain ⟨rfl, N, n1, n2, n3, n4, n5, n6⟩ := NewArr.mv _ T5 s _ _ hh5.symm (Vm.Alike.refl _) rfl e8
  rw [hh5] at z8
  have hB1 := hB.keep X8.warmed.alike (n6 _ _ hB.1)
  have hne : s.heap.size ≠ a := (Nat.ne_of_lt (Array.getElem?_eq_some_iff.mp hB.1).1).symm
  have c9 : Steps p.tables e below (s₁.setTop (entryFrame m #[.ref a, .ref b, .int (Int32.ofNat o), .int (Int32.ofNat len), .null] 6)) (T8.setTop (mkF m 39 #[.val (.ref a), .val (.ref b), .val (.int (Int32.ofNat o)), .val (.int (Int32.ofNat len)), .val .null, .unset] [.ref s.heap.size])) := g8
  have c10 : Steps p.tables e below (s₁.setTop (entryFrame m #[.ref a, .ref b, .int (Int32.ofNat o), .int (Int32.ofNat len), .null] 6)) (T8.setTop (mkF m 45 #[.val (.ref a), .val (.ref b), .val (.int (Int32.ofNat o)), .val (.int (Int32.ofNat len)), .val .null, .val (.ref s.heap.size)] [.int (Int32.ofNat N.slots.size), .ref s.heap.size, .ref a])) := by
    have hc : Steps p.tables e below (s₁.setTop (entryFrame m #[.ref a, .ref b, .int (Int32.ofNat o), .int (Int32.ofNat len), .null] 6)) (T8.setTop (mkF m 45 #[.val (.ref a), .val (.ref b), .val (.int (Int32.ofNat o)), .val (.int (Int32.ofNat len)), .val .null, .val (.ref s.heap.size)] [.int (Int32.ofNat len), .ref s.heap.size, .ref a])) := c9.trans (by
      refine XS.astore X8.here hexec rfl (hb hbytes d39) rfl rfl rfl ?_
      refine XS.aloadN X8.here hexec rfl (hb hbytes d41) rfl rfl ?_
      refine XS.aload X8.here hexec rfl (hb hbytes d42) rfl rfl ?_
      refine XS.iloadN X8.here hexec rfl (hb hbytes d44) rfl ?_
      exact Steps.refl _)
    rw [n4]; exact hc
  obtain ⟨v11, T11, X11, E11, g11⟩ := X8.callS hexec (CodL.law l s.heap.size N) hown (wks W (staticW "java/lang/String" 47 CodL.yN)) (wk W CodL.tab) (W := 1) (Nat.le_of_ble_eq_true rfl) (Nat.le_of_ble_eq_true rfl) (Nat.le_refl _) (by show 0 + len + 0 ≤ len; omega) (g := (mkF m 45 #[.val (.ref a), .val (.ref b), .val (.int (Int32.ofNat o)), .val (.int (Int32.ofNat len)), .val .null, .val (.ref s.heap.size)] [.int (Int32.ofNat N.slots.size), .ref s.heap.size, .ref a])) rfl (by rw [hml]; rfl) c10 (argsL := [.ref s.heap.size, .int (Int32.ofNat N.slots.size)]) (rest := [.ref a]) rfl rfl (by show 2 * 0 + (1 + 0) ≤ _; decide) (hb hbytes d45) (⟨rfl, n1⟩)
  obtain ⟨rfl, q11⟩ := E11
  have hB11 := hB1.mv (X8.warmed.alike.symm.trans X11.warmed.alike) q11
  have c12 : Steps p.tables e below (s₁.setTop (entryFrame m #[.ref a, .ref b, .int (Int32.ofNat o), .int (Int32.ofNat len), .null] 6)) (T11.setTop (mkF m 48 #[.val (.ref a), .val (.ref b), .val (.int (Int32.ofNat o)), .val (.int (Int32.ofNat len)), .val .null, .val (.ref s.heap.size)] [.int 0, .ref a])) := g11
  obtain ⟨T13, X13, p13, bl13, sl13, st13⟩ := X11.finit hexec hown (wk W (.fieldLink "java/lang/String" 15 "java/lang/String" "coder" "B")) (Or.inr ⟨_, (wk W (.laysFinal "java/lang/String" "java/lang/String" "coder" "B"))⟩) (Or.inl ⟨rfl, hnm⟩) f2 (Or.inl rfl) hB11 (t := .byte) (by decide +kernel) rfl (g := (mkF m 48 #[.val (.ref a), .val (.ref b), .val (.int (Int32.ofNat o)), .val (.int (Int32.ofNat len)), .val .null, .val (.ref s.heap.size)] [.int 0, .ref a])) rfl (rest := []) rfl (hb hbytes d48)
  have c14 : Steps p.tables e below (s₁.setTop (entryFrame m #[.ref a, .ref b, .int (Int32.ofNat o), .int (Int32.ofNat len), .null] 6)) (T13.setTop (mkF m 54 #[.val (.ref a), .val (.ref b), .val (.int (Int32.ofNat o)), .val (.int (Int32.ofNat len)), .val .null, .val (.ref s.heap.size)] [.ref s.heap.size, .ref a])) := (c12.trans (st13 _ (Steps.refl _))).trans (by
    refine XS.aloadN X13.here hexec rfl (hb hbytes d51) rfl rfl ?_
    refine XS.aload X13.here hexec rfl (hb hbytes d52) rfl rfl ?_
    exact Steps.refl _)
  obtain ⟨T15, X15, p15, bl15, sl15, st15⟩ := X13.finit hexec hown (wk W (.fieldLink "java/lang/String" 9 "java/lang/String" "value" "[B")) (Or.inr ⟨_, (wk W (.laysFinal "java/lang/String" "java/lang/String" "value" "[B"))⟩) (Or.inl ⟨rfl, hnm⟩) f1 (Or.inl rfl) bl13 (t := (.array .byte)) (by decide +kernel) rfl (g := (mkF m 54 #[.val (.ref a), .val (.ref b), .val (.int (Int32.ofNat o)), .val (.int (Int32.ofNat len)), .val .null, .val (.ref s.heap.size)] [.ref s.heap.size, .ref a])) rfl (rest := []) rfl (hb hbytes d54)
  have c16 : Steps p.tables e below (s₁.setTop (entryFrame m #[.ref a, .ref b, .int (Int32.ofNat o), .int (Int32.ofNat len), .null] 6)) (T15.setTop (mkF m 57 #[.val (.ref a), .val (.ref b), .val (.int (Int32.ofNat o)), .val (.int (Int32.ofNat len)), .val .null, .val (.ref s.heap.size)] [])) := c14.trans (st15 _ (Steps.refl _))
  have ap := apart (Or.inr ⟨_, (wk W (.laysFinal "java/lang/String" "java/lang/String" "value" "[B"))⟩) (Or.inr ⟨_, (wk W (.laysFinal "java/lang/String" "java/lang/String" "coder" "B"))⟩) f1 f2 (t₁ := .array .byte) (t₂ := .byte) (by decide +kernel) (by decide +kernel) (by decide)
  have al := X8.warmed.alike.symm.trans X15.warmed.alike
  have n7 : T11.heap[s.heap.size]? = some N := by rw [q11]; exact n1.1
  exact ⟨T15, none, _, _, _, X15, by simp, rfl, by omega, (fun _ => rfl), ⟨rfl, _, N, bl15, ((Same.refl D _).set _ (by simp)).set _ (by simp), sl15, (Cell.slots_setSlot_ne _ ap).trans sl13, n1.keep al (p15.other hne (p13.other hne n7)), n2, by rw [al.findClass]; exact n3, n4, n5, fun y c h1 h2 => p15.other h1 (p13.other h1 (by rw [q11]; exact n6 y c h2)), by rw [p15.2.2, p13.2.2, q11]; exact z8⟩, fun fs hl => c16.trans (X15.returnOut hexec hret (hb hbytes d57) hl)⟩
end New4
namespace New1
def yN : MethodName := ⟨"java/lang/String", "<init>", "([C)V"⟩
abbrev yB : ByteArray := jdk_42_method_3_code
theorem d0 : decode yB 0 = .ok (.aload_n 0, 1) := by decide +kernel
theorem d1 : decode yB 1 = .ok (.aload_n 1, 1) := by decide +kernel
theorem d2 : decode yB 2 = .ok (.iconst 0, 1) := by decide +kernel
theorem d3 : decode yB 3 = .ok (.aload_n 1, 1) := by decide +kernel
theorem d4 : decode yB 4 = .ok (.arraylength, 1) := by decide +kernel
theorem d5 : decode yB 5 = .ok (.aconst_null, 1) := by decide +kernel
theorem d6 : decode yB 6 = .ok (.invokespecial 27, 3) := by decide +kernel
theorem d9 : decode yB 9 = .ok (.return_, 1) := by decide +kernel
def site : List Cond := [New4.tab] ++ initW "java/lang/String" 27 New4.yN
def tab : Cond := tabOf yN yB 2 none site
def P (a : Addr) (D : Cell) (fV fC : Field) (b : Addr) (A : Cell) (z : Int32) (args : Array Value) (s : State) : Prop := args = #[.ref a, .ref b] ∧ Blank "java/lang/String" a D s ∧ Found "java/lang/String" "value" "[B" fV s ∧ Found "java/lang/String" "coder" "B" fC s ∧ Ch b A s ∧ StaticIs s "java/lang/String" "COMPACT_STRINGS" "Z" (.int z) ∧ ¬ z = 0 ∧ 0 < A.slots.size ∧ A.slots.size ≤ 536870912 ∧ ∀ i, i < A.slots.size → ¬ 255 < cv A i
def E (a : Addr) (D : Cell) (fV fC : Field) (A : Cell) (r : Option Value) (s u : State) : Prop := Got a D fV fC A 0 A.slots.size r s u
/-- new String(chars), not empty, no char above 255: a Latin-1 String of their low bytes -/
theorem law (l : Launch) (a : Addr) (D : Cell) (fV fC : Field) (b : Addr) (A : Cell) (z : Int32) : Law l yN 2 1 3 52 yB 2 none site (P a D fV fC b A z) (E a D fV fC A) [⟨a, fC.slot⟩, ⟨a, fV.slot⟩] 1 A.slots.size := by
  refine Law.of_walk (plainFor_of_name (by decide +kernel)) (by decide +kernel) (by decide +kernel) (by decide) (fun _ _ h => by rw [h.1]; rfl) (fun _ U U' hal hh h => ⟨h.1, h.2.1.mv hal hh, h.2.2.1.al hal, h.2.2.2.1.al hal, h.2.2.2.2.1.mv hal hh, h.2.2.2.2.2.1.there hal hh, h.2.2.2.2.2.2⟩) (fun r U U' V V' h1 hal h2 h => Got.mv r U U' V V' h1 hal h2 h) ?_
  intro p e s m args below meth c s₁ X0 hexec hbytes hml hret hlk hnm hown hh0 W hP
  obtain ⟨rfl, hB, f1, f2, hA, s1, hz, l0, l2, hp⟩ := hP
  have c1 : Steps p.tables e below (s₁.setTop (entryFrame m #[.ref a, .ref b] 2)) (s₁.setTop (mkF m 0 #[.val (.ref a), .val (.ref b)] [])) := entry rfl
  have c2 : Steps p.tables e below (s₁.setTop (entryFrame m #[.ref a, .ref b] 2)) (s₁.setTop (mkF m 6 #[.val (.ref a), .val (.ref b)] [.null, .int (Int32.ofNat A.slots.size), .int 0, .ref b, .ref a])) := c1.trans (by
    refine XS.aloadN X0.here hexec rfl (hb hbytes d0) rfl rfl ?_
    refine XS.aloadN X0.here hexec rfl (hb hbytes d1) rfl rfl ?_
    refine iconstV X0.here hexec rfl 0 (hb hbytes d2) (by decide) ?_
    refine XS.aloadN X0.here hexec rfl (hb hbytes d3) rfl rfl ?_
    refine X0.alen hexec (hA.1.mv X0.warmed.alike hh0) rfl rfl (hb hbytes d4) ?_
    refine XS.aconstNull X0.here hexec rfl (hb hbytes d5) ?_
    exact Steps.refl _)
  obtain ⟨v3, T3, X3, E3, g3⟩ := X0.callN hexec (New4.law l a D fV fC b A z 0 A.slots.size) rfl hown (wks W (initW "java/lang/String" 27 New4.yN)) (W New4.tab (by simp only [site, List.mem_cons, List.mem_append, true_or, or_true])) (W := 0) (Nat.le_of_ble_eq_true rfl) (Nat.le_of_ble_eq_true rfl) (Nat.le_refl _) (by show 0 + A.slots.size ≤ A.slots.size; omega) (g := (mkF m 6 #[.val (.ref a), .val (.ref b)] [.null, .int (Int32.ofNat A.slots.size), .int (Int32.ofNat 0), .ref b, .ref a])) rfl (by rw [hml]; rfl) c2 (argsL := [.ref b, .int (Int32.ofNat 0), .int (Int32.ofNat A.slots.size), .null]) (rest := []) rfl rfl (by show 2 * 0 + 0 ≤ _; decide) (hb hbytes d6) (⟨rfl, hB.mv X0.warmed.alike hh0, f1.al X0.warmed.alike, f2.al X0.warmed.alike, hA.mv X0.warmed.alike hh0, s1.there X0.warmed.alike hh0, hz, l0, by omega, l2, fun i hi => by rw [Nat.zero_add]; exact hp i hi⟩)
  have e0 := Got.mv _ s₁ s _ _ hh0.symm (Vm.Alike.refl _) rfl E3
  obtain rfl := e0.1
  have c4 : Steps p.tables e below (s₁.setTop (entryFrame m #[.ref a, .ref b] 2)) (T3.setTop (mkF m 9 #[.val (.ref a), .val (.ref b)] [])) := g3
  exact ⟨T3, none, _, _, _, X3, by simp, rfl, by omega, (fun _ => rfl), e0, fun fs hl => c4.trans (X3.returnOut hexec hret (hb hbytes d9) hl)⟩
theorem pays {l : Launch} {R : Room} {p : Program} {e : Env} {below : List Frame} {s : State} {sargs : Array Value} {len W : Nat} (a : Addr) (D : Cell) (fV fC : Field) (b : Addr) (A : Cell) (z : Int32) (htab : tab.before sargs s = true) (hfr : 4 ≤ R.frames) (hlo : W + 65 ≤ R.locals) :
    Back l R p e below s sargs yN len W (fun A₁ a₁ => A₁.cells + 1 ≤ R.cells ∧ A₁.slots + A.slots.size ≤ R.slots ∧ P a D fV fC b A z a₁ A₁.U) (fun A₁ _ v₁ B₁ => E a D fV fC A v₁ A₁.U B₁.U ∧ B₁.locs = A₁.locs ++ [⟨a, fC.slot⟩, ⟨a, fV.slot⟩] ∧ B₁.cells = A₁.cells + 1 ∧ B₁.slots = A₁.slots + A.slots.size) :=
  (law l a D fV fC b A z).pays htab hfr (by omega)
end New1
end StrChars
namespace StrChars.Road
open Jvm Sem ClassFile Op Lib Jvm.Stand Jvm.Free Jvm.Free.XT
open Jvm.Lib.Cold (StaticIs)
abbrev ST : String := "java/lang/String"
/-- every table word that New1's law asks, flat -/
abbrev words : List Jvm.Cond := [.code New1.yN New1.yB 2 none, .initialized ST, .methodLink ST 27 New4.yN, .instanceMethod New4.yN,
  .code New4.yN New4.yB 6 none, .fieldLink ST 38 ST "COMPACT_STRINGS" "Z", .laysFinal ST ST "value" "[B", .fieldLink ST 9 ST "value" "[B", .laysFinal ST ST "coder" "B", .fieldLink ST 15 ST "coder" "B",
  .methodLink ST 1 Lib.objectInit, .instanceMethod Lib.objectInit, .code Lib.objectInit ⟨#[0xb1]⟩ 1 none, .methodLink ST 177 Cmp3.yN, .static Cmp3.yN, .methodLink ST 47 CodL.yN, .static CodL.yN,
  .code Cmp3.yN Cmp3.yB 6 (some (.array .byte)), .initialized U16, .arrayClass .byte, .methodLink U16 115 Cmp5.yN, .static Cmp5.yN, .code Cmp5.yN Cmp5.yB 7 (some .int), .code CodL.yN CodL.yB 2 (some .byte)]
theorem tab_of {a : Array Value} {s : State} (h : ∀ w ∈ words, w.before a s = true) : New1.tab.before a s = true := by
  have h5 : Cmp5.tab.before a s = true := unparts (wk h (.code Cmp5.yN Cmp5.yB 7 (some .int))) (wks h (.initialized Cmp5.yN.cls :: Cmp5.site))
  have hc : CodL.tab.before a s = true := unparts (wk h (.code CodL.yN CodL.yB 2 (some .byte))) (wks h (.initialized CodL.yN.cls :: CodL.site))
  have q5 : ∀ w ∈ Cmp5.tab :: words, w.before a s = true := fun w hw => (List.mem_cons.mp hw).elim (fun e => e ▸ h5) (h w)
  have h3 : Cmp3.tab.before a s = true := unparts (wk q5 (.code Cmp3.yN Cmp3.yB 6 (some (.array .byte)))) (wks q5 (.initialized Cmp3.yN.cls :: Cmp3.site))
  have q3 : ∀ w ∈ Cmp3.tab :: CodL.tab :: words, w.before a s = true := fun w hw => (List.mem_cons.mp hw).elim (fun e => e ▸ h3) fun hw => (List.mem_cons.mp hw).elim (fun e => e ▸ hc) (h w)
  have h4 : New4.tab.before a s = true := unparts (wk q3 (.code New4.yN New4.yB 6 none)) (wks q3 (.initialized New4.yN.cls :: New4.site))
  have q4 : ∀ w ∈ New4.tab :: words, w.before a s = true := fun w hw => (List.mem_cons.mp hw).elim (fun e => e ▸ h4) (h w)
  exact unparts (wk q4 (.code New1.yN New1.yB 2 none)) (wks q4 (.initialized New1.yN.cls :: New1.site))
/-- the words ride from the start Z to the walk's own state -/
theorem moved {Z s : State} {a0 args : Array Value} (hZ : Z.Warmed39 s.vm) (hw : ∀ d ∈ words, d.before a0 Z = true) : ∀ d ∈ words, d.before args s = true := fun d hd => by
  have q := hw d hd
  have t : ∀ d ∈ words, d = .arrayClass .byte ∨ (d.onTables && d.keepsFace) = true := by decide +kernel
  rcases t d hd with rfl | t
  · exact RoadKit.mvA hZ q
  · exact RoadKit.mv hZ q t
/-- WHAT COMES BACK, over the tables of the start Z: h the heap at the call, h' behind it -/
def Q (Z : State) (x : Addr) (A : Cell) (h : Heap) (v : Option Value) (h' : Heap) (L : List Loc) : Prop := v = none ∧ (∀ y ∈ L, y.base = x) ∧ RoadKit.Keep h h' [x] ∧ h'.size = h.size + 1 ∧ RoadKit.Exa Z h' x ST ∧ RoadKit.Fld Z h' x ST "value" "[B" (.ref h.size) ∧ RoadKit.Fld Z h' x ST "coder" "B" (.int 0) ∧
  (∃ V : Cell, RoadKit.Arr Z h' h.size V .byte ∧ V.vm = .none ∧ Z.vm.findClass "[B" = some V.cls ∧ V.slots.size = A.slots.size ∧ ∀ j, j < A.slots.size → V.slots[j]? = some (.int (lo8 (cv A j)))) ∧
  ∀ (O n d : String) (w : Value), RoadKit.Fld Z h x O n d w → RoadKit.slotOf Z O n d ≠ RoadKit.slotOf Z ST "value" "[B" → RoadKit.slotOf Z O n d ≠ RoadKit.slotOf Z ST "coder" "B" → RoadKit.Fld Z h' x O n d w
/-- **new String(chars) AT A CALL, IN THE ROAD'S FORM**: for specialBack behind newO: x the fresh String, b the char[] with the cell A -/
theorem back {p : Program} {l : Launch} {e : Env} {R : Room} {s : State} {args : Array Value} {below : List Frame} {len W : Nat} {Z : State} {a0 : Array Value} {h : Heap} (hZ : Z.Warmed39 s.vm) (hw : ∀ d ∈ words, d.before a0 Z = true) {kI : Nat} (wi : (Jvm.Cond.instantiable ST kI).before a0 Z = true)
    {x b : Addr} {A : Cell} {z : Int32} {v0 c0 : Value} (E : RoadKit.Exa Z h x ST) (V : RoadKit.Fld Z h x ST "value" "[B" v0) (C : RoadKit.Fld Z h x ST "coder" "B" c0) (K : RoadKit.Arr Z h b A .char) (hty : Typed .char A) (S : RoadKit.Sta Z h ST "COMPACT_STRINGS" "Z" (.int z)) (hz : ¬ z = 0)
    (l0 : 0 < A.slots.size) (l2 : A.slots.size ≤ 536870912) (hp : ∀ i, i < A.slots.size → ¬ 255 < cv A i) (hfr : 4 ≤ R.frames) (hlo : W + 65 ≤ R.locals) :
    Back l R p e below s args New1.yN len W (fun P a => a = #[.ref x, .ref b] ∧ P.U.heap = h ∧ P.cells + 1 ≤ R.cells ∧ P.slots + A.slots.size ≤ R.slots)
      (fun P _ v B => ∃ L, Q Z x A h v B.U.heap L ∧ B.locs = P.locs ++ L ∧ B.cells = P.cells + 1 ∧ B.slots = P.slots + A.slots.size) := by
  intro m meth c P g ig mk a X hg hsize hdg hW hn hp'
  obtain ⟨rfl, rfl, r1, r2⟩ := hp'
  have al : Z.vm.Alike P.U.vm := hZ.alike.trans X.warmed.alike
  obtain ⟨D, cfV, kV, iV, fV, hD, gV, stV, knV, obV, asV, slV⟩ := id V
  obtain ⟨D', cfC, kC, iC, fC, hD', gC, stC, -, -, asC, slC⟩ := id C
  cases hD.symm.trans hD'
  obtain ⟨D2, kD, e1, e2, e3, e4, e5⟩ := id E
  cases hD.symm.trans e1
  obtain ⟨c2, k2, i1, i2, i3, -⟩ := Cond.instantiable_spec wi
  cases e2.symm.trans i1
  cases e3.symm.trans i2
  obtain ⟨kU, u1, u2⟩ := al.2.2 _ _ e3
  have hB : Blank ST x D P.U := ⟨hD, ⟨knV, fun q hq => by rw [hq] at obV; cases obV⟩, by rw [al.findClass]; exact e2, kU, u1, by rw [u2]; exact i3, by rw [u2]; exact e5 i3⟩
  have F1 : Found ST "value" "[B" fV P.U := ⟨SBG.found_only al ⟨cfV, kV, iV, gV⟩, stV⟩
  have F2 : Found ST "coder" "B" fC P.U := ⟨SBG.found_only al ⟨cfC, kC, iC, gC⟩, stC⟩
  have hA : Ch b A P.U := ⟨⟨K.1, State.isArrayOf_alike al K.2.1, K.2.2, by omega⟩, hty⟩
  have hS : StaticIs P.U ST "COMPACT_STRINGS" "Z" (.int z) := by
    obtain ⟨cfS, iS, kS, fS, st, cS, t1, t2, t3, t4, t5, t6, t7⟩ := S
    exact StaticIs.there (s := { Z with heap := P.U.heap }) ⟨cfS, iS, kS, fS, st, cS, t1, t2, t3, t4, t5, (fun q => by rw [q] at t6; cases t6), t7⟩ al rfl
  obtain ⟨v, B, X', ⟨⟨hv, E', V', q1, q2, q3, q4, q5, q6, q7, q8, q9, q10, q11⟩, hl, hc, hs⟩, st⟩ := New1.pays x D fV fC b A z (tab_of (moved hZ hw)) hfr hlo m meth c P g ig mk _ X hg hsize hdg hW hn ⟨r1, r2, rfl, hB, F1, F2, hA, hS, hz, l0, l2, hp⟩
  have al' : Z.vm.Alike B.U.vm := hZ.alike.trans X'.warmed.alike
  have hsz : E'.slots.size = D.slots.size := by
    obtain ⟨-, -, -, kB, w1, w2, w3⟩ := q1
    obtain ⟨kB', y1, y2⟩ := al'.2.2 _ _ e3
    rw [q2.2.1] at w1
    cases w1.symm.trans y1
    rw [w3, e5 i3, y2]
  refine ⟨v, B, X', ⟨_, ⟨hv, ?_, ⟨by omega, fun y cy hy hn' => q10 y cy (by simpa using hn') hy, fun y cy hy => ?_⟩, q11, ⟨E', _, q1.1, by rw [q2.2.1]; exact e2, by rw [q2.2.1]; exact e3, by rw [q2.1]; exact obV, fun _ => by rw [hsz]; exact e5 i3⟩,
    ⟨E', cfV, kV, iV, fV, q1.1, gV, stV, by rw [q2.1]; exact knV, by rw [q2.1]; exact obV, by rw [q2.2.1]; exact asV, q3⟩, ⟨E', cfC, kC, iC, fC, q1.1, gC, stC, by rw [q2.1]; exact knV, by rw [q2.1]; exact obV, by rw [q2.2.1]; exact asC, q4⟩,
    ⟨V', ⟨q5.1, State.isArrayOf_alike al'.symm q5.2.1, q5.2.2.1⟩, q6, by rw [← al'.findClass]; exact q7, q8, fun j hj => by have := q9 j hj; rwa [Nat.zero_add] at this⟩, fun O n d w F n1 n2 => ?_⟩, hl, hc, hs⟩, st⟩
  · intro y hy
    simp only [List.mem_cons, List.not_mem_nil, or_false] at hy
    rcases hy with rfl | rfl <;> rfl
  · by_cases q : y = x
    · subst q
      cases hD.symm.trans hy
      exact ⟨E', q1.1, q2.2.1, q2.1, hsz⟩
    · exact ⟨cy, q10 y cy q hy, rfl, rfl, rfl⟩
  · obtain ⟨D3, cf, k, i, f, g1, g2, g3, g4, g5, g6, g7⟩ := F
    cases hD.symm.trans g1
    simp only [RoadKit.slotOf, g2, gV, gC, Option.map_some, Option.getD_some] at n1 n2
    exact ⟨E', cf, k, i, f, q1.1, g2, g3, by rw [q2.1]; exact g4, by rw [q2.1]; exact g5, by rw [q2.2.1]; exact g6, by rw [q2.2.2 f.slot (by simp [n1, n2])]; exact g7⟩
end StrChars.Road
namespace StrChars.Road
open Jvm Sem ClassFile Op Lib Jvm.Stand Jvm.Free Jvm.Free.XT
/-- WHAT COMES BACK, the byte[] as a list of values -/
def QA (Z : State) (x : Addr) (zn : Int32) (cs : List Int32) (h : Heap) (v : Option Value) (h' : Heap) (L : List Loc) : Prop := v = none ∧ (∀ y ∈ L, y.base = x) ∧ RoadKit.Keep h h' [x] ∧ h'.size = h.size + 1 ∧ RoadKit.Exa Z h' x ST ∧ RoadKit.Fld Z h' x ST "value" "[B" (.ref h.size) ∧ RoadKit.Fld Z h' x ST "coder" "B" (.int 0) ∧
  (∃ kb, Z.vm.findClass "[B" = some kb ∧ RoadKit.Arv Z h' h.size kb .byte zn (cs.map fun c => .int (lo8 c)) (.int 0)) ∧
  ∀ (O n d : String) (w : Value), RoadKit.Fld Z h x O n d w → RoadKit.slotOf Z O n d ≠ RoadKit.slotOf Z ST "value" "[B" → RoadKit.slotOf Z O n d ≠ RoadKit.slotOf Z ST "coder" "B" → RoadKit.Fld Z h' x O n d w
/-- **new String(chars) AT A CALL, THE ARRAYS AS LISTS**: the char[] at b holds cs, not empty, no char above 255 -/
theorem backArv {p : Program} {l : Launch} {e : Env} {R : Room} {s : State} {args : Array Value} {below : List Frame} {len W : Nat} {Z : State} {a0 : Array Value} {h : Heap} (hZ : Z.Warmed39 s.vm) (hw : ∀ d ∈ words, d.before a0 Z = true) {kI : Nat} (wi : (Jvm.Cond.instantiable ST kI).before a0 Z = true)
    {x b : Addr} {k : ClassId} {zn z : Int32} {cs : List Int32} {dv v0 c0 : Value} (E : RoadKit.Exa Z h x ST) (V : RoadKit.Fld Z h x ST "value" "[B" v0) (C : RoadKit.Fld Z h x ST "coder" "B" c0) (K : RoadKit.Arv Z h b k .char zn (cs.map Value.int) dv) (S : RoadKit.Sta Z h ST "COMPACT_STRINGS" "Z" (.int z)) (hz : ¬ z = 0)
    (hlen : zn.toNatClampNeg = cs.length) (h0 : 0 < cs.length) (hbig : cs.length ≤ 536870912) (hall : ∀ c ∈ cs, ¬ 255 < c) (hfr : 4 ≤ R.frames) (hlo : W + 65 ≤ R.locals) :
    Back l R p e below s args New1.yN len W (fun P a => a = #[.ref x, .ref b] ∧ P.U.heap = h ∧ P.cells + 1 ≤ R.cells ∧ P.slots + cs.length ≤ R.slots)
      (fun P _ v B => ∃ L, QA Z x zn cs h v B.U.heap L ∧ B.locs = P.locs ++ L ∧ B.cells = P.cells + 1 ∧ B.slots = P.slots + cs.length) := by
  obtain ⟨A, K1, K2, K3, K4, K5, K6⟩ := K
  have e : A.slots.size = cs.length := K3.trans hlen
  have hat : ∀ (i : Nat) (hi : i < cs.length), A.slots[i]? = some (.int cs[i]) := fun i hi => by rw [K5 i (by omega)]; simp [List.getD_eq_getElem?_getD, hi]
  have hcv : ∀ (i : Nat) (hi : i < cs.length), cv A i = cs[i] := fun i hi => by unfold cv; rw [hat i hi]
  have hty : Typed .char A := fun i v hv => by
    have hi : i < A.slots.size := (Array.getElem?_eq_some_iff.mp hv).1
    have q := K5 i hi
    rw [hv] at q
    rw [Option.some.inj q]
    exact K6 i hi
  refine Back.mono (back hZ hw wi E V C K1 hty S hz (by omega) (by omega) (fun i hi => by rw [hcv i (by omega)]; exact hall _ (List.getElem_mem _)) hfr hlo) (fun P a hp => ⟨hp.1, hp.2.1, hp.2.2.1, by rw [e]; exact hp.2.2.2⟩) (fun P a v B hp hq => ?_)
  obtain ⟨L, ⟨q1, q2, q3, q4, q5, q6, q7, ⟨V', v1, v2, v3, v4, v5⟩, q9⟩, hl, hc, hs⟩ := hq
  refine ⟨L, ⟨q1, q2, q3, q4, q5, q6, q7, ⟨V'.cls, v3, V', v1, rfl, by rw [v4, e, hlen], K4, fun i hi => ?_, fun i hi => ?_⟩, q9⟩, hl, hc, by rw [hs, e]⟩
  · have hi' : i < cs.length := by omega
    rw [v5 i (by omega), hcv i hi']; simp [List.getD_eq_getElem?_getD, hi']
  · have hi' : i < cs.length := by omega
    simp only [List.getD_eq_getElem?_getD, List.getElem?_map, List.getElem?_eq_getElem hi', Option.map_some, Option.getD_some]
    exact fits_lo8 _
end StrChars.Road
namespace StrChars.Road
open Jvm Sem ClassFile Op Lib Jvm.Stand Jvm.Free Jvm.Free.XT
/-- WHAT COMES BACK, in the writer's own shape -/
def QV (Z : State) (x : Addr) (N : Int32) (bs : List Int32) (h : Heap) (n0 : Nat) (v : Option Value) (h' : Heap) (L : List Loc) : Prop := v = none ∧ RoadKit.Fr n0 L ∧ RoadKit.Keep h h' [x] ∧ RoadKit.Exa Z h' x ST ∧ RoadKit.Fld Z h' x ST "coder" "B" (.int 0) ∧
  ∃ (t : Addr) (kb : ClassId), n0 ≤ t ∧ h.size ≤ t ∧ ¬ t = x ∧ RoadKit.Fld Z h' x ST "value" "[B" (.ref t) ∧ RoadKit.Arv Z h' t kb .byte N (bs.map Value.int) (.int 0)
/-- **new String(chars) AT A CALL, FOR THE WRITER**: a char[] of n known ints, each 0 to 255 -/
theorem backV {p : Program} {l : Launch} {e : Env} {R : Room} {s : State} {args : Array Value} {below : List Frame} {len W : Nat} {Z : State} {a0 : Array Value} {h : Heap} (hZ : Z.Warmed39 s.vm) (hw : ∀ d ∈ words, d.before a0 Z = true) {kI : Nat} (wi : (Jvm.Cond.instantiable ST kI).before a0 Z = true)
    {x b : Addr} {kC : ClassId} {cs bs : List Int32} {d v0 c0 : Value} {z N : Int32} {n n0 : Nat} (hx0 : n0 ≤ x) (hh0 : n0 ≤ h.size) (E : RoadKit.Exa Z h x ST) (V : RoadKit.Fld Z h x ST "value" "[B" v0) (C : RoadKit.Fld Z h x ST "coder" "B" c0) (K : RoadKit.Arv Z h b kC .char N (cs.map Value.int) d) (S : RoadKit.Sta Z h ST "COMPACT_STRINGS" "Z" (.int z)) (hz : ¬ z = 0)
    (hn : cs.length = n) (hN : N = Int32.ofNat n) (l0 : 0 < n) (l2 : n ≤ 4000) (hp : ∀ c ∈ cs, ¬ c < 0 ∧ ¬ (255 : Int32) < c) (hb : bs = cs.map (fun c => c.toInt8.toInt32)) (hfr : 4 ≤ R.frames) (hlo : W + 65 ≤ R.locals) :
    Back l R p e below s args (⟨"java/lang/String", "<init>", "([C)V"⟩ : MethodName) len W (fun P a => a = #[.ref x, .ref b] ∧ P.U.heap = h ∧ P.cells + 1 ≤ R.cells ∧ P.slots + n ≤ R.slots)
      (fun P _ v B => ∃ L, QV Z x N bs h n0 v B.U.heap L ∧ B.locs = P.locs ++ L ∧ B.cells = P.cells + 1 ∧ B.slots = P.slots + n) := by
  subst hn hN hb
  refine Back.mono (backArv hZ hw wi E V C K S hz (n32 (by omega)) l0 (by omega) (fun c hc => (hp c hc).2) hfr hlo) (fun P a hp => hp) (fun P a v B hp hq => ?_)
  obtain ⟨L, ⟨q1, q2, q3, q4, q5, q6, q7, ⟨kb, v1, v2⟩, q9⟩, hl, hc, hs⟩ := hq
  exact ⟨L, ⟨q1, fun y hy => by rw [q2 y hy]; exact hx0, q3, q5, q7, h.size, kb, hh0, Nat.le_refl _, Nat.ne_of_gt E.lt, q6, by rw [List.map_map]; exact v2⟩, hl, hc, hs⟩
end StrChars.Road
end Jvm.Pilot.@@N@@

namespace Jvm.Pilot.@@N@@
open Jvm Jvm.ClassFile Sem Op Lib Jvm.Free Jvm.Stand Jvm.LawKit Jvm.RoadKit Bundle Jvm.Pilot.@@N@@.Jvm.D
theorem own_wid {p : Program} {l : Launch} {e : Env} {R : Room} {s : State} {m : MethodId} {args : Array Value} {below : List Frame} {meth : Method} {c : Code} {T : State} {locs : List Loc} {cells slots c' s' : Nat} (X : Stand p l e R s m args below meth c T locs cells slots) (h1 : cells ≤ c') (h2 : slots ≤ s') : Stand p l e R s m args below meth c T locs c' s' :=
  ⟨X.admits, X.cas, X.clock, X.frames, X.room, X.hears, X.method, X.code, X.here, X.tail, X.warmed, X.limits, X.bytes, X.same.mono h1 h2⟩
abbrev Sx (p : Program) (e : Env) (b : List Frame) (T : State) (m : MethodId) (pc : Nat) (L : Array Slot) (S : List Value) (t : State) : Prop := Steps p.tables e b (T.setTop (mkF m pc L S)) t
abbrev xvi (x : Int32) : Slot := .val (.int x)
abbrev xvj (x : Int64) : Slot := .val (.long x)
abbrev xvr (x : Addr) : Slot := .val (.ref x)
abbrev xwi (x : Int32) : Value := .int x
abbrev xwj (x : Int64) : Value := .long x
abbrev xwr (x : Addr) : Value := .ref x
abbrev xun : Slot := .unset
abbrev xse : Slot := .second
theorem own_selp {Z : State} {a0 : Array Value} {y : MethodName} {n : Nat} (wi : (Cond.instantiable y.cls n).before a0 Z = true) (wp : (Cond.privateMethod y).before a0 Z = true) (wn : (Cond.instanceMethod y).before a0 Z = true) (hy : y.cls ≠ "java/lang/invoke/MethodHandle" ∧ y.cls ≠ "java/lang/invoke/VarHandle") : (Cond.selects y.cls y y).before a0 Z = true := by
  obtain ⟨c, k, h1, h2, -, h4, -⟩ := Cond.instantiable_spec wi
  exact Jvm.Stand.selects_self_of_private h1 h2 (Bool.or_eq_false_iff.mp h4).1 (Cond.privateMethod_at wp) wn hy
theorem y_iload {p : Program} {l : Launch} {e : Env} {R : Room} {s : State} {m : MethodId} {args : Array Value} {below : List Frame} {meth : Method} {c : Code} {T : State} {locs : List Loc} {cells slots : Nat} {t : State} {L : Array Slot} {S : List Value} {pc : Nat} (X : Stand p l e R s m args below meth c T locs cells slots) (hx : p.tables.exec = Jvm.exec) {k : Nat} {v : Int32} (q : Nat) (hd : decode c.code pc = .ok (.iload k, 2)) (hl : L[k]? = some (.val (.int v))) (hq : pc + 2 = q) (hr : Sx p e below T m q L (.int v :: S) t) : Sx p e below T m pc L S t := by subst hq; exact XS.iload X.here hx rfl hd hl hr
theorem y_iloadN {p : Program} {l : Launch} {e : Env} {R : Room} {s : State} {m : MethodId} {args : Array Value} {below : List Frame} {meth : Method} {c : Code} {T : State} {locs : List Loc} {cells slots : Nat} {t : State} {L : Array Slot} {S : List Value} {pc : Nat} (X : Stand p l e R s m args below meth c T locs cells slots) (hx : p.tables.exec = Jvm.exec) {k : Fin 4} {v : Int32} (q : Nat) (hd : decode c.code pc = .ok (.iload_n k, 1)) (hl : L[k.val]? = some (.val (.int v))) (hq : pc + 1 = q) (hr : Sx p e below T m q L (.int v :: S) t) : Sx p e below T m pc L S t := by subst hq; exact XS.iloadN X.here hx rfl hd hl hr
theorem y_lload {p : Program} {l : Launch} {e : Env} {R : Room} {s : State} {m : MethodId} {args : Array Value} {below : List Frame} {meth : Method} {c : Code} {T : State} {locs : List Loc} {cells slots : Nat} {t : State} {L : Array Slot} {S : List Value} {pc : Nat} (X : Stand p l e R s m args below meth c T locs cells slots) (hx : p.tables.exec = Jvm.exec) {k : Nat} {v : Int64} (q : Nat) (hd : decode c.code pc = .ok (.lload k, 2)) (hl : L[k]? = some (.val (.long v))) (hq : pc + 2 = q) (hr : Sx p e below T m q L (.long v :: S) t) : Sx p e below T m pc L S t := by subst hq; exact XS.lload X.here hx rfl hd hl hr
theorem y_lloadN {p : Program} {l : Launch} {e : Env} {R : Room} {s : State} {m : MethodId} {args : Array Value} {below : List Frame} {meth : Method} {c : Code} {T : State} {locs : List Loc} {cells slots : Nat} {t : State} {L : Array Slot} {S : List Value} {pc : Nat} (X : Stand p l e R s m args below meth c T locs cells slots) (hx : p.tables.exec = Jvm.exec) {k : Fin 4} {v : Int64} (q : Nat) (hd : decode c.code pc = .ok (.lload_n k, 1)) (hl : L[k.val]? = some (.val (.long v))) (hq : pc + 1 = q) (hr : Sx p e below T m q L (.long v :: S) t) : Sx p e below T m pc L S t := by subst hq; exact XS.lloadN X.here hx rfl hd hl hr
theorem y_aload {p : Program} {l : Launch} {e : Env} {R : Room} {s : State} {m : MethodId} {args : Array Value} {below : List Frame} {meth : Method} {c : Code} {T : State} {locs : List Loc} {cells slots : Nat} {t : State} {L : Array Slot} {S : List Value} {pc : Nat} (X : Stand p l e R s m args below meth c T locs cells slots) (hx : p.tables.exec = Jvm.exec) {k : Nat} {v : Value} (q : Nat) (hd : decode c.code pc = .ok (.aload k, 2)) (hl : L[k]? = some (.val v)) (hv : v.isRef = true) (hq : pc + 2 = q) (hr : Sx p e below T m q L (v :: S) t) : Sx p e below T m pc L S t := by subst hq; exact XS.aload X.here hx rfl hd hl hv hr
theorem y_aloadN {p : Program} {l : Launch} {e : Env} {R : Room} {s : State} {m : MethodId} {args : Array Value} {below : List Frame} {meth : Method} {c : Code} {T : State} {locs : List Loc} {cells slots : Nat} {t : State} {L : Array Slot} {S : List Value} {pc : Nat} (X : Stand p l e R s m args below meth c T locs cells slots) (hx : p.tables.exec = Jvm.exec) {k : Fin 4} {v : Value} (q : Nat) (hd : decode c.code pc = .ok (.aload_n k, 1)) (hl : L[k.val]? = some (.val v)) (hv : v.isRef = true) (hq : pc + 1 = q) (hr : Sx p e below T m q L (v :: S) t) : Sx p e below T m pc L S t := by subst hq; exact XS.aloadN X.here hx rfl hd hl hv hr
theorem y_iconst {p : Program} {l : Launch} {e : Env} {R : Room} {s : State} {m : MethodId} {args : Array Value} {below : List Frame} {meth : Method} {c : Code} {T : State} {locs : List Loc} {cells slots : Nat} {t : State} {L : Array Slot} {S : List Value} {pc : Nat} (X : Stand p l e R s m args below meth c T locs cells slots) (hx : p.tables.exec = Jvm.exec) {i : Int} (z : Int32) (q : Nat) (hd : decode c.code pc = .ok (.iconst i, 1)) (hz : Int32.ofInt i = z) (hq : pc + 1 = q) (hr : Sx p e below T m q L (.int z :: S) t) : Sx p e below T m pc L S t := by subst hq; exact XS.iconst X.here hx rfl hd (by rw [hz]; exact hr)
theorem y_bipush {p : Program} {l : Launch} {e : Env} {R : Room} {s : State} {m : MethodId} {args : Array Value} {below : List Frame} {meth : Method} {c : Code} {T : State} {locs : List Loc} {cells slots : Nat} {t : State} {L : Array Slot} {S : List Value} {pc : Nat} (X : Stand p l e R s m args below meth c T locs cells slots) (hx : p.tables.exec = Jvm.exec) {i : Int} (z : Int32) (q : Nat) (hd : decode c.code pc = .ok (.bipush i, 2)) (hz : (Int8.ofInt i).toInt32 = z) (hq : pc + 2 = q) (hr : Sx p e below T m q L (.int z :: S) t) : Sx p e below T m pc L S t := by subst hq; exact XS.bipush X.here hx rfl hd (by rw [hz]; exact hr)
theorem y_sipush {p : Program} {l : Launch} {e : Env} {R : Room} {s : State} {m : MethodId} {args : Array Value} {below : List Frame} {meth : Method} {c : Code} {T : State} {locs : List Loc} {cells slots : Nat} {t : State} {L : Array Slot} {S : List Value} {pc : Nat} (X : Stand p l e R s m args below meth c T locs cells slots) (hx : p.tables.exec = Jvm.exec) {i : Int} (z : Int32) (q : Nat) (hd : decode c.code pc = .ok (.sipush i, 3)) (hz : (Int16.ofInt i).toInt32 = z) (hq : pc + 3 = q) (hr : Sx p e below T m q L (.int z :: S) t) : Sx p e below T m pc L S t := by subst hq; exact XS.sipush X.here hx rfl hd (by rw [hz]; exact hr)
theorem y_aconst_null {p : Program} {l : Launch} {e : Env} {R : Room} {s : State} {m : MethodId} {args : Array Value} {below : List Frame} {meth : Method} {c : Code} {T : State} {locs : List Loc} {cells slots : Nat} {t : State} {L : Array Slot} {S : List Value} {pc : Nat} (X : Stand p l e R s m args below meth c T locs cells slots) (hx : p.tables.exec = Jvm.exec) (q : Nat) (hd : decode c.code pc = .ok (.aconst_null, 1)) (hq : pc + 1 = q) (hr : Sx p e below T m q L (.null :: S) t) : Sx p e below T m pc L S t := by subst hq; exact XS.aconstNull X.here hx rfl hd hr
theorem y_iadd {p : Program} {l : Launch} {e : Env} {R : Room} {s : State} {m : MethodId} {args : Array Value} {below : List Frame} {meth : Method} {c : Code} {T : State} {locs : List Loc} {cells slots : Nat} {t : State} {L : Array Slot} {S : List Value} {pc : Nat} (X : Stand p l e R s m args below meth c T locs cells slots) (hx : p.tables.exec = Jvm.exec) {x y : Int32} (q : Nat) (hd : decode c.code pc = .ok (.iadd, 1)) (hq : pc + 1 = q) (hr : Sx p e below T m q L (.int (x + y) :: S) t) : Sx p e below T m pc L (.int y :: .int x :: S) t := by subst hq; exact XS.iadd X.here hx rfl hd rfl hr
theorem y_ladd {p : Program} {l : Launch} {e : Env} {R : Room} {s : State} {m : MethodId} {args : Array Value} {below : List Frame} {meth : Method} {c : Code} {T : State} {locs : List Loc} {cells slots : Nat} {t : State} {L : Array Slot} {S : List Value} {pc : Nat} (X : Stand p l e R s m args below meth c T locs cells slots) (hx : p.tables.exec = Jvm.exec) {x y : Int64} (q : Nat) (hd : decode c.code pc = .ok (.ladd, 1)) (hq : pc + 1 = q) (hr : Sx p e below T m q L (.long (x + y) :: S) t) : Sx p e below T m pc L (.long y :: .long x :: S) t := by subst hq; exact XS.ladd X.here hx rfl hd rfl hr
theorem y_isub {p : Program} {l : Launch} {e : Env} {R : Room} {s : State} {m : MethodId} {args : Array Value} {below : List Frame} {meth : Method} {c : Code} {T : State} {locs : List Loc} {cells slots : Nat} {t : State} {L : Array Slot} {S : List Value} {pc : Nat} (X : Stand p l e R s m args below meth c T locs cells slots) (hx : p.tables.exec = Jvm.exec) {x y : Int32} (q : Nat) (hd : decode c.code pc = .ok (.isub, 1)) (hq : pc + 1 = q) (hr : Sx p e below T m q L (.int (x - y) :: S) t) : Sx p e below T m pc L (.int y :: .int x :: S) t := by subst hq; exact XS.isub X.here hx rfl hd rfl hr
theorem y_lsub {p : Program} {l : Launch} {e : Env} {R : Room} {s : State} {m : MethodId} {args : Array Value} {below : List Frame} {meth : Method} {c : Code} {T : State} {locs : List Loc} {cells slots : Nat} {t : State} {L : Array Slot} {S : List Value} {pc : Nat} (X : Stand p l e R s m args below meth c T locs cells slots) (hx : p.tables.exec = Jvm.exec) {x y : Int64} (q : Nat) (hd : decode c.code pc = .ok (.lsub, 1)) (hq : pc + 1 = q) (hr : Sx p e below T m q L (.long (x - y) :: S) t) : Sx p e below T m pc L (.long y :: .long x :: S) t := by subst hq; exact XS.lsub X.here hx rfl hd rfl hr
theorem y_imul {p : Program} {l : Launch} {e : Env} {R : Room} {s : State} {m : MethodId} {args : Array Value} {below : List Frame} {meth : Method} {c : Code} {T : State} {locs : List Loc} {cells slots : Nat} {t : State} {L : Array Slot} {S : List Value} {pc : Nat} (X : Stand p l e R s m args below meth c T locs cells slots) (hx : p.tables.exec = Jvm.exec) {x y : Int32} (q : Nat) (hd : decode c.code pc = .ok (.imul, 1)) (hq : pc + 1 = q) (hr : Sx p e below T m q L (.int (x * y) :: S) t) : Sx p e below T m pc L (.int y :: .int x :: S) t := by subst hq; exact XS.imul X.here hx rfl hd rfl hr
theorem y_lmul {p : Program} {l : Launch} {e : Env} {R : Room} {s : State} {m : MethodId} {args : Array Value} {below : List Frame} {meth : Method} {c : Code} {T : State} {locs : List Loc} {cells slots : Nat} {t : State} {L : Array Slot} {S : List Value} {pc : Nat} (X : Stand p l e R s m args below meth c T locs cells slots) (hx : p.tables.exec = Jvm.exec) {x y : Int64} (q : Nat) (hd : decode c.code pc = .ok (.lmul, 1)) (hq : pc + 1 = q) (hr : Sx p e below T m q L (.long (x * y) :: S) t) : Sx p e below T m pc L (.long y :: .long x :: S) t := by subst hq; exact XS.lmul X.here hx rfl hd rfl hr
theorem y_iand {p : Program} {l : Launch} {e : Env} {R : Room} {s : State} {m : MethodId} {args : Array Value} {below : List Frame} {meth : Method} {c : Code} {T : State} {locs : List Loc} {cells slots : Nat} {t : State} {L : Array Slot} {S : List Value} {pc : Nat} (X : Stand p l e R s m args below meth c T locs cells slots) (hx : p.tables.exec = Jvm.exec) {x y : Int32} (q : Nat) (hd : decode c.code pc = .ok (.iand, 1)) (hq : pc + 1 = q) (hr : Sx p e below T m q L (.int (x &&& y) :: S) t) : Sx p e below T m pc L (.int y :: .int x :: S) t := by subst hq; exact XS.iand X.here hx rfl hd rfl hr
theorem y_land {p : Program} {l : Launch} {e : Env} {R : Room} {s : State} {m : MethodId} {args : Array Value} {below : List Frame} {meth : Method} {c : Code} {T : State} {locs : List Loc} {cells slots : Nat} {t : State} {L : Array Slot} {S : List Value} {pc : Nat} (X : Stand p l e R s m args below meth c T locs cells slots) (hx : p.tables.exec = Jvm.exec) {x y : Int64} (q : Nat) (hd : decode c.code pc = .ok (.land, 1)) (hq : pc + 1 = q) (hr : Sx p e below T m q L (.long (x &&& y) :: S) t) : Sx p e below T m pc L (.long y :: .long x :: S) t := by subst hq; exact XS.land X.here hx rfl hd rfl hr
theorem y_ior {p : Program} {l : Launch} {e : Env} {R : Room} {s : State} {m : MethodId} {args : Array Value} {below : List Frame} {meth : Method} {c : Code} {T : State} {locs : List Loc} {cells slots : Nat} {t : State} {L : Array Slot} {S : List Value} {pc : Nat} (X : Stand p l e R s m args below meth c T locs cells slots) (hx : p.tables.exec = Jvm.exec) {x y : Int32} (q : Nat) (hd : decode c.code pc = .ok (.ior, 1)) (hq : pc + 1 = q) (hr : Sx p e below T m q L (.int (x ||| y) :: S) t) : Sx p e below T m pc L (.int y :: .int x :: S) t := by subst hq; exact XS.ior X.here hx rfl hd rfl hr
theorem y_lor {p : Program} {l : Launch} {e : Env} {R : Room} {s : State} {m : MethodId} {args : Array Value} {below : List Frame} {meth : Method} {c : Code} {T : State} {locs : List Loc} {cells slots : Nat} {t : State} {L : Array Slot} {S : List Value} {pc : Nat} (X : Stand p l e R s m args below meth c T locs cells slots) (hx : p.tables.exec = Jvm.exec) {x y : Int64} (q : Nat) (hd : decode c.code pc = .ok (.lor, 1)) (hq : pc + 1 = q) (hr : Sx p e below T m q L (.long (x ||| y) :: S) t) : Sx p e below T m pc L (.long y :: .long x :: S) t := by subst hq; exact XS.lor X.here hx rfl hd rfl hr
theorem y_ixor {p : Program} {l : Launch} {e : Env} {R : Room} {s : State} {m : MethodId} {args : Array Value} {below : List Frame} {meth : Method} {c : Code} {T : State} {locs : List Loc} {cells slots : Nat} {t : State} {L : Array Slot} {S : List Value} {pc : Nat} (X : Stand p l e R s m args below meth c T locs cells slots) (hx : p.tables.exec = Jvm.exec) {x y : Int32} (q : Nat) (hd : decode c.code pc = .ok (.ixor, 1)) (hq : pc + 1 = q) (hr : Sx p e below T m q L (.int (x ^^^ y) :: S) t) : Sx p e below T m pc L (.int y :: .int x :: S) t := by subst hq; exact XS.ixor X.here hx rfl hd rfl hr
theorem y_lxor {p : Program} {l : Launch} {e : Env} {R : Room} {s : State} {m : MethodId} {args : Array Value} {below : List Frame} {meth : Method} {c : Code} {T : State} {locs : List Loc} {cells slots : Nat} {t : State} {L : Array Slot} {S : List Value} {pc : Nat} (X : Stand p l e R s m args below meth c T locs cells slots) (hx : p.tables.exec = Jvm.exec) {x y : Int64} (q : Nat) (hd : decode c.code pc = .ok (.lxor, 1)) (hq : pc + 1 = q) (hr : Sx p e below T m q L (.long (x ^^^ y) :: S) t) : Sx p e below T m pc L (.long y :: .long x :: S) t := by subst hq; exact XS.lxor X.here hx rfl hd rfl hr
theorem y_goto {p : Program} {l : Launch} {e : Env} {R : Room} {s : State} {m : MethodId} {args : Array Value} {below : List Frame} {meth : Method} {c : Code} {T : State} {locs : List Loc} {cells slots : Nat} {t : State} {L : Array Slot} {S : List Value} {pc : Nat} (X : Stand p l e R s m args below meth c T locs cells slots) (hx : p.tables.exec = Jvm.exec) {o : Int} (q : Nat) (hd : decode c.code pc = .ok (.goto o, 3)) (ho : 0 ≤ (pc : Int) + o) (hq : ((pc : Int) + o).toNat = q) (hr : Sx p e below T m q L S t) : Sx p e below T m pc L S t := by subst hq; exact XS.goto X.here hx rfl rfl hd ho rfl hr
theorem y_ifYes {p : Program} {l : Launch} {e : Env} {R : Room} {s : State} {m : MethodId} {args : Array Value} {below : List Frame} {meth : Method} {c : Code} {T : State} {locs : List Loc} {cells slots : Nat} {t : State} {L : Array Slot} {S : List Value} {pc : Nat} (X : Stand p l e R s m args below meth c T locs cells slots) (hx : p.tables.exec = Jvm.exec) {cd : ClassFile.Cond} {x : Int32} {o : Int} (q : Nat) (hd : decode c.code pc = .ok (.ifCond cd o, 3)) (hc : ifCond.holds cd x = true) (ho : 0 ≤ (pc : Int) + o) (hq : ((pc : Int) + o).toNat = q) (hr : Sx p e below T m q L S t) : Sx p e below T m pc L (.int x :: S) t := by subst hq; exact XS.ifYes X.here hx rfl rfl hd rfl hc ho rfl hr
theorem y_ifNo {p : Program} {l : Launch} {e : Env} {R : Room} {s : State} {m : MethodId} {args : Array Value} {below : List Frame} {meth : Method} {c : Code} {T : State} {locs : List Loc} {cells slots : Nat} {t : State} {L : Array Slot} {S : List Value} {pc : Nat} (X : Stand p l e R s m args below meth c T locs cells slots) (hx : p.tables.exec = Jvm.exec) {cd : ClassFile.Cond} {x : Int32} {o : Int} (q : Nat) (hd : decode c.code pc = .ok (.ifCond cd o, 3)) (hc : ifCond.holds cd x = false) (hq : pc + 3 = q) (hr : Sx p e below T m q L S t) : Sx p e below T m pc L (.int x :: S) t := by subst hq; exact XS.ifNo X.here hx rfl hd rfl hc hr
theorem y_icmpYes {p : Program} {l : Launch} {e : Env} {R : Room} {s : State} {m : MethodId} {args : Array Value} {below : List Frame} {meth : Method} {c : Code} {T : State} {locs : List Loc} {cells slots : Nat} {t : State} {L : Array Slot} {S : List Value} {pc : Nat} (X : Stand p l e R s m args below meth c T locs cells slots) (hx : p.tables.exec = Jvm.exec) {cd : ClassFile.Cond} {x y : Int32} {o : Int} (q : Nat) (hd : decode c.code pc = .ok (.if_icmp cd o, 3)) (hc : if_icmp.holds cd x y = true) (ho : 0 ≤ (pc : Int) + o) (hq : ((pc : Int) + o).toNat = q) (hr : Sx p e below T m q L S t) : Sx p e below T m pc L (.int y :: .int x :: S) t := by subst hq; exact XS.icmpYes X.here hx rfl rfl hd rfl hc ho rfl hr
theorem y_icmpNo {p : Program} {l : Launch} {e : Env} {R : Room} {s : State} {m : MethodId} {args : Array Value} {below : List Frame} {meth : Method} {c : Code} {T : State} {locs : List Loc} {cells slots : Nat} {t : State} {L : Array Slot} {S : List Value} {pc : Nat} (X : Stand p l e R s m args below meth c T locs cells slots) (hx : p.tables.exec = Jvm.exec) {cd : ClassFile.Cond} {x y : Int32} {o : Int} (q : Nat) (hd : decode c.code pc = .ok (.if_icmp cd o, 3)) (hc : if_icmp.holds cd x y = false) (hq : pc + 3 = q) (hr : Sx p e below T m q L S t) : Sx p e below T m pc L (.int y :: .int x :: S) t := by subst hq; exact XS.icmpNo X.here hx rfl hd rfl hc hr
theorem y_dup {p : Program} {l : Launch} {e : Env} {R : Room} {s : State} {m : MethodId} {args : Array Value} {below : List Frame} {meth : Method} {c : Code} {T : State} {locs : List Loc} {cells slots : Nat} {t : State} {L : Array Slot} {S : List Value} {pc : Nat} (X : Stand p l e R s m args below meth c T locs cells slots) (hx : p.tables.exec = Jvm.exec) {v : Value} (q : Nat) (hd : decode c.code pc = .ok (.dup, 1)) (hc : v.category = 1) (hq : pc + 1 = q) (hr : Sx p e below T m q L (v :: v :: S) t) : Sx p e below T m pc L (v :: S) t := by subst hq; exact XS.dup X.here hx rfl hd rfl hc hr
theorem y_pop {p : Program} {l : Launch} {e : Env} {R : Room} {s : State} {m : MethodId} {args : Array Value} {below : List Frame} {meth : Method} {c : Code} {T : State} {locs : List Loc} {cells slots : Nat} {t : State} {L : Array Slot} {S : List Value} {pc : Nat} (X : Stand p l e R s m args below meth c T locs cells slots) (hx : p.tables.exec = Jvm.exec) {v : Value} (q : Nat) (hd : decode c.code pc = .ok (.pop, 1)) (hc : v.category = 1) (hq : pc + 1 = q) (hr : Sx p e below T m q L S t) : Sx p e below T m pc L (v :: S) t := by subst hq; exact XS.pop X.here hx rfl hd rfl hc hr
theorem own_nar {v : Value} {t : FieldType} (h : v.isRef = true) (ht : t.isReference = true) : narrow t v = v := by
  rcases XT.refc h with rfl | ⟨r, rfl⟩ <;> cases t <;> first | rfl | cases ht
theorem own_fit {v : Value} {t : FieldType} (h : v.isRef = true) (ht : t.isReference = true) : fits t v = true := by
  rcases XT.refc h with rfl | ⟨r, rfl⟩ <;> cases t <;> first | rfl | cases ht
abbrev HW (a0 : Array Value) (Z : State) : Prop := ∀ d ∈ tables_1, d.before a0 Z = true
theorem w_at {a0 : Array Value} {Z : State} (hw : HW a0 Z) {d : Jvm.Cond} (i : Nat) (h : tables_1[i]? = some d) : d.before a0 Z = true := hw _ (List.mem_of_getElem? h)
theorem w_0 {a0 : Array Value} {Z : State} (hw : HW a0 Z) : (Cond.constantLong "com/example/umq/umq/admin/SelectionLowestPinLaw" 9 (9223372036854775807 : Int64)).before a0 Z = true := w_at hw 0 rfl
theorem w_1 {a0 : Array Value} {Z : State} (hw : HW a0 Z) : (Cond.methodLink "com/example/umq/umq/admin/SelectionLowestPinLaw" 11 ⟨"java/lang/Math", "max", "(JJ)J"⟩).before a0 Z = true := w_at hw 1 rfl
theorem w_2 {a0 : Array Value} {Z : State} (hw : HW a0 Z) : (Cond.static ⟨"java/lang/Math", "max", "(JJ)J"⟩).before a0 Z = true := w_at hw 2 rfl
theorem w_3 {a0 : Array Value} {Z : State} (hw : HW a0 Z) : (Cond.initialized "java/lang/Math").before a0 Z = true := w_at hw 3 rfl
theorem w_4 {a0 : Array Value} {Z : State} (hw : HW a0 Z) : (Cond.code ⟨"java/lang/Math", "max", "(JJ)J"⟩ jdk_29_method_66_code 4 (Option.some FieldType.long)).before a0 Z = true := w_at hw 4 rfl
theorem w_5 {a0 : Array Value} {Z : State} (hw : HW a0 Z) : (Cond.methodLink "com/example/umq/umq/admin/SelectionLowestPinLaw" 17 ⟨"com/example/umq/umq/admin/SelectionLowestPinLaw", "level", "(III)Ljava/lang/String;"⟩).before a0 Z = true := w_at hw 5 rfl
theorem w_6 {a0 : Array Value} {Z : State} (hw : HW a0 Z) : (Cond.static ⟨"com/example/umq/umq/admin/SelectionLowestPinLaw", "level", "(III)Ljava/lang/String;"⟩).before a0 Z = true := w_at hw 6 rfl
theorem w_7 {a0 : Array Value} {Z : State} (hw : HW a0 Z) : (Cond.initialized "com/example/umq/umq/admin/SelectionLowestPinLaw").before a0 Z = true := w_at hw 7 rfl
theorem w_8 {a0 : Array Value} {Z : State} (hw : HW a0 Z) : (Cond.code ⟨"com/example/umq/umq/admin/SelectionLowestPinLaw", "level", "(III)Ljava/lang/String;"⟩ method_3_code 6 (Option.some (FieldType.object "java/lang/String"))).before a0 Z = true := w_at hw 8 rfl
theorem w_9 {a0 : Array Value} {Z : State} (hw : HW a0 Z) : (Cond.classLink "com/example/umq/umq/admin/SelectionLowestPinLaw" 41 "java/lang/String").before a0 Z = true := w_at hw 9 rfl
theorem w_10 {a0 : Array Value} {Z : State} (hw : HW a0 Z) : (Cond.instantiable "java/lang/String" 4).before a0 Z = true := w_at hw 10 rfl
theorem w_11 {a0 : Array Value} {Z : State} (hw : HW a0 Z) : (Cond.initialized "java/lang/String").before a0 Z = true := w_at hw 11 rfl
theorem w_12 {a0 : Array Value} {Z : State} (hw : HW a0 Z) : (Cond.arrayClass FieldType.char).before a0 Z = true := w_at hw 12 rfl
theorem w_13 {a0 : Array Value} {Z : State} (hw : HW a0 Z) : (Cond.methodLink "com/example/umq/umq/admin/SelectionLowestPinLaw" 50 ⟨"java/lang/String", "<init>", "([C)V"⟩).before a0 Z = true := w_at hw 13 rfl
theorem w_14 {a0 : Array Value} {Z : State} (hw : HW a0 Z) : (Cond.instanceMethod ⟨"java/lang/String", "<init>", "([C)V"⟩).before a0 Z = true := w_at hw 14 rfl
theorem w_15 {a0 : Array Value} {Z : State} (hw : HW a0 Z) : (Cond.code ⟨"java/lang/String", "<init>", "([C)V"⟩ jdk_42_method_3_code 2 (Option.none : Option FieldType)).before a0 Z = true := w_at hw 15 rfl
theorem w_16 {a0 : Array Value} {Z : State} (hw : HW a0 Z) : (Cond.methodLink "java/lang/String" 27 ⟨"java/lang/String", "<init>", "([CIILjava/lang/Void;)V"⟩).before a0 Z = true := w_at hw 16 rfl
theorem w_17 {a0 : Array Value} {Z : State} (hw : HW a0 Z) : (Cond.instanceMethod ⟨"java/lang/String", "<init>", "([CIILjava/lang/Void;)V"⟩).before a0 Z = true := w_at hw 17 rfl
theorem w_19 {a0 : Array Value} {Z : State} (hw : HW a0 Z) : (Cond.code ⟨"java/lang/String", "<init>", "([CIILjava/lang/Void;)V"⟩ jdk_42_method_149_code 6 (Option.none : Option FieldType)).before a0 Z = true := w_at hw 19 rfl
theorem w_20 {a0 : Array Value} {Z : State} (hw : HW a0 Z) : (Cond.methodLink "java/lang/String" 1 ⟨"java/lang/Object", "<init>", "()V"⟩).before a0 Z = true := w_at hw 20 rfl
theorem w_21 {a0 : Array Value} {Z : State} (hw : HW a0 Z) : (Cond.instanceMethod ⟨"java/lang/Object", "<init>", "()V"⟩).before a0 Z = true := w_at hw 21 rfl
theorem w_22 {a0 : Array Value} {Z : State} (hw : HW a0 Z) : (Cond.code ⟨"java/lang/Object", "<init>", "()V"⟩ object_method_1_code 1 (Option.none : Option FieldType)).before a0 Z = true := w_at hw 22 rfl
theorem w_23 {a0 : Array Value} {Z : State} (hw : HW a0 Z) : (Cond.stringLink "java/lang/String" 7 "").before a0 Z = true := w_at hw 23 rfl
theorem w_24 {a0 : Array Value} {Z : State} (hw : HW a0 Z) : (Cond.arrayClass FieldType.byte).before a0 Z = true := w_at hw 24 rfl
theorem w_25 {a0 : Array Value} {Z : State} (hw : HW a0 Z) : (Cond.laysFinal "java/lang/String" "java/lang/String" "value" "[B").before a0 Z = true := w_at hw 25 rfl
theorem w_26 {a0 : Array Value} {Z : State} (hw : HW a0 Z) : (Cond.laysFinal "java/lang/String" "java/lang/String" "coder" "B").before a0 Z = true := w_at hw 26 rfl
theorem w_29 {a0 : Array Value} {Z : State} (hw : HW a0 Z) : (Cond.fieldLink "java/lang/String" 9 "java/lang/String" "value" "[B").before a0 Z = true := w_at hw 29 rfl
theorem w_30 {a0 : Array Value} {Z : State} (hw : HW a0 Z) : (Cond.fieldLink "java/lang/String" 15 "java/lang/String" "coder" "B").before a0 Z = true := w_at hw 30 rfl
theorem w_31 {a0 : Array Value} {Z : State} (hw : HW a0 Z) : (Cond.methodLink "com/example/umq/umq/admin/SelectionLowestPinLaw" 23 ⟨"com/example/umq/umq/admin/Selection", "lowest", "(Ljava/lang/String;J)Lcom/example/umq/umq/admin/Selection;"⟩).before a0 Z = true := w_at hw 31 rfl
theorem w_32 {a0 : Array Value} {Z : State} (hw : HW a0 Z) : (Cond.static ⟨"com/example/umq/umq/admin/Selection", "lowest", "(Ljava/lang/String;J)Lcom/example/umq/umq/admin/Selection;"⟩).before a0 Z = true := w_at hw 32 rfl
theorem w_33 {a0 : Array Value} {Z : State} (hw : HW a0 Z) : (Cond.initialized "com/example/umq/umq/admin/Selection").before a0 Z = true := w_at hw 33 rfl
theorem w_34 {a0 : Array Value} {Z : State} (hw : HW a0 Z) : (Cond.code ⟨"com/example/umq/umq/admin/Selection", "lowest", "(Ljava/lang/String;J)Lcom/example/umq/umq/admin/Selection;"⟩ prog_12_method_3_code 3 (Option.some (FieldType.object "com/example/umq/umq/admin/Selection"))).before a0 Z = true := w_at hw 34 rfl
theorem w_35 {a0 : Array Value} {Z : State} (hw : HW a0 Z) : (Cond.classLink "com/example/umq/umq/admin/Selection" 18 "com/example/umq/umq/admin/Selection").before a0 Z = true := w_at hw 35 rfl
theorem w_36 {a0 : Array Value} {Z : State} (hw : HW a0 Z) : (Cond.instantiable "com/example/umq/umq/admin/Selection" 3).before a0 Z = true := w_at hw 36 rfl
theorem w_37 {a0 : Array Value} {Z : State} (hw : HW a0 Z) : (Cond.methodLink "com/example/umq/umq/admin/Selection" 31 ⟨"java/util/Optional", "empty", "()Ljava/util/Optional;"⟩).before a0 Z = true := w_at hw 37 rfl
theorem w_38 {a0 : Array Value} {Z : State} (hw : HW a0 Z) : (Cond.static ⟨"java/util/Optional", "empty", "()Ljava/util/Optional;"⟩).before a0 Z = true := w_at hw 38 rfl
theorem w_39 {a0 : Array Value} {Z : State} (hw : HW a0 Z) : (Cond.initialized "java/util/Optional").before a0 Z = true := w_at hw 39 rfl
theorem w_40 {a0 : Array Value} {Z : State} (hw : HW a0 Z) : (Cond.code ⟨"java/util/Optional", "empty", "()Ljava/util/Optional;"⟩ jdk_32_method_1_code 1 (Option.some (FieldType.object "java/util/Optional"))).before a0 Z = true := w_at hw 40 rfl
theorem w_41 {a0 : Array Value} {Z : State} (hw : HW a0 Z) : (Cond.fieldLink "java/util/Optional" 1 "java/util/Optional" "EMPTY" "Ljava/util/Optional;").before a0 Z = true := w_at hw 41 rfl
theorem w_42 {a0 : Array Value} {Z : State} (hw : HW a0 Z) : (Cond.methodLink "com/example/umq/umq/admin/Selection" 41 ⟨"com/example/umq/umq/admin/Selection", "<init>", "(Ljava/lang/String;Ljava/util/Optional;J)V"⟩).before a0 Z = true := w_at hw 42 rfl
theorem w_43 {a0 : Array Value} {Z : State} (hw : HW a0 Z) : (Cond.instanceMethod ⟨"com/example/umq/umq/admin/Selection", "<init>", "(Ljava/lang/String;Ljava/util/Optional;J)V"⟩).before a0 Z = true := w_at hw 43 rfl
theorem w_44 {a0 : Array Value} {Z : State} (hw : HW a0 Z) : (Cond.code ⟨"com/example/umq/umq/admin/Selection", "<init>", "(Ljava/lang/String;Ljava/util/Optional;J)V"⟩ prog_12_method_1_code 5 (Option.none : Option FieldType)).before a0 Z = true := w_at hw 44 rfl
theorem w_45 {a0 : Array Value} {Z : State} (hw : HW a0 Z) : (Cond.methodLink "com/example/umq/umq/admin/Selection" 1 ⟨"java/lang/Object", "<init>", "()V"⟩).before a0 Z = true := w_at hw 45 rfl
theorem w_46 {a0 : Array Value} {Z : State} (hw : HW a0 Z) : (Cond.stringLink "com/example/umq/umq/admin/Selection" 7 "level cannot be null").before a0 Z = true := w_at hw 46 rfl
theorem w_47 {a0 : Array Value} {Z : State} (hw : HW a0 Z) : (Cond.methodLink "com/example/umq/umq/admin/Selection" 9 ⟨"java/util/Objects", "requireNonNull", "(Ljava/lang/Object;Ljava/lang/String;)Ljava/lang/Object;"⟩).before a0 Z = true := w_at hw 47 rfl
theorem w_48 {a0 : Array Value} {Z : State} (hw : HW a0 Z) : (Cond.static ⟨"java/util/Objects", "requireNonNull", "(Ljava/lang/Object;Ljava/lang/String;)Ljava/lang/Object;"⟩).before a0 Z = true := w_at hw 48 rfl
theorem w_49 {a0 : Array Value} {Z : State} (hw : HW a0 Z) : (Cond.initialized "java/util/Objects").before a0 Z = true := w_at hw 49 rfl
theorem w_50 {a0 : Array Value} {Z : State} (hw : HW a0 Z) : (Cond.code ⟨"java/util/Objects", "requireNonNull", "(Ljava/lang/Object;Ljava/lang/String;)Ljava/lang/Object;"⟩ jdk_31_method_11_code 2 (Option.some (FieldType.object "java/lang/Object"))).before a0 Z = true := w_at hw 50 rfl
theorem w_51 {a0 : Array Value} {Z : State} (hw : HW a0 Z) : (Cond.classLink "com/example/umq/umq/admin/Selection" 15 "java/lang/String").before a0 Z = true := w_at hw 51 rfl
theorem w_52 {a0 : Array Value} {Z : State} (hw : HW a0 Z) : (Cond.fieldLink "com/example/umq/umq/admin/Selection" 17 "com/example/umq/umq/admin/Selection" "level" "Ljava/lang/String;").before a0 Z = true := w_at hw 52 rfl
theorem w_53 {a0 : Array Value} {Z : State} (hw : HW a0 Z) : (Cond.laysFinal "com/example/umq/umq/admin/Selection" "com/example/umq/umq/admin/Selection" "level" "Ljava/lang/String;").before a0 Z = true := w_at hw 53 rfl
theorem w_54 {a0 : Array Value} {Z : State} (hw : HW a0 Z) : (Cond.fieldLink "com/example/umq/umq/admin/Selection" 23 "com/example/umq/umq/admin/Selection" "named" "Ljava/util/Optional;").before a0 Z = true := w_at hw 54 rfl
theorem w_55 {a0 : Array Value} {Z : State} (hw : HW a0 Z) : (Cond.laysFinal "com/example/umq/umq/admin/Selection" "com/example/umq/umq/admin/Selection" "named" "Ljava/util/Optional;").before a0 Z = true := w_at hw 55 rfl
theorem w_56 {a0 : Array Value} {Z : State} (hw : HW a0 Z) : (Cond.fieldLink "com/example/umq/umq/admin/Selection" 27 "com/example/umq/umq/admin/Selection" "limit" "J").before a0 Z = true := w_at hw 56 rfl
theorem w_57 {a0 : Array Value} {Z : State} (hw : HW a0 Z) : (Cond.laysFinal "com/example/umq/umq/admin/Selection" "com/example/umq/umq/admin/Selection" "limit" "J").before a0 Z = true := w_at hw 57 rfl
theorem w_58 {a0 : Array Value} {Z : State} (hw : HW a0 Z) : (Cond.methodLink "com/example/umq/umq/admin/SelectionLowestPinLaw" 29 ⟨"com/example/umq/umq/admin/Selection", "all", "(Ljava/lang/String;)Lcom/example/umq/umq/admin/Selection;"⟩).before a0 Z = true := w_at hw 58 rfl
theorem w_59 {a0 : Array Value} {Z : State} (hw : HW a0 Z) : (Cond.static ⟨"com/example/umq/umq/admin/Selection", "all", "(Ljava/lang/String;)Lcom/example/umq/umq/admin/Selection;"⟩).before a0 Z = true := w_at hw 59 rfl
theorem w_60 {a0 : Array Value} {Z : State} (hw : HW a0 Z) : (Cond.code ⟨"com/example/umq/umq/admin/Selection", "all", "(Ljava/lang/String;)Lcom/example/umq/umq/admin/Selection;"⟩ prog_12_method_2_code 1 (Option.some (FieldType.object "com/example/umq/umq/admin/Selection"))).before a0 Z = true := w_at hw 60 rfl
theorem w_61 {a0 : Array Value} {Z : State} (hw : HW a0 Z) : (Cond.constantLong "com/example/umq/umq/admin/Selection" 39 (9223372036854775807 : Int64)).before a0 Z = true := w_at hw 61 rfl
theorem w_62 {a0 : Array Value} {Z : State} (hw : HW a0 Z) : (Cond.methodLink "com/example/umq/umq/admin/SelectionLowestPinLaw" 33 ⟨"com/example/umq/umq/admin/Selection", "limit", "()J"⟩).before a0 Z = true := w_at hw 62 rfl
theorem w_63 {a0 : Array Value} {Z : State} (hw : HW a0 Z) : (Cond.declares ⟨"com/example/umq/umq/admin/Selection", "limit", "()J"⟩).before a0 Z = true := w_at hw 63 rfl
theorem w_64 {a0 : Array Value} {Z : State} (hw : HW a0 Z) : (Cond.instanceMethod ⟨"com/example/umq/umq/admin/Selection", "limit", "()J"⟩).before a0 Z = true := w_at hw 64 rfl
theorem w_65 {a0 : Array Value} {Z : State} (hw : HW a0 Z) : (Cond.selects "com/example/umq/umq/admin/Selection" ⟨"com/example/umq/umq/admin/Selection", "limit", "()J"⟩ ⟨"com/example/umq/umq/admin/Selection", "limit", "()J"⟩).before a0 Z = true := w_at hw 65 rfl
theorem w_66 {a0 : Array Value} {Z : State} (hw : HW a0 Z) : (Cond.code ⟨"com/example/umq/umq/admin/Selection", "limit", "()J"⟩ prog_12_method_7_code 1 (Option.some FieldType.long)).before a0 Z = true := w_at hw 66 rfl
theorem w_67 {a0 : Array Value} {Z : State} (hw : HW a0 Z) : (Cond.methodLink "com/example/umq/umq/admin/SelectionLowestPinLaw" 37 ⟨"com/example/umq/umq/admin/Selection", "level", "()Ljava/lang/String;"⟩).before a0 Z = true := w_at hw 67 rfl
theorem w_68 {a0 : Array Value} {Z : State} (hw : HW a0 Z) : (Cond.declares ⟨"com/example/umq/umq/admin/Selection", "level", "()Ljava/lang/String;"⟩).before a0 Z = true := w_at hw 68 rfl
theorem w_69 {a0 : Array Value} {Z : State} (hw : HW a0 Z) : (Cond.instanceMethod ⟨"com/example/umq/umq/admin/Selection", "level", "()Ljava/lang/String;"⟩).before a0 Z = true := w_at hw 69 rfl
theorem w_70 {a0 : Array Value} {Z : State} (hw : HW a0 Z) : (Cond.selects "com/example/umq/umq/admin/Selection" ⟨"com/example/umq/umq/admin/Selection", "level", "()Ljava/lang/String;"⟩ ⟨"com/example/umq/umq/admin/Selection", "level", "()Ljava/lang/String;"⟩).before a0 Z = true := w_at hw 70 rfl
theorem w_71 {a0 : Array Value} {Z : State} (hw : HW a0 Z) : (Cond.code ⟨"com/example/umq/umq/admin/Selection", "level", "()Ljava/lang/String;"⟩ prog_12_method_5_code 1 (Option.some (FieldType.object "java/lang/String"))).before a0 Z = true := w_at hw 71 rfl
theorem w_72 {a0 : Array Value} {Z : State} (hw : HW a0 Z) : (Cond.methodLink "com/example/umq/umq/admin/SelectionLowestPinLaw" 40 ⟨"java/lang/String", "equals", "(Ljava/lang/Object;)Z"⟩).before a0 Z = true := w_at hw 72 rfl
theorem w_73 {a0 : Array Value} {Z : State} (hw : HW a0 Z) : (Cond.declares ⟨"java/lang/String", "equals", "(Ljava/lang/Object;)Z"⟩).before a0 Z = true := w_at hw 73 rfl
theorem w_74 {a0 : Array Value} {Z : State} (hw : HW a0 Z) : (Cond.instanceMethod ⟨"java/lang/String", "equals", "(Ljava/lang/Object;)Z"⟩).before a0 Z = true := w_at hw 74 rfl
theorem w_75 {a0 : Array Value} {Z : State} (hw : HW a0 Z) : (Cond.selects "java/lang/String" ⟨"java/lang/String", "equals", "(Ljava/lang/Object;)Z"⟩ ⟨"java/lang/String", "equals", "(Ljava/lang/Object;)Z"⟩).before a0 Z = true := w_at hw 75 rfl
theorem w_76 {a0 : Array Value} {Z : State} (hw : HW a0 Z) : (Cond.code ⟨"java/lang/String", "equals", "(Ljava/lang/Object;)Z"⟩ jdk_42_method_66_code 3 (Option.some FieldType.boolean)).before a0 Z = true := w_at hw 76 rfl
theorem w_77 {a0 : Array Value} {Z : State} (hw : HW a0 Z) : (Cond.methodLink "com/example/umq/umq/admin/SelectionLowestPinLaw" 46 ⟨"com/example/umq/umq/admin/Selection", "named", "()Ljava/util/Optional;"⟩).before a0 Z = true := w_at hw 77 rfl
theorem w_78 {a0 : Array Value} {Z : State} (hw : HW a0 Z) : (Cond.declares ⟨"com/example/umq/umq/admin/Selection", "named", "()Ljava/util/Optional;"⟩).before a0 Z = true := w_at hw 78 rfl
theorem w_79 {a0 : Array Value} {Z : State} (hw : HW a0 Z) : (Cond.instanceMethod ⟨"com/example/umq/umq/admin/Selection", "named", "()Ljava/util/Optional;"⟩).before a0 Z = true := w_at hw 79 rfl
theorem w_80 {a0 : Array Value} {Z : State} (hw : HW a0 Z) : (Cond.selects "com/example/umq/umq/admin/Selection" ⟨"com/example/umq/umq/admin/Selection", "named", "()Ljava/util/Optional;"⟩ ⟨"com/example/umq/umq/admin/Selection", "named", "()Ljava/util/Optional;"⟩).before a0 Z = true := w_at hw 80 rfl
theorem w_81 {a0 : Array Value} {Z : State} (hw : HW a0 Z) : (Cond.code ⟨"com/example/umq/umq/admin/Selection", "named", "()Ljava/util/Optional;"⟩ prog_12_method_6_code 1 (Option.some (FieldType.object "java/util/Optional"))).before a0 Z = true := w_at hw 81 rfl
theorem w_82 {a0 : Array Value} {Z : State} (hw : HW a0 Z) : (Cond.fieldLink "java/lang/String" 38 "java/lang/String" "COMPACT_STRINGS" "Z").before a0 Z = true := w_at hw 82 rfl
theorem w_93 {a0 : Array Value} {Z : State} (hw : HW a0 Z) : (Cond.methodLink "com/example/umq/umq/admin/SelectionLowestPinLaw" 53 ⟨"java/lang/String", "valueOf", "(C)Ljava/lang/String;"⟩).before a0 Z = true := w_at hw 93 rfl
theorem w_94 {a0 : Array Value} {Z : State} (hw : HW a0 Z) : (Cond.static ⟨"java/lang/String", "valueOf", "(C)Ljava/lang/String;"⟩).before a0 Z = true := w_at hw 94 rfl
theorem w_95 {a0 : Array Value} {Z : State} (hw : HW a0 Z) : (Cond.code ⟨"java/lang/String", "valueOf", "(C)Ljava/lang/String;"⟩ jdk_42_method_139_code 1 (Option.some (FieldType.object "java/lang/String"))).before a0 Z = true := w_at hw 95 rfl
theorem w_96 {a0 : Array Value} {Z : State} (hw : HW a0 Z) : (Cond.methodLink "java/lang/String" 1015 ⟨"java/lang/StringLatin1", "canEncode", "(C)Z"⟩).before a0 Z = true := w_at hw 96 rfl
theorem w_97 {a0 : Array Value} {Z : State} (hw : HW a0 Z) : (Cond.static ⟨"java/lang/StringLatin1", "canEncode", "(C)Z"⟩).before a0 Z = true := w_at hw 97 rfl
theorem w_98 {a0 : Array Value} {Z : State} (hw : HW a0 Z) : (Cond.initialized "java/lang/StringLatin1").before a0 Z = true := w_at hw 98 rfl
theorem w_99 {a0 : Array Value} {Z : State} (hw : HW a0 Z) : (Cond.code ⟨"java/lang/StringLatin1", "canEncode", "(C)Z"⟩ jdk_43_method_3_code 1 (Option.some FieldType.boolean)).before a0 Z = true := w_at hw 99 rfl
theorem w_100 {a0 : Array Value} {Z : State} (hw : HW a0 Z) : (Cond.classLink "java/lang/String" 10 "java/lang/String").before a0 Z = true := w_at hw 100 rfl
theorem w_101 {a0 : Array Value} {Z : State} (hw : HW a0 Z) : (Cond.methodLink "java/lang/String" 1018 ⟨"java/lang/StringLatin1", "toBytes", "(C)[B"⟩).before a0 Z = true := w_at hw 101 rfl
theorem w_102 {a0 : Array Value} {Z : State} (hw : HW a0 Z) : (Cond.static ⟨"java/lang/StringLatin1", "toBytes", "(C)[B"⟩).before a0 Z = true := w_at hw 102 rfl
theorem w_103 {a0 : Array Value} {Z : State} (hw : HW a0 Z) : (Cond.code ⟨"java/lang/StringLatin1", "toBytes", "(C)[B"⟩ jdk_43_method_46_code 1 (Option.some (FieldType.array FieldType.byte))).before a0 Z = true := w_at hw 103 rfl
theorem w_104 {a0 : Array Value} {Z : State} (hw : HW a0 Z) : (Cond.methodLink "java/lang/String" 209 ⟨"java/lang/String", "<init>", "([BB)V"⟩).before a0 Z = true := w_at hw 104 rfl
theorem w_105 {a0 : Array Value} {Z : State} (hw : HW a0 Z) : (Cond.instanceMethod ⟨"java/lang/String", "<init>", "([BB)V"⟩).before a0 Z = true := w_at hw 105 rfl
theorem w_106 {a0 : Array Value} {Z : State} (hw : HW a0 Z) : (Cond.code ⟨"java/lang/String", "<init>", "([BB)V"⟩ jdk_42_method_151_code 3 (Option.none : Option FieldType)).before a0 Z = true := w_at hw 106 rfl
theorem own_and255 (x : Int32) : ∃ k : Fin 256, (x &&& (255 : Int32)) = Int32.ofNat k.val := by
  have h : (x &&& 255).toBitVec.toNat < 256 := by
    simp only [Int32.toBitVec_and, BitVec.toNat_and]
    exact Nat.lt_succ_of_le Nat.and_le_right
  refine ⟨⟨_, h⟩, ?_⟩
  apply Int32.toBitVec_inj.mp
  show _ = BitVec.ofNat 32 _
  rw [BitVec.ofNat_toNat]; simp
theorem own_i2c (x : Int32) : (x &&& (255 : Int32)).toUInt32.toUInt16.toUInt32.toInt32 = x &&& 255 := by
  have t : ∀ k : Fin 256, (Int32.ofNat k.val).toUInt32.toUInt16.toUInt32.toInt32 = Int32.ofNat k.val := by decide +kernel
  obtain ⟨k, e⟩ := own_and255 x
  rw [e]; exact t k
theorem own_narc {c : Int32} (h : ¬ c < 0 ∧ ¬ (255 : Int32) < c) : nar .char c = c := by
  have t : ∀ k : Fin 256, nar .char (Int32.ofNat k.val) = Int32.ofNat k.val := by decide +kernel
  have h1 := h.1; have h2 := h.2
  rw [Int32.lt_iff_toInt_lt] at h1 h2
  have e1 : (0 : Int32).toInt = 0 := rfl
  have e2 : (255 : Int32).toInt = 255 := rfl
  have e : c = Int32.ofNat c.toInt.toNat := by
    apply Int32.toInt_inj.mp
    rw [Int32.toInt_ofNat_of_lt (by omega)]; omega
  rw [e]; exact t ⟨c.toInt.toNat, by omega⟩
theorem own_c255 (x : Int32) : ¬ (x &&& (255 : Int32)) < 0 ∧ ¬ (255 : Int32) < (x &&& (255 : Int32)) := by
  have t : ∀ k : Fin 256, ¬ (Int32.ofNat k.val) < 0 ∧ ¬ (255 : Int32) < (Int32.ofNat k.val) := by decide +kernel
  obtain ⟨k, e⟩ := own_and255 x
  rw [e]; exact t k
theorem own_nb (x : Int32) : x.toInt8.toInt32.toInt8.toInt32 = x.toInt8.toInt32 := by
  rw [Int8.toInt8_toInt32]
theorem own_up (cs : List Int32) (h : ∀ c ∈ cs, ¬ c < 0 ∧ ¬ (255 : Int32) < c) : ∀ c ∈ cs, ¬ c < 0 ∧ ¬ (65535 : Int32) < c := fun c hc => ⟨(h c hc).1, fun q => (h c hc).2 (by rw [Int32.lt_iff_toInt_lt] at q ⊢; have e1 : (65535 : Int32).toInt = 65535 := rfl; have e2 : (255 : Int32).toInt = 255 := rfl; omega)⟩
abbrev Gs : Type := Int32 × Addr
def StartF (Z : State) (G : Gs) : Prop := Sta Z Z.heap "java/lang/String" "COMPACT_STRINGS" "Z" (.int G.1) ∧ ¬ G.1 = (0 : Int32) ∧ Sta Z Z.heap "java/util/Optional" "EMPTY" "Ljava/util/Optional;" (.ref G.2) ∧ Exa Z Z.heap G.2 "java/util/Optional" ∧ Fld Z Z.heap G.2 "java/util/Optional" "value" "Ljava/lang/Object;" .null
theorem own_wV {a0 : Array Value} {Z : State} (hw : ∀ d ∈ tables_1, d.before a0 Z = true) : ∀ d ∈ StrChars.Road.words, d.before a0 Z = true := fun d hd => hw d ((by decide +kernel : ∀ d ∈ StrChars.Road.words, d ∈ tables_1) d hd)
abbrev EL : List (String × Nat) := [("com/example/umq/umq/admin/Selection", 7), ("java/lang/String", 7)]
theorem own_EW {a0 : Array Value} {Z : State} (hw : ∀ d ∈ tables_1, d.before a0 Z = true) : EW Z a0 EL := (EW.cons (w_46 hw) (by decide) (EW.cons (w_23 hw) (by decide) EW.nil))
theorem own_SA {a0 : Array Value} {Z : State} (hw : ∀ d ∈ tables_1, d.before a0 Z = true) : ∀ d ∈ Bundle.stringAtoms, d.before a0 Z = true := fun d hd => hw d ((by decide +kernel : ∀ d ∈ Bundle.stringAtoms, d ∈ tables_1) d hd)
theorem own_safeN {Z : State} {vm : Vm} {h : Heap} {x : Addr} (hal : Z.vm.Alike vm) (E : Exa Z h x "java/lang/String") (F : Fld Z h x "java/lang/String" "value" "[B" .null) : Safe Z EL vm h x := fun B => by
  obtain ⟨cell, k, e1, e2, e3, -, -⟩ := E
  obtain ⟨p, -, u, a, -, q, -, FB, rfl | rfl⟩ := B
  · cases (show h[q.sa]? = some q.sC from FB.ha).symm.trans e1
    obtain ⟨cS, ⟨⟨-, -, -, ⟨cv, kv, iv, s4, -⟩, -, -, -, s8, -⟩, -⟩, -⟩ := FB
    obtain ⟨k', z4⟩ := ff_back hal s4
    obtain ⟨c2, cf, k2, i, f, f1, f2, -, -, -, -, f7⟩ := F
    cases f1.symm.trans e1
    cases f2.symm.trans z4
    rw [s8] at f7; cases f7
  · cases (show h[q.sd]? = some q.SA from FB.hd).symm.trans e1
    obtain ⟨cS, -, -, f, -⟩ := FB
    have f' : vm.findClass "[B" = some q.SA.cls := f
    rw [hal.findClass] at f'
    obtain ⟨k1, q1, q2⟩ := Vm.findClass_spec f'
    obtain ⟨k2, q3, q4⟩ := Vm.findClass_spec e2
    cases q1.symm.trans q3
    exact absurd (q2.symm.trans q4) (by decide)
theorem own_and3 (x : Int32) : (x &&& (3 : Int32)) = 0 ∨ (x &&& (3 : Int32)) = 1 ∨ (x &&& (3 : Int32)) = 2 ∨ (x &&& (3 : Int32)) = 3 := by
  have h : (x &&& 3).toBitVec.toNat < 4 := by
    simp only [Int32.toBitVec_and, BitVec.toNat_and]
    exact Nat.lt_succ_of_le Nat.and_le_right
  have e : (x &&& 3) = Int32.ofNat (x &&& 3).toBitVec.toNat := by
    apply Int32.toBitVec_inj.mp
    show _ = BitVec.ofNat 32 _
    rw [BitVec.ofNat_toNat]; simp
  have t : ∀ k : Fin 4, Int32.ofNat k.val = 0 ∨ Int32.ofNat k.val = 1 ∨ Int32.ofNat k.val = 2 ∨ Int32.ofNat k.val = 3 := by decide +kernel
  rw [e]; exact t ⟨_, h⟩
theorem own_mx {r j : Int64} (h : (r = (1 : Int64) ∧ ¬ (1 : Int64) < j) ∨ (r = j ∧ (1 : Int64) < j)) : ¬ r < (1 : Int64) := by
  rcases h with ⟨rfl, -⟩ | ⟨rfl, q⟩
  · decide
  · rw [Int64.lt_iff_toInt_lt] at q ⊢; omega
theorem ef_rmCE (m : MethodId) (x0 : Int32)  : entryFrame m #[(.int x0)] 1 = mkF m 0 #[.val (.int x0)] [] := by first | (simp [entryFrame, mkF, argsToLocals, Value.category]; done) | rfl
theorem d19_0 : decode jdk_43_method_3_code 0 = .ok (.iload_n 0, 1) := by decide +kernel
theorem d19_1 : decode jdk_43_method_3_code 1 = .ok (.sipush 255, 3) := by decide +kernel
theorem d19_4 : decode jdk_43_method_3_code 4 = .ok (.if_icmp .gt 7, 3) := by decide +kernel
theorem d19_7 : decode jdk_43_method_3_code 7 = .ok (.iconst 1, 1) := by decide +kernel
theorem d19_8 : decode jdk_43_method_3_code 8 = .ok (.goto 4, 3) := by decide +kernel
theorem d19_12 : decode jdk_43_method_3_code 12 = .ok (.ireturn, 1) := by decide +kernel
theorem pn_0 : plainName "java/lang/StringLatin1" = true := by first | (simp [plainName, overriddenIn]; done) | decide +kernel
def QrmCE (Z : State) (G : Gs) (px : Int32) (h0 : Heap) (n0 : Nat) (v : Option Value) (h : Heap) (L : List Loc) : Prop := v = some (.int (1 : Int32)) ∧ Fr n0 L ∧ h = h0
set_option maxRecDepth 65536 in
set_option maxHeartbeats 40000000 in
theorem rmCE (l : Launch) (Z : State) (a0 : Array Value) (hw : HW a0 Z) (G : Gs) (ST : StartF Z G) (ws : List Jvm.Cond) (px : Int32) (h0 : Heap) (n0 : Nat) (X00 : Old Z n0 h0) (hp : ¬ (255 : Int32) < px) :
    MetFree l (⟨"java/lang/StringLatin1", "canEncode", "(C)Z"⟩ : MethodName) (head1 (Jvm.Cond.code (⟨"java/lang/StringLatin1", "canEncode", "(C)Z"⟩ : MethodName) jdk_43_method_3_code 1 (some .boolean) :: ws) ({ frames := 0, cells := 0, slots := 0, locals := 0 } : Room)) (fun a U => a = #[(.int px)] ∧ Z.Warmed39 U.vm ∧ U.heap = h0) (fun _ _ _ _ _ => True) (fun _ U o U' => ∃ v L, o = .returned v ∧ QrmCE Z G px h0 n0 v U'.heap L ∧ FrameEnd U o U' L ({ frames := 0, cells := 0, slots := 0, locals := 0 } : Room).cells ({ frames := 0, cells := 0, slots := 0, locals := 0 } : Room).slots) := by
  refine MetFree.of_bodySF (plainFor_of_name pn_0) hisR ?_
  intro p e s m args below meth c s₁ Bd hml0 hP hK
  obtain ⟨rfl, hZ, hh⟩ := hP
  have hx := Bd.exec
  have hby := Bd.bytes
  have hml : c.maxLocals = 1 := hml0
  have hown : s.vm.findClass "java/lang/StringLatin1" = some m.cls := findClass_of_methodNamed Bd.named
  have hnm := (name_of_methodNamed Bd.named Bd.method).1
  have X0 : Stand p l e ({ frames := 0, cells := 0, slots := 0, locals := 0 } : Room) s m #[(.int px)] below meth c s₁ [] 0 0 := Stand.of_body Bd
  have e0 : s₁.heap = h0 := by rw [← hh, Bd.state]; rfl
  have N0 := Fr.nil n0
  have Z0 : n0 ≤ h0.size := by have q := X00.2.1; rw [X00.1] at q; exact q
  obtain ⟨TG, hTG, hT2⟩ : ∃ P : State → Prop, (∀ t, P t → Steps p.tables e below (s₁.setTop (entryFrame m #[(.int px)] 1)) t) ∧ (∀ t, Steps p.tables e below (s₁.setTop (entryFrame m #[(.int px)] 1)) t → P t) := ⟨_, fun t k => k, fun t k => k⟩
  have pre0 : ∀ t, Sx p e below s₁ m 0 #[xvi px] [] t → TG t := fun t k => hT2 t (castTop (ef_rmCE m px ) k)
  obtain ⟨fs, hr, hrun, hended, hW, hsame⟩ := X0.leave (v := some (.int (1 : Int32))) (fun h => by rw [Bd.returns] at h; cases h)
  refine ⟨_, _, hTG _ (pre0 _ ?_), hrun, hended, _, _, rfl, ?_, ⟨_, rfl⟩, hW, hsame.mono (by decide) (by decide)⟩
  · refine y_iloadN X0 hx 1 (hb hby d19_0) rfl rfl ?_
    refine y_sipush X0 hx (255 : Int32) 4 (hb hby d19_1) rfl rfl ?_
    refine y_icmpNo X0 hx 7 (hb hby d19_4) (XT.ii_gt_f hp) rfl ?_
    refine y_iconst X0 hx (1 : Int32) 8 (hb hby d19_7) rfl rfl ?_
    refine y_goto X0 hx 12 (hb hby d19_8) (by decide) (by decide) ?_
    show Sx p e below s₁ m 12 #[xvi px] [xwi (1 : Int32)] _
    exact retN X0 hx (t := .boolean) Bd.returns (by simp) (hb hby d19_12) (hr)
  · show QrmCE Z G px h0 n0 _ s₁.heap _
    rw [e0]
    exact ⟨rfl, N0, rfl⟩
theorem ef_rmTB (m : MethodId) (x0 : Int32)  : entryFrame m #[(.int x0)] 1 = mkF m 0 #[.val (.int x0)] [] := by first | (simp [entryFrame, mkF, argsToLocals, Value.category]; done) | rfl
theorem d20_0 : decode jdk_43_method_46_code 0 = .ok (.iconst 1, 1) := by decide +kernel
theorem d20_1 : decode jdk_43_method_46_code 1 = .ok (.newarray .byte, 2) := by decide +kernel
theorem d20_3 : decode jdk_43_method_46_code 3 = .ok (.dup, 1) := by decide +kernel
theorem d20_4 : decode jdk_43_method_46_code 4 = .ok (.iconst 0, 1) := by decide +kernel
theorem d20_5 : decode jdk_43_method_46_code 5 = .ok (.iload_n 0, 1) := by decide +kernel
theorem d20_6 : decode jdk_43_method_46_code 6 = .ok (.i2b, 1) := by decide +kernel
theorem d20_7 : decode jdk_43_method_46_code 7 = .ok (.bastore, 1) := by decide +kernel
theorem d20_8 : decode jdk_43_method_46_code 8 = .ok (.areturn, 1) := by decide +kernel
def QrmTB (Z : State) (G : Gs) (px : Int32) (h0 : Heap) (n0 : Nat) (v : Option Value) (h : Heap) (L : List Loc) : Prop := ∃ (bx : Addr), ∃ (kx : ClassId), v = some (.ref bx) ∧ Fr n0 L ∧ Keep h0 h [] ∧ h0.size ≤ bx ∧ Arv Z h bx kx .byte (1 : Int32) [(.int px.toInt8.toInt32)] (.int (0 : Int32))
set_option maxRecDepth 65536 in
set_option maxHeartbeats 40000000 in
theorem rmTB (l : Launch) (Z : State) (a0 : Array Value) (hw : HW a0 Z) (G : Gs) (ST : StartF Z G) (ws : List Jvm.Cond) (px : Int32) (h0 : Heap) (n0 : Nat) (X00 : Old Z n0 h0) :
    MetFree l (⟨"java/lang/StringLatin1", "toBytes", "(C)[B"⟩ : MethodName) (head1 (Jvm.Cond.code (⟨"java/lang/StringLatin1", "toBytes", "(C)[B"⟩ : MethodName) jdk_43_method_46_code 1 (some (.array .byte)) :: ws) ({ frames := 0, cells := 1, slots := 1, locals := 0 } : Room)) (fun a U => a = #[(.int px)] ∧ Z.Warmed39 U.vm ∧ U.heap = h0) (fun _ _ _ _ _ => True) (fun _ U o U' => ∃ v L, o = .returned v ∧ QrmTB Z G px h0 n0 v U'.heap L ∧ FrameEnd U o U' L ({ frames := 0, cells := 1, slots := 1, locals := 0 } : Room).cells ({ frames := 0, cells := 1, slots := 1, locals := 0 } : Room).slots) := by
  refine MetFree.of_bodySF (plainFor_of_name pn_0) hisR ?_
  intro p e s m args below meth c s₁ Bd hml0 hP hK
  obtain ⟨rfl, hZ, hh⟩ := hP
  have hx := Bd.exec
  have hby := Bd.bytes
  have hml : c.maxLocals = 1 := hml0
  have hown : s.vm.findClass "java/lang/StringLatin1" = some m.cls := findClass_of_methodNamed Bd.named
  have hnm := (name_of_methodNamed Bd.named Bd.method).1
  have X0 : Stand p l e ({ frames := 0, cells := 1, slots := 1, locals := 0 } : Room) s m #[(.int px)] below meth c s₁ [] 0 0 := Stand.of_body Bd
  have e0 : s₁.heap = h0 := by rw [← hh, Bd.state]; rfl
  have N0 := Fr.nil n0
  have Z0 : n0 ≤ h0.size := by have q := X00.2.1; rw [X00.1] at q; exact q
  obtain ⟨TG, hTG, hT2⟩ : ∃ P : State → Prop, (∀ t, P t → Steps p.tables e below (s₁.setTop (entryFrame m #[(.int px)] 1)) t) ∧ (∀ t, Steps p.tables e below (s₁.setTop (entryFrame m #[(.int px)] 1)) t → P t) := ⟨_, fun t k => k, fun t k => k⟩
  have pre0 : ∀ t, Sx p e below s₁ m 0 #[xvi px] [] t → TG t := fun t k => hT2 t (castTop (ef_rmTB m px ) k)
  obtain ⟨T101, h101, k101, X101, e101, E101, A101, st101⟩ := newP (aty := .byte) X0 hx hZ (w_24 hw) e0 (g := (mkF m 1 #[xvi px] [xwi (1 : Int32)])) rfl (hb hby d20_1) rfl (by decide) (cap := 1) (by decide) (by decide) (by decide) (by decide)
  obtain ⟨b101, g101⟩ : ∃ z, z = h0.size := ⟨_, rfl⟩
  rw [← g101] at A101 st101
  have V101 : Arv Z h101 b101 k101 .byte (1 : Int32) [(.int (0 : Int32))] (.int (0 : Int32)) := (Arv.new A101 (by decide)).pad (pad_rep [] (.int (0 : Int32)) 1)
  obtain ⟨cl102, Ar102, q102, S102, M102, H102, G102⟩ := id V101
  have in102 : ¬ ((0 : Int32) < 0 ∨ cl102.slots.size ≤ ((0 : Int32)).toNatClampNeg) := inb_of S102 ⟨by decide, by decide⟩
  obtain ⟨T103, h103, X103, e103, W103, st103⟩ := stB X101 hx hZ e101 Ar102 (j := (0 : Int32)) in102 (g := (mkF m 7 #[xvi px] [xwi (px.toInt8.toInt32), xwi (0 : Int32), xwr b101, xwr b101])) rfl rfl (hb hby d20_7)
  have V103 : Arv Z h103 b101 k101 .byte (1 : Int32) [(.int (px.toInt8.toInt32))] (.int (0 : Int32)) := by have q := Arv.set Ar102 q102 S102 M102 H102 G102 (fits_nar_byte _) W103 0 rfl (Nat.le_of_ble_eq_true rfl); rw [own_nb] at q; exact q
  have N103 := Fr.snoc X103 N0 (Nat.le_trans Z0 (Nat.le_trans (Nat.le_refl _) (Nat.le_of_eq g101.symm)))
  obtain ⟨fs, hr, hrun, hended, hW, hsame⟩ := X103.leave (v := some (.ref b101)) (fun h => by rw [Bd.returns] at h; cases h)
  refine ⟨_, _, hTG _ (pre0 _ ?_), hrun, hended, _, _, rfl, ?_, ⟨_, rfl⟩, hW, hsame.mono (by decide) (by decide)⟩
  · refine y_iconst X0 hx (1 : Int32) 1 (hb hby d20_0) rfl rfl ?_
    refine st101 _ ?_
    show Sx p e below T101 m 3 #[xvi px] [xwr b101] _
    refine y_dup X101 hx 4 (hb hby d20_3) rfl rfl ?_
    refine y_iconst X101 hx (0 : Int32) 5 (hb hby d20_4) rfl rfl ?_
    refine y_iloadN X101 hx 6 (hb hby d20_5) rfl rfl ?_
    refine XS.i2b X101.here hx rfl (hb hby d20_6) rfl ?_
    show Sx p e below T101 m 7 #[xvi px] [xwi (px.toInt8.toInt32), xwi (0 : Int32), xwr b101, xwr b101] _
    refine st103 _ ?_
    show Sx p e below T103 m 8 #[xvi px] [xwr b101] _
    exact retOut X103 hx Bd.returns rfl (Or.inr (Or.inr (Or.inr (Or.inr ⟨rfl, rfl, rfl⟩)))) (hb hby d20_8) hr
  · show QrmTB Z G px h0 n0 _ T103.heap _
    rw [e103]
    exact ⟨b101, k101, rfl, N103, (((Keep.refl h0 []).ext E101).wr W103 (Or.inr (Nat.le_trans (Nat.le_refl _) (Nat.le_of_eq g101.symm)))), (Nat.le_trans (Nat.le_refl _) (Nat.le_of_eq g101.symm)), V103⟩
theorem ef_rmBB (m : MethodId) (x0 : Addr) (x1 : Addr) (x2 : Int32)  : entryFrame m #[(.ref x0), (.ref x1), (.int x2)] 3 = mkF m 0 #[.val (.ref x0), .val (.ref x1), .val (.int x2)] [] := by first | (simp [entryFrame, mkF, argsToLocals, Value.category]; done) | rfl
theorem d21_0 : decode jdk_42_method_151_code 0 = .ok (.aload_n 0, 1) := by decide +kernel
theorem d21_1 : decode jdk_42_method_151_code 1 = .ok (.invokespecial 1, 3) := by decide +kernel
theorem d21_4 : decode jdk_42_method_151_code 4 = .ok (.aload_n 0, 1) := by decide +kernel
theorem d21_5 : decode jdk_42_method_151_code 5 = .ok (.aload_n 1, 1) := by decide +kernel
theorem d21_6 : decode jdk_42_method_151_code 6 = .ok (.putfield 9, 3) := by decide +kernel
theorem d21_9 : decode jdk_42_method_151_code 9 = .ok (.aload_n 0, 1) := by decide +kernel
theorem d21_10 : decode jdk_42_method_151_code 10 = .ok (.iload_n 2, 1) := by decide +kernel
theorem d21_11 : decode jdk_42_method_151_code 11 = .ok (.putfield 15, 3) := by decide +kernel
theorem d21_14 : decode jdk_42_method_151_code 14 = .ok (.return_, 1) := by decide +kernel
theorem pn_1 : plainName "java/lang/String" = true := by first | (simp [plainName, overriddenIn]; done) | decide +kernel
def QrmBB (Z : State) (G : Gs) (ax : Addr) (tx : Addr) (u1 : Value) (u2 : Value) (h0 : Heap) (n0 : Nat) (v : Option Value) (h : Heap) (L : List Loc) : Prop := v = none ∧ Fr n0 L ∧ Keep h0 h [ax] ∧ Exa Z h ax "java/lang/String" ∧ Fld Z h ax "java/lang/String" "value" "[B" (.ref tx) ∧ Fld Z h ax "java/lang/String" "coder" "B" (.int (0 : Int32))
set_option maxRecDepth 65536 in
set_option maxHeartbeats 40000000 in
theorem rmBB (l : Launch) (Z : State) (a0 : Array Value) (hw : HW a0 Z) (G : Gs) (ST : StartF Z G) (ws : List Jvm.Cond) (ax : Addr) (tx : Addr) (u1 : Value) (u2 : Value) (h0 : Heap) (n0 : Nat) (X00 : Old Z n0 h0) (E1 : Exa Z h0 ax "java/lang/String") (F1 : Fld Z h0 ax "java/lang/String" "value" "[B" u1) (F2 : Fld Z h0 ax "java/lang/String" "coder" "B" u2) (g1 : n0 ≤ ax) :
    MetFree l (⟨"java/lang/String", "<init>", "([BB)V"⟩ : MethodName) (head1 (Jvm.Cond.code (⟨"java/lang/String", "<init>", "([BB)V"⟩ : MethodName) jdk_42_method_151_code 3 none :: ws) ({ frames := 1, cells := 0, slots := 0, locals := 12 } : Room)) (fun a U => a = #[(.ref ax), (.ref tx), (.int (0 : Int32))] ∧ Z.Warmed39 U.vm ∧ U.heap = h0) (fun _ _ _ _ _ => True) (fun _ U o U' => ∃ v L, o = .returned v ∧ QrmBB Z G ax tx u1 u2 h0 n0 v U'.heap L ∧ FrameEnd U o U' L ({ frames := 1, cells := 0, slots := 0, locals := 12 } : Room).cells ({ frames := 1, cells := 0, slots := 0, locals := 12 } : Room).slots) := by
  refine MetFree.of_bodySF (plainFor_of_name pn_1) hisR ?_
  intro p e s m args below meth c s₁ Bd hml0 hP hK
  obtain ⟨rfl, hZ, hh⟩ := hP
  have hx := Bd.exec
  have hby := Bd.bytes
  have hml : c.maxLocals = 3 := hml0
  have hown : s.vm.findClass "java/lang/String" = some m.cls := findClass_of_methodNamed Bd.named
  have hnm := (name_of_methodNamed Bd.named Bd.method).1
  have X0 : Stand p l e ({ frames := 1, cells := 0, slots := 0, locals := 12 } : Room) s m #[(.ref ax), (.ref tx), (.int (0 : Int32))] below meth c s₁ [] 0 0 := Stand.of_body Bd
  have e0 : s₁.heap = h0 := by rw [← hh, Bd.state]; rfl
  have N0 := Fr.nil n0
  have Z0 : n0 ≤ h0.size := by have q := X00.2.1; rw [X00.1] at q; exact q
  obtain ⟨TG, hTG, hT2⟩ : ∃ P : State → Prop, (∀ t, P t → Steps p.tables e below (s₁.setTop (entryFrame m #[(.ref ax), (.ref tx), (.int (0 : Int32))] 3)) t) ∧ (∀ t, Steps p.tables e below (s₁.setTop (entryFrame m #[(.ref ax), (.ref tx), (.int (0 : Int32))] 3)) t → P t) := ⟨_, fun t k => k, fun t k => k⟩
  have pre0 : ∀ t, Sx p e below s₁ m 0 #[xvr ax, xvr tx, xvi (0 : Int32)] [] t → TG t := fun t k => hT2 t (castTop (ef_rmBB m ax tx (0 : Int32) ) k)
  obtain ⟨T104, X104, e104, st104⟩ := initO X0 hx hZ hown (w_20 hw) (w_21 hw) (w_22 hw) e0 (g := (mkF m 1 #[xvr ax, xvr tx, xvi (0 : Int32)] [xwr ax])) rfl (by rw [hml]; rfl) rfl (hb hby d21_1) (by decide) (W := 0) (by show 2 * 0 + _ ≤ _; exact Nat.le_of_eq rfl) (by decide)
  obtain ⟨T105, h105, X105, e105, W105, st105⟩ := putF X104 hx hZ hown (host := "") (Or.inl (w_29 hw)) Via.refl e104 F1 E1 (Or.inr ⟨(w_25 hw), rfl, hnm⟩) (w_10 hw) (ty := (.array .byte)) (by decide) rfl rfl (g := (mkF m 6 #[xvr ax, xvr tx, xvi (0 : Int32)] [xwr tx, xwr ax])) rfl rfl (hb hby d21_6)
  have Fw105 := F1.same W105
  have N105 := Fr.snoc X105 N0 g1
  have f106 := (F2.other W105 (Or.inr (slot_ne (Or.inr (w_26 hw)) (Or.inr (w_25 hw)) (by decide) (t := .byte) (t' := (.array .byte)) (by decide) (by decide))))
  have f107 := (E1.wr W105)
  obtain ⟨T108, h108, X108, e108, W108, st108⟩ := putFN X105 hx hZ hown (w_30 hw) Via.refl e105 f106 f107 (Or.inr ⟨(w_26 hw), rfl, hnm⟩) (w_10 hw) (ty := .byte) (v' := (.int (0 : Int32))) (by decide) (by decide) (by decide) (g := (mkF m 11 #[xvr ax, xvr tx, xvi (0 : Int32)] [xwi (0 : Int32), xwr ax])) rfl rfl (hb hby d21_11)
  have Fw108 := f106.same W108
  have N108 := Fr.snoc X108 N105 g1
  have f109 := (f107.wr W108)
  have f110 := (Fw105.other W108 (Or.inr (slot_ne (Or.inr (w_25 hw)) (Or.inr (w_26 hw)) (by decide) (t := (.array .byte)) (t' := .byte) (by decide) (by decide))))
  obtain ⟨fs, hr, hrun, hended, hW, hsame⟩ := X108.leave (v := none) (fun _ => rfl)
  refine ⟨_, _, hTG _ (pre0 _ ?_), hrun, hended, _, _, rfl, ?_, ⟨_, rfl⟩, hW, hsame.mono (by decide) (by decide)⟩
  · refine y_aloadN X0 hx 1 (hb hby d21_0) rfl rfl rfl ?_
    refine st104 _ ?_
    show Sx p e below T104 m 4 #[xvr ax, xvr tx, xvi (0 : Int32)] [] _
    refine y_aloadN X104 hx 5 (hb hby d21_4) rfl rfl rfl ?_
    refine y_aloadN X104 hx 6 (hb hby d21_5) rfl rfl rfl ?_
    refine st105 _ ?_
    show Sx p e below T105 m 9 #[xvr ax, xvr tx, xvi (0 : Int32)] [] _
    refine y_aloadN X105 hx 10 (hb hby d21_9) rfl rfl rfl ?_
    refine y_iloadN X105 hx 11 (hb hby d21_10) rfl rfl ?_
    refine st108 _ ?_
    show Sx p e below T108 m 14 #[xvr ax, xvr tx, xvi (0 : Int32)] [] _
    exact X108.returnOut hx Bd.returns (hb hby d21_14) hr
  · show QrmBB Z G ax tx u1 u2 h0 n0 _ T108.heap _
    rw [e108]
    exact ⟨rfl, N108, (((Keep.refl h0 [ax]).wr W105 (Or.inl (List.mem_of_getElem? (i := 0) rfl))).wr W108 (Or.inl (List.mem_of_getElem? (i := 0) rfl))), f109, f110, Fw108⟩
theorem ef_rmVO (m : MethodId) (x0 : Int32)  : entryFrame m #[(.int x0)] 1 = mkF m 0 #[.val (.int x0)] [] := by first | (simp [entryFrame, mkF, argsToLocals, Value.category]; done) | rfl
theorem d18_0 : decode jdk_42_method_139_code 0 = .ok (.getstatic 38, 3) := by decide +kernel
theorem d18_3 : decode jdk_42_method_139_code 3 = .ok (.ifCond .eq 23, 3) := by decide +kernel
theorem d18_6 : decode jdk_42_method_139_code 6 = .ok (.iload_n 0, 1) := by decide +kernel
theorem d18_7 : decode jdk_42_method_139_code 7 = .ok (.invokestatic 1015, 3) := by decide +kernel
theorem pd_0 : parseMethodDescriptor "(C)Z" = some ⟨[.char], some .boolean⟩ := by decide +kernel
theorem d18_10 : decode jdk_42_method_139_code 10 = .ok (.ifCond .eq 16, 3) := by decide +kernel
theorem d18_13 : decode jdk_42_method_139_code 13 = .ok (.new 10, 3) := by decide +kernel
theorem d18_16 : decode jdk_42_method_139_code 16 = .ok (.dup, 1) := by decide +kernel
theorem d18_17 : decode jdk_42_method_139_code 17 = .ok (.iload_n 0, 1) := by decide +kernel
theorem d18_18 : decode jdk_42_method_139_code 18 = .ok (.invokestatic 1018, 3) := by decide +kernel
theorem pd_1 : parseMethodDescriptor "(C)[B" = some ⟨[.char], some (.array .byte)⟩ := by decide +kernel
theorem d18_21 : decode jdk_42_method_139_code 21 = .ok (.iconst 0, 1) := by decide +kernel
theorem d18_22 : decode jdk_42_method_139_code 22 = .ok (.invokespecial 209, 3) := by decide +kernel
theorem pd_2 : parseMethodDescriptor "([BB)V" = some ⟨[(.array .byte), .byte], none⟩ := by decide +kernel
theorem d18_25 : decode jdk_42_method_139_code 25 = .ok (.areturn, 1) := by decide +kernel
def QrmVO (Z : State) (G : Gs) (px : Int32) (h0 : Heap) (n0 : Nat) (v : Option Value) (h : Heap) (L : List Loc) : Prop := ∃ (bx : Addr), ∃ (tx : Addr), ∃ (kx : ClassId), v = some (.ref bx) ∧ Fr n0 L ∧ Keep h0 h [] ∧ h0.size ≤ bx ∧ Exa Z h bx "java/lang/String" ∧ Fld Z h bx "java/lang/String" "coder" "B" (.int (0 : Int32)) ∧ Fld Z h bx "java/lang/String" "value" "[B" (.ref tx) ∧ Arv Z h tx kx .byte (1 : Int32) [(.int px.toInt8.toInt32)] (.int (0 : Int32)) ∧ h0.size ≤ tx
set_option maxRecDepth 65536 in
set_option maxHeartbeats 40000000 in
theorem rmVO (l : Launch) (Z : State) (a0 : Array Value) (hw : HW a0 Z) (G : Gs) (ST : StartF Z G) (ws : List Jvm.Cond) (px : Int32) (h0 : Heap) (n0 : Nat) (X00 : Old Z n0 h0) (hp : ¬ (255 : Int32) < px) :
    MetFree l (⟨"java/lang/String", "valueOf", "(C)Ljava/lang/String;"⟩ : MethodName) (head1 (Jvm.Cond.code (⟨"java/lang/String", "valueOf", "(C)Ljava/lang/String;"⟩ : MethodName) jdk_42_method_139_code 1 (some (.object "java/lang/String")) :: ws) ({ frames := 2, cells := 2, slots := 5, locals := 27 } : Room)) (fun a U => a = #[(.int px)] ∧ Z.Warmed39 U.vm ∧ U.heap = h0) (fun _ _ _ _ _ => True) (fun _ U o U' => ∃ v L, o = .returned v ∧ QrmVO Z G px h0 n0 v U'.heap L ∧ FrameEnd U o U' L ({ frames := 2, cells := 2, slots := 5, locals := 27 } : Room).cells ({ frames := 2, cells := 2, slots := 5, locals := 27 } : Room).slots) := by
  refine MetFree.of_bodySF (plainFor_of_name pn_1) hisR ?_
  intro p e s m args below meth c s₁ Bd hml0 hP hK
  obtain ⟨rfl, hZ, hh⟩ := hP
  have hx := Bd.exec
  have hby := Bd.bytes
  have hml : c.maxLocals = 1 := hml0
  have hown : s.vm.findClass "java/lang/String" = some m.cls := findClass_of_methodNamed Bd.named
  have hnm := (name_of_methodNamed Bd.named Bd.method).1
  have X0 : Stand p l e ({ frames := 2, cells := 2, slots := 5, locals := 27 } : Room) s m #[(.int px)] below meth c s₁ [] 0 0 := Stand.of_body Bd
  have e0 : s₁.heap = h0 := by rw [← hh, Bd.state]; rfl
  have N0 := Fr.nil n0
  have Z0 : n0 ≤ h0.size := by have q := X00.2.1; rw [X00.1] at q; exact q
  obtain ⟨TG, hTG, hT2⟩ : ∃ P : State → Prop, (∀ t, P t → Steps p.tables e below (s₁.setTop (entryFrame m #[(.int px)] 1)) t) ∧ (∀ t, Steps p.tables e below (s₁.setTop (entryFrame m #[(.int px)] 1)) t → P t) := ⟨_, fun t k => k, fun t k => k⟩
  have pre0 : ∀ t, Sx p e below s₁ m 0 #[xvi px] [] t → TG t := fun t k => hT2 t (castTop (ef_rmVO m px ) k)
  obtain ⟨T111, X111, e111, st111⟩ := getS2 X0 hx hZ hown (host := "") (Or.inl (w_82 hw)) Via.refl e0 (ST.1.ext X00.2) (g := (mkF m 0 #[xvi px] [])) rfl (hb hby d18_0)
  obtain ⟨_, _, ⟨T112, L112, k112, n112⟩, -, X112, ⟨Lc112, hQ112, l112, y112, z112⟩, st112⟩ := Jvm.LawKit.callS X111 hx (y := (⟨"java/lang/StringLatin1", "canEncode", "(C)Z"⟩ : MethodName)) hown (mvT hZ (w_96 hw)) (mvT hZ (w_97 hw)) (mvT hZ (w_98 hw)) (mvT hZ (w_99 hw)) (by decide) (backOf (W := 0) (rmCE l Z a0 hw G ST [] px h0 n0 X00 hp) hZ (w_99 hw) (w_98 hw) (by decide) (by decide)) (g := (mkF m 7 #[xvi px] [xwi px])) rfl (by rw [hml]; rfl) (argsL := [(.int px)]) (rest := []) (lenOf pd_0 rfl) rfl (by show 2 * 0 + _ ≤ _; exact Nat.le_of_eq rfl) (hb hby d18_7) (fun _ _ => ⟨rfl, e111, (by decide : 0 + 0 ≤ _), (by decide : 0 + 0 ≤ _)⟩)
  dsimp only [Pt.U, Pt.locs, Pt.cells, Pt.slots] at X112 l112 y112 z112 st112 hQ112
  subst l112 y112 z112
  obtain ⟨rfl, N112q, e112⟩ := hQ112
  have N112 := Fr.app N0 N112q
  obtain ⟨T113, h113, X113, e113, E113, A113, D113, -, st113⟩ := newO X112 hx hZ hown (w_100 hw) (w_10 hw) (w_11 hw) e112 (g := (mkF m 13 #[xvi px] [])) rfl (hb hby d18_13) (by decide) (by decide)
  obtain ⟨b113, g113⟩ : ∃ z, z = h0.size := ⟨_, rfl⟩
  rw [← g113] at A113 D113 st113
  have Fb113_value : Fld Z h113 b113 "java/lang/String" "value" "[B" .null := D113 (Or.inr (w_25 hw)) (ty := (.array .byte)) (by decide)
  have Fb113_coder : Fld Z h113 b113 "java/lang/String" "coder" "B" (.int (0 : Int32)) := D113 (Or.inr (w_26 hw)) (ty := .byte) (by decide)
  have Ol114 : Old Z n0 h113 := (X00.ext E113)
  obtain ⟨_, _, ⟨T115, L115, k115, n115⟩, -, X115, ⟨Lc115, hQ115, l115, y115, z115⟩, st115⟩ := Jvm.LawKit.callS X113 hx (y := (⟨"java/lang/StringLatin1", "toBytes", "(C)[B"⟩ : MethodName)) hown (mvT hZ (w_101 hw)) (mvT hZ (w_102 hw)) (mvT hZ (w_98 hw)) (mvT hZ (w_103 hw)) (by decide) (backOf (W := 2) (rmTB l Z a0 hw G ST [] px h113 n0 Ol114 ) hZ (w_103 hw) (w_98 hw) (by decide) (by decide)) (g := (mkF m 18 #[xvi px] [xwi px, xwr b113, xwr b113])) rfl (by rw [hml]; rfl) (argsL := [(.int px)]) (rest := [(.ref b113), (.ref b113)]) (lenOf pd_1 rfl) rfl (by show 2 * 0 + _ ≤ _; exact Nat.le_of_eq rfl) (hb hby d18_18) (fun _ _ => ⟨rfl, e113, (by decide : 1 + 1 ≤ _), (by decide : 4 + 1 ≤ _)⟩)
  dsimp only [Pt.U, Pt.locs, Pt.cells, Pt.slots] at X115 l115 y115 z115 st115 hQ115
  subst l115 y115 z115
  obtain ⟨hp115, e115⟩ : ∃ z, T115.heap = z := ⟨_, rfl⟩
  rw [e115] at hQ115
  obtain ⟨o116, o117, rfl, N115q, K115, p118, p119⟩ := hQ115
  have N115 := Fr.app N112 N115q
  have f120 := (A113.keep K115)
  have f121 := (Fb113_value.keep K115 nin0)
  have f122 := (Fb113_coder.keep K115 nin0)
  have Ol123 : Old Z n0 hp115 := (Ol114.keep K115 all0)
  obtain ⟨_, _, ⟨T124, L124, k124, n124⟩, -, X124, ⟨Lc124, hQ124, l124, y124, z124⟩, st124⟩ := X115.specialBack hx (y := (⟨"java/lang/String", "<init>", "([BB)V"⟩ : MethodName)) rfl hown (mvT hZ (w_104 hw)) (mvT hZ (w_105 hw)) (mvT hZ (w_106 hw)) (by decide) (backOf (W := 1) (rmBB l Z a0 hw G ST [] b113 o116 .null (.int (0 : Int32)) hp115 n0 Ol123 f120 f121 f122 (Nat.le_trans Z0 (Nat.le_trans (Nat.le_refl _) (Nat.le_of_eq g113.symm)))) hZ (w_106 hw) (w_11 hw) (by decide) (by decide)) (g := (mkF m 22 #[xvi px] [xwi (0 : Int32), xwr o116, xwr b113, xwr b113])) rfl (by rw [hml]; rfl) (Steps.refl _) (a := b113) (argsL := [(.ref o116), (.int (0 : Int32))]) (rest := [(.ref b113)]) (lenOf pd_2 rfl) rfl (by show 2 * 0 + _ ≤ _; exact Nat.le_of_eq rfl) (hb hby d18_22) (fun _ _ => ⟨rfl, e115, (by decide : 2 + 0 ≤ _), (by decide : 5 + 0 ≤ _)⟩)
  dsimp only [Pt.U, Pt.locs, Pt.cells, Pt.slots] at X124 l124 y124 z124 st124 hQ124
  subst l124 y124 z124
  obtain ⟨hp124, e124⟩ : ∃ z, T124.heap = z := ⟨_, rfl⟩
  rw [e124] at hQ124
  obtain ⟨rfl, N124q, K124, p125, p126, p127⟩ := hQ124
  have N124 := Fr.app N115 N124q
  have f128 := (p119.keep K124 (ninS (Ne.symm (Nat.ne_of_lt (Nat.lt_of_lt_of_le (Nat.lt_of_lt_of_le A113.lt (Nat.le_refl _)) p118))) nin0))
  obtain ⟨fs, hr, hrun, hended, hW, hsame⟩ := X124.leave (v := some (.ref b113)) (fun h => by rw [Bd.returns] at h; cases h)
  refine ⟨_, _, hTG _ (pre0 _ ?_), hrun, hended, _, _, rfl, ?_, ⟨_, rfl⟩, hW, hsame.mono (by decide) (by decide)⟩
  · refine st111 _ ?_
    show Sx p e below T111 m 3 #[xvi px] [xwi G.1] _
    refine y_ifNo X111 hx 6 (hb hby d18_3) (XT.i0_eq_f ST.2.1) rfl ?_
    refine y_iloadN X111 hx 7 (hb hby d18_6) rfl rfl ?_
    refine st112 _ ?_
    show Sx p e below T112 m 10 #[xvi px] [xwi (1 : Int32)] _
    refine y_ifNo X112 hx 13 (hb hby d18_10) (XT.i0_eq_f (by decide)) rfl ?_
    refine st113 _ ?_
    show Sx p e below T113 m 16 #[xvi px] [xwr b113] _
    refine y_dup X113 hx 17 (hb hby d18_16) rfl rfl ?_
    refine y_iloadN X113 hx 18 (hb hby d18_17) rfl rfl ?_
    refine st115 _ ?_
    show Sx p e below T115 m 21 #[xvi px] [xwr o116, xwr b113, xwr b113] _
    refine y_iconst X115 hx (0 : Int32) 22 (hb hby d18_21) rfl rfl ?_
    refine st124.trans ?_
    show Sx p e below T124 m 25 #[xvi px] [xwr b113] _
    exact retOut X124 hx Bd.returns rfl (Or.inr (Or.inr (Or.inr (Or.inr ⟨rfl, rfl, rfl⟩)))) (hb hby d18_25) hr
  · show QrmVO Z G px h0 n0 _ T124.heap _
    rw [e124]
    exact ⟨b113, o116, o117, rfl, N124, ((((Keep.refl h0 []).ext E113).trans K115 all0).trans K124 (allS (Or.inr (Nat.le_trans (Nat.le_refl _) (Nat.le_of_eq g113.symm))) all0)), (Nat.le_trans (Nat.le_refl _) (Nat.le_of_eq g113.symm)), p125, p127, p126, f128, (Nat.le_trans E113.1 p118)⟩
theorem ef_rmE4 (m : MethodId) (x0 : Addr) (x1 : Addr) (x2 : Int32) (x3 : Int32)  : entryFrame m #[(.ref x0), (.ref x1), (.int x2), (.int x3), .null] 6 = mkF m 0 #[.val (.ref x0), .val (.ref x1), .val (.int x2), .val (.int x3), .val .null, .unset] [] := by first | (simp [entryFrame, mkF, argsToLocals, Value.category]; done) | rfl
theorem d4_0 : decode jdk_42_method_149_code 0 = .ok (.aload_n 0, 1) := by decide +kernel
theorem d4_1 : decode jdk_42_method_149_code 1 = .ok (.invokespecial 1, 3) := by decide +kernel
theorem d4_4 : decode jdk_42_method_149_code 4 = .ok (.iload_n 3, 1) := by decide +kernel
theorem d4_5 : decode jdk_42_method_149_code 5 = .ok (.ifCond .ne 22, 3) := by decide +kernel
theorem d4_8 : decode jdk_42_method_149_code 8 = .ok (.aload_n 0, 1) := by decide +kernel
theorem d4_9 : decode jdk_42_method_149_code 9 = .ok (.ldc 7, 2) := by decide +kernel
theorem d4_11 : decode jdk_42_method_149_code 11 = .ok (.getfield 9, 3) := by decide +kernel
theorem d4_14 : decode jdk_42_method_149_code 14 = .ok (.putfield 9, 3) := by decide +kernel
theorem d4_17 : decode jdk_42_method_149_code 17 = .ok (.aload_n 0, 1) := by decide +kernel
theorem d4_18 : decode jdk_42_method_149_code 18 = .ok (.ldc 7, 2) := by decide +kernel
theorem d4_20 : decode jdk_42_method_149_code 20 = .ok (.getfield 15, 3) := by decide +kernel
theorem d4_23 : decode jdk_42_method_149_code 23 = .ok (.putfield 15, 3) := by decide +kernel
theorem d4_26 : decode jdk_42_method_149_code 26 = .ok (.return_, 1) := by decide +kernel
def QrmE4 (Z : State) (G : Gs) (ax : Addr) (cx : Addr) (kc : ClassId) (cs : List Value) (dv : Value) (h0 : Heap) (n0 : Nat) (v : Option Value) (h : Heap) (L : List Loc) : Prop := ∃ (tx : Addr), ∃ (kb : ClassId), v = none ∧ Fr n0 L ∧ Keep h0 h [ax] ∧ Exa Z h ax "java/lang/String" ∧ Fld Z h ax "java/lang/String" "coder" "B" (.int (0 : Int32)) ∧ Fld Z h ax "java/lang/String" "value" "[B" (.ref tx) ∧ Arv Z h tx kb .byte (0 : Int32) [] (.int (0 : Int32))
set_option maxRecDepth 65536 in
set_option maxHeartbeats 40000000 in
theorem rmE4 (l : Launch) (Z : State) (a0 : Array Value) (hw : HW a0 Z) (G : Gs) (ST : StartF Z G) (ws : List Jvm.Cond) (ax : Addr) (cx : Addr) (kc : ClassId) (cs : List Value) (dv : Value) (h0 : Heap) (n0 : Nat) (X00 : Old Z n0 h0) (E1 : Exa Z h0 ax "java/lang/String") (F1 : Fld Z h0 ax "java/lang/String" "value" "[B" .null) (F2 : Fld Z h0 ax "java/lang/String" "coder" "B" (.int (0 : Int32))) (g1 : n0 ≤ ax) (V1 : Arv Z h0 cx kc .char (0 : Int32) cs dv) :
    MetFree l (⟨"java/lang/String", "<init>", "([CIILjava/lang/Void;)V"⟩ : MethodName) (head1 (Jvm.Cond.code (⟨"java/lang/String", "<init>", "([CIILjava/lang/Void;)V"⟩ : MethodName) jdk_42_method_149_code 6 none :: ws) ({ frames := 1, cells := 2, slots := 4, locals := 12 } : Room)) (fun a U => a = #[(.ref ax), (.ref cx), (.int (0 : Int32)), (.int (0 : Int32)), .null] ∧ Z.Warmed39 U.vm ∧ U.heap = h0 ∧ CHv Z EL U.vm h0) (fun _ _ _ _ _ => True) (fun _ U o U' => ∃ v L, o = .returned v ∧ QrmE4 Z G ax cx kc cs dv h0 n0 v U'.heap L ∧ CHr Z EL U.vm U.heap U'.vm U'.heap ∧ ReturnedEndW U o U' L ({ frames := 1, cells := 2, slots := 4, locals := 12 } : Room).cells ({ frames := 1, cells := 2, slots := 4, locals := 12 } : Room).slots) := by
  refine MetFree.of_bodySF (plainFor_of_name pn_1) hisR ?_
  intro p e s m args below meth c s₁ Bd hml0 hP hK
  obtain ⟨rfl, hZ, hh, HC0⟩ := hP
  have hx := Bd.exec
  have hby := Bd.bytes
  have hml : c.maxLocals = 6 := hml0
  have hown : s.vm.findClass "java/lang/String" = some m.cls := findClass_of_methodNamed Bd.named
  have hnm := (name_of_methodNamed Bd.named Bd.method).1
  have X0 : Stand p l e ({ frames := 1, cells := 2, slots := 4, locals := 12 } : Room) (s.setVm s.vm) m #[(.ref ax), (.ref cx), (.int (0 : Int32)), (.int (0 : Int32)), .null] below meth c s₁ [] 0 0 := Stand.of_body Bd
  have e0 : s₁.heap = h0 := by rw [← hh, Bd.state]; rfl
  have N0 := Fr.nil n0
  have Z0 : n0 ≤ h0.size := by have q := X00.2.1; rw [X00.1] at q; exact q
  have C0 := CHr.refl HC0
  have hS0 : s.Since s.vm h0.size := (State.WarmedH.refl s).since h0.size
  obtain ⟨TG, hTG, hT2⟩ : ∃ P : State → Prop, (∀ t, P t → Steps p.tables e below (s₁.setTop (entryFrame m #[(.ref ax), (.ref cx), (.int (0 : Int32)), (.int (0 : Int32)), .null] 6)) t) ∧ (∀ t, Steps p.tables e below (s₁.setTop (entryFrame m #[(.ref ax), (.ref cx), (.int (0 : Int32)), (.int (0 : Int32)), .null] 6)) t → P t) := ⟨_, fun t k => k, fun t k => k⟩
  have pre0 : ∀ t, Sx p e below s₁ m 0 #[xvr ax, xvr cx, xvi (0 : Int32), xvi (0 : Int32), .val .null, xun] [] t → TG t := fun t k => hT2 t (castTop (ef_rmE4 m ax cx (0 : Int32) (0 : Int32) ) k)
  obtain ⟨T129, X129, e129, st129⟩ := initO X0 hx hZ hown (w_20 hw) (w_21 hw) (w_22 hw) e0 (g := (mkF m 1 #[xvr ax, xvr cx, xvi (0 : Int32), xvi (0 : Int32), .val .null, xun] [xwr ax])) rfl (by rw [hml]; rfl) rfl (hb hby d4_1) (by decide) (W := 0) (by show 2 * 0 + _ ≤ _; exact Nat.le_of_eq rfl) (by decide)
  obtain ⟨a130, T130, h130, kk130, d130, k130, X130, e130, E130, hS130, hk130, hZ130, hown130, A130, Fc130, Fv130, V130, -, -, CH130, Li130, sf130, st130⟩ := ldcCH X129 hx hZ hown (w_23 hw) (own_SA hw) e129 hS0 (Nat.le_refl _) (own_EW hw) (by decide) C0.1 (vs := []) (z := (0 : Int32)) ⟨by decide, rfl⟩ (by decide) (by decide) (g := (mkF m 9 #[xvr ax, xvr cx, xvi (0 : Int32), xvi (0 : Int32), .val .null, xun] [xwr ax])) rfl (hb hby d4_9) (n := 0) (by decide) (by decide) (by decide) (by decide)
  have C131 := C0.trans CH130
  obtain ⟨T132, X132, e132, st132⟩ := getF X130 hx hZ130 hown130 (host := "") (Or.inl (w_29 hw)) Via.refl e130 Fv130 (g := (mkF m 11 #[xvr ax, xvr cx, xvi (0 : Int32), xvi (0 : Int32), .val .null, xun] [xwr a130, xwr ax])) rfl rfl (hb hby d4_11)
  have f133 := (F1.ext E130)
  have f134 := (E1.ext E130)
  obtain ⟨T135, h135, X135, e135, W135, st135⟩ := putF X132 hx hZ130 hown130 (host := "") (Or.inl (w_29 hw)) Via.refl e132 f133 f134 (Or.inr ⟨(w_25 hw), rfl, hnm⟩) (w_10 hw) (ty := (.array .byte)) (by decide) rfl rfl (g := (mkF m 14 #[xvr ax, xvr cx, xvi (0 : Int32), xvi (0 : Int32), .val .null, xun] [xwr d130, xwr ax])) rfl rfl (hb hby d4_14)
  have sf138 := (CHr.safe CH130 (Nat.lt_of_lt_of_le E1.lt (Nat.le_refl _)) (own_safeN hZ.alike E1 F1))
  have ch137 := CHr.wr W135 sf138 C131.1
  have C136 := C131.trans ch137
  have Fw135 := f133.same W135
  have N135 := Fr.snoc X135 N0 g1
  have f139 := (Fc130.other W135 (Or.inl (Ne.symm (sf130 ax sf138).1)))
  obtain ⟨T140, X140, e140, st140⟩ := getF X135 hx hZ130 hown130 (host := "") (Or.inl (w_30 hw)) Via.refl e135 f139 (g := (mkF m 20 #[xvr ax, xvr cx, xvi (0 : Int32), xvi (0 : Int32), .val .null, xun] [xwr a130, xwr ax])) rfl rfl (hb hby d4_20)
  have f141 := ((F2.ext E130).other W135 (Or.inr (slot_ne (Or.inr (w_26 hw)) (Or.inr (w_25 hw)) (by decide) (t := .byte) (t' := (.array .byte)) (by decide) (by decide))))
  have f142 := (f134.wr W135)
  obtain ⟨T143, h143, X143, e143, W143, st143⟩ := putFN X140 hx hZ130 hown130 (w_30 hw) Via.refl e140 f141 f142 (Or.inr ⟨(w_26 hw), rfl, hnm⟩) (w_10 hw) (ty := .byte) (v' := (.int (0 : Int32))) (by decide) (by decide) (by decide) (g := (mkF m 23 #[xvr ax, xvr cx, xvi (0 : Int32), xvi (0 : Int32), .val .null, xun] [xwi (0 : Int32), xwr ax])) rfl rfl (hb hby d4_23)
  have sf146 := (CHr.safe ch137 (Nat.lt_of_lt_of_le E1.lt E130.1) sf138)
  have ch145 := CHr.wr W143 sf146 C136.1
  have C144 := C136.trans ch145
  have Fw143 := f141.same W143
  have N143 := Fr.snoc X143 N135 g1
  have f147 := (f142.wr W143)
  have f148 := (Fw135.other W143 (Or.inr (slot_ne (Or.inr (w_25 hw)) (Or.inr (w_26 hw)) (by decide) (t := (.array .byte)) (t' := .byte) (by decide) (by decide))))
  have f149 := ((V130.other W135 (Ne.symm (sf130 ax (CHr.safe CH130 (Nat.lt_of_lt_of_le E1.lt (Nat.le_refl _)) (own_safeN hZ.alike E1 F1))).2)).other W143 (Ne.symm (sf130 ax (CHr.safe CH130 (Nat.lt_of_lt_of_le E1.lt (Nat.le_refl _)) (own_safeN hZ.alike E1 F1))).2))
  have f150 := ((V130.other W135 (Ne.symm (Exa.neArv f147 f149 (w_10 hw)))).other W143 (Ne.symm (Exa.neArv f147 f149 (w_10 hw))))
  have f151 := ((V130.other W135 (Ne.symm (Exa.neArv f147 f150 (w_10 hw)))).other W143 (Ne.symm (Exa.neArv f147 f150 (w_10 hw))))
  have f152 := ((V130.other W135 (Ne.symm (Exa.neArv f147 f151 (w_10 hw)))).other W143 (Ne.symm (Exa.neArv f147 f151 (w_10 hw))))
  have f153 := ((V130.other W135 (Ne.symm (Exa.neArv f147 f152 (w_10 hw)))).other W143 (Ne.symm (Exa.neArv f147 f152 (w_10 hw))))
  have f154 := ((V130.other W135 (Ne.symm (Exa.neArv f147 f153 (w_10 hw)))).other W143 (Ne.symm (Exa.neArv f147 f153 (w_10 hw))))
  have f155 := ((V130.other W135 (Ne.symm (Exa.neArv f147 f154 (w_10 hw)))).other W143 (Ne.symm (Exa.neArv f147 f154 (w_10 hw))))
  have f156 := ((V130.other W135 (Ne.symm (Exa.neArv f147 f155 (w_10 hw)))).other W143 (Ne.symm (Exa.neArv f147 f155 (w_10 hw))))
  have f157 := ((V130.other W135 (Ne.symm (Exa.neArv f147 f156 (w_10 hw)))).other W143 (Ne.symm (Exa.neArv f147 f156 (w_10 hw))))
  have f158 := ((V130.other W135 (Ne.symm (Exa.neArv f147 f157 (w_10 hw)))).other W143 (Ne.symm (Exa.neArv f147 f157 (w_10 hw))))
  have f159 := ((V130.other W135 (Ne.symm (Exa.neArv f147 f158 (w_10 hw)))).other W143 (Ne.symm (Exa.neArv f147 f158 (w_10 hw))))
  have f160 := ((V130.other W135 (Ne.symm (Exa.neArv f147 f159 (w_10 hw)))).other W143 (Ne.symm (Exa.neArv f147 f159 (w_10 hw))))
  have f161 := ((V130.other W135 (Ne.symm (Exa.neArv f147 f160 (w_10 hw)))).other W143 (Ne.symm (Exa.neArv f147 f160 (w_10 hw))))
  have f162 := ((V130.other W135 (Ne.symm (Exa.neArv f147 f161 (w_10 hw)))).other W143 (Ne.symm (Exa.neArv f147 f161 (w_10 hw))))
  have f163 := ((V130.other W135 (Ne.symm (Exa.neArv f147 f162 (w_10 hw)))).other W143 (Ne.symm (Exa.neArv f147 f162 (w_10 hw))))
  have f164 := ((V130.other W135 (Ne.symm (Exa.neArv f147 f163 (w_10 hw)))).other W143 (Ne.symm (Exa.neArv f147 f163 (w_10 hw))))
  have f165 := ((V130.other W135 (Ne.symm (Exa.neArv f147 f164 (w_10 hw)))).other W143 (Ne.symm (Exa.neArv f147 f164 (w_10 hw))))
  have f166 := ((V130.other W135 (Ne.symm (Exa.neArv f147 f165 (w_10 hw)))).other W143 (Ne.symm (Exa.neArv f147 f165 (w_10 hw))))
  have f167 := ((V130.other W135 (Ne.symm (Exa.neArv f147 f166 (w_10 hw)))).other W143 (Ne.symm (Exa.neArv f147 f166 (w_10 hw))))
  have f168 := ((V130.other W135 (Ne.symm (Exa.neArv f147 f167 (w_10 hw)))).other W143 (Ne.symm (Exa.neArv f147 f167 (w_10 hw))))
  have f169 := ((V130.other W135 (Ne.symm (Exa.neArv f147 f168 (w_10 hw)))).other W143 (Ne.symm (Exa.neArv f147 f168 (w_10 hw))))
  have f170 := ((V130.other W135 (Ne.symm (Exa.neArv f147 f169 (w_10 hw)))).other W143 (Ne.symm (Exa.neArv f147 f169 (w_10 hw))))
  have f171 := ((V130.other W135 (Ne.symm (Exa.neArv f147 f170 (w_10 hw)))).other W143 (Ne.symm (Exa.neArv f147 f170 (w_10 hw))))
  have f172 := ((V130.other W135 (Ne.symm (Exa.neArv f147 f171 (w_10 hw)))).other W143 (Ne.symm (Exa.neArv f147 f171 (w_10 hw))))
  have f173 := ((V130.other W135 (Ne.symm (Exa.neArv f147 f172 (w_10 hw)))).other W143 (Ne.symm (Exa.neArv f147 f172 (w_10 hw))))
  have f174 := ((V130.other W135 (Ne.symm (Exa.neArv f147 f173 (w_10 hw)))).other W143 (Ne.symm (Exa.neArv f147 f173 (w_10 hw))))
  have f175 := ((V130.other W135 (Ne.symm (Exa.neArv f147 f174 (w_10 hw)))).other W143 (Ne.symm (Exa.neArv f147 f174 (w_10 hw))))
  have f176 := ((V130.other W135 (Ne.symm (Exa.neArv f147 f175 (w_10 hw)))).other W143 (Ne.symm (Exa.neArv f147 f175 (w_10 hw))))
  have f177 := ((V130.other W135 (Ne.symm (Exa.neArv f147 f176 (w_10 hw)))).other W143 (Ne.symm (Exa.neArv f147 f176 (w_10 hw))))
  have f178 := ((V130.other W135 (Ne.symm (Exa.neArv f147 f177 (w_10 hw)))).other W143 (Ne.symm (Exa.neArv f147 f177 (w_10 hw))))
  have f179 := ((V130.other W135 (Ne.symm (Exa.neArv f147 f178 (w_10 hw)))).other W143 (Ne.symm (Exa.neArv f147 f178 (w_10 hw))))
  have f180 := ((V130.other W135 (Ne.symm (Exa.neArv f147 f179 (w_10 hw)))).other W143 (Ne.symm (Exa.neArv f147 f179 (w_10 hw))))
  have f181 := ((V130.other W135 (Ne.symm (Exa.neArv f147 f180 (w_10 hw)))).other W143 (Ne.symm (Exa.neArv f147 f180 (w_10 hw))))
  have f182 := ((V130.other W135 (Ne.symm (Exa.neArv f147 f181 (w_10 hw)))).other W143 (Ne.symm (Exa.neArv f147 f181 (w_10 hw))))
  have f183 := ((V130.other W135 (Ne.symm (Exa.neArv f147 f182 (w_10 hw)))).other W143 (Ne.symm (Exa.neArv f147 f182 (w_10 hw))))
  have f184 := ((V130.other W135 (Ne.symm (Exa.neArv f147 f183 (w_10 hw)))).other W143 (Ne.symm (Exa.neArv f147 f183 (w_10 hw))))
  have f185 := ((V130.other W135 (Ne.symm (Exa.neArv f147 f184 (w_10 hw)))).other W143 (Ne.symm (Exa.neArv f147 f184 (w_10 hw))))
  have f186 := ((V130.other W135 (Ne.symm (Exa.neArv f147 f185 (w_10 hw)))).other W143 (Ne.symm (Exa.neArv f147 f185 (w_10 hw))))
  have f187 := ((V130.other W135 (Ne.symm (Exa.neArv f147 f186 (w_10 hw)))).other W143 (Ne.symm (Exa.neArv f147 f186 (w_10 hw))))
  have f188 := ((V130.other W135 (Ne.symm (Exa.neArv f147 f187 (w_10 hw)))).other W143 (Ne.symm (Exa.neArv f147 f187 (w_10 hw))))
  have f189 := ((V130.other W135 (Ne.symm (Exa.neArv f147 f188 (w_10 hw)))).other W143 (Ne.symm (Exa.neArv f147 f188 (w_10 hw))))
  have f190 := ((V130.other W135 (Ne.symm (Exa.neArv f147 f189 (w_10 hw)))).other W143 (Ne.symm (Exa.neArv f147 f189 (w_10 hw))))
  have f191 := ((V130.other W135 (Ne.symm (Exa.neArv f147 f190 (w_10 hw)))).other W143 (Ne.symm (Exa.neArv f147 f190 (w_10 hw))))
  have f192 := ((V130.other W135 (Ne.symm (Exa.neArv f147 f191 (w_10 hw)))).other W143 (Ne.symm (Exa.neArv f147 f191 (w_10 hw))))
  have f193 := ((V130.other W135 (Ne.symm (Exa.neArv f147 f192 (w_10 hw)))).other W143 (Ne.symm (Exa.neArv f147 f192 (w_10 hw))))
  have f194 := ((V130.other W135 (Ne.symm (Exa.neArv f147 f193 (w_10 hw)))).other W143 (Ne.symm (Exa.neArv f147 f193 (w_10 hw))))
  have f195 := ((V130.other W135 (Ne.symm (Exa.neArv f147 f194 (w_10 hw)))).other W143 (Ne.symm (Exa.neArv f147 f194 (w_10 hw))))
  have f196 := ((V130.other W135 (Ne.symm (Exa.neArv f147 f195 (w_10 hw)))).other W143 (Ne.symm (Exa.neArv f147 f195 (w_10 hw))))
  have f197 := ((V130.other W135 (Ne.symm (Exa.neArv f147 f196 (w_10 hw)))).other W143 (Ne.symm (Exa.neArv f147 f196 (w_10 hw))))
  have f198 := ((V130.other W135 (Ne.symm (Exa.neArv f147 f197 (w_10 hw)))).other W143 (Ne.symm (Exa.neArv f147 f197 (w_10 hw))))
  have f199 := ((V130.other W135 (Ne.symm (Exa.neArv f147 f198 (w_10 hw)))).other W143 (Ne.symm (Exa.neArv f147 f198 (w_10 hw))))
  have f200 := ((V130.other W135 (Ne.symm (Exa.neArv f147 f199 (w_10 hw)))).other W143 (Ne.symm (Exa.neArv f147 f199 (w_10 hw))))
  have f201 := ((V130.other W135 (Ne.symm (Exa.neArv f147 f200 (w_10 hw)))).other W143 (Ne.symm (Exa.neArv f147 f200 (w_10 hw))))
  have f202 := ((V130.other W135 (Ne.symm (Exa.neArv f147 f201 (w_10 hw)))).other W143 (Ne.symm (Exa.neArv f147 f201 (w_10 hw))))
  have f203 := ((V130.other W135 (Ne.symm (Exa.neArv f147 f202 (w_10 hw)))).other W143 (Ne.symm (Exa.neArv f147 f202 (w_10 hw))))
  have f204 := ((V130.other W135 (Ne.symm (Exa.neArv f147 f203 (w_10 hw)))).other W143 (Ne.symm (Exa.neArv f147 f203 (w_10 hw))))
  have f205 := ((V130.other W135 (Ne.symm (Exa.neArv f147 f204 (w_10 hw)))).other W143 (Ne.symm (Exa.neArv f147 f204 (w_10 hw))))
  have f206 := ((V130.other W135 (Ne.symm (Exa.neArv f147 f205 (w_10 hw)))).other W143 (Ne.symm (Exa.neArv f147 f205 (w_10 hw))))
  have f207 := ((V130.other W135 (Ne.symm (Exa.neArv f147 f206 (w_10 hw)))).other W143 (Ne.symm (Exa.neArv f147 f206 (w_10 hw))))
  have f208 := ((V130.other W135 (Ne.symm (Exa.neArv f147 f207 (w_10 hw)))).other W143 (Ne.symm (Exa.neArv f147 f207 (w_10 hw))))
  have f209 := ((V130.other W135 (Ne.symm (Exa.neArv f147 f208 (w_10 hw)))).other W143 (Ne.symm (Exa.neArv f147 f208 (w_10 hw))))
  have f210 := ((V130.other W135 (Ne.symm (Exa.neArv f147 f209 (w_10 hw)))).other W143 (Ne.symm (Exa.neArv f147 f209 (w_10 hw))))
  have f211 := ((V130.other W135 (Ne.symm (Exa.neArv f147 f210 (w_10 hw)))).other W143 (Ne.symm (Exa.neArv f147 f210 (w_10 hw))))
  have f212 := ((V130.other W135 (Ne.symm (Exa.neArv f147 f211 (w_10 hw)))).other W143 (Ne.symm (Exa.neArv f147 f211 (w_10 hw))))
  have f213 := ((V130.other W135 (Ne.symm (Exa.neArv f147 f212 (w_10 hw)))).other W143 (Ne.symm (Exa.neArv f147 f212 (w_10 hw))))
  have f214 := ((V130.other W135 (Ne.symm (Exa.neArv f147 f213 (w_10 hw)))).other W143 (Ne.symm (Exa.neArv f147 f213 (w_10 hw))))
  have f215 := ((V130.other W135 (Ne.symm (Exa.neArv f147 f214 (w_10 hw)))).other W143 (Ne.symm (Exa.neArv f147 f214 (w_10 hw))))
  have f216 := ((V130.other W135 (Ne.symm (Exa.neArv f147 f215 (w_10 hw)))).other W143 (Ne.symm (Exa.neArv f147 f215 (w_10 hw))))
  have f217 := ((V130.other W135 (Ne.symm (Exa.neArv f147 f216 (w_10 hw)))).other W143 (Ne.symm (Exa.neArv f147 f216 (w_10 hw))))
  have f218 := ((V130.other W135 (Ne.symm (Exa.neArv f147 f217 (w_10 hw)))).other W143 (Ne.symm (Exa.neArv f147 f217 (w_10 hw))))
  have f219 := ((V130.other W135 (Ne.symm (Exa.neArv f147 f218 (w_10 hw)))).other W143 (Ne.symm (Exa.neArv f147 f218 (w_10 hw))))
  have f220 := ((V130.other W135 (Ne.symm (Exa.neArv f147 f219 (w_10 hw)))).other W143 (Ne.symm (Exa.neArv f147 f219 (w_10 hw))))
  have f221 := ((V130.other W135 (Ne.symm (Exa.neArv f147 f220 (w_10 hw)))).other W143 (Ne.symm (Exa.neArv f147 f220 (w_10 hw))))
  have f222 := ((V130.other W135 (Ne.symm (Exa.neArv f147 f221 (w_10 hw)))).other W143 (Ne.symm (Exa.neArv f147 f221 (w_10 hw))))
  have f223 := ((V130.other W135 (Ne.symm (Exa.neArv f147 f222 (w_10 hw)))).other W143 (Ne.symm (Exa.neArv f147 f222 (w_10 hw))))
  have f224 := ((V130.other W135 (Ne.symm (Exa.neArv f147 f223 (w_10 hw)))).other W143 (Ne.symm (Exa.neArv f147 f223 (w_10 hw))))
  have f225 := ((V130.other W135 (Ne.symm (Exa.neArv f147 f224 (w_10 hw)))).other W143 (Ne.symm (Exa.neArv f147 f224 (w_10 hw))))
  have f226 := ((V130.other W135 (Ne.symm (Exa.neArv f147 f225 (w_10 hw)))).other W143 (Ne.symm (Exa.neArv f147 f225 (w_10 hw))))
  have f227 := ((V130.other W135 (Ne.symm (Exa.neArv f147 f226 (w_10 hw)))).other W143 (Ne.symm (Exa.neArv f147 f226 (w_10 hw))))
  have f228 := ((V130.other W135 (Ne.symm (Exa.neArv f147 f227 (w_10 hw)))).other W143 (Ne.symm (Exa.neArv f147 f227 (w_10 hw))))
  have f229 := ((V130.other W135 (Ne.symm (Exa.neArv f147 f228 (w_10 hw)))).other W143 (Ne.symm (Exa.neArv f147 f228 (w_10 hw))))
  have f230 := ((V130.other W135 (Ne.symm (Exa.neArv f147 f229 (w_10 hw)))).other W143 (Ne.symm (Exa.neArv f147 f229 (w_10 hw))))
  have f231 := ((V130.other W135 (Ne.symm (Exa.neArv f147 f230 (w_10 hw)))).other W143 (Ne.symm (Exa.neArv f147 f230 (w_10 hw))))
  have f232 := ((V130.other W135 (Ne.symm (Exa.neArv f147 f231 (w_10 hw)))).other W143 (Ne.symm (Exa.neArv f147 f231 (w_10 hw))))
  have f233 := ((V130.other W135 (Ne.symm (Exa.neArv f147 f232 (w_10 hw)))).other W143 (Ne.symm (Exa.neArv f147 f232 (w_10 hw))))
  have f234 := ((V130.other W135 (Ne.symm (Exa.neArv f147 f233 (w_10 hw)))).other W143 (Ne.symm (Exa.neArv f147 f233 (w_10 hw))))
  have f235 := ((V130.other W135 (Ne.symm (Exa.neArv f147 f234 (w_10 hw)))).other W143 (Ne.symm (Exa.neArv f147 f234 (w_10 hw))))
  have f236 := ((V130.other W135 (Ne.symm (Exa.neArv f147 f235 (w_10 hw)))).other W143 (Ne.symm (Exa.neArv f147 f235 (w_10 hw))))
  have f237 := ((V130.other W135 (Ne.symm (Exa.neArv f147 f236 (w_10 hw)))).other W143 (Ne.symm (Exa.neArv f147 f236 (w_10 hw))))
  have f238 := ((V130.other W135 (Ne.symm (Exa.neArv f147 f237 (w_10 hw)))).other W143 (Ne.symm (Exa.neArv f147 f237 (w_10 hw))))
  have f239 := ((V130.other W135 (Ne.symm (Exa.neArv f147 f238 (w_10 hw)))).other W143 (Ne.symm (Exa.neArv f147 f238 (w_10 hw))))
  have f240 := ((V130.other W135 (Ne.symm (Exa.neArv f147 f239 (w_10 hw)))).other W143 (Ne.symm (Exa.neArv f147 f239 (w_10 hw))))
  have f241 := ((V130.other W135 (Ne.symm (Exa.neArv f147 f240 (w_10 hw)))).other W143 (Ne.symm (Exa.neArv f147 f240 (w_10 hw))))
  have f242 := ((V130.other W135 (Ne.symm (Exa.neArv f147 f241 (w_10 hw)))).other W143 (Ne.symm (Exa.neArv f147 f241 (w_10 hw))))
  have f243 := ((V130.other W135 (Ne.symm (Exa.neArv f147 f242 (w_10 hw)))).other W143 (Ne.symm (Exa.neArv f147 f242 (w_10 hw))))
  have f244 := ((V130.other W135 (Ne.symm (Exa.neArv f147 f243 (w_10 hw)))).other W143 (Ne.symm (Exa.neArv f147 f243 (w_10 hw))))
  have f245 := ((V130.other W135 (Ne.symm (Exa.neArv f147 f244 (w_10 hw)))).other W143 (Ne.symm (Exa.neArv f147 f244 (w_10 hw))))
  have f246 := ((V130.other W135 (Ne.symm (Exa.neArv f147 f245 (w_10 hw)))).other W143 (Ne.symm (Exa.neArv f147 f245 (w_10 hw))))
  have f247 := ((V130.other W135 (Ne.symm (Exa.neArv f147 f246 (w_10 hw)))).other W143 (Ne.symm (Exa.neArv f147 f246 (w_10 hw))))
  have f248 := ((V130.other W135 (Ne.symm (Exa.neArv f147 f247 (w_10 hw)))).other W143 (Ne.symm (Exa.neArv f147 f247 (w_10 hw))))
  have f249 := ((V130.other W135 (Ne.symm (Exa.neArv f147 f248 (w_10 hw)))).other W143 (Ne.symm (Exa.neArv f147 f248 (w_10 hw))))
  have f250 := ((V130.other W135 (Ne.symm (Exa.neArv f147 f249 (w_10 hw)))).other W143 (Ne.symm (Exa.neArv f147 f249 (w_10 hw))))
  have f251 := ((V130.other W135 (Ne.symm (Exa.neArv f147 f250 (w_10 hw)))).other W143 (Ne.symm (Exa.neArv f147 f250 (w_10 hw))))
  have f252 := ((V130.other W135 (Ne.symm (Exa.neArv f147 f251 (w_10 hw)))).other W143 (Ne.symm (Exa.neArv f147 f251 (w_10 hw))))
  have f253 := ((V130.other W135 (Ne.symm (Exa.neArv f147 f252 (w_10 hw)))).other W143 (Ne.symm (Exa.neArv f147 f252 (w_10 hw))))
  have f254 := ((V130.other W135 (Ne.symm (Exa.neArv f147 f253 (w_10 hw)))).other W143 (Ne.symm (Exa.neArv f147 f253 (w_10 hw))))
  have f255 := ((V130.other W135 (Ne.symm (Exa.neArv f147 f254 (w_10 hw)))).other W143 (Ne.symm (Exa.neArv f147 f254 (w_10 hw))))
  have f256 := ((V130.other W135 (Ne.symm (Exa.neArv f147 f255 (w_10 hw)))).other W143 (Ne.symm (Exa.neArv f147 f255 (w_10 hw))))
  have f257 := ((V130.other W135 (Ne.symm (Exa.neArv f147 f256 (w_10 hw)))).other W143 (Ne.symm (Exa.neArv f147 f256 (w_10 hw))))
  have f258 := ((V130.other W135 (Ne.symm (Exa.neArv f147 f257 (w_10 hw)))).other W143 (Ne.symm (Exa.neArv f147 f257 (w_10 hw))))
  have f259 := ((V130.other W135 (Ne.symm (Exa.neArv f147 f258 (w_10 hw)))).other W143 (Ne.symm (Exa.neArv f147 f258 (w_10 hw))))
  have f260 := ((V130.other W135 (Ne.symm (Exa.neArv f147 f259 (w_10 hw)))).other W143 (Ne.symm (Exa.neArv f147 f259 (w_10 hw))))
  have f261 := ((V130.other W135 (Ne.symm (Exa.neArv f147 f260 (w_10 hw)))).other W143 (Ne.symm (Exa.neArv f147 f260 (w_10 hw))))
  have f262 := ((V130.other W135 (Ne.symm (Exa.neArv f147 f261 (w_10 hw)))).other W143 (Ne.symm (Exa.neArv f147 f261 (w_10 hw))))
  have f263 := ((V130.other W135 (Ne.symm (Exa.neArv f147 f262 (w_10 hw)))).other W143 (Ne.symm (Exa.neArv f147 f262 (w_10 hw))))
  have f264 := ((V130.other W135 (Ne.symm (Exa.neArv f147 f263 (w_10 hw)))).other W143 (Ne.symm (Exa.neArv f147 f263 (w_10 hw))))
  have f265 := ((V130.other W135 (Ne.symm (Exa.neArv f147 f264 (w_10 hw)))).other W143 (Ne.symm (Exa.neArv f147 f264 (w_10 hw))))
  have f266 := ((V130.other W135 (Ne.symm (Exa.neArv f147 f265 (w_10 hw)))).other W143 (Ne.symm (Exa.neArv f147 f265 (w_10 hw))))
  have f267 := ((V130.other W135 (Ne.symm (Exa.neArv f147 f266 (w_10 hw)))).other W143 (Ne.symm (Exa.neArv f147 f266 (w_10 hw))))
  have f268 := ((V130.other W135 (Ne.symm (Exa.neArv f147 f267 (w_10 hw)))).other W143 (Ne.symm (Exa.neArv f147 f267 (w_10 hw))))
  have f269 := ((V130.other W135 (Ne.symm (Exa.neArv f147 f268 (w_10 hw)))).other W143 (Ne.symm (Exa.neArv f147 f268 (w_10 hw))))
  have f270 := ((V130.other W135 (Ne.symm (Exa.neArv f147 f269 (w_10 hw)))).other W143 (Ne.symm (Exa.neArv f147 f269 (w_10 hw))))
  have f271 := ((V130.other W135 (Ne.symm (Exa.neArv f147 f270 (w_10 hw)))).other W143 (Ne.symm (Exa.neArv f147 f270 (w_10 hw))))
  have f272 := ((V130.other W135 (Ne.symm (Exa.neArv f147 f271 (w_10 hw)))).other W143 (Ne.symm (Exa.neArv f147 f271 (w_10 hw))))
  have f273 := ((V130.other W135 (Ne.symm (Exa.neArv f147 f272 (w_10 hw)))).other W143 (Ne.symm (Exa.neArv f147 f272 (w_10 hw))))
  have f274 := ((V130.other W135 (Ne.symm (Exa.neArv f147 f273 (w_10 hw)))).other W143 (Ne.symm (Exa.neArv f147 f273 (w_10 hw))))
  have f275 := ((V130.other W135 (Ne.symm (Exa.neArv f147 f274 (w_10 hw)))).other W143 (Ne.symm (Exa.neArv f147 f274 (w_10 hw))))
  have f276 := ((V130.other W135 (Ne.symm (Exa.neArv f147 f275 (w_10 hw)))).other W143 (Ne.symm (Exa.neArv f147 f275 (w_10 hw))))
  have f277 := ((V130.other W135 (Ne.symm (Exa.neArv f147 f276 (w_10 hw)))).other W143 (Ne.symm (Exa.neArv f147 f276 (w_10 hw))))
  have f278 := ((V130.other W135 (Ne.symm (Exa.neArv f147 f277 (w_10 hw)))).other W143 (Ne.symm (Exa.neArv f147 f277 (w_10 hw))))
  have f279 := ((V130.other W135 (Ne.symm (Exa.neArv f147 f278 (w_10 hw)))).other W143 (Ne.symm (Exa.neArv f147 f278 (w_10 hw))))
  have f280 := ((V130.other W135 (Ne.symm (Exa.neArv f147 f279 (w_10 hw)))).other W143 (Ne.symm (Exa.neArv f147 f279 (w_10 hw))))
  have f281 := ((V130.other W135 (Ne.symm (Exa.neArv f147 f280 (w_10 hw)))).other W143 (Ne.symm (Exa.neArv f147 f280 (w_10 hw))))
  have f282 := ((V130.other W135 (Ne.symm (Exa.neArv f147 f281 (w_10 hw)))).other W143 (Ne.symm (Exa.neArv f147 f281 (w_10 hw))))
  have f283 := ((V130.other W135 (Ne.symm (Exa.neArv f147 f282 (w_10 hw)))).other W143 (Ne.symm (Exa.neArv f147 f282 (w_10 hw))))
  have f284 := ((V130.other W135 (Ne.symm (Exa.neArv f147 f283 (w_10 hw)))).other W143 (Ne.symm (Exa.neArv f147 f283 (w_10 hw))))
  have f285 := ((V130.other W135 (Ne.symm (Exa.neArv f147 f284 (w_10 hw)))).other W143 (Ne.symm (Exa.neArv f147 f284 (w_10 hw))))
  have f286 := ((V130.other W135 (Ne.symm (Exa.neArv f147 f285 (w_10 hw)))).other W143 (Ne.symm (Exa.neArv f147 f285 (w_10 hw))))
  have f287 := ((V130.other W135 (Ne.symm (Exa.neArv f147 f286 (w_10 hw)))).other W143 (Ne.symm (Exa.neArv f147 f286 (w_10 hw))))
  have f288 := ((V130.other W135 (Ne.symm (Exa.neArv f147 f287 (w_10 hw)))).other W143 (Ne.symm (Exa.neArv f147 f287 (w_10 hw))))
  have f289 := ((V130.other W135 (Ne.symm (Exa.neArv f147 f288 (w_10 hw)))).other W143 (Ne.symm (Exa.neArv f147 f288 (w_10 hw))))
  have f290 := ((V130.other W135 (Ne.symm (Exa.neArv f147 f289 (w_10 hw)))).other W143 (Ne.symm (Exa.neArv f147 f289 (w_10 hw))))
  have f291 := ((V130.other W135 (Ne.symm (Exa.neArv f147 f290 (w_10 hw)))).other W143 (Ne.symm (Exa.neArv f147 f290 (w_10 hw))))
  have f292 := ((V130.other W135 (Ne.symm (Exa.neArv f147 f291 (w_10 hw)))).other W143 (Ne.symm (Exa.neArv f147 f291 (w_10 hw))))
  have f293 := ((V130.other W135 (Ne.symm (Exa.neArv f147 f292 (w_10 hw)))).other W143 (Ne.symm (Exa.neArv f147 f292 (w_10 hw))))
  have f294 := ((V130.other W135 (Ne.symm (Exa.neArv f147 f293 (w_10 hw)))).other W143 (Ne.symm (Exa.neArv f147 f293 (w_10 hw))))
  have f295 := ((V130.other W135 (Ne.symm (Exa.neArv f147 f294 (w_10 hw)))).other W143 (Ne.symm (Exa.neArv f147 f294 (w_10 hw))))
  have f296 := ((V130.other W135 (Ne.symm (Exa.neArv f147 f295 (w_10 hw)))).other W143 (Ne.symm (Exa.neArv f147 f295 (w_10 hw))))
  have f297 := ((V130.other W135 (Ne.symm (Exa.neArv f147 f296 (w_10 hw)))).other W143 (Ne.symm (Exa.neArv f147 f296 (w_10 hw))))
  have f298 := ((V130.other W135 (Ne.symm (Exa.neArv f147 f297 (w_10 hw)))).other W143 (Ne.symm (Exa.neArv f147 f297 (w_10 hw))))
  have f299 := ((V130.other W135 (Ne.symm (Exa.neArv f147 f298 (w_10 hw)))).other W143 (Ne.symm (Exa.neArv f147 f298 (w_10 hw))))
  have f300 := ((V130.other W135 (Ne.symm (Exa.neArv f147 f299 (w_10 hw)))).other W143 (Ne.symm (Exa.neArv f147 f299 (w_10 hw))))
  have f301 := ((V130.other W135 (Ne.symm (Exa.neArv f147 f300 (w_10 hw)))).other W143 (Ne.symm (Exa.neArv f147 f300 (w_10 hw))))
  have f302 := ((V130.other W135 (Ne.symm (Exa.neArv f147 f301 (w_10 hw)))).other W143 (Ne.symm (Exa.neArv f147 f301 (w_10 hw))))
  have f303 := ((V130.other W135 (Ne.symm (Exa.neArv f147 f302 (w_10 hw)))).other W143 (Ne.symm (Exa.neArv f147 f302 (w_10 hw))))
  have f304 := ((V130.other W135 (Ne.symm (Exa.neArv f147 f303 (w_10 hw)))).other W143 (Ne.symm (Exa.neArv f147 f303 (w_10 hw))))
  have f305 := ((V130.other W135 (Ne.symm (Exa.neArv f147 f304 (w_10 hw)))).other W143 (Ne.symm (Exa.neArv f147 f304 (w_10 hw))))
  have f306 := ((V130.other W135 (Ne.symm (Exa.neArv f147 f305 (w_10 hw)))).other W143 (Ne.symm (Exa.neArv f147 f305 (w_10 hw))))
  have f307 := ((V130.other W135 (Ne.symm (Exa.neArv f147 f306 (w_10 hw)))).other W143 (Ne.symm (Exa.neArv f147 f306 (w_10 hw))))
  have f308 := ((V130.other W135 (Ne.symm (Exa.neArv f147 f307 (w_10 hw)))).other W143 (Ne.symm (Exa.neArv f147 f307 (w_10 hw))))
  have f309 := ((V130.other W135 (Ne.symm (Exa.neArv f147 f308 (w_10 hw)))).other W143 (Ne.symm (Exa.neArv f147 f308 (w_10 hw))))
  have f310 := ((V130.other W135 (Ne.symm (Exa.neArv f147 f309 (w_10 hw)))).other W143 (Ne.symm (Exa.neArv f147 f309 (w_10 hw))))
  have f311 := ((V130.other W135 (Ne.symm (Exa.neArv f147 f310 (w_10 hw)))).other W143 (Ne.symm (Exa.neArv f147 f310 (w_10 hw))))
  have f312 := ((V130.other W135 (Ne.symm (Exa.neArv f147 f311 (w_10 hw)))).other W143 (Ne.symm (Exa.neArv f147 f311 (w_10 hw))))
  have f313 := ((V130.other W135 (Ne.symm (Exa.neArv f147 f312 (w_10 hw)))).other W143 (Ne.symm (Exa.neArv f147 f312 (w_10 hw))))
  have f314 := ((V130.other W135 (Ne.symm (Exa.neArv f147 f313 (w_10 hw)))).other W143 (Ne.symm (Exa.neArv f147 f313 (w_10 hw))))
  have f315 := ((V130.other W135 (Ne.symm (Exa.neArv f147 f314 (w_10 hw)))).other W143 (Ne.symm (Exa.neArv f147 f314 (w_10 hw))))
  have f316 := ((V130.other W135 (Ne.symm (Exa.neArv f147 f315 (w_10 hw)))).other W143 (Ne.symm (Exa.neArv f147 f315 (w_10 hw))))
  have f317 := ((V130.other W135 (Ne.symm (Exa.neArv f147 f316 (w_10 hw)))).other W143 (Ne.symm (Exa.neArv f147 f316 (w_10 hw))))
  have f318 := ((V130.other W135 (Ne.symm (Exa.neArv f147 f317 (w_10 hw)))).other W143 (Ne.symm (Exa.neArv f147 f317 (w_10 hw))))
  have f319 := ((V130.other W135 (Ne.symm (Exa.neArv f147 f318 (w_10 hw)))).other W143 (Ne.symm (Exa.neArv f147 f318 (w_10 hw))))
  have f320 := ((V130.other W135 (Ne.symm (Exa.neArv f147 f319 (w_10 hw)))).other W143 (Ne.symm (Exa.neArv f147 f319 (w_10 hw))))
  have f321 := ((V130.other W135 (Ne.symm (Exa.neArv f147 f320 (w_10 hw)))).other W143 (Ne.symm (Exa.neArv f147 f320 (w_10 hw))))
  have f322 := ((V130.other W135 (Ne.symm (Exa.neArv f147 f321 (w_10 hw)))).other W143 (Ne.symm (Exa.neArv f147 f321 (w_10 hw))))
  have f323 := ((V130.other W135 (Ne.symm (Exa.neArv f147 f322 (w_10 hw)))).other W143 (Ne.symm (Exa.neArv f147 f322 (w_10 hw))))
  have f324 := ((V130.other W135 (Ne.symm (Exa.neArv f147 f323 (w_10 hw)))).other W143 (Ne.symm (Exa.neArv f147 f323 (w_10 hw))))
  have f325 := ((V130.other W135 (Ne.symm (Exa.neArv f147 f324 (w_10 hw)))).other W143 (Ne.symm (Exa.neArv f147 f324 (w_10 hw))))
  have f326 := ((V130.other W135 (Ne.symm (Exa.neArv f147 f325 (w_10 hw)))).other W143 (Ne.symm (Exa.neArv f147 f325 (w_10 hw))))
  have f327 := ((V130.other W135 (Ne.symm (Exa.neArv f147 f326 (w_10 hw)))).other W143 (Ne.symm (Exa.neArv f147 f326 (w_10 hw))))
  have f328 := ((V130.other W135 (Ne.symm (Exa.neArv f147 f327 (w_10 hw)))).other W143 (Ne.symm (Exa.neArv f147 f327 (w_10 hw))))
  have f329 := ((V130.other W135 (Ne.symm (Exa.neArv f147 f328 (w_10 hw)))).other W143 (Ne.symm (Exa.neArv f147 f328 (w_10 hw))))
  have f330 := ((V130.other W135 (Ne.symm (Exa.neArv f147 f329 (w_10 hw)))).other W143 (Ne.symm (Exa.neArv f147 f329 (w_10 hw))))
  have f331 := ((V130.other W135 (Ne.symm (Exa.neArv f147 f330 (w_10 hw)))).other W143 (Ne.symm (Exa.neArv f147 f330 (w_10 hw))))
  have f332 := ((V130.other W135 (Ne.symm (Exa.neArv f147 f331 (w_10 hw)))).other W143 (Ne.symm (Exa.neArv f147 f331 (w_10 hw))))
  have f333 := ((V130.other W135 (Ne.symm (Exa.neArv f147 f332 (w_10 hw)))).other W143 (Ne.symm (Exa.neArv f147 f332 (w_10 hw))))
  have f334 := ((V130.other W135 (Ne.symm (Exa.neArv f147 f333 (w_10 hw)))).other W143 (Ne.symm (Exa.neArv f147 f333 (w_10 hw))))
  have f335 := ((V130.other W135 (Ne.symm (Exa.neArv f147 f334 (w_10 hw)))).other W143 (Ne.symm (Exa.neArv f147 f334 (w_10 hw))))
  have f336 := ((V130.other W135 (Ne.symm (Exa.neArv f147 f335 (w_10 hw)))).other W143 (Ne.symm (Exa.neArv f147 f335 (w_10 hw))))
  have f337 := ((V130.other W135 (Ne.symm (Exa.neArv f147 f336 (w_10 hw)))).other W143 (Ne.symm (Exa.neArv f147 f336 (w_10 hw))))
  have f338 := ((V130.other W135 (Ne.symm (Exa.neArv f147 f337 (w_10 hw)))).other W143 (Ne.symm (Exa.neArv f147 f337 (w_10 hw))))
  have f339 := ((V130.other W135 (Ne.symm (Exa.neArv f147 f338 (w_10 hw)))).other W143 (Ne.symm (Exa.neArv f147 f338 (w_10 hw))))
  have f340 := ((V130.other W135 (Ne.symm (Exa.neArv f147 f339 (w_10 hw)))).other W143 (Ne.symm (Exa.neArv f147 f339 (w_10 hw))))
  have f341 := ((V130.other W135 (Ne.symm (Exa.neArv f147 f340 (w_10 hw)))).other W143 (Ne.symm (Exa.neArv f147 f340 (w_10 hw))))
  have f342 := ((V130.other W135 (Ne.symm (Exa.neArv f147 f341 (w_10 hw)))).other W143 (Ne.symm (Exa.neArv f147 f341 (w_10 hw))))
  have f343 := ((V130.other W135 (Ne.symm (Exa.neArv f147 f342 (w_10 hw)))).other W143 (Ne.symm (Exa.neArv f147 f342 (w_10 hw))))
  have f344 := ((V130.other W135 (Ne.symm (Exa.neArv f147 f343 (w_10 hw)))).other W143 (Ne.symm (Exa.neArv f147 f343 (w_10 hw))))
  have f345 := ((V130.other W135 (Ne.symm (Exa.neArv f147 f344 (w_10 hw)))).other W143 (Ne.symm (Exa.neArv f147 f344 (w_10 hw))))
  have f346 := ((V130.other W135 (Ne.symm (Exa.neArv f147 f345 (w_10 hw)))).other W143 (Ne.symm (Exa.neArv f147 f345 (w_10 hw))))
  have f347 := ((V130.other W135 (Ne.symm (Exa.neArv f147 f346 (w_10 hw)))).other W143 (Ne.symm (Exa.neArv f147 f346 (w_10 hw))))
  have f348 := ((V130.other W135 (Ne.symm (Exa.neArv f147 f347 (w_10 hw)))).other W143 (Ne.symm (Exa.neArv f147 f347 (w_10 hw))))
  have f349 := ((V130.other W135 (Ne.symm (Exa.neArv f147 f348 (w_10 hw)))).other W143 (Ne.symm (Exa.neArv f147 f348 (w_10 hw))))
  have f350 := ((V130.other W135 (Ne.symm (Exa.neArv f147 f349 (w_10 hw)))).other W143 (Ne.symm (Exa.neArv f147 f349 (w_10 hw))))
  have f351 := ((V130.other W135 (Ne.symm (Exa.neArv f147 f350 (w_10 hw)))).other W143 (Ne.symm (Exa.neArv f147 f350 (w_10 hw))))
  have f352 := ((V130.other W135 (Ne.symm (Exa.neArv f147 f351 (w_10 hw)))).other W143 (Ne.symm (Exa.neArv f147 f351 (w_10 hw))))
  have f353 := ((V130.other W135 (Ne.symm (Exa.neArv f147 f352 (w_10 hw)))).other W143 (Ne.symm (Exa.neArv f147 f352 (w_10 hw))))
  have f354 := ((V130.other W135 (Ne.symm (Exa.neArv f147 f353 (w_10 hw)))).other W143 (Ne.symm (Exa.neArv f147 f353 (w_10 hw))))
  have f355 := ((V130.other W135 (Ne.symm (Exa.neArv f147 f354 (w_10 hw)))).other W143 (Ne.symm (Exa.neArv f147 f354 (w_10 hw))))
  have f356 := ((V130.other W135 (Ne.symm (Exa.neArv f147 f355 (w_10 hw)))).other W143 (Ne.symm (Exa.neArv f147 f355 (w_10 hw))))
  have f357 := ((V130.other W135 (Ne.symm (Exa.neArv f147 f356 (w_10 hw)))).other W143 (Ne.symm (Exa.neArv f147 f356 (w_10 hw))))
  have f358 := ((V130.other W135 (Ne.symm (Exa.neArv f147 f357 (w_10 hw)))).other W143 (Ne.symm (Exa.neArv f147 f357 (w_10 hw))))
  have f359 := ((V130.other W135 (Ne.symm (Exa.neArv f147 f358 (w_10 hw)))).other W143 (Ne.symm (Exa.neArv f147 f358 (w_10 hw))))
  have f360 := ((V130.other W135 (Ne.symm (Exa.neArv f147 f359 (w_10 hw)))).other W143 (Ne.symm (Exa.neArv f147 f359 (w_10 hw))))
  have f361 := ((V130.other W135 (Ne.symm (Exa.neArv f147 f360 (w_10 hw)))).other W143 (Ne.symm (Exa.neArv f147 f360 (w_10 hw))))
  have f362 := ((V130.other W135 (Ne.symm (Exa.neArv f147 f361 (w_10 hw)))).other W143 (Ne.symm (Exa.neArv f147 f361 (w_10 hw))))
  have f363 := ((V130.other W135 (Ne.symm (Exa.neArv f147 f362 (w_10 hw)))).other W143 (Ne.symm (Exa.neArv f147 f362 (w_10 hw))))
  have f364 := ((V130.other W135 (Ne.symm (Exa.neArv f147 f363 (w_10 hw)))).other W143 (Ne.symm (Exa.neArv f147 f363 (w_10 hw))))
  have f365 := ((V130.other W135 (Ne.symm (Exa.neArv f147 f364 (w_10 hw)))).other W143 (Ne.symm (Exa.neArv f147 f364 (w_10 hw))))
  have f366 := ((V130.other W135 (Ne.symm (Exa.neArv f147 f365 (w_10 hw)))).other W143 (Ne.symm (Exa.neArv f147 f365 (w_10 hw))))
  have f367 := ((V130.other W135 (Ne.symm (Exa.neArv f147 f366 (w_10 hw)))).other W143 (Ne.symm (Exa.neArv f147 f366 (w_10 hw))))
  have f368 := ((V130.other W135 (Ne.symm (Exa.neArv f147 f367 (w_10 hw)))).other W143 (Ne.symm (Exa.neArv f147 f367 (w_10 hw))))
  have f369 := ((V130.other W135 (Ne.symm (Exa.neArv f147 f368 (w_10 hw)))).other W143 (Ne.symm (Exa.neArv f147 f368 (w_10 hw))))
  have f370 := ((V130.other W135 (Ne.symm (Exa.neArv f147 f369 (w_10 hw)))).other W143 (Ne.symm (Exa.neArv f147 f369 (w_10 hw))))
  have f371 := ((V130.other W135 (Ne.symm (Exa.neArv f147 f370 (w_10 hw)))).other W143 (Ne.symm (Exa.neArv f147 f370 (w_10 hw))))
  have f372 := ((V130.other W135 (Ne.symm (Exa.neArv f147 f371 (w_10 hw)))).other W143 (Ne.symm (Exa.neArv f147 f371 (w_10 hw))))
  have f373 := ((V130.other W135 (Ne.symm (Exa.neArv f147 f372 (w_10 hw)))).other W143 (Ne.symm (Exa.neArv f147 f372 (w_10 hw))))
  have f374 := ((V130.other W135 (Ne.symm (Exa.neArv f147 f373 (w_10 hw)))).other W143 (Ne.symm (Exa.neArv f147 f373 (w_10 hw))))
  have f375 := ((V130.other W135 (Ne.symm (Exa.neArv f147 f374 (w_10 hw)))).other W143 (Ne.symm (Exa.neArv f147 f374 (w_10 hw))))
  have f376 := ((V130.other W135 (Ne.symm (Exa.neArv f147 f375 (w_10 hw)))).other W143 (Ne.symm (Exa.neArv f147 f375 (w_10 hw))))
  have f377 := ((V130.other W135 (Ne.symm (Exa.neArv f147 f376 (w_10 hw)))).other W143 (Ne.symm (Exa.neArv f147 f376 (w_10 hw))))
  have f378 := ((V130.other W135 (Ne.symm (Exa.neArv f147 f377 (w_10 hw)))).other W143 (Ne.symm (Exa.neArv f147 f377 (w_10 hw))))
  have f379 := ((V130.other W135 (Ne.symm (Exa.neArv f147 f378 (w_10 hw)))).other W143 (Ne.symm (Exa.neArv f147 f378 (w_10 hw))))
  have f380 := ((V130.other W135 (Ne.symm (Exa.neArv f147 f379 (w_10 hw)))).other W143 (Ne.symm (Exa.neArv f147 f379 (w_10 hw))))
  have f381 := ((V130.other W135 (Ne.symm (Exa.neArv f147 f380 (w_10 hw)))).other W143 (Ne.symm (Exa.neArv f147 f380 (w_10 hw))))
  have f382 := ((V130.other W135 (Ne.symm (Exa.neArv f147 f381 (w_10 hw)))).other W143 (Ne.symm (Exa.neArv f147 f381 (w_10 hw))))
  have f383 := ((V130.other W135 (Ne.symm (Exa.neArv f147 f382 (w_10 hw)))).other W143 (Ne.symm (Exa.neArv f147 f382 (w_10 hw))))
  have f384 := ((V130.other W135 (Ne.symm (Exa.neArv f147 f383 (w_10 hw)))).other W143 (Ne.symm (Exa.neArv f147 f383 (w_10 hw))))
  have f385 := ((V130.other W135 (Ne.symm (Exa.neArv f147 f384 (w_10 hw)))).other W143 (Ne.symm (Exa.neArv f147 f384 (w_10 hw))))
  have f386 := ((V130.other W135 (Ne.symm (Exa.neArv f147 f385 (w_10 hw)))).other W143 (Ne.symm (Exa.neArv f147 f385 (w_10 hw))))
  have f387 := ((V130.other W135 (Ne.symm (Exa.neArv f147 f386 (w_10 hw)))).other W143 (Ne.symm (Exa.neArv f147 f386 (w_10 hw))))
  have f388 := ((V130.other W135 (Ne.symm (Exa.neArv f147 f387 (w_10 hw)))).other W143 (Ne.symm (Exa.neArv f147 f387 (w_10 hw))))
  have f389 := ((V130.other W135 (Ne.symm (Exa.neArv f147 f388 (w_10 hw)))).other W143 (Ne.symm (Exa.neArv f147 f388 (w_10 hw))))
  have f390 := ((V130.other W135 (Ne.symm (Exa.neArv f147 f389 (w_10 hw)))).other W143 (Ne.symm (Exa.neArv f147 f389 (w_10 hw))))
  have f391 := ((V130.other W135 (Ne.symm (Exa.neArv f147 f390 (w_10 hw)))).other W143 (Ne.symm (Exa.neArv f147 f390 (w_10 hw))))
  have f392 := ((V130.other W135 (Ne.symm (Exa.neArv f147 f391 (w_10 hw)))).other W143 (Ne.symm (Exa.neArv f147 f391 (w_10 hw))))
  have f393 := ((V130.other W135 (Ne.symm (Exa.neArv f147 f392 (w_10 hw)))).other W143 (Ne.symm (Exa.neArv f147 f392 (w_10 hw))))
  have f394 := ((V130.other W135 (Ne.symm (Exa.neArv f147 f393 (w_10 hw)))).other W143 (Ne.symm (Exa.neArv f147 f393 (w_10 hw))))
  obtain ⟨fs, hr, hrun, hended, hE⟩ := X143.leaveW hS130 (by rw [e143]; exact (Nat.le_trans hk130 (Nat.le_trans (Nat.le_of_eq W135.size.symm) (Nat.le_of_eq W143.size.symm)))) (v := none) (fun _ => rfl)
  refine ⟨_, _, hTG _ (pre0 _ ?_), hrun, hended, _, _, rfl, ?_, ?_, hE.1, hE.2.1, hE.2.2.1, hE.2.2.2.mono (by decide) (by decide)⟩
  · refine y_aloadN X0 hx 1 (hb hby d4_0) rfl rfl rfl ?_
    refine st129 _ ?_
    show Sx p e below T129 m 4 #[xvr ax, xvr cx, xvi (0 : Int32), xvi (0 : Int32), .val .null, xun] [] _
    refine y_iloadN X129 hx 5 (hb hby d4_4) rfl rfl ?_
    refine y_ifNo X129 hx 8 (hb hby d4_5) (XT.i0_ne_f (by decide)) rfl ?_
    refine y_aloadN X129 hx 9 (hb hby d4_8) rfl rfl rfl ?_
    refine st130 _ ?_
    show Sx p e below T130 m 11 #[xvr ax, xvr cx, xvi (0 : Int32), xvi (0 : Int32), .val .null, xun] [xwr a130, xwr ax] _
    refine st132 _ ?_
    show Sx p e below T132 m 14 #[xvr ax, xvr cx, xvi (0 : Int32), xvi (0 : Int32), .val .null, xun] [xwr d130, xwr ax] _
    refine st135 _ ?_
    show Sx p e below T135 m 17 #[xvr ax, xvr cx, xvi (0 : Int32), xvi (0 : Int32), .val .null, xun] [] _
    refine y_aloadN X135 hx 18 (hb hby d4_17) rfl rfl rfl ?_
    refine ldcAgain X135 hx hZ130 hown130 (w_23 hw) Li130 (g := (mkF m 18 #[xvr ax, xvr cx, xvi (0 : Int32), xvi (0 : Int32), .val .null, xun] [xwr ax])) rfl (hb hby d4_18) _ ?_
    show Sx p e below T135 m 20 #[xvr ax, xvr cx, xvi (0 : Int32), xvi (0 : Int32), .val .null, xun] [xwr a130, xwr ax] _
    refine st140 _ ?_
    show Sx p e below T140 m 23 #[xvr ax, xvr cx, xvi (0 : Int32), xvi (0 : Int32), .val .null, xun] [xwi (0 : Int32), xwr ax] _
    refine st143 _ ?_
    show Sx p e below T143 m 26 #[xvr ax, xvr cx, xvi (0 : Int32), xvi (0 : Int32), .val .null, xun] [] _
    exact X143.returnOut hx Bd.returns (hb hby d4_26) hr
  · show QrmE4 Z G ax cx kc cs dv h0 n0 _ T143.heap _
    rw [e143]
    exact ⟨d130, k130, rfl, N143, ((((Keep.refl h0 [ax]).ext E130).wr W135 (Or.inl (List.mem_of_getElem? (i := 0) rfl))).wr W143 (Or.inl (List.mem_of_getElem? (i := 0) rfl))), f147, Fw143, f148, f394⟩
  · rw [hh]; show CHr Z EL s.vm h0 T143.vm T143.heap; rw [e143]; exact C144.trans (CHv.at X143 hZ130 (own_EW hw) C144.1)
theorem ef_rmE1 (m : MethodId) (x0 : Addr) (x1 : Addr)  : entryFrame m #[(.ref x0), (.ref x1)] 2 = mkF m 0 #[.val (.ref x0), .val (.ref x1)] [] := by first | (simp [entryFrame, mkF, argsToLocals, Value.category]; done) | rfl
theorem d3_0 : decode jdk_42_method_3_code 0 = .ok (.aload_n 0, 1) := by decide +kernel
theorem d3_1 : decode jdk_42_method_3_code 1 = .ok (.aload_n 1, 1) := by decide +kernel
theorem d3_2 : decode jdk_42_method_3_code 2 = .ok (.iconst 0, 1) := by decide +kernel
theorem d3_3 : decode jdk_42_method_3_code 3 = .ok (.aload_n 1, 1) := by decide +kernel
theorem d3_4 : decode jdk_42_method_3_code 4 = .ok (.arraylength, 1) := by decide +kernel
theorem d3_5 : decode jdk_42_method_3_code 5 = .ok (.aconst_null, 1) := by decide +kernel
theorem d3_6 : decode jdk_42_method_3_code 6 = .ok (.invokespecial 27, 3) := by decide +kernel
theorem pd_3 : parseMethodDescriptor "([CIILjava/lang/Void;)V" = some ⟨[(.array .char), .int, .int, (.object "java/lang/Void")], none⟩ := by decide +kernel
theorem d3_9 : decode jdk_42_method_3_code 9 = .ok (.return_, 1) := by decide +kernel
def QrmE1 (Z : State) (G : Gs) (ax : Addr) (cx : Addr) (kc : ClassId) (cs : List Value) (dv : Value) (h0 : Heap) (n0 : Nat) (v : Option Value) (h : Heap) (L : List Loc) : Prop := ∃ (tx : Addr), ∃ (kb : ClassId), v = none ∧ Fr n0 L ∧ Keep h0 h [ax] ∧ Exa Z h ax "java/lang/String" ∧ Fld Z h ax "java/lang/String" "coder" "B" (.int (0 : Int32)) ∧ Fld Z h ax "java/lang/String" "value" "[B" (.ref tx) ∧ Arv Z h tx kb .byte (0 : Int32) [] (.int (0 : Int32))
set_option maxRecDepth 65536 in
set_option maxHeartbeats 40000000 in
theorem rmE1 (l : Launch) (Z : State) (a0 : Array Value) (hw : HW a0 Z) (G : Gs) (ST : StartF Z G) (ws : List Jvm.Cond) (ax : Addr) (cx : Addr) (kc : ClassId) (cs : List Value) (dv : Value) (h0 : Heap) (n0 : Nat) (X00 : Old Z n0 h0) (E1 : Exa Z h0 ax "java/lang/String") (F1 : Fld Z h0 ax "java/lang/String" "value" "[B" .null) (F2 : Fld Z h0 ax "java/lang/String" "coder" "B" (.int (0 : Int32))) (g1 : n0 ≤ ax) (V1 : Arv Z h0 cx kc .char (0 : Int32) cs dv) :
    MetFree l (⟨"java/lang/String", "<init>", "([C)V"⟩ : MethodName) (head1 (Jvm.Cond.code (⟨"java/lang/String", "<init>", "([C)V"⟩ : MethodName) jdk_42_method_3_code 2 none :: ws) ({ frames := 2, cells := 2, slots := 4, locals := 29 } : Room)) (fun a U => a = #[(.ref ax), (.ref cx)] ∧ Z.Warmed39 U.vm ∧ U.heap = h0 ∧ CHv Z EL U.vm h0) (fun _ _ _ _ _ => True) (fun _ U o U' => ∃ v L, o = .returned v ∧ QrmE1 Z G ax cx kc cs dv h0 n0 v U'.heap L ∧ CHr Z EL U.vm U.heap U'.vm U'.heap ∧ ReturnedEndW U o U' L ({ frames := 2, cells := 2, slots := 4, locals := 29 } : Room).cells ({ frames := 2, cells := 2, slots := 4, locals := 29 } : Room).slots) := by
  refine MetFree.of_bodySF (plainFor_of_name pn_1) hisR ?_
  intro p e s m args below meth c s₁ Bd hml0 hP hK
  obtain ⟨rfl, hZ, hh, HC0⟩ := hP
  have hx := Bd.exec
  have hby := Bd.bytes
  have hml : c.maxLocals = 2 := hml0
  have hown : s.vm.findClass "java/lang/String" = some m.cls := findClass_of_methodNamed Bd.named
  have hnm := (name_of_methodNamed Bd.named Bd.method).1
  have X0 : Stand p l e ({ frames := 2, cells := 2, slots := 4, locals := 29 } : Room) (s.setVm s.vm) m #[(.ref ax), (.ref cx)] below meth c s₁ [] 0 0 := Stand.of_body Bd
  have e0 : s₁.heap = h0 := by rw [← hh, Bd.state]; rfl
  have N0 := Fr.nil n0
  have Z0 : n0 ≤ h0.size := by have q := X00.2.1; rw [X00.1] at q; exact q
  have C0 := CHr.refl HC0
  have hS0 : s.Since s.vm h0.size := (State.WarmedH.refl s).since h0.size
  obtain ⟨TG, hTG, hT2⟩ : ∃ P : State → Prop, (∀ t, P t → Steps p.tables e below (s₁.setTop (entryFrame m #[(.ref ax), (.ref cx)] 2)) t) ∧ (∀ t, Steps p.tables e below (s₁.setTop (entryFrame m #[(.ref ax), (.ref cx)] 2)) t → P t) := ⟨_, fun t k => k, fun t k => k⟩
  have pre0 : ∀ t, Sx p e below s₁ m 0 #[xvr ax, xvr cx] [] t → TG t := fun t k => hT2 t (castTop (ef_rmE1 m ax cx ) k)
  obtain ⟨cl395, Ar395, q395, S395, M395, H395, G395⟩ := id V1
  obtain ⟨_, _, ⟨T396, L396, k396, n396⟩, -, X396, hS396, g396, ⟨Lc396, hQ396, l396, y396, z396, CH396⟩, st396⟩ := X0.specialBackS hx (y := (⟨"java/lang/String", "<init>", "([CIILjava/lang/Void;)V"⟩ : MethodName)) rfl hown (mvT hZ (w_16 hw)) (mvT hZ (w_17 hw)) (mvT hZ (w_19 hw)) (by decide) (backOfSH (W := 0) (rmE4 l Z a0 hw G ST [] ax cx kc (cs : List Value) dv h0 n0 X00 E1 F1 F2 g1 V1) hZ (w_19 hw) (w_11 hw) (by decide) (by decide) (own_EW hw) C0.1) (g := (mkF m 6 #[xvr ax, xvr cx] [.null, xwi (0 : Int32), xwi (0 : Int32), xwr cx, xwr ax])) rfl (by rw [hml]; rfl) (Steps.refl _) (a := ax) (argsL := [(.ref cx), (.int (0 : Int32)), (.int (0 : Int32)), .null]) (rest := []) (lenOf pd_3 rfl) rfl (by show 2 * 0 + _ ≤ _; exact Nat.le_of_eq rfl) (hb hby d3_6) (fun _ _ => ⟨rfl, e0, (by decide : 0 + 2 ≤ _), (by decide : 0 + 4 ≤ _)⟩)
  dsimp only [Pt.U, Pt.locs, Pt.cells, Pt.slots] at X396 l396 y396 z396 st396 hQ396 CH396 hS396 g396
  subst l396 y396 z396
  obtain ⟨hp396, e396⟩ : ∃ z, T396.heap = z := ⟨_, rfl⟩
  rw [e396] at hQ396 CH396 hS396 g396
  rw [e0] at g396
  obtain ⟨X396, hS396, hZ396, hown396⟩ := rebS hS0 (Nat.le_refl _) X396 hS396 g396 hZ hown
  obtain ⟨o397, o398, rfl, N396q, K396, p399, p400, p401, p402⟩ := hQ396
  have N396 := Fr.app N0 N396q
  have C403 := C0.trans CH396
  obtain ⟨fs, hr, hrun, hended, hE⟩ := X396.leaveW hS396 (by rw [e396]; exact (Nat.le_refl _)) (v := none) (fun _ => rfl)
  refine ⟨_, _, hTG _ (pre0 _ ?_), hrun, hended, _, _, rfl, ?_, ?_, hE.1, hE.2.1, hE.2.2.1, hE.2.2.2.mono (by decide) (by decide)⟩
  · refine y_aloadN X0 hx 1 (hb hby d3_0) rfl rfl rfl ?_
    refine y_aloadN X0 hx 2 (hb hby d3_1) rfl rfl rfl ?_
    refine y_iconst X0 hx (0 : Int32) 3 (hb hby d3_2) rfl rfl ?_
    refine y_aloadN X0 hx 4 (hb hby d3_3) rfl rfl rfl ?_
    refine X0.arraylength hx (by rw [e0]; exact Ar395.1) (State.isArrayOf_alike hZ.alike Ar395.2.1) (g := (mkF m 4 #[xvr ax, xvr cx] [xwr cx, xwi (0 : Int32), xwr cx, xwr ax])) rfl rfl (hb hby d3_4) _ ?_
    rw [len_of S395 M395]
    show Sx p e below s₁ m 5 #[xvr ax, xvr cx] [xwi (0 : Int32), xwi (0 : Int32), xwr cx, xwr ax] _
    refine y_aconst_null X0 hx 6 (hb hby d3_5) rfl ?_
    refine st396.trans ?_
    show Sx p e below T396 m 9 #[xvr ax, xvr cx] [] _
    exact X396.returnOut hx Bd.returns (hb hby d3_9) hr
  · show QrmE1 Z G ax cx kc cs dv h0 n0 _ T396.heap _
    rw [e396]
    exact ⟨o397, o398, rfl, N396, ((Keep.refl h0 [ax]).trans K396 (allS (Or.inl (List.mem_of_getElem? (i := 0) rfl)) all0)), p399, p400, p401, p402⟩
  · rw [hh]; show CHr Z EL s.vm h0 T396.vm T396.heap; rw [e396]; exact C403.trans (CHv.at X396 hZ396 (own_EW hw) C403.1)
theorem ef_rmNN (m : MethodId) (x0 : Addr) (x1 : Addr)  : entryFrame m #[(.ref x0), (.ref x1)] 2 = mkF m 0 #[.val (.ref x0), .val (.ref x1)] [] := by first | (simp [entryFrame, mkF, argsToLocals, Value.category]; done) | rfl
theorem d9_0 : decode jdk_31_method_11_code 0 = .ok (.aload_n 0, 1) := by decide +kernel
theorem d9_1 : decode jdk_31_method_11_code 1 = .ok (.ifnonnull 12, 3) := by decide +kernel
theorem d9_13 : decode jdk_31_method_11_code 13 = .ok (.aload_n 0, 1) := by decide +kernel
theorem d9_14 : decode jdk_31_method_11_code 14 = .ok (.areturn, 1) := by decide +kernel
theorem pn_2 : plainName "java/util/Objects" = true := by first | (simp [plainName, overriddenIn]; done) | decide +kernel
def QrmNN (Z : State) (G : Gs) (ax : Addr) (bx : Addr) (h0 : Heap) (n0 : Nat) (v : Option Value) (h : Heap) (L : List Loc) : Prop := v = some (.ref ax) ∧ Fr n0 L ∧ h = h0
set_option maxRecDepth 65536 in
set_option maxHeartbeats 40000000 in
theorem rmNN (l : Launch) (Z : State) (a0 : Array Value) (hw : HW a0 Z) (G : Gs) (ST : StartF Z G) (ws : List Jvm.Cond) (ax : Addr) (bx : Addr) (h0 : Heap) (n0 : Nat) (X00 : Old Z n0 h0) :
    MetFree l (⟨"java/util/Objects", "requireNonNull", "(Ljava/lang/Object;Ljava/lang/String;)Ljava/lang/Object;"⟩ : MethodName) (head1 (Jvm.Cond.code (⟨"java/util/Objects", "requireNonNull", "(Ljava/lang/Object;Ljava/lang/String;)Ljava/lang/Object;"⟩ : MethodName) jdk_31_method_11_code 2 (some (.object "java/lang/Object")) :: ws) ({ frames := 0, cells := 0, slots := 0, locals := 0 } : Room)) (fun a U => a = #[(.ref ax), (.ref bx)] ∧ Z.Warmed39 U.vm ∧ U.heap = h0) (fun _ _ _ _ _ => True) (fun _ U o U' => ∃ v L, o = .returned v ∧ QrmNN Z G ax bx h0 n0 v U'.heap L ∧ FrameEnd U o U' L ({ frames := 0, cells := 0, slots := 0, locals := 0 } : Room).cells ({ frames := 0, cells := 0, slots := 0, locals := 0 } : Room).slots) := by
  refine MetFree.of_bodySF (plainFor_of_name pn_2) hisR ?_
  intro p e s m args below meth c s₁ Bd hml0 hP hK
  obtain ⟨rfl, hZ, hh⟩ := hP
  have hx := Bd.exec
  have hby := Bd.bytes
  have hml : c.maxLocals = 2 := hml0
  have hown : s.vm.findClass "java/util/Objects" = some m.cls := findClass_of_methodNamed Bd.named
  have hnm := (name_of_methodNamed Bd.named Bd.method).1
  have X0 : Stand p l e ({ frames := 0, cells := 0, slots := 0, locals := 0 } : Room) s m #[(.ref ax), (.ref bx)] below meth c s₁ [] 0 0 := Stand.of_body Bd
  have e0 : s₁.heap = h0 := by rw [← hh, Bd.state]; rfl
  have N0 := Fr.nil n0
  have Z0 : n0 ≤ h0.size := by have q := X00.2.1; rw [X00.1] at q; exact q
  obtain ⟨TG, hTG, hT2⟩ : ∃ P : State → Prop, (∀ t, P t → Steps p.tables e below (s₁.setTop (entryFrame m #[(.ref ax), (.ref bx)] 2)) t) ∧ (∀ t, Steps p.tables e below (s₁.setTop (entryFrame m #[(.ref ax), (.ref bx)] 2)) t → P t) := ⟨_, fun t k => k, fun t k => k⟩
  have pre0 : ∀ t, Sx p e below s₁ m 0 #[xvr ax, xvr bx] [] t → TG t := fun t k => hT2 t (castTop (ef_rmNN m ax bx ) k)
  obtain ⟨fs, hr, hrun, hended, hW, hsame⟩ := X0.leave (v := some (.ref ax)) (fun h => by rw [Bd.returns] at h; cases h)
  refine ⟨_, _, hTG _ (pre0 _ ?_), hrun, hended, _, _, rfl, ?_, ⟨_, rfl⟩, hW, hsame.mono (by decide) (by decide)⟩
  · refine y_aloadN X0 hx 1 (hb hby d9_0) rfl rfl rfl ?_
    refine XS.ifnonnullYes X0.here hx rfl (pc0 := 1) (pc' := 13) rfl (hb hby d9_1) rfl (by decide) (by decide) ?_
    show Sx p e below s₁ m 13 #[xvr ax, xvr bx] [] _
    refine y_aloadN X0 hx 14 (hb hby d9_13) rfl rfl rfl ?_
    show Sx p e below s₁ m 14 #[xvr ax, xvr bx] [xwr ax] _
    exact retOut X0 hx Bd.returns rfl (Or.inr (Or.inr (Or.inr (Or.inr ⟨rfl, rfl, rfl⟩)))) (hb hby d9_14) hr
  · show QrmNN Z G ax bx h0 n0 _ s₁.heap _
    rw [e0]
    exact ⟨rfl, N0, rfl⟩
theorem ef_rmOE (m : MethodId)   : entryFrame m #[] 1 = mkF m 0 #[.unset] [] := by first | (simp [entryFrame, mkF, argsToLocals, Value.category]; done) | rfl
theorem d7_0 : decode jdk_32_method_1_code 0 = .ok (.getstatic 1, 3) := by decide +kernel
theorem d7_3 : decode jdk_32_method_1_code 3 = .ok (.astore_n 0, 1) := by decide +kernel
theorem d7_4 : decode jdk_32_method_1_code 4 = .ok (.aload_n 0, 1) := by decide +kernel
theorem d7_5 : decode jdk_32_method_1_code 5 = .ok (.areturn, 1) := by decide +kernel
theorem pn_3 : plainName "java/util/Optional" = true := by first | (simp [plainName, overriddenIn]; done) | decide +kernel
def QrmOE (Z : State) (G : Gs)  (h0 : Heap) (n0 : Nat) (v : Option Value) (h : Heap) (L : List Loc) : Prop := v = some (.ref G.2) ∧ Fr n0 L ∧ h = h0
set_option maxRecDepth 65536 in
set_option maxHeartbeats 40000000 in
theorem rmOE (l : Launch) (Z : State) (a0 : Array Value) (hw : HW a0 Z) (G : Gs) (ST : StartF Z G) (ws : List Jvm.Cond)  (h0 : Heap) (n0 : Nat) (X00 : Old Z n0 h0) :
    MetFree l (⟨"java/util/Optional", "empty", "()Ljava/util/Optional;"⟩ : MethodName) (head1 (Jvm.Cond.code (⟨"java/util/Optional", "empty", "()Ljava/util/Optional;"⟩ : MethodName) jdk_32_method_1_code 1 (some (.object "java/util/Optional")) :: ws) ({ frames := 0, cells := 0, slots := 0, locals := 0 } : Room)) (fun a U => a = #[] ∧ Z.Warmed39 U.vm ∧ U.heap = h0) (fun _ _ _ _ _ => True) (fun _ U o U' => ∃ v L, o = .returned v ∧ QrmOE Z G  h0 n0 v U'.heap L ∧ FrameEnd U o U' L ({ frames := 0, cells := 0, slots := 0, locals := 0 } : Room).cells ({ frames := 0, cells := 0, slots := 0, locals := 0 } : Room).slots) := by
  refine MetFree.of_bodySF (plainFor_of_name pn_3) hisR ?_
  intro p e s m args below meth c s₁ Bd hml0 hP hK
  obtain ⟨rfl, hZ, hh⟩ := hP
  have hx := Bd.exec
  have hby := Bd.bytes
  have hml : c.maxLocals = 1 := hml0
  have hown : s.vm.findClass "java/util/Optional" = some m.cls := findClass_of_methodNamed Bd.named
  have hnm := (name_of_methodNamed Bd.named Bd.method).1
  have X0 : Stand p l e ({ frames := 0, cells := 0, slots := 0, locals := 0 } : Room) s m #[] below meth c s₁ [] 0 0 := Stand.of_body Bd
  have e0 : s₁.heap = h0 := by rw [← hh, Bd.state]; rfl
  have N0 := Fr.nil n0
  have Z0 : n0 ≤ h0.size := by have q := X00.2.1; rw [X00.1] at q; exact q
  obtain ⟨TG, hTG, hT2⟩ : ∃ P : State → Prop, (∀ t, P t → Steps p.tables e below (s₁.setTop (entryFrame m #[] 1)) t) ∧ (∀ t, Steps p.tables e below (s₁.setTop (entryFrame m #[] 1)) t → P t) := ⟨_, fun t k => k, fun t k => k⟩
  have pre0 : ∀ t, Sx p e below s₁ m 0 #[xun] [] t → TG t := fun t k => hT2 t (castTop (ef_rmOE m  ) k)
  obtain ⟨T404, X404, e404, st404⟩ := getS2 X0 hx hZ hown (host := "") (Or.inl (w_41 hw)) Via.refl e0 (ST.2.2.1.ext X00.2) (g := (mkF m 0 #[xun] [])) rfl (hb hby d7_0)
  obtain ⟨fs, hr, hrun, hended, hW, hsame⟩ := X404.leave (v := some (.ref G.2)) (fun h => by rw [Bd.returns] at h; cases h)
  refine ⟨_, _, hTG _ (pre0 _ ?_), hrun, hended, _, _, rfl, ?_, ⟨_, rfl⟩, hW, hsame.mono (by decide) (by decide)⟩
  · refine st404 _ ?_
    show Sx p e below T404 m 3 #[xun] [xwr G.2] _
    refine XS.astoreN X404.here hx rfl (hb hby d7_3) rfl rfl (l' := #[xvr G.2]) rfl ?_
    show Sx p e below T404 m 4 #[xvr G.2] [] _
    refine y_aloadN X404 hx 5 (hb hby d7_4) rfl rfl rfl ?_
    show Sx p e below T404 m 5 #[xvr G.2] [xwr G.2] _
    exact retOut X404 hx Bd.returns rfl (Or.inr (Or.inr (Or.inr (Or.inr ⟨rfl, rfl, rfl⟩)))) (hb hby d7_5) hr
  · show QrmOE Z G  h0 n0 _ T404.heap _
    rw [e404]
    exact ⟨rfl, N0, rfl⟩
theorem ef_rmSI (m : MethodId) (x0 : Addr) (x1 : Addr) (x2 : Addr) (x3 : Int64)  : entryFrame m #[(.ref x0), (.ref x1), (.ref x2), (.long x3)] 5 = mkF m 0 #[.val (.ref x0), .val (.ref x1), .val (.ref x2), .val (.long x3), .second] [] := by first | (simp [entryFrame, mkF, argsToLocals, Value.category]; done) | rfl
theorem d8_0 : decode prog_12_method_1_code 0 = .ok (.aload_n 0, 1) := by decide +kernel
theorem d8_1 : decode prog_12_method_1_code 1 = .ok (.invokespecial 1, 3) := by decide +kernel
theorem d8_4 : decode prog_12_method_1_code 4 = .ok (.aload_n 0, 1) := by decide +kernel
theorem d8_5 : decode prog_12_method_1_code 5 = .ok (.aload_n 1, 1) := by decide +kernel
theorem d8_6 : decode prog_12_method_1_code 6 = .ok (.ldc 7, 2) := by decide +kernel
theorem d8_8 : decode prog_12_method_1_code 8 = .ok (.invokestatic 9, 3) := by decide +kernel
theorem pd_4 : parseMethodDescriptor "(Ljava/lang/Object;Ljava/lang/String;)Ljava/lang/Object;" = some ⟨[(.object "java/lang/Object"), (.object "java/lang/String")], some (.object "java/lang/Object")⟩ := by decide +kernel
theorem d8_11 : decode prog_12_method_1_code 11 = .ok (.checkcast 15, 3) := by decide +kernel
theorem d8_14 : decode prog_12_method_1_code 14 = .ok (.putfield 17, 3) := by decide +kernel
theorem d8_17 : decode prog_12_method_1_code 17 = .ok (.aload_n 0, 1) := by decide +kernel
theorem d8_18 : decode prog_12_method_1_code 18 = .ok (.aload_n 2, 1) := by decide +kernel
theorem d8_19 : decode prog_12_method_1_code 19 = .ok (.putfield 23, 3) := by decide +kernel
theorem d8_22 : decode prog_12_method_1_code 22 = .ok (.aload_n 0, 1) := by decide +kernel
theorem d8_23 : decode prog_12_method_1_code 23 = .ok (.lload_n 3, 1) := by decide +kernel
theorem d8_24 : decode prog_12_method_1_code 24 = .ok (.putfield 27, 3) := by decide +kernel
theorem d8_27 : decode prog_12_method_1_code 27 = .ok (.return_, 1) := by decide +kernel
theorem pn_4 : plainName "com/example/umq/umq/admin/Selection" = true := by first | (simp [plainName, overriddenIn]; done) | decide +kernel
def QrmSI (Z : State) (G : Gs) (ax : Addr) (tx : Addr) (ox : Addr) (jx : Int64) (u1 : Value) (u2 : Value) (u3 : Value) (h0 : Heap) (n0 : Nat) (v : Option Value) (h : Heap) (L : List Loc) : Prop := v = none ∧ Fr n0 L ∧ Keep h0 h [ax] ∧ Exa Z h ax "com/example/umq/umq/admin/Selection" ∧ Fld Z h ax "com/example/umq/umq/admin/Selection" "level" "Ljava/lang/String;" (.ref tx) ∧ Fld Z h ax "com/example/umq/umq/admin/Selection" "named" "Ljava/util/Optional;" (.ref ox) ∧ Fld Z h ax "com/example/umq/umq/admin/Selection" "limit" "J" (.long jx)
set_option maxRecDepth 65536 in
set_option maxHeartbeats 40000000 in
theorem rmSI (l : Launch) (Z : State) (a0 : Array Value) (hw : HW a0 Z) (G : Gs) (ST : StartF Z G) (ws : List Jvm.Cond) (ax : Addr) (tx : Addr) (ox : Addr) (jx : Int64) (u1 : Value) (u2 : Value) (u3 : Value) (h0 : Heap) (n0 : Nat) (X00 : Old Z n0 h0) (E1 : Exa Z h0 ax "com/example/umq/umq/admin/Selection") (E2 : Exa Z h0 tx "java/lang/String") (F1 : Fld Z h0 ax "com/example/umq/umq/admin/Selection" "level" "Ljava/lang/String;" u1) (F2 : Fld Z h0 ax "com/example/umq/umq/admin/Selection" "named" "Ljava/util/Optional;" u2) (F3 : Fld Z h0 ax "com/example/umq/umq/admin/Selection" "limit" "J" u3) (g1 : n0 ≤ ax) :
    MetFree l (⟨"com/example/umq/umq/admin/Selection", "<init>", "(Ljava/lang/String;Ljava/util/Optional;J)V"⟩ : MethodName) (head1 (Jvm.Cond.code (⟨"com/example/umq/umq/admin/Selection", "<init>", "(Ljava/lang/String;Ljava/util/Optional;J)V"⟩ : MethodName) prog_12_method_1_code 5 none :: ws) ({ frames := 1, cells := 2, slots := 84, locals := 14 } : Room)) (fun a U => a = #[(.ref ax), (.ref tx), (.ref ox), (.long jx)] ∧ Z.Warmed39 U.vm ∧ U.heap = h0 ∧ CHv Z EL U.vm h0) (fun _ _ _ _ _ => True) (fun _ U o U' => ∃ v L, o = .returned v ∧ QrmSI Z G ax tx ox jx u1 u2 u3 h0 n0 v U'.heap L ∧ CHr Z EL U.vm U.heap U'.vm U'.heap ∧ ReturnedEndW U o U' L ({ frames := 1, cells := 2, slots := 84, locals := 14 } : Room).cells ({ frames := 1, cells := 2, slots := 84, locals := 14 } : Room).slots) := by
  refine MetFree.of_bodySF (plainFor_of_name pn_4) hisR ?_
  intro p e s m args below meth c s₁ Bd hml0 hP hK
  obtain ⟨rfl, hZ, hh, HC0⟩ := hP
  have hx := Bd.exec
  have hby := Bd.bytes
  have hml : c.maxLocals = 5 := hml0
  have hown : s.vm.findClass "com/example/umq/umq/admin/Selection" = some m.cls := findClass_of_methodNamed Bd.named
  have hnm := (name_of_methodNamed Bd.named Bd.method).1
  have X0 : Stand p l e ({ frames := 1, cells := 2, slots := 84, locals := 14 } : Room) (s.setVm s.vm) m #[(.ref ax), (.ref tx), (.ref ox), (.long jx)] below meth c s₁ [] 0 0 := Stand.of_body Bd
  have e0 : s₁.heap = h0 := by rw [← hh, Bd.state]; rfl
  have N0 := Fr.nil n0
  have Z0 : n0 ≤ h0.size := by have q := X00.2.1; rw [X00.1] at q; exact q
  have C0 := CHr.refl HC0
  have hS0 : s.Since s.vm h0.size := (State.WarmedH.refl s).since h0.size
  obtain ⟨TG, hTG, hT2⟩ : ∃ P : State → Prop, (∀ t, P t → Steps p.tables e below (s₁.setTop (entryFrame m #[(.ref ax), (.ref tx), (.ref ox), (.long jx)] 5)) t) ∧ (∀ t, Steps p.tables e below (s₁.setTop (entryFrame m #[(.ref ax), (.ref tx), (.ref ox), (.long jx)] 5)) t → P t) := ⟨_, fun t k => k, fun t k => k⟩
  have pre0 : ∀ t, Sx p e below s₁ m 0 #[xvr ax, xvr tx, xvr ox, xvj jx, xse] [] t → TG t := fun t k => hT2 t (castTop (ef_rmSI m ax tx ox jx ) k)
  obtain ⟨T405, X405, e405, st405⟩ := initO X0 hx hZ hown (w_45 hw) (w_21 hw) (w_22 hw) e0 (g := (mkF m 1 #[xvr ax, xvr tx, xvr ox, xvj jx, xse] [xwr ax])) rfl (by rw [hml]; rfl) rfl (hb hby d8_1) (by decide) (W := 0) (by show 2 * 0 + _ ≤ _; exact Nat.le_of_eq rfl) (by decide)
  obtain ⟨a406, T406, h406, kk406, X406, e406, E406, hS406, hk406, hZ406, hown406, CH406, Li406, st406⟩ := ldcOH X405 hx hZ hown (w_46 hw) (own_SA hw) e405 hS0 (Nat.le_refl _) (own_EW hw) C0.1 (g := (mkF m 6 #[xvr ax, xvr tx, xvr ox, xvj jx, xse] [xwr tx, xwr ax])) rfl (hb hby d8_6) (n := 80) (by decide) (by decide) (by decide) (by decide)
  have C407 := C0.trans CH406
  have Ol408 : Old Z n0 h406 := (X00.ext E406)
  obtain ⟨_, _, ⟨T409, L409, k409, n409⟩, -, X409, ⟨Lc409, hQ409, l409, y409, z409⟩, st409⟩ := Jvm.LawKit.callS X406 hx (y := (⟨"java/util/Objects", "requireNonNull", "(Ljava/lang/Object;Ljava/lang/String;)Ljava/lang/Object;"⟩ : MethodName)) hown406 (mvT hZ406 (w_47 hw)) (mvT hZ406 (w_48 hw)) (mvT hZ406 (w_49 hw)) (mvT hZ406 (w_50 hw)) (by decide) (backOf (W := 1) (rmNN l Z a0 hw G ST [] tx a406 h406 n0 Ol408 ) hZ406 (w_50 hw) (w_49 hw) (by decide) (by decide)) (g := (mkF m 8 #[xvr ax, xvr tx, xvr ox, xvj jx, xse] [xwr a406, xwr tx, xwr ax])) rfl (by rw [hml]; rfl) (argsL := [(.ref tx), (.ref a406)]) (rest := [(.ref ax)]) (lenOf pd_4 rfl) rfl (by show 2 * 0 + _ ≤ _; exact Nat.le_of_eq rfl) (hb hby d8_8) (fun _ _ => ⟨rfl, e406, (by decide : 2 + 0 ≤ _), (by decide : 84 + 0 ≤ _)⟩)
  dsimp only [Pt.U, Pt.locs, Pt.cells, Pt.slots] at X409 l409 y409 z409 st409 hQ409
  subst l409 y409 z409
  obtain ⟨rfl, N409q, e409⟩ := hQ409
  have N409 := Fr.app N0 N409q
  have f410 := (E2.ext E406)
  obtain ⟨T411, X411, e411, st411⟩ := castY X409 hx hZ406 hown406 (w_51 hw) e409 (Ins.self f410) (g := (mkF m 11 #[xvr ax, xvr tx, xvr ox, xvj jx, xse] [xwr tx, xwr ax])) rfl rfl (hb hby d8_11)
  have f412 := (F1.ext E406)
  have f413 := (E1.ext E406)
  obtain ⟨T414, h414, X414, e414, W414, st414⟩ := putF X411 hx hZ406 hown406 (host := "") (Or.inl (w_52 hw)) Via.refl e411 f412 f413 (Or.inr ⟨(w_53 hw), rfl, hnm⟩) (w_36 hw) (ty := (.object "java/lang/String")) (by decide) rfl rfl (g := (mkF m 14 #[xvr ax, xvr tx, xvr ox, xvj jx, xse] [xwr tx, xwr ax])) rfl rfl (hb hby d8_14)
  have ch416 := CHr.wr W414 (Safe.exa hZ406.alike f413 (by decide) (by decide)) C407.1
  have C415 := C407.trans ch416
  have Fw414 := f412.same W414
  have N414 := Fr.snoc X414 N409 g1
  have f417 := ((F2.ext E406).other W414 (Or.inr (slot_ne (Or.inr (w_55 hw)) (Or.inr (w_53 hw)) (by decide) (t := (.object "java/util/Optional")) (t' := (.object "java/lang/String")) (by decide) (by decide))))
  have f418 := (f413.wr W414)
  obtain ⟨T419, h419, X419, e419, W419, st419⟩ := putF X414 hx hZ406 hown406 (host := "") (Or.inl (w_54 hw)) Via.refl e414 f417 f418 (Or.inr ⟨(w_55 hw), rfl, hnm⟩) (w_36 hw) (ty := (.object "java/util/Optional")) (by decide) rfl rfl (g := (mkF m 19 #[xvr ax, xvr tx, xvr ox, xvj jx, xse] [xwr ox, xwr ax])) rfl rfl (hb hby d8_19)
  have ch421 := CHr.wr W419 (Safe.exa hZ406.alike f418 (by decide) (by decide)) C415.1
  have C420 := C415.trans ch421
  have Fw419 := f417.same W419
  have N419 := Fr.snoc X419 N414 g1
  have f422 := (((F3.ext E406).other W414 (Or.inr (slot_ne (Or.inr (w_57 hw)) (Or.inr (w_53 hw)) (by decide) (t := .long) (t' := (.object "java/lang/String")) (by decide) (by decide)))).other W419 (Or.inr (slot_ne (Or.inr (w_57 hw)) (Or.inr (w_55 hw)) (by decide) (t := .long) (t' := (.object "java/util/Optional")) (by decide) (by decide))))
  have f423 := (f418.wr W419)
  obtain ⟨T424, h424, X424, e424, W424, st424⟩ := putF X419 hx hZ406 hown406 (host := "") (Or.inl (w_56 hw)) Via.refl e419 f422 f423 (Or.inr ⟨(w_57 hw), rfl, hnm⟩) (w_36 hw) (ty := .long) (by decide) rfl rfl (g := (mkF m 24 #[xvr ax, xvr tx, xvr ox, xvj jx, xse] [xwj jx, xwr ax])) rfl rfl (hb hby d8_24)
  have ch426 := CHr.wr W424 (Safe.exa hZ406.alike f423 (by decide) (by decide)) C420.1
  have C425 := C420.trans ch426
  have Fw424 := f422.same W424
  have N424 := Fr.snoc X424 N419 g1
  have f427 := (f423.wr W424)
  have f428 := ((Fw414.other W419 (Or.inr (slot_ne (Or.inr (w_53 hw)) (Or.inr (w_55 hw)) (by decide) (t := (.object "java/lang/String")) (t' := (.object "java/util/Optional")) (by decide) (by decide)))).other W424 (Or.inr (slot_ne (Or.inr (w_53 hw)) (Or.inr (w_57 hw)) (by decide) (t := (.object "java/lang/String")) (t' := .long) (by decide) (by decide))))
  have f429 := (Fw419.other W424 (Or.inr (slot_ne (Or.inr (w_55 hw)) (Or.inr (w_57 hw)) (by decide) (t := (.object "java/util/Optional")) (t' := .long) (by decide) (by decide))))
  obtain ⟨fs, hr, hrun, hended, hE⟩ := X424.leaveW hS406 (by rw [e424]; exact (Nat.le_trans hk406 (Nat.le_trans (Nat.le_trans (Nat.le_of_eq W414.size.symm) (Nat.le_of_eq W419.size.symm)) (Nat.le_of_eq W424.size.symm)))) (v := none) (fun _ => rfl)
  refine ⟨_, _, hTG _ (pre0 _ ?_), hrun, hended, _, _, rfl, ?_, ?_, hE.1, hE.2.1, hE.2.2.1, hE.2.2.2.mono (by decide) (by decide)⟩
  · refine y_aloadN X0 hx 1 (hb hby d8_0) rfl rfl rfl ?_
    refine st405 _ ?_
    show Sx p e below T405 m 4 #[xvr ax, xvr tx, xvr ox, xvj jx, xse] [] _
    refine y_aloadN X405 hx 5 (hb hby d8_4) rfl rfl rfl ?_
    refine y_aloadN X405 hx 6 (hb hby d8_5) rfl rfl rfl ?_
    refine st406 _ ?_
    show Sx p e below T406 m 8 #[xvr ax, xvr tx, xvr ox, xvj jx, xse] [xwr a406, xwr tx, xwr ax] _
    refine st409 _ ?_
    show Sx p e below T409 m 11 #[xvr ax, xvr tx, xvr ox, xvj jx, xse] [xwr tx, xwr ax] _
    refine st411 _ ?_
    show Sx p e below T411 m 14 #[xvr ax, xvr tx, xvr ox, xvj jx, xse] [xwr tx, xwr ax] _
    refine st414 _ ?_
    show Sx p e below T414 m 17 #[xvr ax, xvr tx, xvr ox, xvj jx, xse] [] _
    refine y_aloadN X414 hx 18 (hb hby d8_17) rfl rfl rfl ?_
    refine y_aloadN X414 hx 19 (hb hby d8_18) rfl rfl rfl ?_
    refine st419 _ ?_
    show Sx p e below T419 m 22 #[xvr ax, xvr tx, xvr ox, xvj jx, xse] [] _
    refine y_aloadN X419 hx 23 (hb hby d8_22) rfl rfl rfl ?_
    refine y_lloadN X419 hx 24 (hb hby d8_23) rfl rfl ?_
    refine st424 _ ?_
    show Sx p e below T424 m 27 #[xvr ax, xvr tx, xvr ox, xvj jx, xse] [] _
    exact X424.returnOut hx Bd.returns (hb hby d8_27) hr
  · show QrmSI Z G ax tx ox jx u1 u2 u3 h0 n0 _ T424.heap _
    rw [e424]
    exact ⟨rfl, N424, (((((Keep.refl h0 [ax]).ext E406).wr W414 (Or.inl (List.mem_of_getElem? (i := 0) rfl))).wr W419 (Or.inl (List.mem_of_getElem? (i := 0) rfl))).wr W424 (Or.inl (List.mem_of_getElem? (i := 0) rfl))), f427, f428, f429, Fw424⟩
  · rw [hh]; show CHr Z EL s.vm h0 T424.vm T424.heap; rw [e424]; exact C425.trans (CHv.at X424 hZ406 (own_EW hw) C425.1)
theorem ef_rmAll (m : MethodId) (x0 : Addr)  : entryFrame m #[(.ref x0)] 1 = mkF m 0 #[.val (.ref x0)] [] := by first | (simp [entryFrame, mkF, argsToLocals, Value.category]; done) | rfl
theorem d10_0 : decode prog_12_method_2_code 0 = .ok (.new 18, 3) := by decide +kernel
theorem d10_3 : decode prog_12_method_2_code 3 = .ok (.dup, 1) := by decide +kernel
theorem d10_4 : decode prog_12_method_2_code 4 = .ok (.aload_n 0, 1) := by decide +kernel
theorem d10_5 : decode prog_12_method_2_code 5 = .ok (.invokestatic 31, 3) := by decide +kernel
theorem pd_5 : parseMethodDescriptor "()Ljava/util/Optional;" = some ⟨[], some (.object "java/util/Optional")⟩ := by decide +kernel
theorem d10_8 : decode prog_12_method_2_code 8 = .ok (.ldc2_w 39, 3) := by decide +kernel
theorem d10_11 : decode prog_12_method_2_code 11 = .ok (.invokespecial 41, 3) := by decide +kernel
theorem pd_6 : parseMethodDescriptor "(Ljava/lang/String;Ljava/util/Optional;J)V" = some ⟨[(.object "java/lang/String"), (.object "java/util/Optional"), .long], none⟩ := by decide +kernel
theorem d10_14 : decode prog_12_method_2_code 14 = .ok (.areturn, 1) := by decide +kernel
def QrmAll (Z : State) (G : Gs) (tx : Addr) (h0 : Heap) (n0 : Nat) (v : Option Value) (h : Heap) (L : List Loc) : Prop := ∃ (bx : Addr), v = some (.ref bx) ∧ Fr n0 L ∧ Keep h0 h [] ∧ h0.size ≤ bx ∧ Exa Z h bx "com/example/umq/umq/admin/Selection" ∧ Fld Z h bx "com/example/umq/umq/admin/Selection" "level" "Ljava/lang/String;" (.ref tx) ∧ Fld Z h bx "com/example/umq/umq/admin/Selection" "named" "Ljava/util/Optional;" (.ref G.2) ∧ Fld Z h bx "com/example/umq/umq/admin/Selection" "limit" "J" (.long (9223372036854775807 : Int64))
set_option maxRecDepth 65536 in
set_option maxHeartbeats 40000000 in
theorem rmAll (l : Launch) (Z : State) (a0 : Array Value) (hw : HW a0 Z) (G : Gs) (ST : StartF Z G) (ws : List Jvm.Cond) (tx : Addr) (h0 : Heap) (n0 : Nat) (X00 : Old Z n0 h0) (E2 : Exa Z h0 tx "java/lang/String") :
    MetFree l (⟨"com/example/umq/umq/admin/Selection", "all", "(Ljava/lang/String;)Lcom/example/umq/umq/admin/Selection;"⟩ : MethodName) (head1 (Jvm.Cond.code (⟨"com/example/umq/umq/admin/Selection", "all", "(Ljava/lang/String;)Lcom/example/umq/umq/admin/Selection;"⟩ : MethodName) prog_12_method_2_code 1 (some (.object "com/example/umq/umq/admin/Selection")) :: ws) ({ frames := 2, cells := 3, slots := 87, locals := 31 } : Room)) (fun a U => a = #[(.ref tx)] ∧ Z.Warmed39 U.vm ∧ U.heap = h0 ∧ CHv Z EL U.vm h0) (fun _ _ _ _ _ => True) (fun _ U o U' => ∃ v L, o = .returned v ∧ QrmAll Z G tx h0 n0 v U'.heap L ∧ CHr Z EL U.vm U.heap U'.vm U'.heap ∧ ReturnedEndW U o U' L ({ frames := 2, cells := 3, slots := 87, locals := 31 } : Room).cells ({ frames := 2, cells := 3, slots := 87, locals := 31 } : Room).slots) := by
  refine MetFree.of_bodySF (plainFor_of_name pn_4) hisR ?_
  intro p e s m args below meth c s₁ Bd hml0 hP hK
  obtain ⟨rfl, hZ, hh, HC0⟩ := hP
  have hx := Bd.exec
  have hby := Bd.bytes
  have hml : c.maxLocals = 1 := hml0
  have hown : s.vm.findClass "com/example/umq/umq/admin/Selection" = some m.cls := findClass_of_methodNamed Bd.named
  have hnm := (name_of_methodNamed Bd.named Bd.method).1
  have X0 : Stand p l e ({ frames := 2, cells := 3, slots := 87, locals := 31 } : Room) (s.setVm s.vm) m #[(.ref tx)] below meth c s₁ [] 0 0 := Stand.of_body Bd
  have e0 : s₁.heap = h0 := by rw [← hh, Bd.state]; rfl
  have N0 := Fr.nil n0
  have Z0 : n0 ≤ h0.size := by have q := X00.2.1; rw [X00.1] at q; exact q
  have C0 := CHr.refl HC0
  have hS0 : s.Since s.vm h0.size := (State.WarmedH.refl s).since h0.size
  obtain ⟨TG, hTG, hT2⟩ : ∃ P : State → Prop, (∀ t, P t → Steps p.tables e below (s₁.setTop (entryFrame m #[(.ref tx)] 1)) t) ∧ (∀ t, Steps p.tables e below (s₁.setTop (entryFrame m #[(.ref tx)] 1)) t → P t) := ⟨_, fun t k => k, fun t k => k⟩
  have pre0 : ∀ t, Sx p e below s₁ m 0 #[xvr tx] [] t → TG t := fun t k => hT2 t (castTop (ef_rmAll m tx ) k)
  obtain ⟨T430, h430, X430, e430, E430, A430, D430, -, st430⟩ := newO X0 hx hZ hown (w_35 hw) (w_36 hw) (w_33 hw) e0 (g := (mkF m 0 #[xvr tx] [])) rfl (hb hby d10_0) (by decide) (by decide)
  obtain ⟨b430, g430⟩ : ∃ z, z = h0.size := ⟨_, rfl⟩
  rw [← g430] at A430 D430 st430
  have ch432 := CHr.ext E430 C0.1
  have C431 := C0.trans ch432
  have Fb430_level : Fld Z h430 b430 "com/example/umq/umq/admin/Selection" "level" "Ljava/lang/String;" .null := D430 (Or.inr (w_53 hw)) (ty := (.object "java/lang/String")) (by decide)
  have Fb430_named : Fld Z h430 b430 "com/example/umq/umq/admin/Selection" "named" "Ljava/util/Optional;" .null := D430 (Or.inr (w_55 hw)) (ty := (.object "java/util/Optional")) (by decide)
  have Fb430_limit : Fld Z h430 b430 "com/example/umq/umq/admin/Selection" "limit" "J" (.long (0 : Int64)) := D430 (Or.inr (w_57 hw)) (ty := .long) (by decide)
  have Ol433 : Old Z n0 h430 := (X00.ext E430)
  obtain ⟨_, _, ⟨T434, L434, k434, n434⟩, -, X434, ⟨Lc434, hQ434, l434, y434, z434⟩, st434⟩ := Jvm.LawKit.callS X430 hx (y := (⟨"java/util/Optional", "empty", "()Ljava/util/Optional;"⟩ : MethodName)) hown (mvT hZ (w_37 hw)) (mvT hZ (w_38 hw)) (mvT hZ (w_39 hw)) (mvT hZ (w_40 hw)) (by decide) (backOf (W := 3) (rmOE l Z a0 hw G ST []  h430 n0 Ol433 ) hZ (w_40 hw) (w_39 hw) (by decide) (by decide)) (g := (mkF m 5 #[xvr tx] [xwr tx, xwr b430, xwr b430])) rfl (by rw [hml]; rfl) (argsL := []) (rest := [(.ref tx), (.ref b430), (.ref b430)]) (lenOf pd_5 rfl) rfl (by show 2 * 0 + _ ≤ _; exact Nat.le_of_eq rfl) (hb hby d10_5) (fun _ _ => ⟨rfl, e430, (by decide : 1 + 0 ≤ _), (by decide : 3 + 0 ≤ _)⟩)
  dsimp only [Pt.U, Pt.locs, Pt.cells, Pt.slots] at X434 l434 y434 z434 st434 hQ434
  subst l434 y434 z434
  obtain ⟨rfl, N434q, e434⟩ := hQ434
  have N434 := Fr.app N0 N434q
  have f435 := (E2.ext E430)
  obtain ⟨_, _, ⟨T436, L436, k436, n436⟩, -, X436, hS436, g436, ⟨Lc436, hQ436, l436, y436, z436, CH436⟩, st436⟩ := X434.specialBackS hx (y := (⟨"com/example/umq/umq/admin/Selection", "<init>", "(Ljava/lang/String;Ljava/util/Optional;J)V"⟩ : MethodName)) rfl hown (mvT hZ (w_42 hw)) (mvT hZ (w_43 hw)) (mvT hZ (w_44 hw)) (by decide) (backOfSH (W := 1) (rmSI l Z a0 hw G ST [] b430 tx G.2 (9223372036854775807 : Int64) .null .null (.long (0 : Int64)) h430 n0 Ol433 A430 f435 Fb430_level Fb430_named Fb430_limit (Nat.le_trans Z0 (Nat.le_trans (Nat.le_refl _) (Nat.le_of_eq g430.symm)))) hZ (w_44 hw) (w_33 hw) (by decide) (by decide) (own_EW hw) C431.1) (g := (mkF m 11 #[xvr tx] [xwj (9223372036854775807 : Int64), xwr G.2, xwr tx, xwr b430, xwr b430])) rfl (by rw [hml]; rfl) (Steps.refl _) (a := b430) (argsL := [(.ref tx), (.ref G.2), (.long (9223372036854775807 : Int64))]) (rest := [(.ref b430)]) (lenOf pd_6 rfl) rfl (by show 2 * 0 + _ ≤ _; exact Nat.le_of_eq rfl) (hb hby d10_11) (fun _ _ => ⟨rfl, e434, (by decide : 1 + 2 ≤ _), (by decide : 3 + 84 ≤ _)⟩)
  dsimp only [Pt.U, Pt.locs, Pt.cells, Pt.slots] at X436 l436 y436 z436 st436 hQ436 CH436 hS436 g436
  subst l436 y436 z436
  obtain ⟨hp436, e436⟩ : ∃ z, T436.heap = z := ⟨_, rfl⟩
  rw [e436] at hQ436 CH436 hS436 g436
  rw [e434] at g436
  obtain ⟨X436, hS436, hZ436, hown436⟩ := rebS hS0 E430.1 X436 hS436 g436 hZ hown
  obtain ⟨rfl, N436q, K436, p437, p438, p439, p440⟩ := hQ436
  have N436 := Fr.app N434 N436q
  have C441 := C431.trans CH436
  obtain ⟨fs, hr, hrun, hended, hE⟩ := X436.leaveW hS436 (by rw [e436]; exact (Nat.le_refl _)) (v := some (.ref b430)) (fun h => by rw [Bd.returns] at h; cases h)
  refine ⟨_, _, hTG _ (pre0 _ ?_), hrun, hended, _, _, rfl, ?_, ?_, hE.1, hE.2.1, hE.2.2.1, hE.2.2.2.mono (by decide) (by decide)⟩
  · refine st430 _ ?_
    show Sx p e below T430 m 3 #[xvr tx] [xwr b430] _
    refine y_dup X430 hx 4 (hb hby d10_3) rfl rfl ?_
    refine y_aloadN X430 hx 5 (hb hby d10_4) rfl rfl rfl ?_
    refine st434 _ ?_
    show Sx p e below T434 m 8 #[xvr tx] [xwr G.2, xwr tx, xwr b430, xwr b430] _
    refine X434.ldc2Long hx hown (mvT hZ (w_61 hw)) (g := (mkF m 8 #[xvr tx] [xwr G.2, xwr tx, xwr b430, xwr b430])) rfl (hb hby d10_8) _ ?_
    show Sx p e below T434 m 11 #[xvr tx] [xwj (9223372036854775807 : Int64), xwr G.2, xwr tx, xwr b430, xwr b430] _
    refine st436.trans ?_
    show Sx p e below T436 m 14 #[xvr tx] [xwr b430] _
    exact retOut X436 hx Bd.returns rfl (Or.inr (Or.inr (Or.inr (Or.inr ⟨rfl, rfl, rfl⟩)))) (hb hby d10_14) hr
  · show QrmAll Z G tx h0 n0 _ T436.heap _
    rw [e436]
    exact ⟨b430, rfl, N436, (((Keep.refl h0 []).ext E430).trans K436 (allS (Or.inr (Nat.le_trans (Nat.le_refl _) (Nat.le_of_eq g430.symm))) all0)), (Nat.le_trans (Nat.le_refl _) (Nat.le_of_eq g430.symm)), p437, p438, p439, p440⟩
  · rw [hh]; show CHr Z EL s.vm h0 T436.vm T436.heap; rw [e436]; exact C441.trans (CHv.at X436 hZ436 (own_EW hw) C441.1)
theorem ef_rmLow (m : MethodId) (x0 : Addr) (x1 : Int64)  : entryFrame m #[(.ref x0), (.long x1)] 3 = mkF m 0 #[.val (.ref x0), .val (.long x1), .second] [] := by first | (simp [entryFrame, mkF, argsToLocals, Value.category]; done) | rfl
theorem d6_0 : decode prog_12_method_3_code 0 = .ok (.lload_n 1, 1) := by decide +kernel
theorem d6_1 : decode prog_12_method_3_code 1 = .ok (.lconst 1, 1) := by decide +kernel
theorem d6_2 : decode prog_12_method_3_code 2 = .ok (.lcmp, 1) := by decide +kernel
theorem d6_3 : decode prog_12_method_3_code 3 = .ok (.ifCond .ge 17, 3) := by decide +kernel
theorem d6_20 : decode prog_12_method_3_code 20 = .ok (.new 18, 3) := by decide +kernel
theorem d6_23 : decode prog_12_method_3_code 23 = .ok (.dup, 1) := by decide +kernel
theorem d6_24 : decode prog_12_method_3_code 24 = .ok (.aload_n 0, 1) := by decide +kernel
theorem d6_25 : decode prog_12_method_3_code 25 = .ok (.invokestatic 31, 3) := by decide +kernel
theorem d6_28 : decode prog_12_method_3_code 28 = .ok (.lload_n 1, 1) := by decide +kernel
theorem d6_29 : decode prog_12_method_3_code 29 = .ok (.invokespecial 41, 3) := by decide +kernel
theorem d6_32 : decode prog_12_method_3_code 32 = .ok (.areturn, 1) := by decide +kernel
def QrmLow (Z : State) (G : Gs) (tx : Addr) (jx : Int64) (h0 : Heap) (n0 : Nat) (v : Option Value) (h : Heap) (L : List Loc) : Prop := ∃ (bx : Addr), v = some (.ref bx) ∧ Fr n0 L ∧ Keep h0 h [] ∧ h0.size ≤ bx ∧ Exa Z h bx "com/example/umq/umq/admin/Selection" ∧ Fld Z h bx "com/example/umq/umq/admin/Selection" "level" "Ljava/lang/String;" (.ref tx) ∧ Fld Z h bx "com/example/umq/umq/admin/Selection" "named" "Ljava/util/Optional;" (.ref G.2) ∧ Fld Z h bx "com/example/umq/umq/admin/Selection" "limit" "J" (.long jx)
set_option maxRecDepth 65536 in
set_option maxHeartbeats 40000000 in
theorem rmLow (l : Launch) (Z : State) (a0 : Array Value) (hw : HW a0 Z) (G : Gs) (ST : StartF Z G) (ws : List Jvm.Cond) (tx : Addr) (jx : Int64) (h0 : Heap) (n0 : Nat) (X00 : Old Z n0 h0) (E2 : Exa Z h0 tx "java/lang/String") (hj : ¬ jx < (1 : Int64)) :
    MetFree l (⟨"com/example/umq/umq/admin/Selection", "lowest", "(Ljava/lang/String;J)Lcom/example/umq/umq/admin/Selection;"⟩ : MethodName) (head1 (Jvm.Cond.code (⟨"com/example/umq/umq/admin/Selection", "lowest", "(Ljava/lang/String;J)Lcom/example/umq/umq/admin/Selection;"⟩ : MethodName) prog_12_method_3_code 3 (some (.object "com/example/umq/umq/admin/Selection")) :: ws) ({ frames := 2, cells := 3, slots := 87, locals := 31 } : Room)) (fun a U => a = #[(.ref tx), (.long jx)] ∧ Z.Warmed39 U.vm ∧ U.heap = h0 ∧ CHv Z EL U.vm h0) (fun _ _ _ _ _ => True) (fun _ U o U' => ∃ v L, o = .returned v ∧ QrmLow Z G tx jx h0 n0 v U'.heap L ∧ CHr Z EL U.vm U.heap U'.vm U'.heap ∧ ReturnedEndW U o U' L ({ frames := 2, cells := 3, slots := 87, locals := 31 } : Room).cells ({ frames := 2, cells := 3, slots := 87, locals := 31 } : Room).slots) := by
  refine MetFree.of_bodySF (plainFor_of_name pn_4) hisR ?_
  intro p e s m args below meth c s₁ Bd hml0 hP hK
  obtain ⟨rfl, hZ, hh, HC0⟩ := hP
  have hx := Bd.exec
  have hby := Bd.bytes
  have hml : c.maxLocals = 3 := hml0
  have hown : s.vm.findClass "com/example/umq/umq/admin/Selection" = some m.cls := findClass_of_methodNamed Bd.named
  have hnm := (name_of_methodNamed Bd.named Bd.method).1
  have X0 : Stand p l e ({ frames := 2, cells := 3, slots := 87, locals := 31 } : Room) (s.setVm s.vm) m #[(.ref tx), (.long jx)] below meth c s₁ [] 0 0 := Stand.of_body Bd
  have e0 : s₁.heap = h0 := by rw [← hh, Bd.state]; rfl
  have N0 := Fr.nil n0
  have Z0 : n0 ≤ h0.size := by have q := X00.2.1; rw [X00.1] at q; exact q
  have C0 := CHr.refl HC0
  have hS0 : s.Since s.vm h0.size := (State.WarmedH.refl s).since h0.size
  obtain ⟨TG, hTG, hT2⟩ : ∃ P : State → Prop, (∀ t, P t → Steps p.tables e below (s₁.setTop (entryFrame m #[(.ref tx), (.long jx)] 3)) t) ∧ (∀ t, Steps p.tables e below (s₁.setTop (entryFrame m #[(.ref tx), (.long jx)] 3)) t → P t) := ⟨_, fun t k => k, fun t k => k⟩
  have pre0 : ∀ t, Sx p e below s₁ m 0 #[xvr tx, xvj jx, xse] [] t → TG t := fun t k => hT2 t (castTop (ef_rmLow m tx jx ) k)
  obtain ⟨T442, h442, X442, e442, E442, A442, D442, -, st442⟩ := newO X0 hx hZ hown (w_35 hw) (w_36 hw) (w_33 hw) e0 (g := (mkF m 20 #[xvr tx, xvj jx, xse] [])) rfl (hb hby d6_20) (by decide) (by decide)
  obtain ⟨b442, g442⟩ : ∃ z, z = h0.size := ⟨_, rfl⟩
  rw [← g442] at A442 D442 st442
  have ch444 := CHr.ext E442 C0.1
  have C443 := C0.trans ch444
  have Fb442_level : Fld Z h442 b442 "com/example/umq/umq/admin/Selection" "level" "Ljava/lang/String;" .null := D442 (Or.inr (w_53 hw)) (ty := (.object "java/lang/String")) (by decide)
  have Fb442_named : Fld Z h442 b442 "com/example/umq/umq/admin/Selection" "named" "Ljava/util/Optional;" .null := D442 (Or.inr (w_55 hw)) (ty := (.object "java/util/Optional")) (by decide)
  have Fb442_limit : Fld Z h442 b442 "com/example/umq/umq/admin/Selection" "limit" "J" (.long (0 : Int64)) := D442 (Or.inr (w_57 hw)) (ty := .long) (by decide)
  have Ol445 : Old Z n0 h442 := (X00.ext E442)
  obtain ⟨_, _, ⟨T446, L446, k446, n446⟩, -, X446, ⟨Lc446, hQ446, l446, y446, z446⟩, st446⟩ := Jvm.LawKit.callS X442 hx (y := (⟨"java/util/Optional", "empty", "()Ljava/util/Optional;"⟩ : MethodName)) hown (mvT hZ (w_37 hw)) (mvT hZ (w_38 hw)) (mvT hZ (w_39 hw)) (mvT hZ (w_40 hw)) (by decide) (backOf (W := 3) (rmOE l Z a0 hw G ST []  h442 n0 Ol445 ) hZ (w_40 hw) (w_39 hw) (by decide) (by decide)) (g := (mkF m 25 #[xvr tx, xvj jx, xse] [xwr tx, xwr b442, xwr b442])) rfl (by rw [hml]; rfl) (argsL := []) (rest := [(.ref tx), (.ref b442), (.ref b442)]) (lenOf pd_5 rfl) rfl (by show 2 * 0 + _ ≤ _; exact Nat.le_of_eq rfl) (hb hby d6_25) (fun _ _ => ⟨rfl, e442, (by decide : 1 + 0 ≤ _), (by decide : 3 + 0 ≤ _)⟩)
  dsimp only [Pt.U, Pt.locs, Pt.cells, Pt.slots] at X446 l446 y446 z446 st446 hQ446
  subst l446 y446 z446
  obtain ⟨rfl, N446q, e446⟩ := hQ446
  have N446 := Fr.app N0 N446q
  have f447 := (E2.ext E442)
  obtain ⟨_, _, ⟨T448, L448, k448, n448⟩, -, X448, hS448, g448, ⟨Lc448, hQ448, l448, y448, z448, CH448⟩, st448⟩ := X446.specialBackS hx (y := (⟨"com/example/umq/umq/admin/Selection", "<init>", "(Ljava/lang/String;Ljava/util/Optional;J)V"⟩ : MethodName)) rfl hown (mvT hZ (w_42 hw)) (mvT hZ (w_43 hw)) (mvT hZ (w_44 hw)) (by decide) (backOfSH (W := 1) (rmSI l Z a0 hw G ST [] b442 tx G.2 jx .null .null (.long (0 : Int64)) h442 n0 Ol445 A442 f447 Fb442_level Fb442_named Fb442_limit (Nat.le_trans Z0 (Nat.le_trans (Nat.le_refl _) (Nat.le_of_eq g442.symm)))) hZ (w_44 hw) (w_33 hw) (by decide) (by decide) (own_EW hw) C443.1) (g := (mkF m 29 #[xvr tx, xvj jx, xse] [xwj jx, xwr G.2, xwr tx, xwr b442, xwr b442])) rfl (by rw [hml]; rfl) (Steps.refl _) (a := b442) (argsL := [(.ref tx), (.ref G.2), (.long jx)]) (rest := [(.ref b442)]) (lenOf pd_6 rfl) rfl (by show 2 * 0 + _ ≤ _; exact Nat.le_of_eq rfl) (hb hby d6_29) (fun _ _ => ⟨rfl, e446, (by decide : 1 + 2 ≤ _), (by decide : 3 + 84 ≤ _)⟩)
  dsimp only [Pt.U, Pt.locs, Pt.cells, Pt.slots] at X448 l448 y448 z448 st448 hQ448 CH448 hS448 g448
  subst l448 y448 z448
  obtain ⟨hp448, e448⟩ : ∃ z, T448.heap = z := ⟨_, rfl⟩
  rw [e448] at hQ448 CH448 hS448 g448
  rw [e446] at g448
  obtain ⟨X448, hS448, hZ448, hown448⟩ := rebS hS0 E442.1 X448 hS448 g448 hZ hown
  obtain ⟨rfl, N448q, K448, p449, p450, p451, p452⟩ := hQ448
  have N448 := Fr.app N446 N448q
  have C453 := C443.trans CH448
  obtain ⟨fs, hr, hrun, hended, hE⟩ := X448.leaveW hS448 (by rw [e448]; exact (Nat.le_refl _)) (v := some (.ref b442)) (fun h => by rw [Bd.returns] at h; cases h)
  refine ⟨_, _, hTG _ (pre0 _ ?_), hrun, hended, _, _, rfl, ?_, ?_, hE.1, hE.2.1, hE.2.2.1, hE.2.2.2.mono (by decide) (by decide)⟩
  · refine y_lloadN X0 hx 1 (hb hby d6_0) rfl rfl ?_
    refine XS.lconst X0.here hx rfl (hb hby d6_1) ?_
    show Sx p e below s₁ m 2 #[xvr tx, xvj jx, xse] [xwj (1 : Int64), xwj jx] _
    refine XT.lcmp X0.here hx rfl (hb hby d6_2) rfl ?_
    show Sx p e below s₁ m 3 #[xvr tx, xvj jx, xse] [(.int (XT.cmpL jx (1 : Int64)))] _
    refine y_ifYes X0 hx 20 (hb hby d6_3) (XT.ll_ge_t hj) (by decide) (by decide) ?_
    refine st442 _ ?_
    show Sx p e below T442 m 23 #[xvr tx, xvj jx, xse] [xwr b442] _
    refine y_dup X442 hx 24 (hb hby d6_23) rfl rfl ?_
    refine y_aloadN X442 hx 25 (hb hby d6_24) rfl rfl rfl ?_
    refine st446 _ ?_
    show Sx p e below T446 m 28 #[xvr tx, xvj jx, xse] [xwr G.2, xwr tx, xwr b442, xwr b442] _
    refine y_lloadN X446 hx 29 (hb hby d6_28) rfl rfl ?_
    refine st448.trans ?_
    show Sx p e below T448 m 32 #[xvr tx, xvj jx, xse] [xwr b442] _
    exact retOut X448 hx Bd.returns rfl (Or.inr (Or.inr (Or.inr (Or.inr ⟨rfl, rfl, rfl⟩)))) (hb hby d6_32) hr
  · show QrmLow Z G tx jx h0 n0 _ T448.heap _
    rw [e448]
    exact ⟨b442, rfl, N448, (((Keep.refl h0 []).ext E442).trans K448 (allS (Or.inr (Nat.le_trans (Nat.le_refl _) (Nat.le_of_eq g442.symm))) all0)), (Nat.le_trans (Nat.le_refl _) (Nat.le_of_eq g442.symm)), p449, p450, p451, p452⟩
  · rw [hh]; show CHr Z EL s.vm h0 T448.vm T448.heap; rw [e448]; exact C453.trans (CHv.at X448 hZ448 (own_EW hw) C453.1)
theorem ef_rmLv (m : MethodId) (x0 : Addr)  : entryFrame m #[(.ref x0)] 1 = mkF m 0 #[.val (.ref x0)] [] := by first | (simp [entryFrame, mkF, argsToLocals, Value.category]; done) | rfl
theorem d12_0 : decode prog_12_method_5_code 0 = .ok (.aload_n 0, 1) := by decide +kernel
theorem d12_1 : decode prog_12_method_5_code 1 = .ok (.getfield 17, 3) := by decide +kernel
theorem d12_4 : decode prog_12_method_5_code 4 = .ok (.areturn, 1) := by decide +kernel
def QrmLv (Z : State) (G : Gs) (ax : Addr) (wx : Addr) (h0 : Heap) (n0 : Nat) (v : Option Value) (h : Heap) (L : List Loc) : Prop := v = some (.ref wx) ∧ Fr n0 L ∧ h = h0
set_option maxRecDepth 65536 in
set_option maxHeartbeats 40000000 in
theorem rmLv (l : Launch) (Z : State) (a0 : Array Value) (hw : HW a0 Z) (G : Gs) (ST : StartF Z G) (ws : List Jvm.Cond) (ax : Addr) (wx : Addr) (h0 : Heap) (n0 : Nat) (X00 : Old Z n0 h0) (F1 : Fld Z h0 ax "com/example/umq/umq/admin/Selection" "level" "Ljava/lang/String;" (.ref wx)) :
    MetFree l (⟨"com/example/umq/umq/admin/Selection", "level", "()Ljava/lang/String;"⟩ : MethodName) (head1 (Jvm.Cond.code (⟨"com/example/umq/umq/admin/Selection", "level", "()Ljava/lang/String;"⟩ : MethodName) prog_12_method_5_code 1 (some (.object "java/lang/String")) :: ws) ({ frames := 0, cells := 0, slots := 0, locals := 0 } : Room)) (fun a U => a = #[(.ref ax)] ∧ Z.Warmed39 U.vm ∧ U.heap = h0) (fun _ _ _ _ _ => True) (fun _ U o U' => ∃ v L, o = .returned v ∧ QrmLv Z G ax wx h0 n0 v U'.heap L ∧ FrameEnd U o U' L ({ frames := 0, cells := 0, slots := 0, locals := 0 } : Room).cells ({ frames := 0, cells := 0, slots := 0, locals := 0 } : Room).slots) := by
  refine MetFree.of_bodySF (plainFor_of_name pn_4) hisR ?_
  intro p e s m args below meth c s₁ Bd hml0 hP hK
  obtain ⟨rfl, hZ, hh⟩ := hP
  have hx := Bd.exec
  have hby := Bd.bytes
  have hml : c.maxLocals = 1 := hml0
  have hown : s.vm.findClass "com/example/umq/umq/admin/Selection" = some m.cls := findClass_of_methodNamed Bd.named
  have hnm := (name_of_methodNamed Bd.named Bd.method).1
  have X0 : Stand p l e ({ frames := 0, cells := 0, slots := 0, locals := 0 } : Room) s m #[(.ref ax)] below meth c s₁ [] 0 0 := Stand.of_body Bd
  have e0 : s₁.heap = h0 := by rw [← hh, Bd.state]; rfl
  have N0 := Fr.nil n0
  have Z0 : n0 ≤ h0.size := by have q := X00.2.1; rw [X00.1] at q; exact q
  obtain ⟨TG, hTG, hT2⟩ : ∃ P : State → Prop, (∀ t, P t → Steps p.tables e below (s₁.setTop (entryFrame m #[(.ref ax)] 1)) t) ∧ (∀ t, Steps p.tables e below (s₁.setTop (entryFrame m #[(.ref ax)] 1)) t → P t) := ⟨_, fun t k => k, fun t k => k⟩
  have pre0 : ∀ t, Sx p e below s₁ m 0 #[xvr ax] [] t → TG t := fun t k => hT2 t (castTop (ef_rmLv m ax ) k)
  obtain ⟨T454, X454, e454, st454⟩ := getF X0 hx hZ hown (host := "") (Or.inl (w_52 hw)) Via.refl e0 F1 (g := (mkF m 1 #[xvr ax] [xwr ax])) rfl rfl (hb hby d12_1)
  obtain ⟨fs, hr, hrun, hended, hW, hsame⟩ := X454.leave (v := some (.ref wx)) (fun h => by rw [Bd.returns] at h; cases h)
  refine ⟨_, _, hTG _ (pre0 _ ?_), hrun, hended, _, _, rfl, ?_, ⟨_, rfl⟩, hW, hsame.mono (by decide) (by decide)⟩
  · refine y_aloadN X0 hx 1 (hb hby d12_0) rfl rfl rfl ?_
    refine st454 _ ?_
    show Sx p e below T454 m 4 #[xvr ax] [xwr wx] _
    exact retOut X454 hx Bd.returns rfl (Or.inr (Or.inr (Or.inr (Or.inr ⟨rfl, rfl, rfl⟩)))) (hb hby d12_4) hr
  · show QrmLv Z G ax wx h0 n0 _ T454.heap _
    rw [e454]
    exact ⟨rfl, N0, rfl⟩
theorem ef_rmNm (m : MethodId) (x0 : Addr)  : entryFrame m #[(.ref x0)] 1 = mkF m 0 #[.val (.ref x0)] [] := by first | (simp [entryFrame, mkF, argsToLocals, Value.category]; done) | rfl
theorem d14_0 : decode prog_12_method_6_code 0 = .ok (.aload_n 0, 1) := by decide +kernel
theorem d14_1 : decode prog_12_method_6_code 1 = .ok (.getfield 23, 3) := by decide +kernel
theorem d14_4 : decode prog_12_method_6_code 4 = .ok (.areturn, 1) := by decide +kernel
def QrmNm (Z : State) (G : Gs) (ax : Addr) (wx : Addr) (h0 : Heap) (n0 : Nat) (v : Option Value) (h : Heap) (L : List Loc) : Prop := v = some (.ref wx) ∧ Fr n0 L ∧ h = h0
set_option maxRecDepth 65536 in
set_option maxHeartbeats 40000000 in
theorem rmNm (l : Launch) (Z : State) (a0 : Array Value) (hw : HW a0 Z) (G : Gs) (ST : StartF Z G) (ws : List Jvm.Cond) (ax : Addr) (wx : Addr) (h0 : Heap) (n0 : Nat) (X00 : Old Z n0 h0) (F1 : Fld Z h0 ax "com/example/umq/umq/admin/Selection" "named" "Ljava/util/Optional;" (.ref wx)) :
    MetFree l (⟨"com/example/umq/umq/admin/Selection", "named", "()Ljava/util/Optional;"⟩ : MethodName) (head1 (Jvm.Cond.code (⟨"com/example/umq/umq/admin/Selection", "named", "()Ljava/util/Optional;"⟩ : MethodName) prog_12_method_6_code 1 (some (.object "java/util/Optional")) :: ws) ({ frames := 0, cells := 0, slots := 0, locals := 0 } : Room)) (fun a U => a = #[(.ref ax)] ∧ Z.Warmed39 U.vm ∧ U.heap = h0) (fun _ _ _ _ _ => True) (fun _ U o U' => ∃ v L, o = .returned v ∧ QrmNm Z G ax wx h0 n0 v U'.heap L ∧ FrameEnd U o U' L ({ frames := 0, cells := 0, slots := 0, locals := 0 } : Room).cells ({ frames := 0, cells := 0, slots := 0, locals := 0 } : Room).slots) := by
  refine MetFree.of_bodySF (plainFor_of_name pn_4) hisR ?_
  intro p e s m args below meth c s₁ Bd hml0 hP hK
  obtain ⟨rfl, hZ, hh⟩ := hP
  have hx := Bd.exec
  have hby := Bd.bytes
  have hml : c.maxLocals = 1 := hml0
  have hown : s.vm.findClass "com/example/umq/umq/admin/Selection" = some m.cls := findClass_of_methodNamed Bd.named
  have hnm := (name_of_methodNamed Bd.named Bd.method).1
  have X0 : Stand p l e ({ frames := 0, cells := 0, slots := 0, locals := 0 } : Room) s m #[(.ref ax)] below meth c s₁ [] 0 0 := Stand.of_body Bd
  have e0 : s₁.heap = h0 := by rw [← hh, Bd.state]; rfl
  have N0 := Fr.nil n0
  have Z0 : n0 ≤ h0.size := by have q := X00.2.1; rw [X00.1] at q; exact q
  obtain ⟨TG, hTG, hT2⟩ : ∃ P : State → Prop, (∀ t, P t → Steps p.tables e below (s₁.setTop (entryFrame m #[(.ref ax)] 1)) t) ∧ (∀ t, Steps p.tables e below (s₁.setTop (entryFrame m #[(.ref ax)] 1)) t → P t) := ⟨_, fun t k => k, fun t k => k⟩
  have pre0 : ∀ t, Sx p e below s₁ m 0 #[xvr ax] [] t → TG t := fun t k => hT2 t (castTop (ef_rmNm m ax ) k)
  obtain ⟨T455, X455, e455, st455⟩ := getF X0 hx hZ hown (host := "") (Or.inl (w_54 hw)) Via.refl e0 F1 (g := (mkF m 1 #[xvr ax] [xwr ax])) rfl rfl (hb hby d14_1)
  obtain ⟨fs, hr, hrun, hended, hW, hsame⟩ := X455.leave (v := some (.ref wx)) (fun h => by rw [Bd.returns] at h; cases h)
  refine ⟨_, _, hTG _ (pre0 _ ?_), hrun, hended, _, _, rfl, ?_, ⟨_, rfl⟩, hW, hsame.mono (by decide) (by decide)⟩
  · refine y_aloadN X0 hx 1 (hb hby d14_0) rfl rfl rfl ?_
    refine st455 _ ?_
    show Sx p e below T455 m 4 #[xvr ax] [xwr wx] _
    exact retOut X455 hx Bd.returns rfl (Or.inr (Or.inr (Or.inr (Or.inr ⟨rfl, rfl, rfl⟩)))) (hb hby d14_4) hr
  · show QrmNm Z G ax wx h0 n0 _ T455.heap _
    rw [e455]
    exact ⟨rfl, N0, rfl⟩
theorem ef_rmLi (m : MethodId) (x0 : Addr)  : entryFrame m #[(.ref x0)] 1 = mkF m 0 #[.val (.ref x0)] [] := by first | (simp [entryFrame, mkF, argsToLocals, Value.category]; done) | rfl
theorem d11_0 : decode prog_12_method_7_code 0 = .ok (.aload_n 0, 1) := by decide +kernel
theorem d11_1 : decode prog_12_method_7_code 1 = .ok (.getfield 27, 3) := by decide +kernel
theorem d11_4 : decode prog_12_method_7_code 4 = .ok (.lreturn, 1) := by decide +kernel
def QrmLi (Z : State) (G : Gs) (ax : Addr) (wx : Int64) (h0 : Heap) (n0 : Nat) (v : Option Value) (h : Heap) (L : List Loc) : Prop := v = some (.long wx) ∧ Fr n0 L ∧ h = h0
set_option maxRecDepth 65536 in
set_option maxHeartbeats 40000000 in
theorem rmLi (l : Launch) (Z : State) (a0 : Array Value) (hw : HW a0 Z) (G : Gs) (ST : StartF Z G) (ws : List Jvm.Cond) (ax : Addr) (wx : Int64) (h0 : Heap) (n0 : Nat) (X00 : Old Z n0 h0) (F1 : Fld Z h0 ax "com/example/umq/umq/admin/Selection" "limit" "J" (.long wx)) :
    MetFree l (⟨"com/example/umq/umq/admin/Selection", "limit", "()J"⟩ : MethodName) (head1 (Jvm.Cond.code (⟨"com/example/umq/umq/admin/Selection", "limit", "()J"⟩ : MethodName) prog_12_method_7_code 1 (some .long) :: ws) ({ frames := 0, cells := 0, slots := 0, locals := 0 } : Room)) (fun a U => a = #[(.ref ax)] ∧ Z.Warmed39 U.vm ∧ U.heap = h0) (fun _ _ _ _ _ => True) (fun _ U o U' => ∃ v L, o = .returned v ∧ QrmLi Z G ax wx h0 n0 v U'.heap L ∧ FrameEnd U o U' L ({ frames := 0, cells := 0, slots := 0, locals := 0 } : Room).cells ({ frames := 0, cells := 0, slots := 0, locals := 0 } : Room).slots) := by
  refine MetFree.of_bodySF (plainFor_of_name pn_4) hisR ?_
  intro p e s m args below meth c s₁ Bd hml0 hP hK
  obtain ⟨rfl, hZ, hh⟩ := hP
  have hx := Bd.exec
  have hby := Bd.bytes
  have hml : c.maxLocals = 1 := hml0
  have hown : s.vm.findClass "com/example/umq/umq/admin/Selection" = some m.cls := findClass_of_methodNamed Bd.named
  have hnm := (name_of_methodNamed Bd.named Bd.method).1
  have X0 : Stand p l e ({ frames := 0, cells := 0, slots := 0, locals := 0 } : Room) s m #[(.ref ax)] below meth c s₁ [] 0 0 := Stand.of_body Bd
  have e0 : s₁.heap = h0 := by rw [← hh, Bd.state]; rfl
  have N0 := Fr.nil n0
  have Z0 : n0 ≤ h0.size := by have q := X00.2.1; rw [X00.1] at q; exact q
  obtain ⟨TG, hTG, hT2⟩ : ∃ P : State → Prop, (∀ t, P t → Steps p.tables e below (s₁.setTop (entryFrame m #[(.ref ax)] 1)) t) ∧ (∀ t, Steps p.tables e below (s₁.setTop (entryFrame m #[(.ref ax)] 1)) t → P t) := ⟨_, fun t k => k, fun t k => k⟩
  have pre0 : ∀ t, Sx p e below s₁ m 0 #[xvr ax] [] t → TG t := fun t k => hT2 t (castTop (ef_rmLi m ax ) k)
  obtain ⟨T456, X456, e456, st456⟩ := getF X0 hx hZ hown (host := "") (Or.inl (w_56 hw)) Via.refl e0 F1 (g := (mkF m 1 #[xvr ax] [xwr ax])) rfl rfl (hb hby d11_1)
  obtain ⟨fs, hr, hrun, hended, hW, hsame⟩ := X456.leave (v := some (.long wx)) (fun h => by rw [Bd.returns] at h; cases h)
  refine ⟨_, _, hTG _ (pre0 _ ?_), hrun, hended, _, _, rfl, ?_, ⟨_, rfl⟩, hW, hsame.mono (by decide) (by decide)⟩
  · refine y_aloadN X0 hx 1 (hb hby d11_0) rfl rfl rfl ?_
    refine st456 _ ?_
    show Sx p e below T456 m 4 #[xvr ax] [xwj wx] _
    exact retOut X456 hx Bd.returns rfl (Or.inr (Or.inl ⟨rfl, rfl, _, rfl⟩)) (hb hby d11_4) hr
  · show QrmLi Z G ax wx h0 n0 _ T456.heap _
    rw [e456]
    exact ⟨rfl, N0, rfl⟩
theorem ef_rmEqS (m : MethodId) (x0 : Addr) (x1 : Addr)  : entryFrame m #[(.ref x0), (.ref x1)] 3 = mkF m 0 #[.val (.ref x0), .val (.ref x1), .unset] [] := by first | (simp [entryFrame, mkF, argsToLocals, Value.category]; done) | rfl
theorem d13_0 : decode jdk_42_method_66_code 0 = .ok (.aload_n 0, 1) := by decide +kernel
theorem d13_1 : decode jdk_42_method_66_code 1 = .ok (.aload_n 1, 1) := by decide +kernel
theorem d13_2 : decode jdk_42_method_66_code 2 = .ok (.if_acmp .ne 5, 3) := by decide +kernel
theorem d13_5 : decode jdk_42_method_66_code 5 = .ok (.iconst 1, 1) := by decide +kernel
theorem d13_6 : decode jdk_42_method_66_code 6 = .ok (.ireturn, 1) := by decide +kernel
def QrmEqS (Z : State) (G : Gs) (ax : Addr) (h0 : Heap) (n0 : Nat) (v : Option Value) (h : Heap) (L : List Loc) : Prop := v = some (.int (1 : Int32)) ∧ Fr n0 L ∧ h = h0
set_option maxRecDepth 65536 in
set_option maxHeartbeats 40000000 in
theorem rmEqS (l : Launch) (Z : State) (a0 : Array Value) (hw : HW a0 Z) (G : Gs) (ST : StartF Z G) (ws : List Jvm.Cond) (ax : Addr) (h0 : Heap) (n0 : Nat) (X00 : Old Z n0 h0) :
    MetFree l (⟨"java/lang/String", "equals", "(Ljava/lang/Object;)Z"⟩ : MethodName) (head1 (Jvm.Cond.code (⟨"java/lang/String", "equals", "(Ljava/lang/Object;)Z"⟩ : MethodName) jdk_42_method_66_code 3 (some .boolean) :: ws) ({ frames := 0, cells := 0, slots := 0, locals := 0 } : Room)) (fun a U => a = #[(.ref ax), (.ref ax)] ∧ Z.Warmed39 U.vm ∧ U.heap = h0) (fun _ _ _ _ _ => True) (fun _ U o U' => ∃ v L, o = .returned v ∧ QrmEqS Z G ax h0 n0 v U'.heap L ∧ FrameEnd U o U' L ({ frames := 0, cells := 0, slots := 0, locals := 0 } : Room).cells ({ frames := 0, cells := 0, slots := 0, locals := 0 } : Room).slots) := by
  refine MetFree.of_bodySF (plainFor_of_name pn_1) hisR ?_
  intro p e s m args below meth c s₁ Bd hml0 hP hK
  obtain ⟨rfl, hZ, hh⟩ := hP
  have hx := Bd.exec
  have hby := Bd.bytes
  have hml : c.maxLocals = 3 := hml0
  have hown : s.vm.findClass "java/lang/String" = some m.cls := findClass_of_methodNamed Bd.named
  have hnm := (name_of_methodNamed Bd.named Bd.method).1
  have X0 : Stand p l e ({ frames := 0, cells := 0, slots := 0, locals := 0 } : Room) s m #[(.ref ax), (.ref ax)] below meth c s₁ [] 0 0 := Stand.of_body Bd
  have e0 : s₁.heap = h0 := by rw [← hh, Bd.state]; rfl
  have N0 := Fr.nil n0
  have Z0 : n0 ≤ h0.size := by have q := X00.2.1; rw [X00.1] at q; exact q
  obtain ⟨TG, hTG, hT2⟩ : ∃ P : State → Prop, (∀ t, P t → Steps p.tables e below (s₁.setTop (entryFrame m #[(.ref ax), (.ref ax)] 3)) t) ∧ (∀ t, Steps p.tables e below (s₁.setTop (entryFrame m #[(.ref ax), (.ref ax)] 3)) t → P t) := ⟨_, fun t k => k, fun t k => k⟩
  have pre0 : ∀ t, Sx p e below s₁ m 0 #[xvr ax, xvr ax, xun] [] t → TG t := fun t k => hT2 t (castTop (ef_rmEqS m ax ax ) k)
  obtain ⟨fs, hr, hrun, hended, hW, hsame⟩ := X0.leave (v := some (.int (1 : Int32))) (fun h => by rw [Bd.returns] at h; cases h)
  refine ⟨_, _, hTG _ (pre0 _ ?_), hrun, hended, _, _, rfl, ?_, ⟨_, rfl⟩, hW, hsame.mono (by decide) (by decide)⟩
  · refine y_aloadN X0 hx 1 (hb hby d13_0) rfl rfl rfl ?_
    refine y_aloadN X0 hx 2 (hb hby d13_1) rfl rfl rfl ?_
    refine Jvm.RoadKit.acmp (g := (mkF m 2 #[xvr ax, xvr ax, xun] [xwr ax, xwr ax])) X0 hx rfl rfl rfl (pc0 := 2) (pc' := 5) (same := true) rfl (hb hby d13_2) rfl (decide_eq_true rfl) (by decide) (by decide) ?_
    show Sx p e below s₁ m 5 #[xvr ax, xvr ax, xun] [] _
    refine y_iconst X0 hx (1 : Int32) 6 (hb hby d13_5) rfl rfl ?_
    show Sx p e below s₁ m 6 #[xvr ax, xvr ax, xun] [xwi (1 : Int32)] _
    exact retN X0 hx (t := .boolean) Bd.returns (by simp) (hb hby d13_6) (hr)
  · show QrmEqS Z G ax h0 n0 _ s₁.heap _
    rw [e0]
    exact ⟨rfl, N0, rfl⟩
theorem ef_rmMx (m : MethodId) (x0 : Int64) (x1 : Int64)  : entryFrame m #[(.long x0), (.long x1)] 4 = mkF m 0 #[.val (.long x0), .second, .val (.long x1), .second] [] := by first | (simp [entryFrame, mkF, argsToLocals, Value.category]; done) | rfl
theorem d1_0 : decode jdk_29_method_66_code 0 = .ok (.lload_n 0, 1) := by decide +kernel
theorem d1_1 : decode jdk_29_method_66_code 1 = .ok (.lload_n 2, 1) := by decide +kernel
theorem d1_2 : decode jdk_29_method_66_code 2 = .ok (.lcmp, 1) := by decide +kernel
theorem d1_3 : decode jdk_29_method_66_code 3 = .ok (.ifCond .lt 7, 3) := by decide +kernel
theorem d1_10 : decode jdk_29_method_66_code 10 = .ok (.lload_n 2, 1) := by decide +kernel
theorem d1_11 : decode jdk_29_method_66_code 11 = .ok (.lreturn, 1) := by decide +kernel
theorem d1_6 : decode jdk_29_method_66_code 6 = .ok (.lload_n 0, 1) := by decide +kernel
theorem d1_7 : decode jdk_29_method_66_code 7 = .ok (.goto 4, 3) := by decide +kernel
def QrmMx (Z : State) (G : Gs) (j1 : Int64) (j2 : Int64) (h0 : Heap) (n0 : Nat) (v : Option Value) (h : Heap) (L : List Loc) : Prop := ∃ (rx : Int64), v = some (.long rx) ∧ Fr n0 L ∧ h = h0 ∧ ((rx = j1 ∧ ¬ j1 < j2) ∨ (rx = j2 ∧ j1 < j2))
set_option maxRecDepth 65536 in
set_option maxHeartbeats 40000000 in
theorem rmMx (l : Launch) (Z : State) (a0 : Array Value) (hw : HW a0 Z) (G : Gs) (ST : StartF Z G) (ws : List Jvm.Cond) (j1 : Int64) (j2 : Int64) (h0 : Heap) (n0 : Nat) (X00 : Old Z n0 h0) :
    MetFree l (⟨"java/lang/Math", "max", "(JJ)J"⟩ : MethodName) (head1 (Jvm.Cond.code (⟨"java/lang/Math", "max", "(JJ)J"⟩ : MethodName) jdk_29_method_66_code 4 (some .long) :: ws) ({ frames := 0, cells := 0, slots := 0, locals := 0 } : Room)) (fun a U => a = #[(.long j1), (.long j2)] ∧ Z.Warmed39 U.vm ∧ U.heap = h0) (fun _ _ _ _ _ => True) (fun _ U o U' => ∃ v L, o = .returned v ∧ QrmMx Z G j1 j2 h0 n0 v U'.heap L ∧ FrameEnd U o U' L ({ frames := 0, cells := 0, slots := 0, locals := 0 } : Room).cells ({ frames := 0, cells := 0, slots := 0, locals := 0 } : Room).slots) := by
  refine MetFree.of_bodySF (Jvm.Free.JP.mathPlain rfl (by decide +kernel)) hisR ?_
  intro p e s m args below meth c s₁ Bd hml0 hP hK
  obtain ⟨rfl, hZ, hh⟩ := hP
  have hx := Bd.exec
  have hby := Bd.bytes
  have hml : c.maxLocals = 4 := hml0
  have hown : s.vm.findClass "java/lang/Math" = some m.cls := findClass_of_methodNamed Bd.named
  have hnm := (name_of_methodNamed Bd.named Bd.method).1
  have X0 : Stand p l e ({ frames := 0, cells := 0, slots := 0, locals := 0 } : Room) s m #[(.long j1), (.long j2)] below meth c s₁ [] 0 0 := Stand.of_body Bd
  have e0 : s₁.heap = h0 := by rw [← hh, Bd.state]; rfl
  have N0 := Fr.nil n0
  have Z0 : n0 ≤ h0.size := by have q := X00.2.1; rw [X00.1] at q; exact q
  obtain ⟨TG, hTG, hT2⟩ : ∃ P : State → Prop, (∀ t, P t → Steps p.tables e below (s₁.setTop (entryFrame m #[(.long j1), (.long j2)] 4)) t) ∧ (∀ t, Steps p.tables e below (s₁.setTop (entryFrame m #[(.long j1), (.long j2)] 4)) t → P t) := ⟨_, fun t k => k, fun t k => k⟩
  have pre0 : ∀ t, Sx p e below s₁ m 0 #[xvj j1, xse, xvj j2, xse] [] t → TG t := fun t k => hT2 t (castTop (ef_rmMx m j1 j2 ) k)
  have c457 : ∀ t, Sx p e below s₁ m 3 #[xvj j1, xse, xvj j2, xse] [(.int (XT.cmpL j1 j2))] t → TG t := fun t k => pre0 t (by
    refine y_lloadN X0 hx 1 (hb hby d1_0) rfl rfl ?_
    refine y_lloadN X0 hx 2 (hb hby d1_1) rfl rfl ?_
    refine XT.lcmp X0.here hx rfl (hb hby d1_2) rfl ?_
    exact k)
  by_cases hc458 : j1 < j2
  · obtain ⟨fs, hr, hrun, hended, hW, hsame⟩ := X0.leave (v := some (.long j2)) (fun h => by rw [Bd.returns] at h; cases h)
    refine ⟨_, _, hTG _ (c457 _ ?_), hrun, hended, _, _, rfl, ?_, ⟨_, rfl⟩, hW, hsame.mono (by decide) (by decide)⟩
    · refine y_ifYes X0 hx 10 (hb hby d1_3) (XT.ll_lt_t hc458) (by decide) (by decide) ?_
      refine y_lloadN X0 hx 11 (hb hby d1_10) rfl rfl ?_
      show Sx p e below s₁ m 11 #[xvj j1, xse, xvj j2, xse] [xwj j2] _
      exact retOut X0 hx Bd.returns rfl (Or.inr (Or.inl ⟨rfl, rfl, _, rfl⟩)) (hb hby d1_11) hr
    · show QrmMx Z G j1 j2 h0 n0 _ s₁.heap _
      rw [e0]
      exact ⟨j2, rfl, N0, rfl, (Or.inr ⟨rfl, hc458⟩)⟩
  · obtain ⟨fs, hr, hrun, hended, hW, hsame⟩ := X0.leave (v := some (.long j1)) (fun h => by rw [Bd.returns] at h; cases h)
    refine ⟨_, _, hTG _ (c457 _ ?_), hrun, hended, _, _, rfl, ?_, ⟨_, rfl⟩, hW, hsame.mono (by decide) (by decide)⟩
    · refine y_ifNo X0 hx 6 (hb hby d1_3) (XT.ll_lt_f hc458) rfl ?_
      refine y_lloadN X0 hx 7 (hb hby d1_6) rfl rfl ?_
      refine y_goto X0 hx 11 (hb hby d1_7) (by decide) (by decide) ?_
      show Sx p e below s₁ m 11 #[xvj j1, xse, xvj j2, xse] [xwj j1] _
      exact retOut X0 hx Bd.returns rfl (Or.inr (Or.inl ⟨rfl, rfl, _, rfl⟩)) (hb hby d1_11) hr
    · show QrmMx Z G j1 j2 h0 n0 _ s₁.heap _
      rw [e0]
      exact ⟨j1, rfl, N0, rfl, (Or.inl ⟨rfl, hc458⟩)⟩
theorem ef_rmLev (m : MethodId) (x0 : Int32) (x1 : Int32) (x2 : Int32)  : entryFrame m #[(.int x0), (.int x1), (.int x2)] 6 = mkF m 0 #[.val (.int x0), .val (.int x1), .val (.int x2), .unset, .unset, .unset] [] := by first | (simp [entryFrame, mkF, argsToLocals, Value.category]; done) | rfl
theorem d2_0 : decode method_3_code 0 = .ok (.iload_n 0, 1) := by decide +kernel
theorem d2_1 : decode method_3_code 1 = .ok (.sipush 255, 3) := by decide +kernel
theorem d2_4 : decode method_3_code 4 = .ok (.iand, 1) := by decide +kernel
theorem d2_5 : decode method_3_code 5 = .ok (.i2c, 1) := by decide +kernel
theorem d2_6 : decode method_3_code 6 = .ok (.istore_n 3, 1) := by decide +kernel
theorem d2_7 : decode method_3_code 7 = .ok (.iload_n 1, 1) := by decide +kernel
theorem d2_8 : decode method_3_code 8 = .ok (.sipush 255, 3) := by decide +kernel
theorem d2_11 : decode method_3_code 11 = .ok (.iand, 1) := by decide +kernel
theorem d2_12 : decode method_3_code 12 = .ok (.i2c, 1) := by decide +kernel
theorem d2_13 : decode method_3_code 13 = .ok (.istore 4, 2) := by decide +kernel
theorem d2_15 : decode method_3_code 15 = .ok (.iload_n 2, 1) := by decide +kernel
theorem d2_16 : decode method_3_code 16 = .ok (.iconst 3, 1) := by decide +kernel
theorem d2_17 : decode method_3_code 17 = .ok (.iand, 1) := by decide +kernel
theorem d2_18 : decode method_3_code 18 = .ok (.istore 5, 2) := by decide +kernel
theorem d2_20 : decode method_3_code 20 = .ok (.iload 5, 2) := by decide +kernel
theorem d2_22 : decode method_3_code 22 = .ok (.ifCond .ne 14, 3) := by decide +kernel
theorem d2_25 : decode method_3_code 25 = .ok (.new 41, 3) := by decide +kernel
theorem d2_28 : decode method_3_code 28 = .ok (.dup, 1) := by decide +kernel
theorem d2_29 : decode method_3_code 29 = .ok (.iconst 0, 1) := by decide +kernel
theorem d2_30 : decode method_3_code 30 = .ok (.newarray .char, 2) := by decide +kernel
theorem d2_32 : decode method_3_code 32 = .ok (.invokespecial 50, 3) := by decide +kernel
theorem pd_7 : parseMethodDescriptor "([C)V" = some ⟨[(.array .char)], none⟩ := by decide +kernel
theorem d2_35 : decode method_3_code 35 = .ok (.areturn, 1) := by decide +kernel
theorem d2_36 : decode method_3_code 36 = .ok (.iload 5, 2) := by decide +kernel
theorem d2_38 : decode method_3_code 38 = .ok (.iconst 1, 1) := by decide +kernel
theorem d2_39 : decode method_3_code 39 = .ok (.if_icmp .ne 8, 3) := by decide +kernel
theorem d2_42 : decode method_3_code 42 = .ok (.iload_n 3, 1) := by decide +kernel
theorem d2_43 : decode method_3_code 43 = .ok (.invokestatic 53, 3) := by decide +kernel
theorem pd_8 : parseMethodDescriptor "(C)Ljava/lang/String;" = some ⟨[.char], some (.object "java/lang/String")⟩ := by decide +kernel
theorem d2_46 : decode method_3_code 46 = .ok (.areturn, 1) := by decide +kernel
theorem d2_47 : decode method_3_code 47 = .ok (.iload 5, 2) := by decide +kernel
theorem d2_49 : decode method_3_code 49 = .ok (.iconst 2, 1) := by decide +kernel
theorem d2_50 : decode method_3_code 50 = .ok (.if_icmp .ne 23, 3) := by decide +kernel
theorem d2_53 : decode method_3_code 53 = .ok (.new 41, 3) := by decide +kernel
theorem d2_56 : decode method_3_code 56 = .ok (.dup, 1) := by decide +kernel
theorem d2_57 : decode method_3_code 57 = .ok (.iconst 2, 1) := by decide +kernel
theorem d2_58 : decode method_3_code 58 = .ok (.newarray .char, 2) := by decide +kernel
theorem d2_60 : decode method_3_code 60 = .ok (.dup, 1) := by decide +kernel
theorem d2_61 : decode method_3_code 61 = .ok (.iconst 0, 1) := by decide +kernel
theorem d2_62 : decode method_3_code 62 = .ok (.iload_n 3, 1) := by decide +kernel
theorem d2_63 : decode method_3_code 63 = .ok (.castore, 1) := by decide +kernel
theorem d2_64 : decode method_3_code 64 = .ok (.dup, 1) := by decide +kernel
theorem d2_65 : decode method_3_code 65 = .ok (.iconst 1, 1) := by decide +kernel
theorem d2_66 : decode method_3_code 66 = .ok (.iload 4, 2) := by decide +kernel
theorem d2_68 : decode method_3_code 68 = .ok (.castore, 1) := by decide +kernel
theorem d2_69 : decode method_3_code 69 = .ok (.invokespecial 50, 3) := by decide +kernel
theorem d2_72 : decode method_3_code 72 = .ok (.areturn, 1) := by decide +kernel
theorem d2_73 : decode method_3_code 73 = .ok (.new 41, 3) := by decide +kernel
theorem d2_76 : decode method_3_code 76 = .ok (.dup, 1) := by decide +kernel
theorem d2_77 : decode method_3_code 77 = .ok (.iconst 3, 1) := by decide +kernel
theorem d2_78 : decode method_3_code 78 = .ok (.newarray .char, 2) := by decide +kernel
theorem d2_80 : decode method_3_code 80 = .ok (.dup, 1) := by decide +kernel
theorem d2_81 : decode method_3_code 81 = .ok (.iconst 0, 1) := by decide +kernel
theorem d2_82 : decode method_3_code 82 = .ok (.iload 4, 2) := by decide +kernel
theorem d2_84 : decode method_3_code 84 = .ok (.castore, 1) := by decide +kernel
theorem d2_85 : decode method_3_code 85 = .ok (.dup, 1) := by decide +kernel
theorem d2_86 : decode method_3_code 86 = .ok (.iconst 1, 1) := by decide +kernel
theorem d2_87 : decode method_3_code 87 = .ok (.iload_n 3, 1) := by decide +kernel
theorem d2_88 : decode method_3_code 88 = .ok (.castore, 1) := by decide +kernel
theorem d2_89 : decode method_3_code 89 = .ok (.dup, 1) := by decide +kernel
theorem d2_90 : decode method_3_code 90 = .ok (.iconst 2, 1) := by decide +kernel
theorem d2_91 : decode method_3_code 91 = .ok (.iload_n 3, 1) := by decide +kernel
theorem d2_92 : decode method_3_code 92 = .ok (.castore, 1) := by decide +kernel
theorem d2_93 : decode method_3_code 93 = .ok (.invokespecial 50, 3) := by decide +kernel
theorem d2_96 : decode method_3_code 96 = .ok (.areturn, 1) := by decide +kernel
theorem pn_5 : plainName "com/example/umq/umq/admin/SelectionLowestPinLaw" = true := by first | (simp [plainName, overriddenIn]; done) | decide +kernel
def QrmLev (Z : State) (G : Gs) (px : Int32) (qx : Int32) (rx : Int32) (h0 : Heap) (n0 : Nat) (v : Option Value) (h : Heap) (L : List Loc) : Prop := ∃ (s6 : Addr), v = some (.ref s6) ∧ Fr n0 L ∧ Keep h0 h [] ∧ Exa Z h s6 "java/lang/String"
set_option maxRecDepth 65536 in
set_option maxHeartbeats 40000000 in
theorem rmLev (l : Launch) (Z : State) (a0 : Array Value) (hw : HW a0 Z) (G : Gs) (ST : StartF Z G) (ws : List Jvm.Cond) (px : Int32) (qx : Int32) (rx : Int32) (h0 : Heap) (n0 : Nat) (X00 : Old Z n0 h0) :
    MetFree l (⟨"com/example/umq/umq/admin/SelectionLowestPinLaw", "level", "(III)Ljava/lang/String;"⟩ : MethodName) (head1 (Jvm.Cond.code (⟨"com/example/umq/umq/admin/SelectionLowestPinLaw", "level", "(III)Ljava/lang/String;"⟩ : MethodName) method_3_code 6 (some (.object "java/lang/String")) :: ws) ({ frames := 4, cells := 4, slots := 10, locals := 66 } : Room)) (fun a U => a = #[(.int px), (.int qx), (.int rx)] ∧ Z.Warmed39 U.vm ∧ U.heap = h0 ∧ CHv Z EL U.vm h0) (fun _ _ _ _ _ => True) (fun _ U o U' => ∃ v L, o = .returned v ∧ QrmLev Z G px qx rx h0 n0 v U'.heap L ∧ CHr Z EL U.vm U.heap U'.vm U'.heap ∧ ReturnedEndW U o U' L ({ frames := 4, cells := 4, slots := 10, locals := 66 } : Room).cells ({ frames := 4, cells := 4, slots := 10, locals := 66 } : Room).slots) := by
  refine MetFree.of_bodySF (plainFor_of_name pn_5) hisR ?_
  intro p e s m args below meth c s₁ Bd hml0 hP hK
  obtain ⟨rfl, hZ, hh, HC0⟩ := hP
  have hx := Bd.exec
  have hby := Bd.bytes
  have hml : c.maxLocals = 6 := hml0
  have hown : s.vm.findClass "com/example/umq/umq/admin/SelectionLowestPinLaw" = some m.cls := findClass_of_methodNamed Bd.named
  have hnm := (name_of_methodNamed Bd.named Bd.method).1
  have X0 : Stand p l e ({ frames := 4, cells := 4, slots := 10, locals := 66 } : Room) (s.setVm s.vm) m #[(.int px), (.int qx), (.int rx)] below meth c s₁ [] 0 0 := Stand.of_body Bd
  have e0 : s₁.heap = h0 := by rw [← hh, Bd.state]; rfl
  have N0 := Fr.nil n0
  have Z0 : n0 ≤ h0.size := by have q := X00.2.1; rw [X00.1] at q; exact q
  have C0 := CHr.refl HC0
  have hS0 : s.Since s.vm h0.size := (State.WarmedH.refl s).since h0.size
  obtain ⟨TG, hTG, hT2⟩ : ∃ P : State → Prop, (∀ t, P t → Steps p.tables e below (s₁.setTop (entryFrame m #[(.int px), (.int qx), (.int rx)] 6)) t) ∧ (∀ t, Steps p.tables e below (s₁.setTop (entryFrame m #[(.int px), (.int qx), (.int rx)] 6)) t → P t) := ⟨_, fun t k => k, fun t k => k⟩
  have pre0 : ∀ t, Sx p e below s₁ m 0 #[xvi px, xvi qx, xvi rx, xun, xun, xun] [] t → TG t := fun t k => hT2 t (castTop (ef_rmLev m px qx rx ) k)
  have c459 : ∀ t, Sx p e below s₁ m 18 #[xvi px, xvi qx, xvi rx, xvi (px &&& (255 : Int32)), xvi (qx &&& (255 : Int32)), xun] [xwi (rx &&& (3 : Int32))] t → TG t := fun t k => pre0 t (by
    refine y_iloadN X0 hx 1 (hb hby d2_0) rfl rfl ?_
    refine y_sipush X0 hx (255 : Int32) 4 (hb hby d2_1) rfl rfl ?_
    refine y_iand X0 hx 5 (hb hby d2_4) rfl ?_
    refine XS.i2c X0.here hx rfl (hb hby d2_5) rfl ?_
    show Sx p e below s₁ m 6 #[xvi px, xvi qx, xvi rx, xun, xun, xun] [xwi ((px &&& (255 : Int32)).toUInt32.toUInt16.toUInt32.toInt32)] _
    rw [own_i2c px]
    refine XS.istoreN X0.here hx rfl (hb hby d2_6) rfl (l' := #[xvi px, xvi qx, xvi rx, xvi (px &&& (255 : Int32)), xun, xun]) rfl ?_
    show Sx p e below s₁ m 7 #[xvi px, xvi qx, xvi rx, xvi (px &&& (255 : Int32)), xun, xun] [] _
    refine y_iloadN X0 hx 8 (hb hby d2_7) rfl rfl ?_
    refine y_sipush X0 hx (255 : Int32) 11 (hb hby d2_8) rfl rfl ?_
    refine y_iand X0 hx 12 (hb hby d2_11) rfl ?_
    refine XS.i2c X0.here hx rfl (hb hby d2_12) rfl ?_
    show Sx p e below s₁ m 13 #[xvi px, xvi qx, xvi rx, xvi (px &&& (255 : Int32)), xun, xun] [xwi ((qx &&& (255 : Int32)).toUInt32.toUInt16.toUInt32.toInt32)] _
    rw [own_i2c qx]
    refine XS.istore X0.here hx rfl (hb hby d2_13) rfl (l' := #[xvi px, xvi qx, xvi rx, xvi (px &&& (255 : Int32)), xvi (qx &&& (255 : Int32)), xun]) rfl ?_
    show Sx p e below s₁ m 15 #[xvi px, xvi qx, xvi rx, xvi (px &&& (255 : Int32)), xvi (qx &&& (255 : Int32)), xun] [] _
    refine y_iloadN X0 hx 16 (hb hby d2_15) rfl rfl ?_
    refine y_iconst X0 hx (3 : Int32) 17 (hb hby d2_16) rfl rfl ?_
    refine y_iand X0 hx 18 (hb hby d2_17) rfl ?_
    exact k)
  rcases own_and3 rx with hk460 | hk460 | hk460 | hk460
  · obtain ⟨T461, h461, X461, e461, E461, A461, D461, -, st461⟩ := newO X0 hx hZ hown (w_9 hw) (w_10 hw) (w_11 hw) e0 (g := (mkF m 25 #[xvi px, xvi qx, xvi rx, xvi (px &&& (255 : Int32)), xvi (qx &&& (255 : Int32)), xvi (0 : Int32)] [])) rfl (hb hby d2_25) (by decide) (by decide)
    obtain ⟨b461, g461⟩ : ∃ z, z = h0.size := ⟨_, rfl⟩
    rw [← g461] at A461 D461 st461
    have ch463 := CHr.ext E461 C0.1
    have C462 := C0.trans ch463
    have Fb461_value : Fld Z h461 b461 "java/lang/String" "value" "[B" .null := D461 (Or.inr (w_25 hw)) (ty := (.array .byte)) (by decide)
    have Fb461_coder : Fld Z h461 b461 "java/lang/String" "coder" "B" (.int (0 : Int32)) := D461 (Or.inr (w_26 hw)) (ty := .byte) (by decide)
    obtain ⟨T464, h464, k464, X464, e464, E464, A464, st464⟩ := newP (aty := .char) X461 hx hZ (w_12 hw) e461 (g := (mkF m 30 #[xvi px, xvi qx, xvi rx, xvi (px &&& (255 : Int32)), xvi (qx &&& (255 : Int32)), xvi (0 : Int32)] [xwi (0 : Int32), xwr b461, xwr b461])) rfl (hb hby d2_30) rfl (by decide) (cap := 0) (by decide) (by decide) (by decide) (by decide)
    obtain ⟨b464, g464⟩ : ∃ z, z = h461.size := ⟨_, rfl⟩
    rw [← g464] at A464 st464
    have ch466 := CHr.ext E464 C462.1
    have C465 := C462.trans ch466
    have V464 : Arv Z h464 b464 k464 .char (0 : Int32) [] (.int (0 : Int32)) := Arv.new A464 (by decide)
    have f467 := (A461.ext E464)
    have f468 := (Fb461_value.ext E464)
    have f469 := (Fb461_coder.ext E464)
    have Ol470 : Old Z n0 h464 := ((X00.ext E461).ext E464)
    obtain ⟨_, _, ⟨T471, L471, k471, n471⟩, -, X471, hS471, g471, ⟨Lc471, hQ471, l471, y471, z471, CH471⟩, st471⟩ := X464.specialBackS hx (y := (⟨"java/lang/String", "<init>", "([C)V"⟩ : MethodName)) rfl hown (mvT hZ (w_13 hw)) (mvT hZ (w_14 hw)) (mvT hZ (w_15 hw)) (by decide) (backOfSH (W := 1) (rmE1 l Z a0 hw G ST [] b461 b464 k464 ([] : List Value) (.int (0 : Int32)) h464 n0 Ol470 f467 f468 f469 (Nat.le_trans Z0 (Nat.le_trans (Nat.le_refl _) (Nat.le_of_eq g461.symm))) V464) hZ (w_15 hw) (w_11 hw) (by decide) (by decide) (own_EW hw) C465.1) (g := (mkF m 32 #[xvi px, xvi qx, xvi rx, xvi (px &&& (255 : Int32)), xvi (qx &&& (255 : Int32)), xvi (0 : Int32)] [xwr b464, xwr b461, xwr b461])) rfl (by rw [hml]; rfl) (Steps.refl _) (a := b461) (argsL := [(.ref b464)]) (rest := [(.ref b461)]) (lenOf pd_7 rfl) rfl (by show 2 * 0 + _ ≤ _; exact Nat.le_of_eq rfl) (hb hby d2_32) (fun _ _ => ⟨rfl, e464, (by decide : 2 + 2 ≤ _), (by decide : 4 + 4 ≤ _)⟩)
    dsimp only [Pt.U, Pt.locs, Pt.cells, Pt.slots] at X471 l471 y471 z471 st471 hQ471 CH471 hS471 g471
    subst l471 y471 z471
    obtain ⟨hp471, e471⟩ : ∃ z, T471.heap = z := ⟨_, rfl⟩
    rw [e471] at hQ471 CH471 hS471 g471
    rw [e464] at g471
    obtain ⟨X471, hS471, hZ471, hown471⟩ := rebS hS0 (Nat.le_trans E461.1 E464.1) X471 hS471 g471 hZ hown
    obtain ⟨o472, o473, rfl, N471q, K471, p474, p475, p476, p477⟩ := hQ471
    have N471 := Fr.app N0 N471q
    have C478 := C465.trans CH471
    obtain ⟨fs, hr, hrun, hended, hE⟩ := X471.leaveW hS471 (by rw [e471]; exact (Nat.le_refl _)) (v := some (.ref b461)) (fun h => by rw [Bd.returns] at h; cases h)
    refine ⟨_, _, hTG _ (c459 _ ?_), hrun, hended, _, _, rfl, ?_, ?_, hE.1, hE.2.1, hE.2.2.1, hE.2.2.2.mono (by decide) (by decide)⟩
    · rw [hk460]
      refine XS.istore X0.here hx rfl (hb hby d2_18) rfl (l' := #[xvi px, xvi qx, xvi rx, xvi (px &&& (255 : Int32)), xvi (qx &&& (255 : Int32)), xvi (0 : Int32)]) rfl ?_
      show Sx p e below s₁ m 20 #[xvi px, xvi qx, xvi rx, xvi (px &&& (255 : Int32)), xvi (qx &&& (255 : Int32)), xvi (0 : Int32)] [] _
      refine y_iload X0 hx 22 (hb hby d2_20) rfl rfl ?_
      refine y_ifNo X0 hx 25 (hb hby d2_22) (XT.i0_ne_f (by decide)) rfl ?_
      refine st461 _ ?_
      show Sx p e below T461 m 28 #[xvi px, xvi qx, xvi rx, xvi (px &&& (255 : Int32)), xvi (qx &&& (255 : Int32)), xvi (0 : Int32)] [xwr b461] _
      refine y_dup X461 hx 29 (hb hby d2_28) rfl rfl ?_
      refine y_iconst X461 hx (0 : Int32) 30 (hb hby d2_29) rfl rfl ?_
      refine st464 _ ?_
      show Sx p e below T464 m 32 #[xvi px, xvi qx, xvi rx, xvi (px &&& (255 : Int32)), xvi (qx &&& (255 : Int32)), xvi (0 : Int32)] [xwr b464, xwr b461, xwr b461] _
      refine st471.trans ?_
      show Sx p e below T471 m 35 #[xvi px, xvi qx, xvi rx, xvi (px &&& (255 : Int32)), xvi (qx &&& (255 : Int32)), xvi (0 : Int32)] [xwr b461] _
      exact retOut X471 hx Bd.returns rfl (Or.inr (Or.inr (Or.inr (Or.inr ⟨rfl, rfl, rfl⟩)))) (hb hby d2_35) hr
    · show QrmLev Z G px qx rx h0 n0 _ T471.heap _
      rw [e471]
      exact ⟨b461, rfl, N471, ((((Keep.refl h0 []).ext E461).ext E464).trans K471 (allS (Or.inr (Nat.le_trans (Nat.le_refl _) (Nat.le_of_eq g461.symm))) all0)), p474⟩
    · rw [hh]; show CHr Z EL s.vm h0 T471.vm T471.heap; rw [e471]; exact C478.trans (CHv.at X471 hZ471 (own_EW hw) C478.1)
  · obtain ⟨_, _, ⟨T479, L479, k479, n479⟩, -, X479, ⟨Lc479, hQ479, l479, y479, z479⟩, st479⟩ := Jvm.LawKit.callS X0 hx (y := (⟨"java/lang/String", "valueOf", "(C)Ljava/lang/String;"⟩ : MethodName)) hown (mvT hZ (w_93 hw)) (mvT hZ (w_94 hw)) (mvT hZ (w_11 hw)) (mvT hZ (w_95 hw)) (by decide) (backOf (W := 0) (rmVO l Z a0 hw G ST [] (px &&& (255 : Int32)) h0 n0 X00 (own_c255 px).2) hZ (w_95 hw) (w_11 hw) (by decide) (by decide)) (g := (mkF m 43 #[xvi px, xvi qx, xvi rx, xvi (px &&& (255 : Int32)), xvi (qx &&& (255 : Int32)), xvi (1 : Int32)] [xwi (px &&& (255 : Int32))])) rfl (by rw [hml]; rfl) (argsL := [(.int (px &&& (255 : Int32)))]) (rest := []) (lenOf pd_8 rfl) rfl (by show 2 * 0 + _ ≤ _; exact Nat.le_of_eq rfl) (hb hby d2_43) (fun _ _ => ⟨rfl, e0, (by decide : 0 + 2 ≤ _), (by decide : 0 + 5 ≤ _)⟩)
    dsimp only [Pt.U, Pt.locs, Pt.cells, Pt.slots] at X479 l479 y479 z479 st479 hQ479
    subst l479 y479 z479
    obtain ⟨hp479, e479⟩ : ∃ z, T479.heap = z := ⟨_, rfl⟩
    rw [e479] at hQ479
    obtain ⟨o480, o481, o482, rfl, N479q, K479, p483, p484, p485, p486, p487, p488⟩ := hQ479
    have N479 := Fr.app N0 N479q
    have ch490 := CHr.keep K479 sf0 C0.1
    have C489 := C0.trans ch490
    obtain ⟨fs, hr, hrun, hended, hE⟩ := X479.leaveW hS0 (by rw [e479]; exact K479.1) (v := some (.ref o480)) (fun h => by rw [Bd.returns] at h; cases h)
    refine ⟨_, _, hTG _ (c459 _ ?_), hrun, hended, _, _, rfl, ?_, ?_, hE.1, hE.2.1, hE.2.2.1, hE.2.2.2.mono (by decide) (by decide)⟩
    · rw [hk460]
      refine XS.istore X0.here hx rfl (hb hby d2_18) rfl (l' := #[xvi px, xvi qx, xvi rx, xvi (px &&& (255 : Int32)), xvi (qx &&& (255 : Int32)), xvi (1 : Int32)]) rfl ?_
      show Sx p e below s₁ m 20 #[xvi px, xvi qx, xvi rx, xvi (px &&& (255 : Int32)), xvi (qx &&& (255 : Int32)), xvi (1 : Int32)] [] _
      refine y_iload X0 hx 22 (hb hby d2_20) rfl rfl ?_
      refine y_ifYes X0 hx 36 (hb hby d2_22) (XT.i0_ne_t (by decide)) (by decide) (by decide) ?_
      refine y_iload X0 hx 38 (hb hby d2_36) rfl rfl ?_
      refine y_iconst X0 hx (1 : Int32) 39 (hb hby d2_38) rfl rfl ?_
      refine y_icmpNo X0 hx 42 (hb hby d2_39) (XT.ii_ne_f (by decide)) rfl ?_
      refine y_iloadN X0 hx 43 (hb hby d2_42) rfl rfl ?_
      refine st479 _ ?_
      show Sx p e below T479 m 46 #[xvi px, xvi qx, xvi rx, xvi (px &&& (255 : Int32)), xvi (qx &&& (255 : Int32)), xvi (1 : Int32)] [xwr o480] _
      exact retOut X479 hx Bd.returns rfl (Or.inr (Or.inr (Or.inr (Or.inr ⟨rfl, rfl, rfl⟩)))) (hb hby d2_46) hr
    · show QrmLev Z G px qx rx h0 n0 _ T479.heap _
      rw [e479]
      exact ⟨o480, rfl, N479, ((Keep.refl h0 []).trans K479 all0), p484⟩
    · rw [hh]; show CHr Z EL s.vm h0 T479.vm T479.heap; rw [e479]; exact C489.trans (CHv.at X479 hZ (own_EW hw) C489.1)
  · obtain ⟨T491, h491, X491, e491, E491, A491, D491, -, st491⟩ := newO X0 hx hZ hown (w_9 hw) (w_10 hw) (w_11 hw) e0 (g := (mkF m 53 #[xvi px, xvi qx, xvi rx, xvi (px &&& (255 : Int32)), xvi (qx &&& (255 : Int32)), xvi (2 : Int32)] [])) rfl (hb hby d2_53) (by decide) (by decide)
    obtain ⟨b491, g491⟩ : ∃ z, z = h0.size := ⟨_, rfl⟩
    rw [← g491] at A491 D491 st491
    have ch493 := CHr.ext E491 C0.1
    have C492 := C0.trans ch493
    have Fb491_value : Fld Z h491 b491 "java/lang/String" "value" "[B" .null := D491 (Or.inr (w_25 hw)) (ty := (.array .byte)) (by decide)
    have Fb491_coder : Fld Z h491 b491 "java/lang/String" "coder" "B" (.int (0 : Int32)) := D491 (Or.inr (w_26 hw)) (ty := .byte) (by decide)
    obtain ⟨T494, h494, k494, X494, e494, E494, A494, st494⟩ := newP (aty := .char) X491 hx hZ (w_12 hw) e491 (g := (mkF m 58 #[xvi px, xvi qx, xvi rx, xvi (px &&& (255 : Int32)), xvi (qx &&& (255 : Int32)), xvi (2 : Int32)] [xwi (2 : Int32), xwr b491, xwr b491])) rfl (hb hby d2_58) rfl (by decide) (cap := 2) (by decide) (by decide) (by decide) (by decide)
    obtain ⟨b494, g494⟩ : ∃ z, z = h491.size := ⟨_, rfl⟩
    rw [← g494] at A494 st494
    have ch496 := CHr.ext E494 C492.1
    have C495 := C492.trans ch496
    have V494 : Arv Z h494 b494 k494 .char (2 : Int32) [(.int (0 : Int32)), (.int (0 : Int32))] (.int (0 : Int32)) := (Arv.new A494 (by decide)).pad (pad_rep [] (.int (0 : Int32)) 2)
    obtain ⟨cl497, Ar497, q497, S497, M497, H497, G497⟩ := id V494
    have in497 : ¬ ((0 : Int32) < 0 ∨ cl497.slots.size ≤ ((0 : Int32)).toNatClampNeg) := inb_of S497 ⟨by decide, by decide⟩
    obtain ⟨T498, h498, X498, e498, W498, st498⟩ := stC X494 hx hZ e494 Ar497 (j := (0 : Int32)) in497 (g := (mkF m 63 #[xvi px, xvi qx, xvi rx, xvi (px &&& (255 : Int32)), xvi (qx &&& (255 : Int32)), xvi (2 : Int32)] [xwi (px &&& (255 : Int32)), xwi (0 : Int32), xwr b494, xwr b494, xwr b491, xwr b491])) rfl rfl (hb hby d2_63)
    have ch500 := CHr.wr W498 (Safe.arv hZ.alike V494 (by decide)) C495.1
    have C499 := C495.trans ch500
    have V498 : Arv Z h498 b494 k494 .char (2 : Int32) [(.int (px &&& (255 : Int32))), (.int (0 : Int32))] (.int (0 : Int32)) := by have q := Arv.set Ar497 q497 S497 M497 H497 G497 (fits_nar_char _) W498 0 rfl (Nat.le_of_ble_eq_true rfl); rw [own_narc (own_c255 px)] at q; exact q
    have N498 := Fr.snoc X498 N0 (Nat.le_trans Z0 (Nat.le_trans E491.1 (Nat.le_of_eq g494.symm)))
    obtain ⟨cl501, Ar501, q501, S501, M501, H501, G501⟩ := id V498
    have in501 : ¬ ((1 : Int32) < 0 ∨ cl501.slots.size ≤ ((1 : Int32)).toNatClampNeg) := inb_of S501 ⟨by decide, by decide⟩
    obtain ⟨T502, h502, X502, e502, W502, st502⟩ := stC X498 hx hZ e498 Ar501 (j := (1 : Int32)) in501 (g := (mkF m 68 #[xvi px, xvi qx, xvi rx, xvi (px &&& (255 : Int32)), xvi (qx &&& (255 : Int32)), xvi (2 : Int32)] [xwi (qx &&& (255 : Int32)), xwi (1 : Int32), xwr b494, xwr b494, xwr b491, xwr b491])) rfl rfl (hb hby d2_68)
    have ch504 := CHr.wr W502 (Safe.arv hZ.alike V498 (by decide)) C499.1
    have C503 := C499.trans ch504
    have V502 : Arv Z h502 b494 k494 .char (2 : Int32) [(.int (px &&& (255 : Int32))), (.int (qx &&& (255 : Int32)))] (.int (0 : Int32)) := by have q := Arv.set Ar501 q501 S501 M501 H501 G501 (fits_nar_char _) W502 1 rfl (Nat.le_of_ble_eq_true rfl); rw [own_narc (own_c255 qx)] at q; exact q
    have N502 := Fr.snoc X502 N498 (Nat.le_trans Z0 (Nat.le_trans E491.1 (Nat.le_of_eq g494.symm)))
    have hp505 : ∀ c ∈ ([(px &&& (255 : Int32)), (qx &&& (255 : Int32))] : List Int32), ¬ c < 0 ∧ ¬ (255 : Int32) < c := by
      intro c hc
      simp only [List.mem_cons, List.not_mem_nil, or_false] at hc
      rcases hc with rfl | rfl
      · exact (own_c255 px)
      · exact (own_c255 qx)
    have f506 := (((A491.ext E494).wr W498).wr W502)
    have f507 := (((Fb491_value.ext E494).other W498 (Or.inl (Nat.ne_of_lt (Nat.lt_of_lt_of_le (Nat.lt_of_lt_of_le A491.lt (Nat.le_refl _)) (Nat.le_of_eq g494.symm))))).other W502 (Or.inl (Nat.ne_of_lt (Nat.lt_of_lt_of_le (Nat.lt_of_lt_of_le A491.lt (Nat.le_refl _)) (Nat.le_of_eq g494.symm)))))
    have f508 := (((Fb491_coder.ext E494).other W498 (Or.inl (Nat.ne_of_lt (Nat.lt_of_lt_of_le (Nat.lt_of_lt_of_le A491.lt (Nat.le_refl _)) (Nat.le_of_eq g494.symm))))).other W502 (Or.inl (Nat.ne_of_lt (Nat.lt_of_lt_of_le (Nat.lt_of_lt_of_le A491.lt (Nat.le_refl _)) (Nat.le_of_eq g494.symm)))))
    have Ol509 : Old Z n0 h502 := ((((X00.ext E491).ext E494).wr W498 (Nat.le_trans Z0 (Nat.le_trans E491.1 (Nat.le_of_eq g494.symm)))).wr W502 (Nat.le_trans Z0 (Nat.le_trans E491.1 (Nat.le_of_eq g494.symm))))
    obtain ⟨_, _, ⟨T510, L510, k510, n510⟩, -, X510, ⟨Lc510, hQ510, l510, y510, z510⟩, st510⟩ := X502.specialBack hx (y := (⟨"java/lang/String", "<init>", "([C)V"⟩ : MethodName)) rfl hown (mvT hZ (w_13 hw)) (mvT hZ (w_14 hw)) (mvT hZ (w_15 hw)) (by decide) (StrChars.Road.backV (W := 1) hZ (own_wV hw) (kI := 4) (w_10 hw) (cs := ([(px &&& (255 : Int32)), (qx &&& (255 : Int32))] : List Int32)) (bs := (([(px &&& (255 : Int32)), (qx &&& (255 : Int32))] : List Int32).map (fun c => c.toInt8.toInt32))) (n := 2) (Nat.le_trans Z0 (Nat.le_trans (Nat.le_refl _) (Nat.le_of_eq g491.symm))) (Nat.le_trans Z0 (Nat.le_trans (Nat.le_trans (Nat.le_trans E491.1 E494.1) (Nat.le_of_eq W498.size.symm)) (Nat.le_of_eq W502.size.symm))) f506 f507 f508 V502 (ST.1.ext Ol509.2) ST.2.1 rfl rfl (by decide) (by decide) hp505 rfl (by decide) (by decide)) (g := (mkF m 69 #[xvi px, xvi qx, xvi rx, xvi (px &&& (255 : Int32)), xvi (qx &&& (255 : Int32)), xvi (2 : Int32)] [xwr b494, xwr b491, xwr b491])) rfl (by rw [hml]; rfl) (Steps.refl _) (a := b491) (argsL := [(.ref b494)]) (rest := [(.ref b491)]) (lenOf pd_7 rfl) rfl (by show 2 * 0 + _ ≤ _; exact Nat.le_of_eq rfl) (hb hby d2_69) (fun _ _ => ⟨rfl, e502, (by decide : 2 + 1 ≤ _), (by decide : 6 + 2 ≤ _)⟩)
    dsimp only [Pt.U, Pt.locs, Pt.cells, Pt.slots] at X510 l510 y510 z510 st510 hQ510
    subst l510 y510 z510
    obtain ⟨hp510, e510⟩ : ∃ z, T510.heap = z := ⟨_, rfl⟩
    rw [e510] at hQ510
    obtain ⟨rfl, N510q, K510, E510, Fc510, t510, kb510, -, gt510, -, Fv510, V510⟩ := hQ510
    have N510 := Fr.app N502 N510q
    have sf513 := (CHr.safe ch504 (Nat.lt_of_lt_of_le A491.lt (Nat.le_trans E494.1 (Nat.le_of_eq W498.size.symm))) (CHr.safe ch500 (Nat.lt_of_lt_of_le A491.lt E494.1) (CHr.safe ch496 (Nat.lt_of_lt_of_le A491.lt (Nat.le_refl _)) (Safe.ext E491 C0.1 (Safe.new (Nat.le_of_eq g491.symm))))))
    have ch512 := CHr.keep K510 (sfS sf513 sf0) C503.1
    have C511 := C503.trans ch512
    obtain ⟨fs, hr, hrun, hended, hE⟩ := X510.leaveW hS0 (by rw [e510]; exact (Nat.le_trans (Nat.le_trans (Nat.le_trans (Nat.le_trans E491.1 E494.1) (Nat.le_of_eq W498.size.symm)) (Nat.le_of_eq W502.size.symm)) K510.1)) (v := some (.ref b491)) (fun h => by rw [Bd.returns] at h; cases h)
    refine ⟨_, _, hTG _ (c459 _ ?_), hrun, hended, _, _, rfl, ?_, ?_, hE.1, hE.2.1, hE.2.2.1, hE.2.2.2.mono (by decide) (by decide)⟩
    · rw [hk460]
      refine XS.istore X0.here hx rfl (hb hby d2_18) rfl (l' := #[xvi px, xvi qx, xvi rx, xvi (px &&& (255 : Int32)), xvi (qx &&& (255 : Int32)), xvi (2 : Int32)]) rfl ?_
      show Sx p e below s₁ m 20 #[xvi px, xvi qx, xvi rx, xvi (px &&& (255 : Int32)), xvi (qx &&& (255 : Int32)), xvi (2 : Int32)] [] _
      refine y_iload X0 hx 22 (hb hby d2_20) rfl rfl ?_
      refine y_ifYes X0 hx 36 (hb hby d2_22) (XT.i0_ne_t (by decide)) (by decide) (by decide) ?_
      refine y_iload X0 hx 38 (hb hby d2_36) rfl rfl ?_
      refine y_iconst X0 hx (1 : Int32) 39 (hb hby d2_38) rfl rfl ?_
      refine y_icmpYes X0 hx 47 (hb hby d2_39) (XT.ii_ne_t (by decide)) (by decide) (by decide) ?_
      refine y_iload X0 hx 49 (hb hby d2_47) rfl rfl ?_
      refine y_iconst X0 hx (2 : Int32) 50 (hb hby d2_49) rfl rfl ?_
      refine y_icmpNo X0 hx 53 (hb hby d2_50) (XT.ii_ne_f (by decide)) rfl ?_
      refine st491 _ ?_
      show Sx p e below T491 m 56 #[xvi px, xvi qx, xvi rx, xvi (px &&& (255 : Int32)), xvi (qx &&& (255 : Int32)), xvi (2 : Int32)] [xwr b491] _
      refine y_dup X491 hx 57 (hb hby d2_56) rfl rfl ?_
      refine y_iconst X491 hx (2 : Int32) 58 (hb hby d2_57) rfl rfl ?_
      refine st494 _ ?_
      show Sx p e below T494 m 60 #[xvi px, xvi qx, xvi rx, xvi (px &&& (255 : Int32)), xvi (qx &&& (255 : Int32)), xvi (2 : Int32)] [xwr b494, xwr b491, xwr b491] _
      refine y_dup X494 hx 61 (hb hby d2_60) rfl rfl ?_
      refine y_iconst X494 hx (0 : Int32) 62 (hb hby d2_61) rfl rfl ?_
      refine y_iloadN X494 hx 63 (hb hby d2_62) rfl rfl ?_
      refine st498 _ ?_
      show Sx p e below T498 m 64 #[xvi px, xvi qx, xvi rx, xvi (px &&& (255 : Int32)), xvi (qx &&& (255 : Int32)), xvi (2 : Int32)] [xwr b494, xwr b491, xwr b491] _
      refine y_dup X498 hx 65 (hb hby d2_64) rfl rfl ?_
      refine y_iconst X498 hx (1 : Int32) 66 (hb hby d2_65) rfl rfl ?_
      refine y_iload X498 hx 68 (hb hby d2_66) rfl rfl ?_
      refine st502 _ ?_
      show Sx p e below T502 m 69 #[xvi px, xvi qx, xvi rx, xvi (px &&& (255 : Int32)), xvi (qx &&& (255 : Int32)), xvi (2 : Int32)] [xwr b494, xwr b491, xwr b491] _
      refine st510.trans ?_
      show Sx p e below T510 m 72 #[xvi px, xvi qx, xvi rx, xvi (px &&& (255 : Int32)), xvi (qx &&& (255 : Int32)), xvi (2 : Int32)] [xwr b491] _
      exact retOut X510 hx Bd.returns rfl (Or.inr (Or.inr (Or.inr (Or.inr ⟨rfl, rfl, rfl⟩)))) (hb hby d2_72) hr
    · show QrmLev Z G px qx rx h0 n0 _ T510.heap _
      rw [e510]
      exact ⟨b491, rfl, N510, ((((((Keep.refl h0 []).ext E491).ext E494).wr W498 (Or.inr (Nat.le_trans E491.1 (Nat.le_of_eq g494.symm)))).wr W502 (Or.inr (Nat.le_trans E491.1 (Nat.le_of_eq g494.symm)))).trans K510 (allS (Or.inr (Nat.le_trans (Nat.le_refl _) (Nat.le_of_eq g491.symm))) all0)), E510⟩
    · rw [hh]; show CHr Z EL s.vm h0 T510.vm T510.heap; rw [e510]; exact C511.trans (CHv.at X510 hZ (own_EW hw) C511.1)
  · obtain ⟨T514, h514, X514, e514, E514, A514, D514, -, st514⟩ := newO X0 hx hZ hown (w_9 hw) (w_10 hw) (w_11 hw) e0 (g := (mkF m 73 #[xvi px, xvi qx, xvi rx, xvi (px &&& (255 : Int32)), xvi (qx &&& (255 : Int32)), xvi (3 : Int32)] [])) rfl (hb hby d2_73) (by decide) (by decide)
    obtain ⟨b514, g514⟩ : ∃ z, z = h0.size := ⟨_, rfl⟩
    rw [← g514] at A514 D514 st514
    have ch516 := CHr.ext E514 C0.1
    have C515 := C0.trans ch516
    have Fb514_value : Fld Z h514 b514 "java/lang/String" "value" "[B" .null := D514 (Or.inr (w_25 hw)) (ty := (.array .byte)) (by decide)
    have Fb514_coder : Fld Z h514 b514 "java/lang/String" "coder" "B" (.int (0 : Int32)) := D514 (Or.inr (w_26 hw)) (ty := .byte) (by decide)
    obtain ⟨T517, h517, k517, X517, e517, E517, A517, st517⟩ := newP (aty := .char) X514 hx hZ (w_12 hw) e514 (g := (mkF m 78 #[xvi px, xvi qx, xvi rx, xvi (px &&& (255 : Int32)), xvi (qx &&& (255 : Int32)), xvi (3 : Int32)] [xwi (3 : Int32), xwr b514, xwr b514])) rfl (hb hby d2_78) rfl (by decide) (cap := 3) (by decide) (by decide) (by decide) (by decide)
    obtain ⟨b517, g517⟩ : ∃ z, z = h514.size := ⟨_, rfl⟩
    rw [← g517] at A517 st517
    have ch519 := CHr.ext E517 C515.1
    have C518 := C515.trans ch519
    have V517 : Arv Z h517 b517 k517 .char (3 : Int32) [(.int (0 : Int32)), (.int (0 : Int32)), (.int (0 : Int32))] (.int (0 : Int32)) := (Arv.new A517 (by decide)).pad (pad_rep [] (.int (0 : Int32)) 3)
    obtain ⟨cl520, Ar520, q520, S520, M520, H520, G520⟩ := id V517
    have in520 : ¬ ((0 : Int32) < 0 ∨ cl520.slots.size ≤ ((0 : Int32)).toNatClampNeg) := inb_of S520 ⟨by decide, by decide⟩
    obtain ⟨T521, h521, X521, e521, W521, st521⟩ := stC X517 hx hZ e517 Ar520 (j := (0 : Int32)) in520 (g := (mkF m 84 #[xvi px, xvi qx, xvi rx, xvi (px &&& (255 : Int32)), xvi (qx &&& (255 : Int32)), xvi (3 : Int32)] [xwi (qx &&& (255 : Int32)), xwi (0 : Int32), xwr b517, xwr b517, xwr b514, xwr b514])) rfl rfl (hb hby d2_84)
    have ch523 := CHr.wr W521 (Safe.arv hZ.alike V517 (by decide)) C518.1
    have C522 := C518.trans ch523
    have V521 : Arv Z h521 b517 k517 .char (3 : Int32) [(.int (qx &&& (255 : Int32))), (.int (0 : Int32)), (.int (0 : Int32))] (.int (0 : Int32)) := by have q := Arv.set Ar520 q520 S520 M520 H520 G520 (fits_nar_char _) W521 0 rfl (Nat.le_of_ble_eq_true rfl); rw [own_narc (own_c255 qx)] at q; exact q
    have N521 := Fr.snoc X521 N0 (Nat.le_trans Z0 (Nat.le_trans E514.1 (Nat.le_of_eq g517.symm)))
    obtain ⟨cl524, Ar524, q524, S524, M524, H524, G524⟩ := id V521
    have in524 : ¬ ((1 : Int32) < 0 ∨ cl524.slots.size ≤ ((1 : Int32)).toNatClampNeg) := inb_of S524 ⟨by decide, by decide⟩
    obtain ⟨T525, h525, X525, e525, W525, st525⟩ := stC X521 hx hZ e521 Ar524 (j := (1 : Int32)) in524 (g := (mkF m 88 #[xvi px, xvi qx, xvi rx, xvi (px &&& (255 : Int32)), xvi (qx &&& (255 : Int32)), xvi (3 : Int32)] [xwi (px &&& (255 : Int32)), xwi (1 : Int32), xwr b517, xwr b517, xwr b514, xwr b514])) rfl rfl (hb hby d2_88)
    have ch527 := CHr.wr W525 (Safe.arv hZ.alike V521 (by decide)) C522.1
    have C526 := C522.trans ch527
    have V525 : Arv Z h525 b517 k517 .char (3 : Int32) [(.int (qx &&& (255 : Int32))), (.int (px &&& (255 : Int32))), (.int (0 : Int32))] (.int (0 : Int32)) := by have q := Arv.set Ar524 q524 S524 M524 H524 G524 (fits_nar_char _) W525 1 rfl (Nat.le_of_ble_eq_true rfl); rw [own_narc (own_c255 px)] at q; exact q
    have N525 := Fr.snoc X525 N521 (Nat.le_trans Z0 (Nat.le_trans E514.1 (Nat.le_of_eq g517.symm)))
    obtain ⟨cl528, Ar528, q528, S528, M528, H528, G528⟩ := id V525
    have in528 : ¬ ((2 : Int32) < 0 ∨ cl528.slots.size ≤ ((2 : Int32)).toNatClampNeg) := inb_of S528 ⟨by decide, by decide⟩
    obtain ⟨T529, h529, X529, e529, W529, st529⟩ := stC X525 hx hZ e525 Ar528 (j := (2 : Int32)) in528 (g := (mkF m 92 #[xvi px, xvi qx, xvi rx, xvi (px &&& (255 : Int32)), xvi (qx &&& (255 : Int32)), xvi (3 : Int32)] [xwi (px &&& (255 : Int32)), xwi (2 : Int32), xwr b517, xwr b517, xwr b514, xwr b514])) rfl rfl (hb hby d2_92)
    have ch531 := CHr.wr W529 (Safe.arv hZ.alike V525 (by decide)) C526.1
    have C530 := C526.trans ch531
    have V529 : Arv Z h529 b517 k517 .char (3 : Int32) [(.int (qx &&& (255 : Int32))), (.int (px &&& (255 : Int32))), (.int (px &&& (255 : Int32)))] (.int (0 : Int32)) := by have q := Arv.set Ar528 q528 S528 M528 H528 G528 (fits_nar_char _) W529 2 rfl (Nat.le_of_ble_eq_true rfl); rw [own_narc (own_c255 px)] at q; exact q
    have N529 := Fr.snoc X529 N525 (Nat.le_trans Z0 (Nat.le_trans E514.1 (Nat.le_of_eq g517.symm)))
    have hp532 : ∀ c ∈ ([(qx &&& (255 : Int32)), (px &&& (255 : Int32)), (px &&& (255 : Int32))] : List Int32), ¬ c < 0 ∧ ¬ (255 : Int32) < c := by
      intro c hc
      simp only [List.mem_cons, List.not_mem_nil, or_false] at hc
      rcases hc with rfl | rfl | rfl
      · exact (own_c255 qx)
      · exact (own_c255 px)
      · exact (own_c255 px)
    have f533 := ((((A514.ext E517).wr W521).wr W525).wr W529)
    have f534 := ((((Fb514_value.ext E517).other W521 (Or.inl (Nat.ne_of_lt (Nat.lt_of_lt_of_le (Nat.lt_of_lt_of_le A514.lt (Nat.le_refl _)) (Nat.le_of_eq g517.symm))))).other W525 (Or.inl (Nat.ne_of_lt (Nat.lt_of_lt_of_le (Nat.lt_of_lt_of_le A514.lt (Nat.le_refl _)) (Nat.le_of_eq g517.symm))))).other W529 (Or.inl (Nat.ne_of_lt (Nat.lt_of_lt_of_le (Nat.lt_of_lt_of_le A514.lt (Nat.le_refl _)) (Nat.le_of_eq g517.symm)))))
    have f535 := ((((Fb514_coder.ext E517).other W521 (Or.inl (Nat.ne_of_lt (Nat.lt_of_lt_of_le (Nat.lt_of_lt_of_le A514.lt (Nat.le_refl _)) (Nat.le_of_eq g517.symm))))).other W525 (Or.inl (Nat.ne_of_lt (Nat.lt_of_lt_of_le (Nat.lt_of_lt_of_le A514.lt (Nat.le_refl _)) (Nat.le_of_eq g517.symm))))).other W529 (Or.inl (Nat.ne_of_lt (Nat.lt_of_lt_of_le (Nat.lt_of_lt_of_le A514.lt (Nat.le_refl _)) (Nat.le_of_eq g517.symm)))))
    have Ol536 : Old Z n0 h529 := (((((X00.ext E514).ext E517).wr W521 (Nat.le_trans Z0 (Nat.le_trans E514.1 (Nat.le_of_eq g517.symm)))).wr W525 (Nat.le_trans Z0 (Nat.le_trans E514.1 (Nat.le_of_eq g517.symm)))).wr W529 (Nat.le_trans Z0 (Nat.le_trans E514.1 (Nat.le_of_eq g517.symm))))
    obtain ⟨_, _, ⟨T537, L537, k537, n537⟩, -, X537, ⟨Lc537, hQ537, l537, y537, z537⟩, st537⟩ := X529.specialBack hx (y := (⟨"java/lang/String", "<init>", "([C)V"⟩ : MethodName)) rfl hown (mvT hZ (w_13 hw)) (mvT hZ (w_14 hw)) (mvT hZ (w_15 hw)) (by decide) (StrChars.Road.backV (W := 1) hZ (own_wV hw) (kI := 4) (w_10 hw) (cs := ([(qx &&& (255 : Int32)), (px &&& (255 : Int32)), (px &&& (255 : Int32))] : List Int32)) (bs := (([(qx &&& (255 : Int32)), (px &&& (255 : Int32)), (px &&& (255 : Int32))] : List Int32).map (fun c => c.toInt8.toInt32))) (n := 3) (Nat.le_trans Z0 (Nat.le_trans (Nat.le_refl _) (Nat.le_of_eq g514.symm))) (Nat.le_trans Z0 (Nat.le_trans (Nat.le_trans (Nat.le_trans (Nat.le_trans E514.1 E517.1) (Nat.le_of_eq W521.size.symm)) (Nat.le_of_eq W525.size.symm)) (Nat.le_of_eq W529.size.symm))) f533 f534 f535 V529 (ST.1.ext Ol536.2) ST.2.1 rfl rfl (by decide) (by decide) hp532 rfl (by decide) (by decide)) (g := (mkF m 93 #[xvi px, xvi qx, xvi rx, xvi (px &&& (255 : Int32)), xvi (qx &&& (255 : Int32)), xvi (3 : Int32)] [xwr b517, xwr b514, xwr b514])) rfl (by rw [hml]; rfl) (Steps.refl _) (a := b514) (argsL := [(.ref b517)]) (rest := [(.ref b514)]) (lenOf pd_7 rfl) rfl (by show 2 * 0 + _ ≤ _; exact Nat.le_of_eq rfl) (hb hby d2_93) (fun _ _ => ⟨rfl, e529, (by decide : 2 + 1 ≤ _), (by decide : 7 + 3 ≤ _)⟩)
    dsimp only [Pt.U, Pt.locs, Pt.cells, Pt.slots] at X537 l537 y537 z537 st537 hQ537
    subst l537 y537 z537
    obtain ⟨hp537, e537⟩ : ∃ z, T537.heap = z := ⟨_, rfl⟩
    rw [e537] at hQ537
    obtain ⟨rfl, N537q, K537, E537, Fc537, t537, kb537, -, gt537, -, Fv537, V537⟩ := hQ537
    have N537 := Fr.app N529 N537q
    have sf540 := (CHr.safe ch531 (Nat.lt_of_lt_of_le A514.lt (Nat.le_trans (Nat.le_trans E517.1 (Nat.le_of_eq W521.size.symm)) (Nat.le_of_eq W525.size.symm))) (CHr.safe ch527 (Nat.lt_of_lt_of_le A514.lt (Nat.le_trans E517.1 (Nat.le_of_eq W521.size.symm))) (CHr.safe ch523 (Nat.lt_of_lt_of_le A514.lt E517.1) (CHr.safe ch519 (Nat.lt_of_lt_of_le A514.lt (Nat.le_refl _)) (Safe.ext E514 C0.1 (Safe.new (Nat.le_of_eq g514.symm)))))))
    have ch539 := CHr.keep K537 (sfS sf540 sf0) C530.1
    have C538 := C530.trans ch539
    obtain ⟨fs, hr, hrun, hended, hE⟩ := X537.leaveW hS0 (by rw [e537]; exact (Nat.le_trans (Nat.le_trans (Nat.le_trans (Nat.le_trans (Nat.le_trans E514.1 E517.1) (Nat.le_of_eq W521.size.symm)) (Nat.le_of_eq W525.size.symm)) (Nat.le_of_eq W529.size.symm)) K537.1)) (v := some (.ref b514)) (fun h => by rw [Bd.returns] at h; cases h)
    refine ⟨_, _, hTG _ (c459 _ ?_), hrun, hended, _, _, rfl, ?_, ?_, hE.1, hE.2.1, hE.2.2.1, hE.2.2.2.mono (by decide) (by decide)⟩
    · rw [hk460]
      refine XS.istore X0.here hx rfl (hb hby d2_18) rfl (l' := #[xvi px, xvi qx, xvi rx, xvi (px &&& (255 : Int32)), xvi (qx &&& (255 : Int32)), xvi (3 : Int32)]) rfl ?_
      show Sx p e below s₁ m 20 #[xvi px, xvi qx, xvi rx, xvi (px &&& (255 : Int32)), xvi (qx &&& (255 : Int32)), xvi (3 : Int32)] [] _
      refine y_iload X0 hx 22 (hb hby d2_20) rfl rfl ?_
      refine y_ifYes X0 hx 36 (hb hby d2_22) (XT.i0_ne_t (by decide)) (by decide) (by decide) ?_
      refine y_iload X0 hx 38 (hb hby d2_36) rfl rfl ?_
      refine y_iconst X0 hx (1 : Int32) 39 (hb hby d2_38) rfl rfl ?_
      refine y_icmpYes X0 hx 47 (hb hby d2_39) (XT.ii_ne_t (by decide)) (by decide) (by decide) ?_
      refine y_iload X0 hx 49 (hb hby d2_47) rfl rfl ?_
      refine y_iconst X0 hx (2 : Int32) 50 (hb hby d2_49) rfl rfl ?_
      refine y_icmpYes X0 hx 73 (hb hby d2_50) (XT.ii_ne_t (by decide)) (by decide) (by decide) ?_
      refine st514 _ ?_
      show Sx p e below T514 m 76 #[xvi px, xvi qx, xvi rx, xvi (px &&& (255 : Int32)), xvi (qx &&& (255 : Int32)), xvi (3 : Int32)] [xwr b514] _
      refine y_dup X514 hx 77 (hb hby d2_76) rfl rfl ?_
      refine y_iconst X514 hx (3 : Int32) 78 (hb hby d2_77) rfl rfl ?_
      refine st517 _ ?_
      show Sx p e below T517 m 80 #[xvi px, xvi qx, xvi rx, xvi (px &&& (255 : Int32)), xvi (qx &&& (255 : Int32)), xvi (3 : Int32)] [xwr b517, xwr b514, xwr b514] _
      refine y_dup X517 hx 81 (hb hby d2_80) rfl rfl ?_
      refine y_iconst X517 hx (0 : Int32) 82 (hb hby d2_81) rfl rfl ?_
      refine y_iload X517 hx 84 (hb hby d2_82) rfl rfl ?_
      refine st521 _ ?_
      show Sx p e below T521 m 85 #[xvi px, xvi qx, xvi rx, xvi (px &&& (255 : Int32)), xvi (qx &&& (255 : Int32)), xvi (3 : Int32)] [xwr b517, xwr b514, xwr b514] _
      refine y_dup X521 hx 86 (hb hby d2_85) rfl rfl ?_
      refine y_iconst X521 hx (1 : Int32) 87 (hb hby d2_86) rfl rfl ?_
      refine y_iloadN X521 hx 88 (hb hby d2_87) rfl rfl ?_
      refine st525 _ ?_
      show Sx p e below T525 m 89 #[xvi px, xvi qx, xvi rx, xvi (px &&& (255 : Int32)), xvi (qx &&& (255 : Int32)), xvi (3 : Int32)] [xwr b517, xwr b514, xwr b514] _
      refine y_dup X525 hx 90 (hb hby d2_89) rfl rfl ?_
      refine y_iconst X525 hx (2 : Int32) 91 (hb hby d2_90) rfl rfl ?_
      refine y_iloadN X525 hx 92 (hb hby d2_91) rfl rfl ?_
      refine st529 _ ?_
      show Sx p e below T529 m 93 #[xvi px, xvi qx, xvi rx, xvi (px &&& (255 : Int32)), xvi (qx &&& (255 : Int32)), xvi (3 : Int32)] [xwr b517, xwr b514, xwr b514] _
      refine st537.trans ?_
      show Sx p e below T537 m 96 #[xvi px, xvi qx, xvi rx, xvi (px &&& (255 : Int32)), xvi (qx &&& (255 : Int32)), xvi (3 : Int32)] [xwr b514] _
      exact retOut X537 hx Bd.returns rfl (Or.inr (Or.inr (Or.inr (Or.inr ⟨rfl, rfl, rfl⟩)))) (hb hby d2_96) hr
    · show QrmLev Z G px qx rx h0 n0 _ T537.heap _
      rw [e537]
      exact ⟨b514, rfl, N537, (((((((Keep.refl h0 []).ext E514).ext E517).wr W521 (Or.inr (Nat.le_trans E514.1 (Nat.le_of_eq g517.symm)))).wr W525 (Or.inr (Nat.le_trans E514.1 (Nat.le_of_eq g517.symm)))).wr W529 (Or.inr (Nat.le_trans E514.1 (Nat.le_of_eq g517.symm)))).trans K537 (allS (Or.inr (Nat.le_trans (Nat.le_refl _) (Nat.le_of_eq g514.symm))) all0)), E537⟩
    · rw [hh]; show CHr Z EL s.vm h0 T537.vm T537.heap; rw [e537]; exact C538.trans (CHv.at X537 hZ (own_EW hw) C538.1)
theorem ef_rm0 (m : MethodId) (x0 : Int64) (x1 : Int32) (x2 : Int32) (x3 : Int32)  : entryFrame m #[(.long x0), (.int x1), (.int x2), (.int x3)] maxLocals = mkF m 0 #[.val (.long x0), .second, .val (.int x1), .val (.int x2), .val (.int x3), .unset, .unset, .unset, .unset, .unset] [] := by first | (simp [entryFrame, mkF, argsToLocals, Value.category, maxLocals]; done) | rfl
theorem pd_9 : parseMethodDescriptor "(JJ)J" = some ⟨[.long, .long], some .long⟩ := by decide +kernel
theorem pd_10 : parseMethodDescriptor "(III)Ljava/lang/String;" = some ⟨[.int, .int, .int], some (.object "java/lang/String")⟩ := by decide +kernel
theorem pd_11 : parseMethodDescriptor "(Ljava/lang/String;J)Lcom/example/umq/umq/admin/Selection;" = some ⟨[(.object "java/lang/String"), .long], some (.object "com/example/umq/umq/admin/Selection")⟩ := by decide +kernel
theorem pd_12 : parseMethodDescriptor "(Ljava/lang/String;)Lcom/example/umq/umq/admin/Selection;" = some ⟨[(.object "java/lang/String")], some (.object "com/example/umq/umq/admin/Selection")⟩ := by decide +kernel
theorem pd_13 : parseMethodDescriptor "()J" = some ⟨[], some .long⟩ := by decide +kernel
theorem pd_14 : parseMethodDescriptor "()Ljava/lang/String;" = some ⟨[], some (.object "java/lang/String")⟩ := by decide +kernel
theorem pd_15 : parseMethodDescriptor "(Ljava/lang/Object;)Z" = some ⟨[(.object "java/lang/Object")], some .boolean⟩ := by decide +kernel
def Qrm0 (Z : State) (G : Gs) (q0 : Int64) (p1 : Int32) (p2 : Int32) (p3 : Int32) (h0 : Heap) (n0 : Nat) (v : Option Value) (h : Heap) (L : List Loc) : Prop := v = some (.int (1 : Int32)) ∧ Fr n0 L ∧ Keep h0 h []
set_option maxRecDepth 65536 in
set_option maxHeartbeats 40000000 in
theorem rm0 (l : Launch) (Z : State) (a0 : Array Value) (hw : HW a0 Z) (G : Gs) (ST : StartF Z G) (ws : List Jvm.Cond) (q0 : Int64) (p1 : Int32) (p2 : Int32) (p3 : Int32) (h0 : Heap) (n0 : Nat) (X00 : Old Z n0 h0) :
    MetFree l x (head1 (Jvm.Cond.code x code maxLocals ret :: ws) room_1) (fun a U => a = #[(.long q0), (.int p1), (.int p2), (.int p3)] ∧ Z.Warmed39 U.vm ∧ U.heap = h0 ∧ CHv Z EL U.vm h0) (fun _ _ _ _ _ => True) (fun _ U o U' => ∃ v L, o = .returned v ∧ Qrm0 Z G q0 p1 p2 p3 h0 n0 v U'.heap L ∧ CHr Z EL U.vm U.heap U'.vm U'.heap ∧ ReturnedEndW U o U' L 10 184) := by
  refine MetFree.of_bodySF (plainFor_of_name pn_5) hisR ?_
  intro p e s m args below meth c s₁ Bd hml0 hP hK
  obtain ⟨rfl, hZ, hh, HC0⟩ := hP
  have hx := Bd.exec
  have hby := Bd.bytes
  have hml : c.maxLocals = 10 := hml0
  have hown : s.vm.findClass "com/example/umq/umq/admin/SelectionLowestPinLaw" = some m.cls := findClass_of_methodNamed Bd.named
  have hnm := (name_of_methodNamed Bd.named Bd.method).1
  have X0 : Stand p l e room_1 (s.setVm s.vm) m #[(.long q0), (.int p1), (.int p2), (.int p3)] below meth c s₁ [] 0 0 := Stand.of_body Bd
  have e0 : s₁.heap = h0 := by rw [← hh, Bd.state]; rfl
  have N0 := Fr.nil n0
  have Z0 : n0 ≤ h0.size := by have q := X00.2.1; rw [X00.1] at q; exact q
  have C0 := CHr.refl HC0
  have hS0 : s.Since s.vm h0.size := (State.WarmedH.refl s).since h0.size
  obtain ⟨TG, hTG, hT2⟩ : ∃ P : State → Prop, (∀ t, P t → Steps p.tables e below (s₁.setTop (entryFrame m #[(.long q0), (.int p1), (.int p2), (.int p3)] maxLocals)) t) ∧ (∀ t, Steps p.tables e below (s₁.setTop (entryFrame m #[(.long q0), (.int p1), (.int p2), (.int p3)] maxLocals)) t → P t) := ⟨_, fun t k => k, fun t k => k⟩
  have pre0 : ∀ t, Sx p e below s₁ m 0 #[xvj q0, xse, xvi p1, xvi p2, xvi p3, xun, xun, xun, xun, xun] [] t → TG t := fun t k => hT2 t (castTop (ef_rm0 m q0 p1 p2 p3 ) k)
  obtain ⟨_, _, ⟨T541, L541, k541, n541⟩, -, X541, ⟨Lc541, hQ541, l541, y541, z541⟩, st541⟩ := Jvm.LawKit.callS X0 hx (y := (⟨"java/lang/Math", "max", "(JJ)J"⟩ : MethodName)) hown (mvT hZ (w_1 hw)) (mvT hZ (w_2 hw)) (mvT hZ (w_3 hw)) (mvT hZ (w_4 hw)) (by decide) (backOf (W := 0) (rmMx l Z a0 hw G ST [] (1 : Int64) (q0 &&& (9223372036854775807 : Int64)) h0 n0 X00 ) hZ (w_4 hw) (w_3 hw) (by decide) (by decide)) (g := (mkF m 6 #[xvj q0, xse, xvi p1, xvi p2, xvi p3, xun, xun, xun, xun, xun] [xwj (q0 &&& (9223372036854775807 : Int64)), xwj (1 : Int64)])) rfl (by rw [hml]; rfl) (argsL := [(.long (1 : Int64)), (.long (q0 &&& (9223372036854775807 : Int64)))]) (rest := []) (lenOf pd_9 rfl) rfl (by show 2 * 0 + _ ≤ _; exact Nat.le_of_eq rfl) (hb hby at_6) (fun _ _ => ⟨rfl, e0, (by decide : 0 + 0 ≤ _), (by decide : 0 + 0 ≤ _)⟩)
  dsimp only [Pt.U, Pt.locs, Pt.cells, Pt.slots] at X541 l541 y541 z541 st541 hQ541
  subst l541 y541 z541
  obtain ⟨o542, rfl, N541q, e541, p543⟩ := hQ541
  have N541 := Fr.app N0 N541q
  obtain ⟨_, _, ⟨T544, L544, k544, n544⟩, -, X544, hS544, g544, ⟨Lc544, hQ544, l544, y544, z544, CH544⟩, st544⟩ := callSS X541 hx (y := (⟨"com/example/umq/umq/admin/SelectionLowestPinLaw", "level", "(III)Ljava/lang/String;"⟩ : MethodName)) hown (mvT hZ (w_5 hw)) (mvT hZ (w_6 hw)) (mvT hZ (w_7 hw)) (mvT hZ (w_8 hw)) (by decide) (backOfSH (W := 0) (rmLev l Z a0 hw G ST [] p1 p2 p3 h0 n0 X00 ) hZ (w_8 hw) (w_7 hw) (by decide) (by decide) (own_EW hw) C0.1) (g := (mkF m 15 #[xvj q0, xse, xvi p1, xvi p2, xvi p3, xvj o542, xse, xun, xun, xun] [xwi p3, xwi p2, xwi p1])) rfl (by rw [hml]; rfl) (argsL := [(.int p1), (.int p2), (.int p3)]) (rest := []) (lenOf pd_10 rfl) rfl (by show 2 * 0 + _ ≤ _; exact Nat.le_of_eq rfl) (hb hby at_15) (fun _ _ => ⟨rfl, e541, (by decide : 0 + 4 ≤ _), (by decide : 0 + 10 ≤ _)⟩)
  dsimp only [Pt.U, Pt.locs, Pt.cells, Pt.slots] at X544 l544 y544 z544 st544 hQ544 CH544 hS544 g544
  subst l544 y544 z544
  obtain ⟨hp544, e544⟩ : ∃ z, T544.heap = z := ⟨_, rfl⟩
  rw [e544] at hQ544 CH544 hS544 g544
  rw [e541] at g544
  obtain ⟨X544, hS544, hZ544, hown544⟩ := rebS hS0 (Nat.le_refl _) X544 hS544 g544 hZ hown
  obtain ⟨o545, rfl, N544q, K544, p546⟩ := hQ544
  have N544 := Fr.app N541 N544q
  have C547 := C0.trans CH544
  have Ol548 : Old Z n0 hp544 := (X00.keep K544 all0)
  obtain ⟨_, _, ⟨T549, L549, k549, n549⟩, -, X549, hS549, g549, ⟨Lc549, hQ549, l549, y549, z549, CH549⟩, st549⟩ := callSS X544 hx (y := (⟨"com/example/umq/umq/admin/Selection", "lowest", "(Ljava/lang/String;J)Lcom/example/umq/umq/admin/Selection;"⟩ : MethodName)) hown544 (mvT hZ544 (w_31 hw)) (mvT hZ544 (w_32 hw)) (mvT hZ544 (w_33 hw)) (mvT hZ544 (w_34 hw)) (by decide) (backOfSH (W := 0) (rmLow l Z a0 hw G ST [] o545 o542 hp544 n0 Ol548 p546 (own_mx p543)) hZ544 (w_34 hw) (w_33 hw) (by decide) (by decide) (own_EW hw) C547.1) (g := (mkF m 24 #[xvj q0, xse, xvi p1, xvi p2, xvi p3, xvj o542, xse, xvr o545, xun, xun] [xwj o542, xwr o545])) rfl (by rw [hml]; rfl) (argsL := [(.ref o545), (.long o542)]) (rest := []) (lenOf pd_11 rfl) rfl (by show 2 * 0 + _ ≤ _; exact Nat.le_of_eq rfl) (hb hby at_24) (fun _ _ => ⟨rfl, e544, (by decide : 4 + 3 ≤ _), (by decide : 10 + 87 ≤ _)⟩)
  dsimp only [Pt.U, Pt.locs, Pt.cells, Pt.slots] at X549 l549 y549 z549 st549 hQ549 CH549 hS549 g549
  subst l549 y549 z549
  obtain ⟨hp549, e549⟩ : ∃ z, T549.heap = z := ⟨_, rfl⟩
  rw [e549] at hQ549 CH549 hS549 g549
  rw [e544] at g549
  obtain ⟨X549, hS549, hZ549, hown549⟩ := rebS hS544 (Nat.le_refl _) X549 hS549 g549 hZ544 hown544
  obtain ⟨o550, rfl, N549q, K549, p551, p552, p553, p554, p555⟩ := hQ549
  have N549 := Fr.app N544 N549q
  have C556 := C547.trans CH549
  have f557 := (p546.keep K549)
  have Ol558 : Old Z n0 hp549 := (Ol548.keep K549 all0)
  obtain ⟨_, _, ⟨T559, L559, k559, n559⟩, -, X559, hS559, g559, ⟨Lc559, hQ559, l559, y559, z559, CH559⟩, st559⟩ := callSS X549 hx (y := (⟨"com/example/umq/umq/admin/Selection", "all", "(Ljava/lang/String;)Lcom/example/umq/umq/admin/Selection;"⟩ : MethodName)) hown549 (mvT hZ549 (w_58 hw)) (mvT hZ549 (w_59 hw)) (mvT hZ549 (w_33 hw)) (mvT hZ549 (w_60 hw)) (by decide) (backOfSH (W := 0) (rmAll l Z a0 hw G ST [] o545 hp549 n0 Ol558 f557) hZ549 (w_60 hw) (w_33 hw) (by decide) (by decide) (own_EW hw) C556.1) (g := (mkF m 31 #[xvj q0, xse, xvi p1, xvi p2, xvi p3, xvj o542, xse, xvr o545, xvr o550, xun] [xwr o545])) rfl (by rw [hml]; rfl) (argsL := [(.ref o545)]) (rest := []) (lenOf pd_12 rfl) rfl (by show 2 * 0 + _ ≤ _; exact Nat.le_of_eq rfl) (hb hby at_31) (fun _ _ => ⟨rfl, e549, (by decide : 7 + 3 ≤ _), (by decide : 97 + 87 ≤ _)⟩)
  dsimp only [Pt.U, Pt.locs, Pt.cells, Pt.slots] at X559 l559 y559 z559 st559 hQ559 CH559 hS559 g559
  subst l559 y559 z559
  obtain ⟨hp559, e559⟩ : ∃ z, T559.heap = z := ⟨_, rfl⟩
  rw [e559] at hQ559 CH559 hS559 g559
  rw [e549] at g559
  obtain ⟨X559, hS559, hZ559, hown559⟩ := rebS hS549 (Nat.le_refl _) X559 hS559 g559 hZ549 hown549
  obtain ⟨o560, rfl, N559q, K559, p561, p562, p563, p564, p565⟩ := hQ559
  have N559 := Fr.app N549 N559q
  have C566 := C556.trans CH559
  have f567 := (p555.keep K559 nin0)
  have Ol568 : Old Z n0 hp559 := (Ol558.keep K559 all0)
  have f570 := (p552.keep K559)
  obtain ⟨cq571, kq571, q571a, q571b, q571c⟩ := isOf hZ559 e559 f570
  obtain ⟨_, _, ⟨T569, L569, k569, n569⟩, -, X569, ⟨Lc569, hQ569, l569, y569, z569⟩, st569⟩ := X559.virtualBack hx (y := (⟨"com/example/umq/umq/admin/Selection", "limit", "()J"⟩ : MethodName)) (z := (⟨"com/example/umq/umq/admin/Selection", "limit", "()J"⟩ : MethodName)) hown559 (mvT hZ559 (w_62 hw)) (mvT hZ559 (w_63 hw)) (notFace_of_selects (args := #[]) (mvT hZ559 (w_65 hw))) (mvT hZ559 (w_65 hw)) (mvT hZ559 (w_64 hw)) (by decide) (backOf (W := 0) (rmLi l Z a0 hw G ST [] o550 o542 hp559 n0 Ol568 f567) hZ559 (w_66 hw) (w_33 hw) (by decide) (by decide)) q571a q571c (g := (mkF m 38 #[xvj q0, xse, xvi p1, xvi p2, xvi p3, xvj o542, xse, xvr o545, xvr o550, xvr o560] [xwr o550])) rfl (by rw [hml]; rfl) (Steps.refl _) (argsL := []) (rest := []) (lenOf pd_13 rfl) rfl (by show 2 * 0 + _ ≤ _; exact Nat.le_of_eq rfl) (hb hby at_38) (fun _ _ => ⟨rfl, e559, (by decide : 10 + 0 ≤ _), (by decide : 184 + 0 ≤ _)⟩)
  dsimp only [Pt.U, Pt.locs, Pt.cells, Pt.slots] at X569 l569 y569 z569 st569 hQ569
  subst l569 y569 z569
  obtain ⟨rfl, N569q, e569⟩ := hQ569
  have N569 := Fr.app N559 N569q
  have f572 := (p553.keep K559 nin0)
  obtain ⟨cq574, kq574, q574a, q574b, q574c⟩ := isOf hZ559 e569 f570
  obtain ⟨_, _, ⟨T573, L573, k573, n573⟩, -, X573, ⟨Lc573, hQ573, l573, y573, z573⟩, st573⟩ := X569.virtualBack hx (y := (⟨"com/example/umq/umq/admin/Selection", "level", "()Ljava/lang/String;"⟩ : MethodName)) (z := (⟨"com/example/umq/umq/admin/Selection", "level", "()Ljava/lang/String;"⟩ : MethodName)) hown559 (mvT hZ559 (w_67 hw)) (mvT hZ559 (w_68 hw)) (notFace_of_selects (args := #[]) (mvT hZ559 (w_70 hw))) (mvT hZ559 (w_70 hw)) (mvT hZ559 (w_69 hw)) (by decide) (backOf (W := 0) (rmLv l Z a0 hw G ST [] o550 o545 hp559 n0 Ol568 f572) hZ559 (w_71 hw) (w_33 hw) (by decide) (by decide)) q574a q574c (g := (mkF m 49 #[xvj q0, xse, xvi p1, xvi p2, xvi p3, xvj o542, xse, xvr o545, xvr o550, xvr o560] [xwr o550])) rfl (by rw [hml]; rfl) (Steps.refl _) (argsL := []) (rest := []) (lenOf pd_14 rfl) rfl (by show 2 * 0 + _ ≤ _; exact Nat.le_of_eq rfl) (hb hby at_49) (fun _ _ => ⟨rfl, e569, (by decide : 10 + 0 ≤ _), (by decide : 184 + 0 ≤ _)⟩)
  dsimp only [Pt.U, Pt.locs, Pt.cells, Pt.slots] at X573 l573 y573 z573 st573 hQ573
  subst l573 y573 z573
  obtain ⟨rfl, N573q, e573⟩ := hQ573
  have N573 := Fr.app N569 N573q
  have f576 := (f557.keep K559)
  obtain ⟨cq577, kq577, q577a, q577b, q577c⟩ := isOf hZ559 e573 f576
  obtain ⟨_, _, ⟨T575, L575, k575, n575⟩, -, X575, ⟨Lc575, hQ575, l575, y575, z575⟩, st575⟩ := X573.virtualBack hx (y := (⟨"java/lang/String", "equals", "(Ljava/lang/Object;)Z"⟩ : MethodName)) (z := (⟨"java/lang/String", "equals", "(Ljava/lang/Object;)Z"⟩ : MethodName)) hown559 (mvT hZ559 (w_72 hw)) (mvT hZ559 (w_73 hw)) (notFace_of_selects (args := #[]) (mvT hZ559 (w_75 hw))) (mvT hZ559 (w_75 hw)) (mvT hZ559 (w_74 hw)) (by decide) (backOf (W := 0) (rmEqS l Z a0 hw G ST [] o545 hp559 n0 Ol568 ) hZ559 (w_76 hw) (w_11 hw) (by decide) (by decide)) q577a q577c (g := (mkF m 54 #[xvj q0, xse, xvi p1, xvi p2, xvi p3, xvj o542, xse, xvr o545, xvr o550, xvr o560] [xwr o545, xwr o545])) rfl (by rw [hml]; rfl) (Steps.refl _) (argsL := [(.ref o545)]) (rest := []) (lenOf pd_15 rfl) rfl (by show 2 * 0 + _ ≤ _; exact Nat.le_of_eq rfl) (hb hby at_54) (fun _ _ => ⟨rfl, e573, (by decide : 10 + 0 ≤ _), (by decide : 184 + 0 ≤ _)⟩)
  dsimp only [Pt.U, Pt.locs, Pt.cells, Pt.slots] at X575 l575 y575 z575 st575 hQ575
  subst l575 y575 z575
  obtain ⟨rfl, N575q, e575⟩ := hQ575
  have N575 := Fr.app N573 N575q
  have f578 := (p554.keep K559 nin0)
  obtain ⟨cq580, kq580, q580a, q580b, q580c⟩ := isOf hZ559 e575 f570
  obtain ⟨_, _, ⟨T579, L579, k579, n579⟩, -, X579, ⟨Lc579, hQ579, l579, y579, z579⟩, st579⟩ := X575.virtualBack hx (y := (⟨"com/example/umq/umq/admin/Selection", "named", "()Ljava/util/Optional;"⟩ : MethodName)) (z := (⟨"com/example/umq/umq/admin/Selection", "named", "()Ljava/util/Optional;"⟩ : MethodName)) hown559 (mvT hZ559 (w_77 hw)) (mvT hZ559 (w_78 hw)) (notFace_of_selects (args := #[]) (mvT hZ559 (w_80 hw))) (mvT hZ559 (w_80 hw)) (mvT hZ559 (w_79 hw)) (by decide) (backOf (W := 0) (rmNm l Z a0 hw G ST [] o550 G.2 hp559 n0 Ol568 f578) hZ559 (w_81 hw) (w_33 hw) (by decide) (by decide)) q580a q580c (g := (mkF m 62 #[xvj q0, xse, xvi p1, xvi p2, xvi p3, xvj o542, xse, xvr o545, xvr o550, xvr o560] [xwr o550])) rfl (by rw [hml]; rfl) (Steps.refl _) (argsL := []) (rest := []) (lenOf pd_5 rfl) rfl (by show 2 * 0 + _ ≤ _; exact Nat.le_of_eq rfl) (hb hby at_62) (fun _ _ => ⟨rfl, e575, (by decide : 10 + 0 ≤ _), (by decide : 184 + 0 ≤ _)⟩)
  dsimp only [Pt.U, Pt.locs, Pt.cells, Pt.slots] at X579 l579 y579 z579 st579 hQ579
  subst l579 y579 z579
  obtain ⟨rfl, N579q, e579⟩ := hQ579
  have N579 := Fr.app N575 N579q
  obtain ⟨cq582, kq582, q582a, q582b, q582c⟩ := isOf hZ559 e579 p562
  obtain ⟨_, _, ⟨T581, L581, k581, n581⟩, -, X581, ⟨Lc581, hQ581, l581, y581, z581⟩, st581⟩ := X579.virtualBack hx (y := (⟨"com/example/umq/umq/admin/Selection", "named", "()Ljava/util/Optional;"⟩ : MethodName)) (z := (⟨"com/example/umq/umq/admin/Selection", "named", "()Ljava/util/Optional;"⟩ : MethodName)) hown559 (mvT hZ559 (w_77 hw)) (mvT hZ559 (w_78 hw)) (notFace_of_selects (args := #[]) (mvT hZ559 (w_80 hw))) (mvT hZ559 (w_80 hw)) (mvT hZ559 (w_79 hw)) (by decide) (backOf (W := 1) (rmNm l Z a0 hw G ST [] o560 G.2 hp559 n0 Ol568 p564) hZ559 (w_81 hw) (w_33 hw) (by decide) (by decide)) q582a q582c (g := (mkF m 67 #[xvj q0, xse, xvi p1, xvi p2, xvi p3, xvj o542, xse, xvr o545, xvr o550, xvr o560] [xwr o560, xwr G.2])) rfl (by rw [hml]; rfl) (Steps.refl _) (argsL := []) (rest := [(.ref G.2)]) (lenOf pd_5 rfl) rfl (by show 2 * 0 + _ ≤ _; exact Nat.le_of_eq rfl) (hb hby at_67) (fun _ _ => ⟨rfl, e579, (by decide : 10 + 0 ≤ _), (by decide : 184 + 0 ≤ _)⟩)
  dsimp only [Pt.U, Pt.locs, Pt.cells, Pt.slots] at X581 l581 y581 z581 st581 hQ581
  subst l581 y581 z581
  obtain ⟨rfl, N581q, e581⟩ := hQ581
  have N581 := Fr.app N579 N581q
  obtain ⟨fs, hr, hrun, hended, hE⟩ := X581.leaveW hS559 (by rw [e581]; exact (Nat.le_refl _)) (v := some (.int (1 : Int32))) (fun h => by rw [Bd.returns] at h; cases h)
  refine ⟨_, _, hTG _ (pre0 _ ?_), hrun, hended, _, _, rfl, ?_, ?_, hE.1, hE.2.1, hE.2.2.1, hE.2.2.2.mono (by decide) (by decide)⟩
  · refine XS.lconst X0.here hx rfl (hb hby at_0) ?_
    show Sx p e below s₁ m 1 #[xvj q0, xse, xvi p1, xvi p2, xvi p3, xun, xun, xun, xun, xun] [xwj (1 : Int64)] _
    refine y_lloadN X0 hx 2 (hb hby at_1) rfl rfl ?_
    refine X0.ldc2Long hx hown (mvT hZ (w_0 hw)) (g := (mkF m 2 #[xvj q0, xse, xvi p1, xvi p2, xvi p3, xun, xun, xun, xun, xun] [xwj q0, xwj (1 : Int64)])) rfl (hb hby at_2) _ ?_
    show Sx p e below s₁ m 5 #[xvj q0, xse, xvi p1, xvi p2, xvi p3, xun, xun, xun, xun, xun] [xwj (9223372036854775807 : Int64), xwj q0, xwj (1 : Int64)] _
    refine y_land X0 hx 6 (hb hby at_5) rfl ?_
    refine st541 _ ?_
    show Sx p e below T541 m 9 #[xvj q0, xse, xvi p1, xvi p2, xvi p3, xun, xun, xun, xun, xun] [xwj o542] _
    refine XS.lstore X541.here hx rfl (hb hby at_9) rfl (l' := #[xvj q0, xse, xvi p1, xvi p2, xvi p3, xvj o542, xse, xun, xun, xun]) rfl ?_
    show Sx p e below T541 m 11 #[xvj q0, xse, xvi p1, xvi p2, xvi p3, xvj o542, xse, xun, xun, xun] [] _
    refine y_iloadN X541 hx 12 (hb hby at_11) rfl rfl ?_
    refine y_iloadN X541 hx 13 (hb hby at_12) rfl rfl ?_
    refine y_iload X541 hx 15 (hb hby at_13) rfl rfl ?_
    refine st544.trans ?_
    show Sx p e below T544 m 18 #[xvj q0, xse, xvi p1, xvi p2, xvi p3, xvj o542, xse, xun, xun, xun] [xwr o545] _
    refine XS.astore X544.here hx rfl (hb hby at_18) rfl rfl (l' := #[xvj q0, xse, xvi p1, xvi p2, xvi p3, xvj o542, xse, xvr o545, xun, xun]) rfl ?_
    show Sx p e below T544 m 20 #[xvj q0, xse, xvi p1, xvi p2, xvi p3, xvj o542, xse, xvr o545, xun, xun] [] _
    refine y_aload X544 hx 22 (hb hby at_20) rfl rfl rfl ?_
    refine y_lload X544 hx 24 (hb hby at_22) rfl rfl ?_
    refine st549.trans ?_
    show Sx p e below T549 m 27 #[xvj q0, xse, xvi p1, xvi p2, xvi p3, xvj o542, xse, xvr o545, xun, xun] [xwr o550] _
    refine XS.astore X549.here hx rfl (hb hby at_27) rfl rfl (l' := #[xvj q0, xse, xvi p1, xvi p2, xvi p3, xvj o542, xse, xvr o545, xvr o550, xun]) rfl ?_
    show Sx p e below T549 m 29 #[xvj q0, xse, xvi p1, xvi p2, xvi p3, xvj o542, xse, xvr o545, xvr o550, xun] [] _
    refine y_aload X549 hx 31 (hb hby at_29) rfl rfl rfl ?_
    refine st559.trans ?_
    show Sx p e below T559 m 34 #[xvj q0, xse, xvi p1, xvi p2, xvi p3, xvj o542, xse, xvr o545, xvr o550, xun] [xwr o560] _
    refine XS.astore X559.here hx rfl (hb hby at_34) rfl rfl (l' := #[xvj q0, xse, xvi p1, xvi p2, xvi p3, xvj o542, xse, xvr o545, xvr o550, xvr o560]) rfl ?_
    show Sx p e below T559 m 36 #[xvj q0, xse, xvi p1, xvi p2, xvi p3, xvj o542, xse, xvr o545, xvr o550, xvr o560] [] _
    refine y_aload X559 hx 38 (hb hby at_36) rfl rfl rfl ?_
    refine st569.trans ?_
    show Sx p e below T569 m 41 #[xvj q0, xse, xvi p1, xvi p2, xvi p3, xvj o542, xse, xvr o545, xvr o550, xvr o560] [xwj o542] _
    refine y_lload X569 hx 43 (hb hby at_41) rfl rfl ?_
    refine XT.lcmp X569.here hx rfl (hb hby at_43) rfl ?_
    show Sx p e below T569 m 44 #[xvj q0, xse, xvi p1, xvi p2, xvi p3, xvj o542, xse, xvr o545, xvr o550, xvr o560] [(.int (XT.cmpL o542 o542))] _
    refine y_ifNo X569 hx 47 (hb hby at_44) (XT.ll_ne_f rfl) rfl ?_
    refine y_aload X569 hx 49 (hb hby at_47) rfl rfl rfl ?_
    refine st573.trans ?_
    show Sx p e below T573 m 52 #[xvj q0, xse, xvi p1, xvi p2, xvi p3, xvj o542, xse, xvr o545, xvr o550, xvr o560] [xwr o545] _
    refine y_aload X573 hx 54 (hb hby at_52) rfl rfl rfl ?_
    refine st575.trans ?_
    show Sx p e below T575 m 57 #[xvj q0, xse, xvi p1, xvi p2, xvi p3, xvj o542, xse, xvr o545, xvr o550, xvr o560] [xwi (1 : Int32)] _
    refine y_ifNo X575 hx 60 (hb hby at_57) (XT.i0_eq_f (by decide)) rfl ?_
    refine y_aload X575 hx 62 (hb hby at_60) rfl rfl rfl ?_
    refine st579.trans ?_
    show Sx p e below T579 m 65 #[xvj q0, xse, xvi p1, xvi p2, xvi p3, xvj o542, xse, xvr o545, xvr o550, xvr o560] [xwr G.2] _
    refine y_aload X579 hx 67 (hb hby at_65) rfl rfl rfl ?_
    refine st581.trans ?_
    show Sx p e below T581 m 70 #[xvj q0, xse, xvi p1, xvi p2, xvi p3, xvj o542, xse, xvr o545, xvr o550, xvr o560] [xwr G.2, xwr G.2] _
    refine Jvm.RoadKit.acmp (g := (mkF m 70 #[xvj q0, xse, xvi p1, xvi p2, xvi p3, xvj o542, xse, xvr o545, xvr o550, xvr o560] [xwr G.2, xwr G.2])) X581 hx rfl rfl rfl (pc0 := 70) (pc' := 73) (same := true) rfl (hb hby at_70) rfl (decide_eq_true rfl) (by decide) (by decide) ?_
    show Sx p e below T581 m 73 #[xvj q0, xse, xvi p1, xvi p2, xvi p3, xvj o542, xse, xvr o545, xvr o550, xvr o560] [] _
    refine y_iconst X581 hx (1 : Int32) 74 (hb hby at_73) rfl rfl ?_
    refine y_goto X581 hx 78 (hb hby at_74) (by decide) (by decide) ?_
    show Sx p e below T581 m 78 #[xvj q0, xse, xvi p1, xvi p2, xvi p3, xvj o542, xse, xvr o545, xvr o550, xvr o560] [xwi (1 : Int32)] _
    exact retN X581 hx (t := .boolean) Bd.returns (by simp) (hb hby at_78) (hr)
  · show Qrm0 Z G q0 p1 p2 p3 h0 n0 _ T581.heap _
    rw [e581]
    exact ⟨rfl, N581, ((((Keep.refl h0 []).trans K544 all0).trans K549 all0).trans K559 all0)⟩
  · rw [hh]; show CHr Z EL s.vm h0 T581.vm T581.heap; rw [e581]; exact C566.trans (CHv.at X581 hZ559 (own_EW hw) C566.1)
set_option maxRecDepth 65536 in
set_option maxHeartbeats 40000000 in
theorem comes_1 {Post : Tables → Env → Array Value → State → Outcome → State → Prop} (hpost : ∀ tb e args s v u, (limb_1_1.after args s (.returned v) u = true ∧ limb_1_2.after args s (.returned v) u = true ∧ True) → ReturnedEndW s (.returned v) u (Jvm.fieldLocs frame_1_writes args s ++ Jvm.arrayLocs frame_1_arrays args s ++ Jvm.staticLocs frame_1_statics s) 24 2176 → Post tb e args s (.returned v) u) :
    ArmFor flags0 classFile x code maxLocals ret World_1 tables_1 room_1 Calls_1 rest_1 Pre_1 Post := by
  intro l hfl _ _ p e ha hc hk s m args below hf hA hF happ hP
  obtain ⟨hcalls, hrest, hpre⟩ := hP
  obtain ⟨-, -, -, hnamed, -, -, -, hat⟩ := (Spec.applies_iff hf).mp happ
  obtain ⟨hg, hn⟩ := and_e (Cond.before_iff.mp (show (Jvm.Cond.and given_1 narrow_1).before args s = true from hpre))
  obtain ⟨hcnt, hg⟩ := and_e hg
  obtain ⟨w0, w1, w2, w3, rfl⟩ : ∃ w0 w1 w2 w3 : Value, args = #[w0, w1, w2, w3] := by
    have hs : args.size = 4 := by simpa [Cond.value, given_1] using hcnt
    obtain ⟨L⟩ := args
    match L, hs with
    | [w0, w1, w2, w3], _ => exact ⟨w0, w1, w2, w3, rfl⟩
  have hw := fun d (hd : d ∈ tables_1) => atoms_spec (ws := Jvm.Cond.code x code maxLocals ret :: tables_1) hat d (List.mem_cons_of_mem _ hd)
  have hfit : Fit s := fun {y c} hc i hi => by
    obtain ⟨ha, rfl⟩ := Array.getElem?_eq_some_iff.mp hc
    have q := List.all_eq_true.mp ((Array.all_eq_true_iff_forall_mem.mp hF) _ (Array.getElem_mem ha)) i (List.mem_range.mpr hi)
    simpa [Array.getElem?_eq_getElem hi] using q
  obtain ⟨hsets, hown0⟩ := atoms_of _ (rest_1_c_eq ▸ (show rest_1_c.before _ s = true from hrest))
  obtain ⟨ga0, gb0⟩ := and_e hg
  obtain ⟨i0, ei0⟩ := isL_v ga0
  obtain rfl : w0 = (.long i0) := Option.some.inj ei0
  obtain ⟨ga1, gb1⟩ := and_e gb0
  obtain ⟨i1, ei1⟩ := is_v ga1
  obtain rfl : w1 = (.int i1) := Option.some.inj ei1
  obtain ⟨ga2, gb2⟩ := and_e gb1
  obtain ⟨i2, ei2⟩ := is_v ga2
  obtain rfl : w2 = (.int i2) := Option.some.inj ei2
  obtain ⟨i3, ei3⟩ := is_v gb2
  obtain rfl : w3 = (.int i3) := Option.some.inj ei3
  obtain ⟨z1, ez1⟩ := is_v (Cond.before_iff.mp (hsets _ (List.mem_of_getElem? (i := 5) rfl)))
  have O1 : Sta s s.heap "java/lang/String" "COMPACT_STRINGS" "Z" (.int z1) := Sta.start ez1 (Or.inl (hsets _ (List.mem_of_getElem? (i := 4) rfl)))
  have P1 : ¬ z1 = (0 : Int32) := gotF (Cond.eq_ints ez1 (Term.int_eval (0))) (not_v (Cond.before_iff.mp (hsets _ (List.mem_of_getElem? (i := 6) rfl))))
  obtain ⟨ae, eae⟩ := exa_v (Cond.before_iff.mp (hsets _ (List.mem_of_getElem? (i := 2) rfl)))
  have O2 := Sta.start eae (Or.inl (hsets _ (List.mem_of_getElem? (i := 1) rfl)))
  have E2 := Exa.start eae (Cond.before_iff.mp (hsets _ (List.mem_of_getElem? (i := 2) rfl)))
  have F2 : Fld s s.heap ae "java/util/Optional" "value" "Ljava/lang/Object;" .null := Fld.start ((fld_at eae).symm.trans (null_v (Cond.before_iff.mp (hsets _ (List.mem_of_getElem? (i := 3) rfl)))))
  obtain ⟨G0, eG⟩ : ∃ g : Gs, g = (z1, ae) := ⟨_, rfl⟩
  have ST0 : StartF s G0 := by rw [eG]; exact ⟨O1, P1, O2, E2, F2⟩
  have HC : CHv s EL s.vm s.heap := CHv.start (own_EW hw) (fun p hp => hcalls.1 p hp) (hsets _ (List.mem_of_getElem? (i := 6) rfl)) (w_24 hw) (w_10 hw)
  obtain ⟨n, o, h1, h2, h3, _, L, rfl, ⟨rfl, N, -⟩, -, hq⟩ := rm0 l s _ hw G0 ST0 tables_1 i0 i1 i2 i3 s.heap s.heap.size (Old.start s) p e ha hc hk s m _ below hf ((Spec.applies_iff_loose hf).mp happ).1 ⟨rfl, State.Warmed39.refl s, rfl, HC⟩ trivial
  refine ⟨n, _, h1, h2, h3, hpost _ _ _ _ _ _ ⟨Cond.after_iff.mpr rfl, Cond.after_iff.mpr (eq_i res_at (Term.int_eval (1)) rfl), trivial⟩ ⟨hq.1, hq.2.1, hq.2.2.1, (hq.2.2.2.sift fun y hy => Or.inr (N y hy)).mono (by decide) (by decide)⟩⟩
theorem main_1_1 : Claimed_1_1 := comes_1 fun _ _ _ _ _ _ h hF => ⟨h.1, hF⟩
theorem main_1_2 : Claimed_1_2 := comes_1 fun _ _ _ _ _ _ h hF => ⟨h.2.1, hF⟩
end Jvm.Pilot.@@N@@
namespace Jvm.Pilot.@@N@@
open Jvm Jvm.ClassFile Sem Op Lib Jvm.Free Jvm.Stand Jvm.Pilot.@@N@@.Jvm.D
/-! MADE BY PROGRAM (witnessworld.py) out of the Statement's table words and the real class files: 23 classes; the members and pool entries that the words name. The judged class is class 1, her method 1. -/
namespace start1
open Jvm.ClassFile
def u (s : String) : CpInfo := .utf8 (stringToUtf16 s)
/-- a pool by its gaps: so many unusable entries, then the entry; so many at the end -/
def gap : Nat → List CpInfo → List CpInfo
  | 0, r => r
  | n + 1, r => .unusable :: gap n r
def poolList (es : List (Nat × CpInfo)) (last : Nat) : List CpInfo := es.foldr (fun e r => gap e.1 (e.2 :: r)) (gap last [])
def pool (es : List (Nat × CpInfo)) (last : Nat) : Array CpInfo := ⟨poolList es last⟩
def fileOf (pool : Array CpInfo) (this : Nat) (attrs : Array Attribute := #[]) (ms : Array MethodInfo := #[]) (fl : Nat := 33) (sup : Nat := 0) (ifs : Array Nat := #[]) (fds : Array FieldInfo := #[]) : ClassFile where
  minorVersion := 0
  majorVersion := 65
  constantPool := pool
  accessFlags := fl
  thisClass := this
  superClass := sup
  interfaces := ifs
  fields := fds
  methods := ms
  attributes := attrs
def plain (name : String) (sup : Option ClassId) : Class where
  name := name
  kind := .ordinary
  loader := none
  accessFlags := 33
  super := sup
  interfaces := #[]
  cf := none
  fields := #[]
  methods := #[]
  instanceTypes := #[]
  staticTypes := #[]
  resolved := #[]
  callSites := []
  init := .initialized
  statics := none
  mirror := none

def pool0 : Array CpInfo := pool [(5, u "<init>"), (0, u "()V"), (1, .class_ 10), (1, u "java/lang/Object")] 113

def k0c0 : Code := { maxStack := 0, maxLocals := 1, code := object_method_1_code, exceptionTable := #[], attributes := #[] }
def k0m0 : Method := { name := "<init>", desc := "()V", sig := { parameters := [], returnType := none }, accessFlags := 1, code := some k0c0 }
/-- java/lang/Object -/
def k0 : Class := { plain "java/lang/Object" none with
  accessFlags := 33
  interfaces := #[]
  cf := some (fileOf pool0 8 #[] #[{ accessFlags := 1, nameIndex := 5, descriptorIndex := 6, attributes := #[] }] 33 0 #[] #[])
  fields := #[]
  methods := #[k0m0]
  instanceTypes := #[]
  staticTypes := #[]
  resolved := Array.replicate 124 none
  statics := none }

def pool1 : Array CpInfo := pool [(2, .class_ 4), (1, u "java/lang/Object"), (0, u "<init>"), (0, u "()V"), (2, .long 9223372036854775807), (1, .methodref 12 13), (0, .class_ 14), (0, .nameAndType 15 16), (0, u "java/lang/Math"), (0, u "max"), (0, u "(JJ)J"), (0, .methodref 18 19), (0, .class_ 20), (0, .nameAndType 21 22), (0, u "com/example/umq/umq/admin/SelectionLowestPinLaw"), (0, u "level"), (0, u "(III)Ljava/lang/String;"), (0, .methodref 24 25), (0, .class_ 26), (0, .nameAndType 27 28), (0, u "com/example/umq/umq/admin/Selection"), (0, u "lowest"), (0, u "(Ljava/lang/String;J)Lcom/example/umq/umq/admin/Selection;"), (0, .methodref 24 30), (0, .nameAndType 31 32), (0, u "all"), (0, u "(Ljava/lang/String;)Lcom/example/umq/umq/admin/Selection;"), (0, .methodref 24 34), (0, .nameAndType 35 36), (0, u "limit"), (0, u "()J"), (0, .methodref 24 38), (0, .nameAndType 21 39), (0, u "()Ljava/lang/String;"), (0, .methodref 41 42), (0, .class_ 43), (0, .nameAndType 44 45), (0, u "java/lang/String"), (0, u "equals"), (0, u "(Ljava/lang/Object;)Z"), (0, .methodref 24 47), (0, .nameAndType 48 49), (0, u "named"), (0, u "()Ljava/util/Optional;"), (0, .methodref 41 51), (0, .nameAndType 5 52), (0, u "([C)V"), (0, .methodref 41 54), (0, .nameAndType 55 56), (0, u "valueOf"), (0, u "(C)Ljava/lang/String;"), (2, u "law"), (0, u "(JIII)Z")] 3

def k1m0 : Method := { name := "<init>", desc := "()V", sig := { parameters := [], returnType := none }, accessFlags := 1, code := none }
def k1c1 : Code := { maxStack := 6, maxLocals := 10, code := code, exceptionTable := #[], attributes := #[] }
def k1m1 : Method := { name := "law", desc := "(JIII)Z", sig := { parameters := [.long, .int, .int, .int], returnType := some .boolean }, accessFlags := 9, code := some k1c1 }
def k1c2 : Code := { maxStack := 6, maxLocals := 6, code := method_3_code, exceptionTable := #[], attributes := #[] }
def k1m2 : Method := { name := "level", desc := "(III)Ljava/lang/String;", sig := { parameters := [.int, .int, .int], returnType := some (.object "java/lang/String") }, accessFlags := 10, code := some k1c2 }
/-- com/example/umq/umq/admin/SelectionLowestPinLaw -/
def k1 : Class := { plain "com/example/umq/umq/admin/SelectionLowestPinLaw" (some 0) with
  accessFlags := 49
  interfaces := #[]
  cf := some (fileOf pool1 18 #[] #[{ accessFlags := 1, nameIndex := 5, descriptorIndex := 6, attributes := #[] }, { accessFlags := 9, nameIndex := 59, descriptorIndex := 60, attributes := #[] }, { accessFlags := 10, nameIndex := 21, descriptorIndex := 22, attributes := #[] }] 49 2 #[] #[])
  fields := #[]
  methods := #[k1m0, k1m1, k1m2]
  instanceTypes := #[]
  staticTypes := #[]
  resolved := Array.replicate 64 none
  statics := none }

def pool2 : Array CpInfo := pool [(1, .class_ 2), (0, u "java/lang/Math"), (1, .class_ 6), (1, u "java/lang/Object"), (0, u "<init>"), (0, u "()V"), (89, .class_ 100), (1, u "java/lang/Math$RandomNumberGeneratorHolder"), (20, u "(JJ)J"), (50, u "negativeZeroFloatBits"), (0, u "J"), (2, u "negativeZeroDoubleBits"), (21, u "max"), (46, u "$assertionsDisabled"), (0, u "Z"), (91, u "twoToTheDoubleScaleDown"), (0, u "D"), (4, u "twoToTheDoubleScaleUp"), (9, u "E"), (3, u "PI"), (2, u "TAU"), (2, u "DEGREES_TO_RADIANS"), (0, u "RADIANS_TO_DEGREES")] 94

def k2m0 : Method := { name := "<init>", desc := "()V", sig := { parameters := [], returnType := none }, accessFlags := 2, code := none }
def k2c1 : Code := { maxStack := 4, maxLocals := 4, code := jdk_29_method_66_code, exceptionTable := #[], attributes := #[] }
def k2m1 : Method := { name := "max", desc := "(JJ)J", sig := { parameters := [.long, .long], returnType := some .long }, accessFlags := 9, code := some k2c1 }
/-- java/lang/Math -/
def k2 : Class := { plain "java/lang/Math" (some 0) with
  accessFlags := 49
  interfaces := #[]
  cf := some (fileOf pool2 1 #[.nestMembers #[98]] #[{ accessFlags := 2, nameIndex := 7, descriptorIndex := 8, attributes := #[] }, { accessFlags := 9, nameIndex := 198, descriptorIndex := 121, attributes := #[] }] 49 4 #[] #[{ accessFlags := 25, nameIndex := 354, descriptorIndex := 339, attributes := #[] }, { accessFlags := 25, nameIndex := 358, descriptorIndex := 339, attributes := #[] }, { accessFlags := 25, nameIndex := 361, descriptorIndex := 339, attributes := #[] }, { accessFlags := 26, nameIndex := 364, descriptorIndex := 339, attributes := #[] }, { accessFlags := 26, nameIndex := 365, descriptorIndex := 339, attributes := #[] }, { accessFlags := 26, nameIndex := 172, descriptorIndex := 173, attributes := #[] }, { accessFlags := 26, nameIndex := 176, descriptorIndex := 173, attributes := #[] }, { accessFlags := 8, nameIndex := 344, descriptorIndex := 339, attributes := #[] }, { accessFlags := 8, nameIndex := 338, descriptorIndex := 339, attributes := #[] }, { accessFlags := 4120, nameIndex := 245, descriptorIndex := 246, attributes := #[] }])
  fields := #[{ name := "E", type := .double, accessFlags := 25, slot := 0, constantValue := 0 }, { name := "PI", type := .double, accessFlags := 25, slot := 1, constantValue := 0 }, { name := "TAU", type := .double, accessFlags := 25, slot := 2, constantValue := 0 }, { name := "DEGREES_TO_RADIANS", type := .double, accessFlags := 26, slot := 3, constantValue := 0 }, { name := "RADIANS_TO_DEGREES", type := .double, accessFlags := 26, slot := 4, constantValue := 0 }, { name := "negativeZeroFloatBits", type := .long, accessFlags := 26, slot := 5, constantValue := 0 }, { name := "negativeZeroDoubleBits", type := .long, accessFlags := 26, slot := 6, constantValue := 0 }, { name := "twoToTheDoubleScaleUp", type := .double, accessFlags := 8, slot := 7, constantValue := 0 }, { name := "twoToTheDoubleScaleDown", type := .double, accessFlags := 8, slot := 8, constantValue := 0 }, { name := "$assertionsDisabled", type := .boolean, accessFlags := 4120, slot := 9, constantValue := 0 }]
  methods := #[k2m0, k2m1]
  instanceTypes := #[]
  staticTypes := #[.double, .double, .double, .double, .double, .long, .long, .double, .double, .boolean]
  resolved := Array.replicate 460 none
  statics := none }

def pool3 : Array CpInfo := pool [(1, .class_ 2), (0, u "java/io/Serializable"), (0, .class_ 4), (0, u "java/lang/Object")] 2

/-- java/io/Serializable -/
def k3 : Class := { plain "java/io/Serializable" (some 0) with
  accessFlags := 1537
  interfaces := #[]
  cf := some (fileOf pool3 1 #[] #[] 1537 3 #[] #[])
  fields := #[]
  methods := #[]
  instanceTypes := #[]
  staticTypes := #[]
  resolved := Array.replicate 7 none
  statics := none }

def pool4 : Array CpInfo := pool [(1, .class_ 2), (0, u "java/lang/Comparable"), (0, .class_ 4), (0, u "java/lang/Object")] 7

/-- java/lang/Comparable -/
def k4 : Class := { plain "java/lang/Comparable" (some 0) with
  accessFlags := 1537
  interfaces := #[]
  cf := some (fileOf pool4 1 #[] #[] 1537 3 #[] #[])
  fields := #[]
  methods := #[]
  instanceTypes := #[]
  staticTypes := #[]
  resolved := Array.replicate 12 none
  statics := none }

def pool5 : Array CpInfo := pool [(2, .class_ 4), (1, u "java/lang/CharSequence"), (42, .class_ 48), (0, u "java/lang/CharSequence$1CodePointIterator"), (10, .class_ 60), (0, u "java/lang/CharSequence$1CharIterator"), (5, .class_ 67), (0, u "java/lang/Object")] 63

/-- java/lang/CharSequence -/
def k5 : Class := { plain "java/lang/CharSequence" (some 0) with
  accessFlags := 1537
  interfaces := #[]
  cf := some (fileOf pool5 2 #[.nestMembers #[47, 59]] #[] 1537 66 #[] #[])
  fields := #[]
  methods := #[]
  instanceTypes := #[]
  staticTypes := #[]
  resolved := Array.replicate 131 none
  statics := none }

def pool6 : Array CpInfo := pool [(1, .class_ 2), (0, u "java/lang/constant/Constable"), (0, .class_ 4), (0, u "java/lang/Object")] 6

/-- java/lang/constant/Constable -/
def k6 : Class := { plain "java/lang/constant/Constable" (some 0) with
  accessFlags := 1537
  interfaces := #[]
  cf := some (fileOf pool6 1 #[] #[] 1537 3 #[] #[])
  fields := #[]
  methods := #[]
  instanceTypes := #[]
  staticTypes := #[]
  resolved := Array.replicate 11 none
  statics := none }

def pool7 : Array CpInfo := pool [(1, .class_ 2), (0, u "java/lang/constant/ConstantDesc"), (0, .class_ 4), (0, u "java/lang/Object")] 32

/-- java/lang/constant/ConstantDesc -/
def k7 : Class := { plain "java/lang/constant/ConstantDesc" (some 0) with
  accessFlags := 1537
  interfaces := #[]
  cf := some (fileOf pool7 1 #[] #[] 1537 3 #[] #[])
  fields := #[]
  methods := #[]
  instanceTypes := #[]
  staticTypes := #[]
  resolved := Array.replicate 37 none
  statics := none }

def pool8 : Array CpInfo := pool [(1, .methodref 2 3), (0, .class_ 4), (0, .nameAndType 5 6), (0, u "java/lang/Object"), (0, u "<init>"), (0, u "()V"), (0, .string 8), (0, u ""), (0, .fieldref 10 11), (0, .class_ 12), (0, .nameAndType 13 14), (0, u "java/lang/String"), (0, u "value"), (0, u "[B"), (0, .fieldref 10 16), (0, .nameAndType 17 18), (0, u "coder"), (0, u "B"), (2, u "hash"), (0, u "I"), (2, u "hashIsZero"), (0, u "Z"), (0, .methodref 10 28), (0, .nameAndType 5 29), (0, u "([CIILjava/lang/Void;)V"), (8, .fieldref 10 39), (0, .nameAndType 40 26), (0, u "COMPACT_STRINGS"), (1, .class_ 44), (1, u "java/lang/StringUTF16"), (0, u "compress"), (1, .methodref 42 48), (0, .nameAndType 49 50), (0, u "coderFromArrayLen"), (0, u "([BI)B"), (2, u "toBytes"), (53, .class_ 109), (1, u "java/lang/StringLatin1"), (67, .methodref 42 178), (0, .nameAndType 45 179), (0, u "([CII)[B"), (29, .methodref 10 210), (0, .nameAndType 5 211), (0, u "([BB)V"), (157, u "(C)Z"), (173, u "equals"), (29, u "(Ljava/lang/Object;)Z"), (1, .class_ 576), (0, u "java/lang/CharSequence"), (22, u "CASE_INSENSITIVE_ORDER"), (0, u "Ljava/util/Comparator;"), (181, u "valueOf"), (0, u "(C)Ljava/lang/String;"), (226, u "([C)V"), (4, .methodref 107 1016), (0, .nameAndType 1017 369), (0, u "canEncode"), (0, .methodref 107 1019), (0, .nameAndType 53 1020), (0, u "(C)[B"), (80, u "serialPersistentFields"), (0, u "[Ljava/io/ObjectStreamField;"), (0, .class_ 1104), (0, u "java/lang/String$CaseInsensitiveComparator"), (1, .class_ 1107), (0, u "java/io/Serializable"), (0, .class_ 1109), (0, u "java/lang/Comparable"), (0, .class_ 1111), (0, u "java/lang/constant/Constable"), (0, .class_ 1113), (0, u "java/lang/constant/ConstantDesc"), (2, u "serialVersionUID"), (0, u "J"), (3, u "REPL"), (0, u "C"), (2, u "LATIN1"), (1, u "UTF16")] 323

def k8m0 : Method := { name := "<init>", desc := "()V", sig := { parameters := [], returnType := none }, accessFlags := 1, code := none }
def k8c1 : Code := { maxStack := 5, maxLocals := 2, code := jdk_42_method_3_code, exceptionTable := #[], attributes := #[] }
def k8m1 : Method := { name := "<init>", desc := "([C)V", sig := { parameters := [(.array .char)], returnType := none }, accessFlags := 1, code := some k8c1 }
def k8c2 : Code := { maxStack := 2, maxLocals := 3, code := jdk_42_method_66_code, exceptionTable := #[], attributes := #[] }
def k8m2 : Method := { name := "equals", desc := "(Ljava/lang/Object;)Z", sig := { parameters := [(.object "java/lang/Object")], returnType := some .boolean }, accessFlags := 1, code := some k8c2 }
def k8c3 : Code := { maxStack := 4, maxLocals := 1, code := jdk_42_method_139_code, exceptionTable := #[], attributes := #[] }
def k8m3 : Method := { name := "valueOf", desc := "(C)Ljava/lang/String;", sig := { parameters := [.char], returnType := some (.object "java/lang/String") }, accessFlags := 9, code := some k8c3 }
def k8c4 : Code := { maxStack := 4, maxLocals := 6, code := jdk_42_method_149_code, exceptionTable := #[], attributes := #[] }
def k8m4 : Method := { name := "<init>", desc := "([CIILjava/lang/Void;)V", sig := { parameters := [(.array .char), .int, .int, (.object "java/lang/Void")], returnType := none }, accessFlags := 2, code := some k8c4 }
def k8c5 : Code := { maxStack := 2, maxLocals := 3, code := jdk_42_method_151_code, exceptionTable := #[], attributes := #[] }
def k8m5 : Method := { name := "<init>", desc := "([BB)V", sig := { parameters := [(.array .byte), .byte], returnType := none }, accessFlags := 0, code := some k8c5 }
/-- java/lang/String -/
def k8 : Class := { plain "java/lang/String" (some 0) with
  accessFlags := 49
  interfaces := #[3, 4, 5, 6, 7]
  cf := some (fileOf pool8 10 #[.nestMembers #[1103]] #[{ accessFlags := 1, nameIndex := 5, descriptorIndex := 6, attributes := #[] }, { accessFlags := 1, nameIndex := 5, descriptorIndex := 1010, attributes := #[] }, { accessFlags := 1, nameIndex := 543, descriptorIndex := 573, attributes := #[] }, { accessFlags := 9, nameIndex := 782, descriptorIndex := 783, attributes := #[] }, { accessFlags := 2, nameIndex := 5, descriptorIndex := 29, attributes := #[] }, { accessFlags := 0, nameIndex := 5, descriptorIndex := 211, attributes := #[] }] 49 2 #[1106, 1108, 575, 1110, 1112] #[{ accessFlags := 18, nameIndex := 13, descriptorIndex := 14, attributes := #[] }, { accessFlags := 18, nameIndex := 17, descriptorIndex := 18, attributes := #[] }, { accessFlags := 2, nameIndex := 21, descriptorIndex := 22, attributes := #[] }, { accessFlags := 2, nameIndex := 25, descriptorIndex := 26, attributes := #[] }, { accessFlags := 26, nameIndex := 1116, descriptorIndex := 1117, attributes := #[] }, { accessFlags := 24, nameIndex := 40, descriptorIndex := 26, attributes := #[] }, { accessFlags := 26, nameIndex := 1101, descriptorIndex := 1102, attributes := #[] }, { accessFlags := 26, nameIndex := 1121, descriptorIndex := 1122, attributes := #[] }, { accessFlags := 25, nameIndex := 599, descriptorIndex := 600, attributes := #[] }, { accessFlags := 24, nameIndex := 1125, descriptorIndex := 18, attributes := #[] }, { accessFlags := 24, nameIndex := 1127, descriptorIndex := 18, attributes := #[] }])
  fields := #[{ name := "value", type := (.array .byte), accessFlags := 18, slot := 0, constantValue := 0 }, { name := "coder", type := .byte, accessFlags := 18, slot := 1, constantValue := 0 }, { name := "hash", type := .int, accessFlags := 2, slot := 2, constantValue := 0 }, { name := "hashIsZero", type := .boolean, accessFlags := 2, slot := 3, constantValue := 0 }, { name := "serialVersionUID", type := .long, accessFlags := 26, slot := 0, constantValue := 0 }, { name := "COMPACT_STRINGS", type := .boolean, accessFlags := 24, slot := 1, constantValue := 0 }, { name := "serialPersistentFields", type := (.array (.object "java/io/ObjectStreamField")), accessFlags := 26, slot := 2, constantValue := 0 }, { name := "REPL", type := .char, accessFlags := 26, slot := 3, constantValue := 0 }, { name := "CASE_INSENSITIVE_ORDER", type := (.object "java/util/Comparator"), accessFlags := 25, slot := 4, constantValue := 0 }, { name := "LATIN1", type := .byte, accessFlags := 24, slot := 5, constantValue := 0 }, { name := "UTF16", type := .byte, accessFlags := 24, slot := 6, constantValue := 0 }]
  methods := #[k8m0, k8m1, k8m2, k8m3, k8m4, k8m5]
  instanceTypes := #[(.array .byte), .byte, .int, .boolean]
  staticTypes := #[.long, .boolean, (.array (.object "java/io/ObjectStreamField")), .char, (.object "java/util/Comparator"), .byte, .byte]
  resolved := Array.replicate 1451 none
  statics := some 0 }

def pool9 : Array CpInfo := pool [(1, .methodref 2 3), (0, .class_ 4), (0, .nameAndType 5 6), (0, u "java/lang/Object"), (0, u "<init>"), (0, u "()V"), (0, .string 8), (0, u "level cannot be null"), (0, .methodref 10 11), (0, .class_ 12), (0, .nameAndType 13 14), (0, u "java/util/Objects"), (0, u "requireNonNull"), (0, u "(Ljava/lang/Object;Ljava/lang/String;)Ljava/lang/Object;"), (0, .class_ 16), (0, u "java/lang/String"), (0, .fieldref 18 19), (0, .class_ 20), (0, .nameAndType 21 22), (0, u "com/example/umq/umq/admin/Selection"), (0, u "level"), (0, u "Ljava/lang/String;"), (0, .fieldref 18 24), (0, .nameAndType 25 26), (0, u "named"), (0, u "Ljava/util/Optional;"), (0, .fieldref 18 28), (0, .nameAndType 29 30), (0, u "limit"), (0, u "J"), (0, .methodref 32 33), (0, .class_ 34), (0, .nameAndType 35 36), (0, u "java/util/Optional"), (0, u "empty"), (0, u "()Ljava/util/Optional;"), (2, .long 9223372036854775807), (1, .methodref 18 42), (0, .nameAndType 5 43), (0, u "(Ljava/lang/String;Ljava/util/Optional;J)V"), (29, u "all"), (0, u "(Ljava/lang/String;)Lcom/example/umq/umq/admin/Selection;"), (0, u "lowest"), (0, u "(Ljava/lang/String;J)Lcom/example/umq/umq/admin/Selection;"), (3, u "()Ljava/lang/String;"), (1, u "()J")] 17

def k9c0 : Code := { maxStack := 3, maxLocals := 5, code := prog_12_method_1_code, exceptionTable := #[], attributes := #[] }
def k9m0 : Method := { name := "<init>", desc := "(Ljava/lang/String;Ljava/util/Optional;J)V", sig := { parameters := [(.object "java/lang/String"), (.object "java/util/Optional"), .long], returnType := none }, accessFlags := 2, code := some k9c0 }
def k9c1 : Code := { maxStack := 6, maxLocals := 1, code := prog_12_method_2_code, exceptionTable := #[], attributes := #[] }
def k9m1 : Method := { name := "all", desc := "(Ljava/lang/String;)Lcom/example/umq/umq/admin/Selection;", sig := { parameters := [(.object "java/lang/String")], returnType := some (.object "com/example/umq/umq/admin/Selection") }, accessFlags := 9, code := some k9c1 }
def k9c2 : Code := { maxStack := 6, maxLocals := 3, code := prog_12_method_3_code, exceptionTable := #[], attributes := #[] }
def k9m2 : Method := { name := "lowest", desc := "(Ljava/lang/String;J)Lcom/example/umq/umq/admin/Selection;", sig := { parameters := [(.object "java/lang/String"), .long], returnType := some (.object "com/example/umq/umq/admin/Selection") }, accessFlags := 9, code := some k9c2 }
def k9c3 : Code := { maxStack := 1, maxLocals := 1, code := prog_12_method_5_code, exceptionTable := #[], attributes := #[] }
def k9m3 : Method := { name := "level", desc := "()Ljava/lang/String;", sig := { parameters := [], returnType := some (.object "java/lang/String") }, accessFlags := 1, code := some k9c3 }
def k9c4 : Code := { maxStack := 1, maxLocals := 1, code := prog_12_method_6_code, exceptionTable := #[], attributes := #[] }
def k9m4 : Method := { name := "named", desc := "()Ljava/util/Optional;", sig := { parameters := [], returnType := some (.object "java/util/Optional") }, accessFlags := 1, code := some k9c4 }
def k9c5 : Code := { maxStack := 2, maxLocals := 1, code := prog_12_method_7_code, exceptionTable := #[], attributes := #[] }
def k9m5 : Method := { name := "limit", desc := "()J", sig := { parameters := [], returnType := some .long }, accessFlags := 1, code := some k9c5 }
/-- com/example/umq/umq/admin/Selection -/
def k9 : Class := { plain "com/example/umq/umq/admin/Selection" (some 0) with
  accessFlags := 49
  interfaces := #[]
  cf := some (fileOf pool9 18 #[] #[{ accessFlags := 2, nameIndex := 5, descriptorIndex := 43, attributes := #[] }, { accessFlags := 9, nameIndex := 73, descriptorIndex := 74, attributes := #[] }, { accessFlags := 9, nameIndex := 75, descriptorIndex := 76, attributes := #[] }, { accessFlags := 1, nameIndex := 21, descriptorIndex := 80, attributes := #[] }, { accessFlags := 1, nameIndex := 25, descriptorIndex := 36, attributes := #[] }, { accessFlags := 1, nameIndex := 29, descriptorIndex := 82, attributes := #[] }] 49 2 #[] #[{ accessFlags := 18, nameIndex := 21, descriptorIndex := 22, attributes := #[] }, { accessFlags := 18, nameIndex := 25, descriptorIndex := 26, attributes := #[] }, { accessFlags := 18, nameIndex := 29, descriptorIndex := 30, attributes := #[] }])
  fields := #[{ name := "level", type := (.object "java/lang/String"), accessFlags := 18, slot := 0, constantValue := 0 }, { name := "named", type := (.object "java/util/Optional"), accessFlags := 18, slot := 1, constantValue := 0 }, { name := "limit", type := .long, accessFlags := 18, slot := 2, constantValue := 0 }]
  methods := #[k9m0, k9m1, k9m2, k9m3, k9m4, k9m5]
  instanceTypes := #[(.object "java/lang/String"), (.object "java/util/Optional"), .long]
  staticTypes := #[]
  resolved := Array.replicate 100 none
  statics := none }

def pool10 : Array CpInfo := pool [(1, .fieldref 2 3), (0, .class_ 4), (0, .nameAndType 5 6), (0, u "java/util/Optional"), (0, u "EMPTY"), (0, u "Ljava/util/Optional;"), (1, .class_ 10), (1, u "java/lang/Object"), (4, u "value"), (0, u "Ljava/lang/Object;"), (38, u "empty"), (0, u "()Ljava/util/Optional;")] 130

def k10c0 : Code := { maxStack := 1, maxLocals := 1, code := jdk_32_method_1_code, exceptionTable := #[], attributes := #[] }
def k10m0 : Method := { name := "empty", desc := "()Ljava/util/Optional;", sig := { parameters := [], returnType := some (.object "java/util/Optional") }, accessFlags := 9, code := some k10c0 }
/-- java/util/Optional -/
def k10 : Class := { plain "java/util/Optional" (some 0) with
  accessFlags := 49
  interfaces := #[]
  cf := some (fileOf pool10 2 #[] #[{ accessFlags := 9, nameIndex := 55, descriptorIndex := 56, attributes := #[] }] 49 8 #[] #[{ accessFlags := 26, nameIndex := 5, descriptorIndex := 6, attributes := #[] }, { accessFlags := 18, nameIndex := 15, descriptorIndex := 16, attributes := #[] }])
  fields := #[{ name := "EMPTY", type := (.object "java/util/Optional"), accessFlags := 26, slot := 0, constantValue := 0 }, { name := "value", type := (.object "java/lang/Object"), accessFlags := 18, slot := 0, constantValue := 0 }]
  methods := #[k10m0]
  instanceTypes := #[(.object "java/lang/Object")]
  staticTypes := #[(.object "java/util/Optional")]
  resolved := Array.replicate 187 none
  statics := some 1 }

def pool11 : Array CpInfo := pool [(2, .class_ 4), (1, u "java/lang/Object"), (0, u "<init>"), (0, u "()V"), (35, .class_ 44), (1, u "java/util/Objects"), (0, u "requireNonNull"), (48, u "(Ljava/lang/Object;Ljava/lang/String;)Ljava/lang/Object;")] 89

def k11m0 : Method := { name := "<init>", desc := "()V", sig := { parameters := [], returnType := none }, accessFlags := 2, code := none }
def k11c1 : Code := { maxStack := 3, maxLocals := 2, code := jdk_31_method_11_code, exceptionTable := #[], attributes := #[] }
def k11m1 : Method := { name := "requireNonNull", desc := "(Ljava/lang/Object;Ljava/lang/String;)Ljava/lang/Object;", sig := { parameters := [(.object "java/lang/Object"), (.object "java/lang/String")], returnType := some (.object "java/lang/Object") }, accessFlags := 9, code := some k11c1 }
/-- java/util/Objects -/
def k11 : Class := { plain "java/util/Objects" (some 0) with
  accessFlags := 49
  interfaces := #[]
  cf := some (fileOf pool11 42 #[] #[{ accessFlags := 2, nameIndex := 5, descriptorIndex := 6, attributes := #[] }, { accessFlags := 9, nameIndex := 45, descriptorIndex := 94, attributes := #[] }] 49 2 #[] #[])
  fields := #[]
  methods := #[k11m0, k11m1]
  instanceTypes := #[]
  staticTypes := #[]
  resolved := Array.replicate 184 none
  statics := none }

def pool12 : Array CpInfo := pool [(6, .class_ 8), (1, u "java/lang/Object"), (0, u "<init>"), (0, u "()V"), (1, .class_ 14), (1, u "java/lang/StringUTF16"), (31, u "$assertionsDisabled"), (0, u "Z"), (13, u "HI_BYTE_SHIFT"), (0, u "I"), (2, u "LO_BYTE_SHIFT"), (49, .methodref 12 116), (0, .nameAndType 117 118), (0, u "compress"), (0, u "([CI[BII)I"), (3, u "([CII)[B"), (138, u "coderFromArrayLen"), (0, u "([BI)B"), (106, .class_ 371), (1, u "java/lang/StringUTF16$LinesSpliterator"), (58, u "MAX_LENGTH"), (196, .class_ 628), (0, u "java/lang/StringUTF16$CodePointsSpliterator"), (0, .class_ 630), (0, u "java/lang/StringUTF16$CharsSpliterator")] 4

def k12m0 : Method := { name := "<init>", desc := "()V", sig := { parameters := [], returnType := none }, accessFlags := 0, code := none }
def k12c1 : Code := { maxStack := 2, maxLocals := 2, code := jdk_52_method_15_code, exceptionTable := #[], attributes := #[] }
def k12m1 : Method := { name := "coderFromArrayLen", desc := "([BI)B", sig := { parameters := [(.array .byte), .int], returnType := some .byte }, accessFlags := 8, code := some k12c1 }
def k12c2 : Code := { maxStack := 5, maxLocals := 6, code := jdk_52_method_16_code, exceptionTable := #[], attributes := #[] }
def k12m2 : Method := { name := "compress", desc := "([CII)[B", sig := { parameters := [(.array .char), .int, .int], returnType := some (.array .byte) }, accessFlags := 9, code := some k12c2 }
def k12c3 : Code := { maxStack := 3, maxLocals := 7, code := jdk_52_method_21_code, exceptionTable := #[], attributes := #[] }
def k12m3 : Method := { name := "compress", desc := "([CI[BII)I", sig := { parameters := [(.array .char), .int, (.array .byte), .int, .int], returnType := some .int }, accessFlags := 9, code := some k12c3 }
/-- java/lang/StringUTF16 -/
def k12 : Class := { plain "java/lang/StringUTF16" (some 0) with
  accessFlags := 48
  interfaces := #[]
  cf := some (fileOf pool12 12 #[.nestMembers #[627, 629, 369]] #[{ accessFlags := 0, nameIndex := 9, descriptorIndex := 10, attributes := #[] }, { accessFlags := 8, nameIndex := 261, descriptorIndex := 262, attributes := #[] }, { accessFlags := 9, nameIndex := 117, descriptorIndex := 122, attributes := #[] }, { accessFlags := 9, nameIndex := 117, descriptorIndex := 118, attributes := #[] }] 48 6 #[] #[{ accessFlags := 26, nameIndex := 61, descriptorIndex := 62, attributes := #[] }, { accessFlags := 26, nameIndex := 65, descriptorIndex := 62, attributes := #[] }, { accessFlags := 24, nameIndex := 430, descriptorIndex := 62, attributes := #[] }, { accessFlags := 4120, nameIndex := 46, descriptorIndex := 47, attributes := #[] }])
  fields := #[{ name := "HI_BYTE_SHIFT", type := .int, accessFlags := 26, slot := 0, constantValue := 0 }, { name := "LO_BYTE_SHIFT", type := .int, accessFlags := 26, slot := 1, constantValue := 0 }, { name := "MAX_LENGTH", type := .int, accessFlags := 24, slot := 2, constantValue := 0 }, { name := "$assertionsDisabled", type := .boolean, accessFlags := 4120, slot := 3, constantValue := 0 }]
  methods := #[k12m0, k12m1, k12m2, k12m3]
  instanceTypes := #[]
  staticTypes := #[.int, .int, .int, .boolean]
  resolved := Array.replicate 635 none
  statics := none }

def pool13 : Array CpInfo := pool [(4, .class_ 6), (1, u "java/lang/Object"), (0, u "<init>"), (0, u "()V"), (5, .class_ 16), (1, u "java/lang/StringLatin1"), (73, u "canEncode"), (14, u "(C)Z"), (15, u "$assertionsDisabled"), (0, u "Z"), (98, .class_ 223), (1, u "java/lang/StringLatin1$LinesSpliterator"), (156, u "toBytes"), (1, u "(C)[B"), (7, .class_ 391), (0, u "java/lang/StringLatin1$CharsSpliterator")] 3

def k13m0 : Method := { name := "<init>", desc := "()V", sig := { parameters := [], returnType := none }, accessFlags := 0, code := none }
def k13c1 : Code := { maxStack := 2, maxLocals := 1, code := jdk_43_method_3_code, exceptionTable := #[], attributes := #[] }
def k13m1 : Method := { name := "canEncode", desc := "(C)Z", sig := { parameters := [.char], returnType := some .boolean }, accessFlags := 9, code := some k13c1 }
def k13c2 : Code := { maxStack := 4, maxLocals := 1, code := jdk_43_method_46_code, exceptionTable := #[], attributes := #[] }
def k13m2 : Method := { name := "toBytes", desc := "(C)[B", sig := { parameters := [.char], returnType := some (.array .byte) }, accessFlags := 9, code := some k13c2 }
/-- java/lang/StringLatin1 -/
def k13 : Class := { plain "java/lang/StringLatin1" (some 0) with
  accessFlags := 48
  interfaces := #[]
  cf := some (fileOf pool13 14 #[.nestMembers #[390, 221]] #[{ accessFlags := 0, nameIndex := 7, descriptorIndex := 8, attributes := #[] }, { accessFlags := 9, nameIndex := 90, descriptorIndex := 105, attributes := #[] }, { accessFlags := 9, nameIndex := 380, descriptorIndex := 382, attributes := #[] }] 48 4 #[] #[{ accessFlags := 4120, nameIndex := 121, descriptorIndex := 122, attributes := #[] }])
  fields := #[{ name := "$assertionsDisabled", type := .boolean, accessFlags := 4120, slot := 0, constantValue := 0 }]
  methods := #[k13m0, k13m1, k13m2]
  instanceTypes := #[]
  staticTypes := #[.boolean]
  resolved := Array.replicate 395 none
  statics := none }

def pool14 : Array CpInfo := pool [(2, .class_ 4), (1, u "java/lang/Object"), (0, u "<init>"), (0, u "()V"), (17, .class_ 26), (1, u "jdk/internal/util/Preconditions"), (28, .class_ 56), (0, u "jdk/internal/util/Preconditions$4"), (57, .class_ 115), (0, u "jdk/internal/util/Preconditions$1"), (7, u "SIOOBE_FORMATTER"), (0, u "Ljava/util/function/BiFunction;"), (0, .class_ 126), (0, u "jdk/internal/util/Preconditions$2"), (3, u "AIOOBE_FORMATTER"), (0, .class_ 132), (0, u "jdk/internal/util/Preconditions$3"), (3, u "IOOBE_FORMATTER")] 57

def k14m0 : Method := { name := "<init>", desc := "()V", sig := { parameters := [], returnType := none }, accessFlags := 1, code := none }
/-- jdk/internal/util/Preconditions -/
def k14 : Class := { plain "jdk/internal/util/Preconditions" (some 0) with
  accessFlags := 33
  interfaces := #[]
  cf := some (fileOf pool14 24 #[.nestMembers #[55, 131, 125, 114]] #[{ accessFlags := 1, nameIndex := 5, descriptorIndex := 6, attributes := #[] }] 33 2 #[] #[{ accessFlags := 25, nameIndex := 123, descriptorIndex := 124, attributes := #[] }, { accessFlags := 25, nameIndex := 130, descriptorIndex := 124, attributes := #[] }, { accessFlags := 25, nameIndex := 136, descriptorIndex := 124, attributes := #[] }])
  fields := #[{ name := "SIOOBE_FORMATTER", type := (.object "java/util/function/BiFunction"), accessFlags := 25, slot := 0, constantValue := 0 }, { name := "AIOOBE_FORMATTER", type := (.object "java/util/function/BiFunction"), accessFlags := 25, slot := 1, constantValue := 0 }, { name := "IOOBE_FORMATTER", type := (.object "java/util/function/BiFunction"), accessFlags := 25, slot := 2, constantValue := 0 }]
  methods := #[k14m0]
  instanceTypes := #[]
  staticTypes := #[(.object "java/util/function/BiFunction"), (.object "java/util/function/BiFunction"), (.object "java/util/function/BiFunction")]
  resolved := Array.replicate 194 none
  statics := some 2 }

def pool15 : Array CpInfo := pool [(9, u "<init>"), (6, .class_ 18), (1, u "java/lang/Object"), (0, u "()V"), (1, .class_ 23), (1, u "jdk/internal/util/ArraysSupport"), (0, u "LOG2_ARRAY_LONG_INDEX_SCALE"), (0, u "I"), (2, u "U"), (0, u "Ljdk/internal/misc/Unsafe;"), (8, u "BIG_ENDIAN"), (0, u "Z"), (8, u "LOG2_BYTE_BIT_SIZE"), (4, u "LOG2_ARRAY_INT_INDEX_SCALE"), (54, u "JLA"), (0, u "Ljdk/internal/access/JavaLangAccess;"), (11, u "LOG2_ARRAY_BOOLEAN_INDEX_SCALE"), (9, u "LOG2_ARRAY_BYTE_INDEX_SCALE"), (5, u "LOG2_ARRAY_CHAR_INDEX_SCALE"), (5, u "LOG2_ARRAY_SHORT_INDEX_SCALE"), (18, u "LOG2_ARRAY_FLOAT_INDEX_SCALE"), (24, u "LOG2_ARRAY_DOUBLE_INDEX_SCALE"), (89, u "T_BOOLEAN"), (2, u "T_CHAR"), (1, u "T_FLOAT"), (1, u "T_DOUBLE"), (1, u "T_BYTE"), (1, u "T_SHORT"), (1, u "T_INT"), (1, u "T_LONG"), (1, u "SOFT_MAX_ARRAY_LENGTH")] 83

def k15m0 : Method := { name := "<init>", desc := "()V", sig := { parameters := [], returnType := none }, accessFlags := 2, code := none }
/-- jdk/internal/util/ArraysSupport -/
def k15 : Class := { plain "jdk/internal/util/ArraysSupport" (some 0) with
  accessFlags := 33
  interfaces := #[]
  cf := some (fileOf pool15 21 #[] #[{ accessFlags := 2, nameIndex := 9, descriptorIndex := 19, attributes := #[] }] 33 16 #[] #[{ accessFlags := 24, nameIndex := 28, descriptorIndex := 29, attributes := #[] }, { accessFlags := 26, nameIndex := 38, descriptorIndex := 39, attributes := #[] }, { accessFlags := 25, nameIndex := 121, descriptorIndex := 25, attributes := #[] }, { accessFlags := 25, nameIndex := 131, descriptorIndex := 25, attributes := #[] }, { accessFlags := 25, nameIndex := 137, descriptorIndex := 25, attributes := #[] }, { accessFlags := 25, nameIndex := 143, descriptorIndex := 25, attributes := #[] }, { accessFlags := 25, nameIndex := 53, descriptorIndex := 25, attributes := #[] }, { accessFlags := 25, nameIndex := 24, descriptorIndex := 25, attributes := #[] }, { accessFlags := 25, nameIndex := 162, descriptorIndex := 25, attributes := #[] }, { accessFlags := 25, nameIndex := 187, descriptorIndex := 25, attributes := #[] }, { accessFlags := 26, nameIndex := 48, descriptorIndex := 25, attributes := #[] }, { accessFlags := 25, nameIndex := 277, descriptorIndex := 25, attributes := #[] }, { accessFlags := 25, nameIndex := 280, descriptorIndex := 25, attributes := #[] }, { accessFlags := 25, nameIndex := 282, descriptorIndex := 25, attributes := #[] }, { accessFlags := 25, nameIndex := 284, descriptorIndex := 25, attributes := #[] }, { accessFlags := 25, nameIndex := 286, descriptorIndex := 25, attributes := #[] }, { accessFlags := 25, nameIndex := 288, descriptorIndex := 25, attributes := #[] }, { accessFlags := 25, nameIndex := 290, descriptorIndex := 25, attributes := #[] }, { accessFlags := 25, nameIndex := 292, descriptorIndex := 25, attributes := #[] }, { accessFlags := 26, nameIndex := 108, descriptorIndex := 109, attributes := #[] }, { accessFlags := 25, nameIndex := 294, descriptorIndex := 25, attributes := #[] }])
  fields := #[{ name := "U", type := (.object "jdk/internal/misc/Unsafe"), accessFlags := 24, slot := 0, constantValue := 0 }, { name := "BIG_ENDIAN", type := .boolean, accessFlags := 26, slot := 1, constantValue := 0 }, { name := "LOG2_ARRAY_BOOLEAN_INDEX_SCALE", type := .int, accessFlags := 25, slot := 2, constantValue := 0 }, { name := "LOG2_ARRAY_BYTE_INDEX_SCALE", type := .int, accessFlags := 25, slot := 3, constantValue := 0 }, { name := "LOG2_ARRAY_CHAR_INDEX_SCALE", type := .int, accessFlags := 25, slot := 4, constantValue := 0 }, { name := "LOG2_ARRAY_SHORT_INDEX_SCALE", type := .int, accessFlags := 25, slot := 5, constantValue := 0 }, { name := "LOG2_ARRAY_INT_INDEX_SCALE", type := .int, accessFlags := 25, slot := 6, constantValue := 0 }, { name := "LOG2_ARRAY_LONG_INDEX_SCALE", type := .int, accessFlags := 25, slot := 7, constantValue := 0 }, { name := "LOG2_ARRAY_FLOAT_INDEX_SCALE", type := .int, accessFlags := 25, slot := 8, constantValue := 0 }, { name := "LOG2_ARRAY_DOUBLE_INDEX_SCALE", type := .int, accessFlags := 25, slot := 9, constantValue := 0 }, { name := "LOG2_BYTE_BIT_SIZE", type := .int, accessFlags := 26, slot := 10, constantValue := 0 }, { name := "T_BOOLEAN", type := .int, accessFlags := 25, slot := 11, constantValue := 0 }, { name := "T_CHAR", type := .int, accessFlags := 25, slot := 12, constantValue := 0 }, { name := "T_FLOAT", type := .int, accessFlags := 25, slot := 13, constantValue := 0 }, { name := "T_DOUBLE", type := .int, accessFlags := 25, slot := 14, constantValue := 0 }, { name := "T_BYTE", type := .int, accessFlags := 25, slot := 15, constantValue := 0 }, { name := "T_SHORT", type := .int, accessFlags := 25, slot := 16, constantValue := 0 }, { name := "T_INT", type := .int, accessFlags := 25, slot := 17, constantValue := 0 }, { name := "T_LONG", type := .int, accessFlags := 25, slot := 18, constantValue := 0 }, { name := "JLA", type := (.object "jdk/internal/access/JavaLangAccess"), accessFlags := 26, slot := 19, constantValue := 0 }, { name := "SOFT_MAX_ARRAY_LENGTH", type := .int, accessFlags := 25, slot := 20, constantValue := 0 }]
  methods := #[k15m0]
  instanceTypes := #[]
  staticTypes := #[(.object "jdk/internal/misc/Unsafe"), .boolean, .int, .int, .int, .int, .int, .int, .int, .int, .int, .int, .int, .int, .int, .int, .int, .int, .int, (.object "jdk/internal/access/JavaLangAccess"), .int]
  resolved := Array.replicate 378 none
  statics := none }

def pool16 : Array CpInfo := pool [(1, u "java/lang/Cloneable"), (0, .class_ 1), (0, u "java/lang/Object"), (0, .class_ 3)] 3

/-- java/lang/Cloneable -/
def k16 : Class := { plain "java/lang/Cloneable" (some 0) with
  accessFlags := 1537
  interfaces := #[]
  cf := some (fileOf pool16 2 #[] #[] 1537 4 #[] #[])
  fields := #[]
  methods := #[]
  instanceTypes := #[]
  staticTypes := #[]
  resolved := Array.replicate 8 none
  statics := none }

/-- the primitive byte -/
def k17 : Class := { plain "byte" none with kind := .primitive 'B', accessFlags := 0x411 }
/-- [B -/
def k18 : Class := { plain "[B" (some 0) with kind := .array 17 .byte, interfaces := #[16, 3], accessFlags := 1041 }

/-- the primitive char -/
def k19 : Class := { plain "char" none with kind := .primitive 'C', accessFlags := 0x411 }
/-- [C -/
def k20 : Class := { plain "[C" (some 0) with kind := .array 19 .char, interfaces := #[16, 3], accessFlags := 1041 }

/-- the primitive int -/
def k21 : Class := { plain "int" none with kind := .primitive 'I', accessFlags := 0x411 }
/-- [I -/
def k22 : Class := { plain "[I" (some 0) with kind := .array 21 .int, interfaces := #[16, 3], accessFlags := 1041 }

def heap : Heap := #[{ cls := 8, slots := #[.long 0, .int 1, .null, .int 0, .null, .int 0, .int 0], vm := .statics 8 },
  { cls := 10, slots := #[.ref 3], vm := .statics 10 },
  { cls := 14, slots := #[.null, .null, .null], vm := .statics 14 },
  { cls := 10, slots := #[.null], vm := .none }]
def classes : Array Class := #[k0, k1, k2, k3, k4, k5, k6, k7, k8, k9, k10, k11, k12, k13, k14, k15, k16, k17, k18, k19, k20, k21, k22]
def interned : List (Array UInt16 × Addr) := []
def slotsUsed : Nat := 12
def theMethod : MethodId := ⟨1, 1⟩
def args0 : Array Value := #[.long 5, .int 5, .int 5, .int 5]
def aboutOver (below : List Frame) : State where
  vm := { classes := classes, interned := interned.toArray }
  heap := heap
  slotsUsed := slotsUsed
  threads := #[{ frames := .invoking theMethod args0 :: below }]
def below0 : List Frame := [.native { method := ⟨0, 0⟩, args := #[] }]
def about1 : State := aboutOver below0
def p0 : Program := .bare "" "" ""
def e0 : Env := launch0.env 0 0 0
theorem w_frames : about1.frames = Frame.invoking theMethod args0 :: below0 := rfl
set_option maxRecDepth 65536 in
theorem w_args : argsFit about1.vm theMethod args0 = true := by decide +kernel
set_option maxRecDepth 65536 in
theorem w_heap : heapFits about1 = true := by decide +kernel
set_option maxRecDepth 65536 in
theorem w_runnable : about1.curStatus? = some .runnable := by decide +kernel
set_option maxRecDepth 65536 in
theorem w_alone : about1.alone = true := by decide +kernel
set_option maxRecDepth 65536 in
theorem w_named : about1.methodNamed? x = some theMethod := by decide +kernel
set_option maxRecDepth 65536 in
theorem w_hears : about1.hears theMethod below0 = true := by decide +kernel
set_option maxRecDepth 65536 in
theorem w_ripe : about1.ripe theMethod args0 below0 = true := by decide +kernel
theorem w_running : about1.status = .running := rfl
set_option maxRecDepth 65536 in
theorem w_room : about1.hasRoom e0.platform room_1 = true :=
  launch0.hasRoom_least _ room_1 (by decide +kernel) (by decide +kernel) (by decide +kernel) (by decide +kernel) (by decide +kernel) (by decide +kernel)
theorem allAtoms_all (ts : List Jvm.Cond) (a : Array Jvm.Value) (st : Jvm.State) : (allAtoms ts).before a st = ts.all (fun c => c.before a st) := by
  induction ts with
  | nil => rfl
  | cons c t ih =>
    show (Jvm.Cond.and c (allAtoms t)).before a st = _
    rw [Jvm.Cond.before_and, ih, List.all_cons]
def words1 : List Jvm.Cond := Jvm.Cond.code x code maxLocals ret :: tables_1
/-- a 'code' word, met by the world's own term for the bytes: nothing is compared byte by byte -/
theorem code_word {y : MethodName} {bytes : ByteArray} {mx : Nat} {rt : Option FieldType} {a : Array Value} {s : State} {m : MethodId} {meth : Method} {c : Code} (h1 : s.methodNamed? y = some m) (h2 : s.vm.method? m = some meth) (h3 : meth.code = some c) (h4 : c.code = bytes)
    (h5 : (c.maxLocals == mx && c.exceptionTable.isEmpty && decide (c.maxStack ≤ mostOperands) && decide (meth.sig.returnType = rt) && !meth.locks && decide (parseMethodDescriptor y.desc = some meth.sig)) = true) : (Jvm.Cond.code y bytes mx rt).before a s = true := by
  simp only [Bool.and_eq_true, beq_iff_eq, Bool.not_eq_true', decide_eq_true_eq] at h5
  obtain ⟨⟨⟨⟨⟨g1, g2⟩, g3⟩, g4⟩, g5⟩, g6⟩ := h5
  simp [Cond.before, Cond.holds, Cond.value, h1, h2, h3, h4, g1, g2, g3, g4, g5, g6]
def isCode : Jvm.Cond → Bool
  | .code _ _ _ _ => true
  | _ => false
theorem all_split {L : List Jvm.Cond} {P : Jvm.Cond → Bool} (h1 : L.all (fun c => isCode c || P c) = true) (h2 : ∀ c ∈ L.filter isCode, P c = true) : L.all P = true := by
  refine List.all_eq_true.mpr fun c hc => ?_
  have h := List.all_eq_true.mp h1 c hc
  rcases Bool.eq_false_or_eq_true (isCode c) with hi | hi
  · exact h2 c (List.mem_filter.mpr ⟨hc, hi⟩)
  · simpa [hi] using h
set_option maxRecDepth 65536 in
theorem w_c0 : (Jvm.Cond.code x code maxLocals ret).before args0 about1 = true := code_word (m := ⟨1, 1⟩) (meth := k1m1) (c := k1c1) (by decide +kernel) rfl rfl rfl (by decide +kernel)
set_option maxRecDepth 65536 in
theorem w_c1 : (Jvm.Cond.code ({ cls := "java/lang/Math", name := "max", desc := "(JJ)J" } : Jvm.MethodName) jdk_29_method_66_code (4 : Nat) (Option.some Jvm.ClassFile.FieldType.long)).before args0 about1 = true := code_word (m := ⟨2, 1⟩) (meth := k2m1) (c := k2c1) (by decide +kernel) rfl rfl rfl (by decide +kernel)
set_option maxRecDepth 65536 in
theorem w_c2 : (Jvm.Cond.code ({ cls := "com/example/umq/umq/admin/SelectionLowestPinLaw", name := "level", desc := "(III)Ljava/lang/String;" } : Jvm.MethodName) method_3_code (6 : Nat) (Option.some (Jvm.ClassFile.FieldType.object "java/lang/String"))).before args0 about1 = true := code_word (m := ⟨1, 2⟩) (meth := k1m2) (c := k1c2) (by decide +kernel) rfl rfl rfl (by decide +kernel)
set_option maxRecDepth 65536 in
theorem w_c3 : (Jvm.Cond.code ({ cls := "java/lang/String", name := "<init>", desc := "([C)V" } : Jvm.MethodName) jdk_42_method_3_code (2 : Nat) (Option.none : Option Jvm.ClassFile.FieldType)).before args0 about1 = true := code_word (m := ⟨8, 1⟩) (meth := k8m1) (c := k8c1) (by decide +kernel) rfl rfl rfl (by decide +kernel)
set_option maxRecDepth 65536 in
theorem w_c4 : (Jvm.Cond.code ({ cls := "java/lang/String", name := "<init>", desc := "([CIILjava/lang/Void;)V" } : Jvm.MethodName) jdk_42_method_149_code (6 : Nat) (Option.none : Option Jvm.ClassFile.FieldType)).before args0 about1 = true := code_word (m := ⟨8, 4⟩) (meth := k8m4) (c := k8c4) (by decide +kernel) rfl rfl rfl (by decide +kernel)
set_option maxRecDepth 65536 in
theorem w_c5 : (Jvm.Cond.code ({ cls := "java/lang/Object", name := "<init>", desc := "()V" } : Jvm.MethodName) object_method_1_code (1 : Nat) (Option.none : Option Jvm.ClassFile.FieldType)).before args0 about1 = true := code_word (m := ⟨0, 0⟩) (meth := k0m0) (c := k0c0) (by decide +kernel) rfl rfl rfl (by decide +kernel)
set_option maxRecDepth 65536 in
theorem w_c6 : (Jvm.Cond.code ({ cls := "com/example/umq/umq/admin/Selection", name := "lowest", desc := "(Ljava/lang/String;J)Lcom/example/umq/umq/admin/Selection;" } : Jvm.MethodName) prog_12_method_3_code (3 : Nat) (Option.some (Jvm.ClassFile.FieldType.object "com/example/umq/umq/admin/Selection"))).before args0 about1 = true := code_word (m := ⟨9, 2⟩) (meth := k9m2) (c := k9c2) (by decide +kernel) rfl rfl rfl (by decide +kernel)
set_option maxRecDepth 65536 in
theorem w_c7 : (Jvm.Cond.code ({ cls := "java/util/Optional", name := "empty", desc := "()Ljava/util/Optional;" } : Jvm.MethodName) jdk_32_method_1_code (1 : Nat) (Option.some (Jvm.ClassFile.FieldType.object "java/util/Optional"))).before args0 about1 = true := code_word (m := ⟨10, 0⟩) (meth := k10m0) (c := k10c0) (by decide +kernel) rfl rfl rfl (by decide +kernel)
set_option maxRecDepth 65536 in
theorem w_c8 : (Jvm.Cond.code ({ cls := "com/example/umq/umq/admin/Selection", name := "<init>", desc := "(Ljava/lang/String;Ljava/util/Optional;J)V" } : Jvm.MethodName) prog_12_method_1_code (5 : Nat) (Option.none : Option Jvm.ClassFile.FieldType)).before args0 about1 = true := code_word (m := ⟨9, 0⟩) (meth := k9m0) (c := k9c0) (by decide +kernel) rfl rfl rfl (by decide +kernel)
set_option maxRecDepth 65536 in
theorem w_c9 : (Jvm.Cond.code ({ cls := "java/util/Objects", name := "requireNonNull", desc := "(Ljava/lang/Object;Ljava/lang/String;)Ljava/lang/Object;" } : Jvm.MethodName) jdk_31_method_11_code (2 : Nat) (Option.some (Jvm.ClassFile.FieldType.object "java/lang/Object"))).before args0 about1 = true := code_word (m := ⟨11, 1⟩) (meth := k11m1) (c := k11c1) (by decide +kernel) rfl rfl rfl (by decide +kernel)
set_option maxRecDepth 65536 in
theorem w_c10 : (Jvm.Cond.code ({ cls := "com/example/umq/umq/admin/Selection", name := "all", desc := "(Ljava/lang/String;)Lcom/example/umq/umq/admin/Selection;" } : Jvm.MethodName) prog_12_method_2_code (1 : Nat) (Option.some (Jvm.ClassFile.FieldType.object "com/example/umq/umq/admin/Selection"))).before args0 about1 = true := code_word (m := ⟨9, 1⟩) (meth := k9m1) (c := k9c1) (by decide +kernel) rfl rfl rfl (by decide +kernel)
set_option maxRecDepth 65536 in
theorem w_c11 : (Jvm.Cond.code ({ cls := "com/example/umq/umq/admin/Selection", name := "limit", desc := "()J" } : Jvm.MethodName) prog_12_method_7_code (1 : Nat) (Option.some Jvm.ClassFile.FieldType.long)).before args0 about1 = true := code_word (m := ⟨9, 5⟩) (meth := k9m5) (c := k9c5) (by decide +kernel) rfl rfl rfl (by decide +kernel)
set_option maxRecDepth 65536 in
theorem w_c12 : (Jvm.Cond.code ({ cls := "com/example/umq/umq/admin/Selection", name := "level", desc := "()Ljava/lang/String;" } : Jvm.MethodName) prog_12_method_5_code (1 : Nat) (Option.some (Jvm.ClassFile.FieldType.object "java/lang/String"))).before args0 about1 = true := code_word (m := ⟨9, 3⟩) (meth := k9m3) (c := k9c3) (by decide +kernel) rfl rfl rfl (by decide +kernel)
set_option maxRecDepth 65536 in
theorem w_c13 : (Jvm.Cond.code ({ cls := "java/lang/String", name := "equals", desc := "(Ljava/lang/Object;)Z" } : Jvm.MethodName) jdk_42_method_66_code (3 : Nat) (Option.some Jvm.ClassFile.FieldType.boolean)).before args0 about1 = true := code_word (m := ⟨8, 2⟩) (meth := k8m2) (c := k8c2) (by decide +kernel) rfl rfl rfl (by decide +kernel)
set_option maxRecDepth 65536 in
theorem w_c14 : (Jvm.Cond.code ({ cls := "com/example/umq/umq/admin/Selection", name := "named", desc := "()Ljava/util/Optional;" } : Jvm.MethodName) prog_12_method_6_code (1 : Nat) (Option.some (Jvm.ClassFile.FieldType.object "java/util/Optional"))).before args0 about1 = true := code_word (m := ⟨9, 4⟩) (meth := k9m4) (c := k9c4) (by decide +kernel) rfl rfl rfl (by decide +kernel)
set_option maxRecDepth 65536 in
theorem w_c15 : (Jvm.Cond.code ({ cls := "java/lang/StringUTF16", name := "compress", desc := "([CII)[B" } : Jvm.MethodName) jdk_52_method_16_code (6 : Nat) (Option.some (Jvm.ClassFile.FieldType.array Jvm.ClassFile.FieldType.byte))).before args0 about1 = true := code_word (m := ⟨12, 2⟩) (meth := k12m2) (c := k12c2) (by decide +kernel) rfl rfl rfl (by decide +kernel)
set_option maxRecDepth 65536 in
theorem w_c16 : (Jvm.Cond.code ({ cls := "java/lang/StringUTF16", name := "compress", desc := "([CI[BII)I" } : Jvm.MethodName) jdk_52_method_21_code (7 : Nat) (Option.some Jvm.ClassFile.FieldType.int)).before args0 about1 = true := code_word (m := ⟨12, 3⟩) (meth := k12m3) (c := k12c3) (by decide +kernel) rfl rfl rfl (by decide +kernel)
set_option maxRecDepth 65536 in
theorem w_c17 : (Jvm.Cond.code ({ cls := "java/lang/StringUTF16", name := "coderFromArrayLen", desc := "([BI)B" } : Jvm.MethodName) jdk_52_method_15_code (2 : Nat) (Option.some Jvm.ClassFile.FieldType.byte)).before args0 about1 = true := code_word (m := ⟨12, 1⟩) (meth := k12m1) (c := k12c1) (by decide +kernel) rfl rfl rfl (by decide +kernel)
set_option maxRecDepth 65536 in
theorem w_c18 : (Jvm.Cond.code ({ cls := "java/lang/String", name := "valueOf", desc := "(C)Ljava/lang/String;" } : Jvm.MethodName) jdk_42_method_139_code (1 : Nat) (Option.some (Jvm.ClassFile.FieldType.object "java/lang/String"))).before args0 about1 = true := code_word (m := ⟨8, 3⟩) (meth := k8m3) (c := k8c3) (by decide +kernel) rfl rfl rfl (by decide +kernel)
set_option maxRecDepth 65536 in
theorem w_c19 : (Jvm.Cond.code ({ cls := "java/lang/StringLatin1", name := "canEncode", desc := "(C)Z" } : Jvm.MethodName) jdk_43_method_3_code (1 : Nat) (Option.some Jvm.ClassFile.FieldType.boolean)).before args0 about1 = true := code_word (m := ⟨13, 1⟩) (meth := k13m1) (c := k13c1) (by decide +kernel) rfl rfl rfl (by decide +kernel)
set_option maxRecDepth 65536 in
theorem w_c20 : (Jvm.Cond.code ({ cls := "java/lang/StringLatin1", name := "toBytes", desc := "(C)[B" } : Jvm.MethodName) jdk_43_method_46_code (1 : Nat) (Option.some (Jvm.ClassFile.FieldType.array Jvm.ClassFile.FieldType.byte))).before args0 about1 = true := code_word (m := ⟨13, 2⟩) (meth := k13m2) (c := k13c2) (by decide +kernel) rfl rfl rfl (by decide +kernel)
set_option maxRecDepth 65536 in
theorem w_c21 : (Jvm.Cond.code ({ cls := "java/lang/String", name := "<init>", desc := "([BB)V" } : Jvm.MethodName) jdk_42_method_151_code (3 : Nat) (Option.none : Option Jvm.ClassFile.FieldType)).before args0 about1 = true := code_word (m := ⟨8, 5⟩) (meth := k8m5) (c := k8c5) (by decide +kernel) rfl rfl rfl (by decide +kernel)
def codes1 : List Jvm.Cond := [Jvm.Cond.code x code maxLocals ret, Jvm.Cond.code ({ cls := "java/lang/Math", name := "max", desc := "(JJ)J" } : Jvm.MethodName) jdk_29_method_66_code (4 : Nat) (Option.some Jvm.ClassFile.FieldType.long), Jvm.Cond.code ({ cls := "com/example/umq/umq/admin/SelectionLowestPinLaw", name := "level", desc := "(III)Ljava/lang/String;" } : Jvm.MethodName) method_3_code (6 : Nat) (Option.some (Jvm.ClassFile.FieldType.object "java/lang/String")), Jvm.Cond.code ({ cls := "java/lang/String", name := "<init>", desc := "([C)V" } : Jvm.MethodName) jdk_42_method_3_code (2 : Nat) (Option.none : Option Jvm.ClassFile.FieldType), Jvm.Cond.code ({ cls := "java/lang/String", name := "<init>", desc := "([CIILjava/lang/Void;)V" } : Jvm.MethodName) jdk_42_method_149_code (6 : Nat) (Option.none : Option Jvm.ClassFile.FieldType), Jvm.Cond.code ({ cls := "java/lang/Object", name := "<init>", desc := "()V" } : Jvm.MethodName) object_method_1_code (1 : Nat) (Option.none : Option Jvm.ClassFile.FieldType), Jvm.Cond.code ({ cls := "com/example/umq/umq/admin/Selection", name := "lowest", desc := "(Ljava/lang/String;J)Lcom/example/umq/umq/admin/Selection;" } : Jvm.MethodName) prog_12_method_3_code (3 : Nat) (Option.some (Jvm.ClassFile.FieldType.object "com/example/umq/umq/admin/Selection")), Jvm.Cond.code ({ cls := "java/util/Optional", name := "empty", desc := "()Ljava/util/Optional;" } : Jvm.MethodName) jdk_32_method_1_code (1 : Nat) (Option.some (Jvm.ClassFile.FieldType.object "java/util/Optional")), Jvm.Cond.code ({ cls := "com/example/umq/umq/admin/Selection", name := "<init>", desc := "(Ljava/lang/String;Ljava/util/Optional;J)V" } : Jvm.MethodName) prog_12_method_1_code (5 : Nat) (Option.none : Option Jvm.ClassFile.FieldType), Jvm.Cond.code ({ cls := "java/util/Objects", name := "requireNonNull", desc := "(Ljava/lang/Object;Ljava/lang/String;)Ljava/lang/Object;" } : Jvm.MethodName) jdk_31_method_11_code (2 : Nat) (Option.some (Jvm.ClassFile.FieldType.object "java/lang/Object")), Jvm.Cond.code ({ cls := "com/example/umq/umq/admin/Selection", name := "all", desc := "(Ljava/lang/String;)Lcom/example/umq/umq/admin/Selection;" } : Jvm.MethodName) prog_12_method_2_code (1 : Nat) (Option.some (Jvm.ClassFile.FieldType.object "com/example/umq/umq/admin/Selection")), Jvm.Cond.code ({ cls := "com/example/umq/umq/admin/Selection", name := "limit", desc := "()J" } : Jvm.MethodName) prog_12_method_7_code (1 : Nat) (Option.some Jvm.ClassFile.FieldType.long), Jvm.Cond.code ({ cls := "com/example/umq/umq/admin/Selection", name := "level", desc := "()Ljava/lang/String;" } : Jvm.MethodName) prog_12_method_5_code (1 : Nat) (Option.some (Jvm.ClassFile.FieldType.object "java/lang/String")), Jvm.Cond.code ({ cls := "java/lang/String", name := "equals", desc := "(Ljava/lang/Object;)Z" } : Jvm.MethodName) jdk_42_method_66_code (3 : Nat) (Option.some Jvm.ClassFile.FieldType.boolean), Jvm.Cond.code ({ cls := "com/example/umq/umq/admin/Selection", name := "named", desc := "()Ljava/util/Optional;" } : Jvm.MethodName) prog_12_method_6_code (1 : Nat) (Option.some (Jvm.ClassFile.FieldType.object "java/util/Optional")), Jvm.Cond.code ({ cls := "java/lang/StringUTF16", name := "compress", desc := "([CII)[B" } : Jvm.MethodName) jdk_52_method_16_code (6 : Nat) (Option.some (Jvm.ClassFile.FieldType.array Jvm.ClassFile.FieldType.byte)), Jvm.Cond.code ({ cls := "java/lang/StringUTF16", name := "compress", desc := "([CI[BII)I" } : Jvm.MethodName) jdk_52_method_21_code (7 : Nat) (Option.some Jvm.ClassFile.FieldType.int), Jvm.Cond.code ({ cls := "java/lang/StringUTF16", name := "coderFromArrayLen", desc := "([BI)B" } : Jvm.MethodName) jdk_52_method_15_code (2 : Nat) (Option.some Jvm.ClassFile.FieldType.byte), Jvm.Cond.code ({ cls := "java/lang/String", name := "valueOf", desc := "(C)Ljava/lang/String;" } : Jvm.MethodName) jdk_42_method_139_code (1 : Nat) (Option.some (Jvm.ClassFile.FieldType.object "java/lang/String")), Jvm.Cond.code ({ cls := "java/lang/StringLatin1", name := "canEncode", desc := "(C)Z" } : Jvm.MethodName) jdk_43_method_3_code (1 : Nat) (Option.some Jvm.ClassFile.FieldType.boolean), Jvm.Cond.code ({ cls := "java/lang/StringLatin1", name := "toBytes", desc := "(C)[B" } : Jvm.MethodName) jdk_43_method_46_code (1 : Nat) (Option.some (Jvm.ClassFile.FieldType.array Jvm.ClassFile.FieldType.byte)), Jvm.Cond.code ({ cls := "java/lang/String", name := "<init>", desc := "([BB)V" } : Jvm.MethodName) jdk_42_method_151_code (3 : Nat) (Option.none : Option Jvm.ClassFile.FieldType)]
set_option maxRecDepth 65536 in
theorem codes_eq : words1.filter isCode = codes1 := rfl
theorem w_codes : ∀ c ∈ words1.filter isCode, c.before args0 about1 = true := by
  rw [codes_eq]
  intro c hc
  simp only [codes1, List.mem_cons, List.not_mem_nil, or_false] at hc
  rcases hc with rfl | rfl | rfl | rfl | rfl | rfl | rfl | rfl | rfl | rfl | rfl | rfl | rfl | rfl | rfl | rfl | rfl | rfl | rfl | rfl | rfl | rfl
  · exact w_c0
  · exact w_c1
  · exact w_c2
  · exact w_c3
  · exact w_c4
  · exact w_c5
  · exact w_c6
  · exact w_c7
  · exact w_c8
  · exact w_c9
  · exact w_c10
  · exact w_c11
  · exact w_c12
  · exact w_c13
  · exact w_c14
  · exact w_c15
  · exact w_c16
  · exact w_c17
  · exact w_c18
  · exact w_c19
  · exact w_c20
  · exact w_c21
set_option maxRecDepth 65536 in
theorem w_t1 : (words1.take 24).all (fun c => isCode c || c.before args0 about1) = true := by decide +kernel
set_option maxRecDepth 65536 in
theorem w_t2 : ((words1.drop 24).take 24).all (fun c => isCode c || c.before args0 about1) = true := by decide +kernel
set_option maxRecDepth 65536 in
theorem w_t3 : (((words1.drop 24).drop 24).take 24).all (fun c => isCode c || c.before args0 about1) = true := by decide +kernel
set_option maxRecDepth 65536 in
theorem w_t4 : ((((words1.drop 24).drop 24).drop 24).take 24).all (fun c => isCode c || c.before args0 about1) = true := by decide +kernel
set_option maxRecDepth 65536 in
theorem w_t5 : ((((words1.drop 24).drop 24).drop 24).drop 24).all (fun c => isCode c || c.before args0 about1) = true := by decide +kernel
theorem w_tables : (allAtoms (Jvm.Cond.code x code maxLocals ret :: tables_1)).before args0 about1 = true := by
  rw [allAtoms_all]
  show words1.all (fun c => c.before args0 about1) = true
  refine all_split ?_ w_codes
  rw [← List.take_append_drop 24 words1, List.all_append, w_t1, ← List.take_append_drop 24 (words1.drop 24), List.all_append, w_t2, ← List.take_append_drop 24 ((words1.drop 24).drop 24), List.all_append, w_t3, ← List.take_append_drop 24 (((words1.drop 24).drop 24).drop 24), List.all_append, w_t4, w_t5]
  rfl
set_option maxRecDepth 65536 in
theorem w_rest : rest_1_c.before args0 about1 = true := by decide +kernel
set_option maxRecDepth 65536 in
theorem w_case : (Jvm.Cond.and given_1 narrow_1).before args0 about1 = true := by decide +kernel
set_option maxRecDepth 65536 in
theorem w_consts : constsHeld consts_1 about1 := Jvm.Lit.constsHeldB_iff.mp (by decide +kernel)
theorem w_applies : (headSpec (Jvm.Cond.code x code maxLocals ret :: tables_1) room_1).applies x e0.platform about1 = true :=
  (Spec.applies_iff w_frames).mpr ⟨w_running, w_runnable, w_alone, w_named, w_hears, w_ripe, w_room, w_tables⟩
theorem atStart : AtStart classFile x code maxLocals ret World_1 tables_1 room_1 Calls_1 rest_1 Pre_1 launch0 p0 e0 about1 theMethod args0 below0 :=
  ⟨lists_1, trivial, launch0.admits_env _ _ _, launch0.least_env, fairChoices_fair.cas, fairChoices_fair.clock, w_frames, w_args, w_heap, w_applies, ⟨w_consts, trivial⟩, w_rest, w_case⟩
end start1
theorem witness_1 : WitnessClaimed_1 := ⟨start1.p0, start1.e0, start1.about1, start1.theMethod, start1.args0, start1.below0, start1.atStart⟩
end Jvm.Pilot.@@N@@
