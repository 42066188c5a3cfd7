import JvmDerived
import JvmDerived.Pilot.@@N@@Statement
import JvmDerived.Pilot.@@N@@Code
set_option linter.unusedVariables false
set_option linter.unusedSimpArgs false
/- laws to paste: Road.backV (cut by pick.py; bodies as the Statement names them) -/
namespace Jvm.Pilot.@@N@@
namespace StrChars
open Jvm Sem ClassFile Op Lib Jvm.Stand Jvm.Free.XT Jvm.Free.ALB Jvm.Free.JM Jvm.Free
open Jvm.Lib.Cold (StaticIs)
/-- a char array whose places are chars -/
def Ch (a : Addr) (A : Cell) (U : State) : Prop := Arr .char a A U ∧ Typed .char A
theorem Ch.mv {a : Addr} {A : Cell} {U U' : State} (h : Ch a A U) (hal : U.vm.Alike U'.vm) (hh : U'.heap = U.heap) : Ch a A U' := ⟨h.1.mv hal hh, h.2⟩
theorem Ch.keep {a : Addr} {A : Cell} {U U' : State} (h : Ch a A U) (hal : U.vm.Alike U'.vm) (hk : U'.heap[a]? = some A) : Ch a A U' := ⟨h.1.keep hal hk, h.2⟩
/-- what place i of a char[]'s cell holds -/
def cv (A : Cell) (i : Nat) : Int32 := match A.slots[i]? with | some (.int x) => x | _ => 0
theorem Ch.get {a : Addr} {A : Cell} {U : State} (h : Ch a A U) {i : Nat} (hi : i < A.slots.size) : A.slots[i]? = some (.int (cv A i)) := by
  have e := Array.getElem?_eq_getElem hi
  have f := h.2 i _ e
  unfold cv; rw [e]
  generalize A.slots[i] = v at f
  cases v <;> simp [fits] at f ⊢
/-- the byte that i2b leaves of a char -/
def lo8 (x : Int32) : Int32 := x.toInt8.toInt32
theorem fits_lo8 (y : Int32) : fits .byte (.int (lo8 y)) = true := by
  have h1 := y.toInt8.le_toInt
  have h2 := y.toInt8.toInt_lt
  simp only [lo8, fits, Bool.and_eq_true, decide_eq_true_eq, Int32.le_iff_toInt_le, Int8.toInt_toInt32, show (-128 : Int32).toInt = -128 from by decide, show (127 : Int32).toInt = 127 from by decide]
  omega
/-- A' is A but that each place j of lo .. hi - 1 holds f j -/
def Laid (A A' : Cell) (lo hi : Nat) (f : Nat → Value) : Prop := A'.cls = A.cls ∧ A'.vm = A.vm ∧ A'.slots.size = A.slots.size ∧ ∀ i, A'.slots[i]? = if lo ≤ i ∧ i < hi then some (f i) else A.slots[i]?
theorem Laid.zero (A : Cell) (lo : Nat) (f : Nat → Value) : Laid A A lo (lo + 0) f := ⟨rfl, rfl, rfl, fun i => by rw [if_neg (by omega)]⟩
theorem Laid.step {A Ak : Cell} {lo k : Nat} {f : Nat → Value} {v : Value} (h : Laid A Ak lo k f) (hlo : lo ≤ k) (hk : k < Ak.slots.size) (hv : v = f k) : Laid A (Ak.setSlot k v) lo (k + 1) f := by
  refine ⟨h.1, h.2.1, by simpa [Cell.setSlot] using h.2.2.1, fun i => ?_⟩
  by_cases e : k = i
  · subst e; rw [Cell.slots_setSlot_self v hk, if_pos (by omega), hv]
  · rw [Cell.slots_setSlot_ne v e, h.2.2.2 i]
    by_cases q : lo ≤ i ∧ i < k
    · rw [if_pos q, if_pos (by omega)]
    · rw [if_neg q, if_neg (by omega)]
def U16 : String := "java/lang/StringUTF16"
namespace Cmp5
def yN : MethodName := ⟨"java/lang/StringUTF16", "compress", "([CI[BII)I"⟩
abbrev yB : ByteArray := jdk_52_method_21_code
theorem d0 : decode yB 0 = .ok (.iconst 0, 1) := by decide +kernel
theorem d1 : decode yB 1 = .ok (.istore 5, 2) := by decide +kernel
theorem d3 : decode yB 3 = .ok (.iload 5, 2) := by decide +kernel
theorem d5 : decode yB 5 = .ok (.iload 4, 2) := by decide +kernel
theorem d7 : decode yB 7 = .ok (.if_icmp (.ge) 37, 3) := by decide +kernel
theorem d10 : decode yB 10 = .ok (.aload_n 0, 1) := by decide +kernel
theorem d11 : decode yB 11 = .ok (.iload_n 1, 1) := by decide +kernel
theorem d12 : decode yB 12 = .ok (.caload, 1) := by decide +kernel
theorem d13 : decode yB 13 = .ok (.istore 6, 2) := by decide +kernel
theorem d15 : decode yB 15 = .ok (.iload 6, 2) := by decide +kernel
theorem d17 : decode yB 17 = .ok (.sipush 255, 3) := by decide +kernel
theorem d20 : decode yB 20 = .ok (.if_icmp (.le) 6, 3) := by decide +kernel
theorem d26 : decode yB 26 = .ok (.aload_n 2, 1) := by decide +kernel
theorem d27 : decode yB 27 = .ok (.iload_n 3, 1) := by decide +kernel
theorem d28 : decode yB 28 = .ok (.iload 6, 2) := by decide +kernel
theorem d30 : decode yB 30 = .ok (.i2b, 1) := by decide +kernel
theorem d31 : decode yB 31 = .ok (.bastore, 1) := by decide +kernel
theorem d32 : decode yB 32 = .ok (.iinc 1 1, 3) := by decide +kernel
theorem d35 : decode yB 35 = .ok (.iinc 3 1, 3) := by decide +kernel
theorem d38 : decode yB 38 = .ok (.iinc 5 1, 3) := by decide +kernel
theorem d41 : decode yB 41 = .ok (.goto (-38), 3) := by decide +kernel
theorem d44 : decode yB 44 = .ok (.iload 4, 2) := by decide +kernel
theorem d46 : decode yB 46 = .ok (.ireturn, 1) := by decide +kernel
def site : List Cond := []
def tab : Cond := tabOf yN yB 7 (some .int) site
def P (b : Addr) (A : Cell) (d : Addr) (B : Cell) (o q len : Nat) (args : Array Value) (s : State) : Prop := args = #[.ref b, .int (Int32.ofNat o), .ref d, .int (Int32.ofNat q), .int (Int32.ofNat len)] ∧ Ch b A s ∧ Arr .byte d B s ∧ b ≠ d ∧ o + len ≤ A.slots.size ∧ q + len ≤ B.slots.size ∧ ∀ i, i < len → ¬ 255 < cv A (o + i)
def E (b : Addr) (A : Cell) (d : Addr) (B : Cell) (o q len : Nat) (r : Option Value) (s u : State) : Prop := r = some (.int (Int32.ofNat len)) ∧ ∃ B', Put d B' s u ∧ Laid B B' q (q + len) (fun j => Value.int (lo8 (cv A (o + (j - q)))))
/-- no char of the range above 255: len; the places written hold each char's low byte -/
theorem law (l : Launch) (b : Addr) (A : Cell) (d : Addr) (B : Cell) (o q len : Nat) : Law l yN 5 5 0 0 yB 7 (some .int) site (P b A d B o q len) (E b A d B o q len) (copyLocs d q len) 0 0 := by
  refine Law.of_walk (plainFor_of_name (by decide +kernel)) (by decide +kernel) (by decide +kernel) (by decide) (fun _ _ h => by rw [h.1]; rfl) (fun _ U U' hal hh h => ⟨h.1, h.2.1.mv hal hh, h.2.2.1.mv hal hh, h.2.2.2⟩) (fun r U U' V V' h1 hal h2 h => ⟨h.1, h.2.elim fun B' q => ⟨B', q.1.mv h1 h2, q.2⟩⟩) ?_
  intro p e s m args below meth c s₁ X0 hexec hbytes hml hret hlk hnm hown hh0 W hP
  obtain ⟨rfl, hA, hB, hne, l1, l2, hp⟩ := hP
  have c1 : Steps p.tables e below (s₁.setTop (entryFrame m #[.ref b, .int (Int32.ofNat o), .ref d, .int (Int32.ofNat q), .int (Int32.ofNat len)] 7)) (s₁.setTop (mkF m 0 #[.val (.ref b), .val (.int (Int32.ofNat o)), .val (.ref d), .val (.int (Int32.ofNat q)), .val (.int (Int32.ofNat len)), .unset, .unset] [])) := entry rfl
  have hA0 := hA.1.mv X0.warmed.alike hh0
  have hB0 := hB.mv X0.warmed.alike hh0
  have a31 := hA.1.2.2.2
  have c2 : Steps p.tables e below (s₁.setTop (entryFrame m #[.ref b, .int (Int32.ofNat o), .ref d, .int (Int32.ofNat q), .int (Int32.ofNat len)] 7)) (s₁.setTop (mkF m 3 #[.val (.ref b), .val (.int (Int32.ofNat o)), .val (.ref d), .val (.int (Int32.ofNat q)), .val (.int (Int32.ofNat len)), .val (.int 0), .unset] [])) := c1.trans (by
    refine iconstV X0.here hexec rfl 0 (hb hbytes d0) (by decide) ?_
    refine XS.istore X0.here hexec rfl (hb hbytes d1) rfl rfl ?_
    exact Steps.refl _)
  have loop : ∀ (r i : Nat), i + r = len → ∀ (z : Slot), (z = .unset ∨ ∃ w, z = .val w ∧ w.category = 1) → ∀ (Tl : State) (Bk : Cell), Stand p l e { frames := 0, locals := 0, cells := 0, slots := 0 } s m #[.ref b, .int (Int32.ofNat o), .ref d, .int (Int32.ofNat q), .int (Int32.ofNat len)] below meth c Tl ([] ++ copyLocs d q i) 0 0 → Put d Bk s₁ Tl → Laid B Bk q (q + i) (fun j => Value.int (lo8 (cv A (o + (j - q))))) →
      Steps p.tables e below (s₁.setTop (entryFrame m #[.ref b, .int (Int32.ofNat o), .ref d, .int (Int32.ofNat q), .int (Int32.ofNat len)] 7)) (Tl.setTop (mkF m 3 #[.val (.ref b), .val (.int (Int32.ofNat (o + i))), .val (.ref d), .val (.int (Int32.ofNat (q + i))), .val (.int (Int32.ofNat len)), .val (.int (Int32.ofNat i)), z] [])) → ∃ (T' : State) (B' : Cell) (z' : Slot), Stand p l e { frames := 0, locals := 0, cells := 0, slots := 0 } s m #[.ref b, .int (Int32.ofNat o), .ref d, .int (Int32.ofNat q), .int (Int32.ofNat len)] below meth c T' ([] ++ copyLocs d q len) 0 0 ∧ Put d B' s₁ T' ∧ Laid B B' q (q + len) (fun j => Value.int (lo8 (cv A (o + (j - q))))) ∧
      Steps p.tables e below (s₁.setTop (entryFrame m #[.ref b, .int (Int32.ofNat o), .ref d, .int (Int32.ofNat q), .int (Int32.ofNat len)] 7)) (T'.setTop (mkF m 3 #[.val (.ref b), .val (.int (Int32.ofNat (o + len))), .val (.ref d), .val (.int (Int32.ofNat (q + len))), .val (.int (Int32.ofNat len)), .val (.int (Int32.ofNat len)), z'] [])) := by
    intro r
    induction r with
    | zero =>
      intro i hi z hz Tl Bk Xl pl fl cl
      have hil : i = len := by omega
      rw [hil] at Xl fl cl
      exact ⟨Tl, Bk, z, Xl, pl, fl, cl⟩
    | succ r ih =>
      intro i hi z hz Tl Bk Xl pl fl cl
      have all := X0.warmed.alike.symm.trans Xl.warmed.alike
      have hAl := hA0.keep all (pl.other hne hA0.1)
      have hBk := hB0.like all pl.1 fl.1 fl.2.1 fl.2.2.1
      have hlt : q + i < Bk.slots.size := by rw [fl.2.2.1]; omega
      have c3 : Steps p.tables e below (s₁.setTop (entryFrame m #[.ref b, .int (Int32.ofNat o), .ref d, .int (Int32.ofNat q), .int (Int32.ofNat len)] 7)) (Tl.setTop (mkF m 12 #[.val (.ref b), .val (.int (Int32.ofNat (o + i))), .val (.ref d), .val (.int (Int32.ofNat (q + i))), .val (.int (Int32.ofNat len)), .val (.int (Int32.ofNat i)), z] [.int (Int32.ofNat (o + i)), .ref b])) := cl.trans (by
        refine XS.iload Xl.here hexec rfl (hb hbytes d3) rfl ?_
        refine XS.iload Xl.here hexec rfl (hb hbytes d5) rfl ?_
        refine XS.icmpNo Xl.here hexec rfl (hb hbytes d7) rfl (ii_ge_f (lt32 (by omega) (by omega))) ?_
        refine XS.aloadN Xl.here hexec rfl (hb hbytes d10) rfl rfl ?_
        refine XS.iloadN Xl.here hexec rfl (hb hbytes d11) rfl ?_
        exact Steps.refl _)
      have c4 : Steps p.tables e below (s₁.setTop (entryFrame m #[.ref b, .int (Int32.ofNat o), .ref d, .int (Int32.ofNat q), .int (Int32.ofNat len)] 7)) (Tl.setTop (mkF m 13 #[.val (.ref b), .val (.int (Int32.ofNat (o + i))), .val (.ref d), .val (.int (Int32.ofNat (q + i))), .val (.int (Int32.ofNat len)), .val (.int (Int32.ofNat i)), z] [.int (cv A (o + i))])) := c3.trans (by
        refine Xl.aget hexec hAl rfl (hA.get (i := o + i) (by omega)) rfl rfl (hb hbytes d12) ?_
        exact Steps.refl _)
      have c5 : Steps p.tables e below (s₁.setTop (entryFrame m #[.ref b, .int (Int32.ofNat o), .ref d, .int (Int32.ofNat q), .int (Int32.ofNat len)] 7)) (Tl.setTop (mkF m 15 #[.val (.ref b), .val (.int (Int32.ofNat (o + i))), .val (.ref d), .val (.int (Int32.ofNat (q + i))), .val (.int (Int32.ofNat len)), .val (.int (Int32.ofNat i)), .val (.int (cv A (o + i)))] [])) := c4.trans (by
        refine XS.istoreS Xl.here hexec rfl (hb hbytes d13) rfl rfl hz ?_
        exact Steps.refl _)
      have c6 : Steps p.tables e below (s₁.setTop (entryFrame m #[.ref b, .int (Int32.ofNat o), .ref d, .int (Int32.ofNat q), .int (Int32.ofNat len)] 7)) (Tl.setTop (mkF m 31 #[.val (.ref b), .val (.int (Int32.ofNat (o + i))), .val (.ref d), .val (.int (Int32.ofNat (q + i))), .val (.int (Int32.ofNat len)), .val (.int (Int32.ofNat i)), .val (.int (cv A (o + i)))] [.int (lo8 (cv A (o + i))), .int (Int32.ofNat (q + i)), .ref d])) := c5.trans (by
        refine XS.iload Xl.here hexec rfl (hb hbytes d15) rfl ?_
        refine sipushV Xl.here hexec rfl 255 (hb hbytes d17) (by decide) ?_
        refine XS.icmpYes Xl.here hexec rfl (pc0 := 20) rfl (hb hbytes d20) rfl (ii_le_t (hp i (by omega))) (by decide) rfl ?_
        refine XS.aloadN Xl.here hexec rfl (hb hbytes d26) rfl rfl ?_
        refine XS.iloadN Xl.here hexec rfl (hb hbytes d27) rfl ?_
        refine XS.iload Xl.here hexec rfl (hb hbytes d28) rfl ?_
        refine i2b Xl.here hexec rfl (hb hbytes d30) rfl ?_
        exact Steps.refl _)
      obtain ⟨T7, X7, p7, st7⟩ := Xl.aput hexec hBk rfl hlt rfl (fits_lo8 (cv A (o + i))) (g := (mkF m 31 #[.val (.ref b), .val (.int (Int32.ofNat (o + i))), .val (.ref d), .val (.int (Int32.ofNat (q + i))), .val (.int (Int32.ofNat len)), .val (.int (Int32.ofNat i)), .val (.int (cv A (o + i)))] [.int (lo8 (cv A (o + i))), .int (Int32.ofNat (q + i)), .ref d])) rfl (rest := []) rfl (hb hbytes d31)
      have c8 : Steps p.tables e below (s₁.setTop (entryFrame m #[.ref b, .int (Int32.ofNat o), .ref d, .int (Int32.ofNat q), .int (Int32.ofNat len)] 7)) (T7.setTop (mkF m 32 #[.val (.ref b), .val (.int (Int32.ofNat (o + i))), .val (.ref d), .val (.int (Int32.ofNat (q + i))), .val (.int (Int32.ofNat len)), .val (.int (Int32.ofNat i)), .val (.int (cv A (o + i)))] [])) := c6.trans (st7 _ (Steps.refl _))
      have c9 : Steps p.tables e below (s₁.setTop (entryFrame m #[.ref b, .int (Int32.ofNat o), .ref d, .int (Int32.ofNat q), .int (Int32.ofNat len)] 7)) (T7.setTop (mkF m 3 #[.val (.ref b), .val (.int (Int32.ofNat (o + i) + 1)), .val (.ref d), .val (.int (Int32.ofNat (q + i) + 1)), .val (.int (Int32.ofNat len)), .val (.int (Int32.ofNat i + 1)), .val (.int (cv A (o + i)))] [])) := c8.trans (by
        refine iincV X7.here hexec rfl 1 (hb hbytes d32) (by decide) rfl rfl ?_
        refine iincV X7.here hexec rfl 1 (hb hbytes d35) (by decide) rfl rfl ?_
        refine iincV X7.here hexec rfl 1 (hb hbytes d38) (by decide) rfl rfl ?_
        refine XS.goto X7.here hexec rfl (pc0 := 41) rfl (hb hbytes d41) (by decide) rfl ?_
        exact Steps.refl _)
      have c10 : Steps p.tables e below (s₁.setTop (entryFrame m #[.ref b, .int (Int32.ofNat o), .ref d, .int (Int32.ofNat q), .int (Int32.ofNat len)] 7)) (T7.setTop (mkF m 3 #[.val (.ref b), .val (.int (Int32.ofNat (o + (i + 1)))), .val (.ref d), .val (.int (Int32.ofNat (q + (i + 1)))), .val (.int (Int32.ofNat len)), .val (.int (Int32.ofNat (i + 1))), .val (.int (cv A (o + i)))] [])) := by
        have := c9
        rw [succ32, succ32, succ32] at this
        exact this
      exact ih (i + 1) (by omega) _ (Or.inr ⟨_, rfl, rfl⟩) T7 _ (by rw [copyLocs_step, ← List.append_assoc]; exact X7) (pl.trans p7) (fl.step (by omega) hlt (by simp)) c10
  obtain ⟨T9, B9, z9, X9, p9, f9, g9⟩ := loop len 0 (by omega) .unset (Or.inl rfl) s₁ B (by simpa [copyLocs] using X0) ⟨hB0.1, fun _ _ => rfl, rfl⟩ (Laid.zero _ _ _) c2
  have c11 : Steps p.tables e below (s₁.setTop (entryFrame m #[.ref b, .int (Int32.ofNat o), .ref d, .int (Int32.ofNat q), .int (Int32.ofNat len)] 7)) (T9.setTop (mkF m 46 #[.val (.ref b), .val (.int (Int32.ofNat (o + len))), .val (.ref d), .val (.int (Int32.ofNat (q + len))), .val (.int (Int32.ofNat len)), .val (.int (Int32.ofNat len)), z9] [.int (Int32.ofNat len)])) := g9.trans (by
    refine XS.iload X9.here hexec rfl (hb hbytes d3) rfl ?_
    refine XS.iload X9.here hexec rfl (hb hbytes d5) rfl ?_
    refine XS.icmpYes X9.here hexec rfl (pc0 := 7) rfl (hb hbytes d7) rfl (ii_ge_t (nlt32 (by omega) (Nat.le_refl _))) (by decide) rfl ?_
    refine XS.iload X9.here hexec rfl (hb hbytes d44) rfl ?_
    exact Steps.refl _)
  exact ⟨T9, some (.int (Int32.ofNat len)), _, _, _, X9, by simp, rfl, rfl, (fun h => by cases h), ⟨rfl, B9, p9.from hh0, f9⟩, fun fs hl => c11.trans (X9.ireturnOut hexec hret rfl (Or.inl rfl) (hb hbytes d46) hl)⟩
end Cmp5
namespace Cmp3
def yN : MethodName := ⟨"java/lang/StringUTF16", "compress", "([CII)[B"⟩
abbrev yB : ByteArray := jdk_52_method_16_code
theorem d0 : decode yB 0 = .ok (.iload_n 2, 1) := by decide +kernel
theorem d1 : decode yB 1 = .ok (.newarray .byte, 2) := by decide +kernel
theorem d3 : decode yB 3 = .ok (.astore_n 3, 1) := by decide +kernel
theorem d4 : decode yB 4 = .ok (.aload_n 0, 1) := by decide +kernel
theorem d5 : decode yB 5 = .ok (.iload_n 1, 1) := by decide +kernel
theorem d6 : decode yB 6 = .ok (.aload_n 3, 1) := by decide +kernel
theorem d7 : decode yB 7 = .ok (.iconst 0, 1) := by decide +kernel
theorem d8 : decode yB 8 = .ok (.iload_n 2, 1) := by decide +kernel
theorem d9 : decode yB 9 = .ok (.invokestatic 115, 3) := by decide +kernel
theorem d12 : decode yB 12 = .ok (.istore 4, 2) := by decide +kernel
theorem d14 : decode yB 14 = .ok (.iload 4, 2) := by decide +kernel
theorem d16 : decode yB 16 = .ok (.iload_n 2, 1) := by decide +kernel
theorem d17 : decode yB 17 = .ok (.if_icmp (.eq) 40, 3) := by decide +kernel
theorem d57 : decode yB 57 = .ok (.aload_n 3, 1) := by decide +kernel
theorem d58 : decode yB 58 = .ok (.areturn, 1) := by decide +kernel
def site : List Cond := [.arrayClass .byte, Cmp5.tab] ++ staticW U16 115 Cmp5.yN
def tab : Cond := tabOf yN yB 6 (some (.array .byte)) site
def P (b : Addr) (A : Cell) (o len : Nat) (args : Array Value) (s : State) : Prop := args = #[.ref b, .int (Int32.ofNat o), .int (Int32.ofNat len)] ∧ Ch b A s ∧ o + len ≤ A.slots.size ∧ len ≤ 536870912 ∧ ∀ i, i < len → ¬ 255 < cv A (o + i)
def E (b : Addr) (A : Cell) (o len : Nat) (r : Option Value) (s u : State) : Prop := NewArr .byte "[B" len (fun j => .int (lo8 (cv A (o + j)))) r s u ∧ u.heap.size = s.heap.size + 1
/-- no char of the range above 255: a new byte[] of their low bytes -/
theorem law (l : Launch) (b : Addr) (A : Cell) (o len : Nat) : Law l yN 3 3 1 18 yB 6 (some (.array .byte)) site (P b A o len) (E b A o len) [] 1 len := by
  refine Law.of_walk (plainFor_of_name (by decide +kernel)) (by decide +kernel) (by decide +kernel) (by decide) (fun _ _ h => by rw [h.1]; rfl) (fun _ U U' hal hh h => ⟨h.1, h.2.1.mv hal hh, h.2.2⟩) (fun r U U' V V' h1 hal h2 h => ⟨NewArr.mv r U U' V V' h1 hal h2 h.1, by rw [h1, h2]; exact h.2⟩) ?_
  intro p e s m args below meth c s₁ X0 hexec hbytes hml hret hlk hnm hown hh0 W hP
  obtain ⟨rfl, hA, l1, l2, hp⟩ := hP
  have a31 := hA.1.2.2.2
  have c1 : Steps p.tables e below (s₁.setTop (entryFrame m #[.ref b, .int (Int32.ofNat o), .int (Int32.ofNat len)] 6)) (s₁.setTop (mkF m 0 #[.val (.ref b), .val (.int (Int32.ofNat o)), .val (.int (Int32.ofNat len)), .unset, .unset, .unset] [])) := entry rfl
  have c2 : Steps p.tables e below (s₁.setTop (entryFrame m #[.ref b, .int (Int32.ofNat o), .int (Int32.ofNat len)] 6)) (s₁.setTop (mkF m 1 #[.val (.ref b), .val (.int (Int32.ofNat o)), .val (.int (Int32.ofNat len)), .unset, .unset, .unset] [.int (Int32.ofNat len)])) := c1.trans (by
    refine XS.iloadN X0.here hexec rfl (hb hbytes d0) rfl ?_
    exact Steps.refl _)
  obtain ⟨T3, B3, X3, ba3, bs3, bv3, bh3, bf3, st3⟩ := X0.anew hexec (atype := .byte) (wk W (.arrayClass .byte)) rfl (by show len * 1 ≤ _; omega) (by omega) (g := (mkF m 1 #[.val (.ref b), .val (.int (Int32.ofNat o)), .val (.int (Int32.ofNat len)), .unset, .unset, .unset] [.int (Int32.ofNat len)])) rfl (hb hbytes d1) (rest := []) rfl (Nat.le_refl _) (by show 0 + len ≤ len; omega)
  rw [hh0] at ba3 st3
  have kp3 : XT.Kept s T3 := (XT.Kept.of_eq hh0).push bh3
  have hA3 := hA.keep X3.warmed.alike (kp3 _ _ hA.1.1)
  have hne : b ≠ s.heap.size := hA.1.ne
  have c4 : Steps p.tables e below (s₁.setTop (entryFrame m #[.ref b, .int (Int32.ofNat o), .int (Int32.ofNat len)] 6)) (T3.setTop (mkF m 3 #[.val (.ref b), .val (.int (Int32.ofNat o)), .val (.int (Int32.ofNat len)), .unset, .unset, .unset] [.ref s.heap.size])) := c2.trans (st3 _ (Steps.refl _))
  have c5 : Steps p.tables e below (s₁.setTop (entryFrame m #[.ref b, .int (Int32.ofNat o), .int (Int32.ofNat len)] 6)) (T3.setTop (mkF m 9 #[.val (.ref b), .val (.int (Int32.ofNat o)), .val (.int (Int32.ofNat len)), .val (.ref s.heap.size), .unset, .unset] [.int (Int32.ofNat len), .int 0, .ref s.heap.size, .int (Int32.ofNat o), .ref b])) := c4.trans (by
    refine XS.astoreN X3.here hexec rfl (hb hbytes d3) rfl rfl rfl ?_
    refine XS.aloadN X3.here hexec rfl (hb hbytes d4) rfl rfl ?_
    refine XS.iloadN X3.here hexec rfl (hb hbytes d5) rfl ?_
    refine XS.aloadN X3.here hexec rfl (hb hbytes d6) rfl rfl ?_
    refine iconstV X3.here hexec rfl 0 (hb hbytes d7) (by decide) ?_
    refine XS.iloadN X3.here hexec rfl (hb hbytes d8) rfl ?_
    exact Steps.refl _)
  obtain ⟨v6, T6, X6, E6, g6⟩ := X3.callS hexec (Cmp5.law l b A s.heap.size B3 o 0 len) hown (wks W (staticW U16 115 Cmp5.yN)) (wk W Cmp5.tab) (W := 0) (Nat.le_of_ble_eq_true rfl) (Nat.le_of_ble_eq_true rfl) (Nat.le_refl _) (by show 0 + len + 0 ≤ len; omega) (g := (mkF m 9 #[.val (.ref b), .val (.int (Int32.ofNat o)), .val (.int (Int32.ofNat len)), .val (.ref s.heap.size), .unset, .unset] [.int (Int32.ofNat len), .int (Int32.ofNat 0), .ref s.heap.size, .int (Int32.ofNat o), .ref b])) rfl (by rw [hml]; rfl) c5 (argsL := [.ref b, .int (Int32.ofNat o), .ref s.heap.size, .int (Int32.ofNat 0), .int (Int32.ofNat len)]) (rest := []) rfl rfl (by show 2 * 0 + 0 ≤ _; decide) (hb hbytes d9) (⟨rfl, hA3, ba3, hne, l1, by rw [bs3]; simp, hp⟩)
  obtain ⟨rfl, B6, p6, f6⟩ := E6
  have c7 : Steps p.tables e below (s₁.setTop (entryFrame m #[.ref b, .int (Int32.ofNat o), .int (Int32.ofNat len)] 6)) (T6.setTop (mkF m 12 #[.val (.ref b), .val (.int (Int32.ofNat o)), .val (.int (Int32.ofNat len)), .val (.ref s.heap.size), .unset, .unset] [.int (Int32.ofNat len)])) := g6
  have c8 : Steps p.tables e below (s₁.setTop (entryFrame m #[.ref b, .int (Int32.ofNat o), .int (Int32.ofNat len)] 6)) (T6.setTop (mkF m 58 #[.val (.ref b), .val (.int (Int32.ofNat o)), .val (.int (Int32.ofNat len)), .val (.ref s.heap.size), .val (.int (Int32.ofNat len)), .unset] [.ref s.heap.size])) := c7.trans (by
    refine XS.istore X6.here hexec rfl (hb hbytes d12) rfl rfl ?_
    refine XS.iload X6.here hexec rfl (hb hbytes d14) rfl ?_
    refine XS.iloadN X6.here hexec rfl (hb hbytes d16) rfl ?_
    refine XS.icmpYes X6.here hexec rfl (pc0 := 17) rfl (hb hbytes d17) rfl (ii_eq_t rfl) (by decide) rfl ?_
    refine XS.aloadN X6.here hexec rfl (hb hbytes d57) rfl rfl ?_
    exact Steps.refl _)
  have X8 := X6.wide (L' := []) (cells' := 1) (slots' := len) (fun x hx hlt => by
    simp only [List.nil_append, copyLocs, List.mem_map, List.mem_range] at hx
    obtain ⟨i, -, rfl⟩ := hx
    exact absurd hlt (Nat.lt_irrefl _)) (Nat.le_refl _) (by omega)
  exact ⟨T6, some (.ref s.heap.size), _, _, _, X8, rfl, rfl, rfl, (fun h => by cases h), ⟨⟨rfl, B6, ba3.like (X3.warmed.alike.symm.trans X6.warmed.alike) p6.1 f6.1 f6.2.1 f6.2.2.1, f6.2.1.trans bv3, by rw [X6.warmed.alike.findClass, f6.1]; exact bf3, by rw [f6.2.2.1, bs3]; simp, fun j hj => by rw [f6.2.2.2 j, if_pos (by omega)]; rfl, kp3.put p6 (Nat.le_refl _)⟩, by rw [p6.2.2, bh3, hh0]; simp⟩, fun fs hl => c8.trans (X8.areturnOut hexec rfl hret rfl (hb hbytes d58) hl)⟩
end Cmp3
namespace CodL
def yN : MethodName := ⟨"java/lang/StringUTF16", "coderFromArrayLen", "([BI)B"⟩
abbrev yB : ByteArray := jdk_52_method_15_code
theorem d0 : decode yB 0 = .ok (.iload_n 1, 1) := by decide +kernel
theorem d1 : decode yB 1 = .ok (.aload_n 0, 1) := by decide +kernel
theorem d2 : decode yB 2 = .ok (.arraylength, 1) := by decide +kernel
theorem d3 : decode yB 3 = .ok (.isub, 1) := by decide +kernel
theorem d4 : decode yB 4 = .ok (.bipush 31, 2) := by decide +kernel
theorem d6 : decode yB 6 = .ok (.iushr, 1) := by decide +kernel
theorem d7 : decode yB 7 = .ok (.i2b, 1) := by decide +kernel
theorem d8 : decode yB 8 = .ok (.ireturn, 1) := by decide +kernel
def site : List Cond := []
def tab : Cond := tabOf yN yB 2 (some .byte) site
def P (d : Addr) (B : Cell) (args : Array Value) (s : State) : Prop := args = #[.ref d, .int (Int32.ofNat B.slots.size)] ∧ Arr .byte d B s
def E (r : Option Value) (s u : State) : Prop := XT.PureE (some (.int 0)) r s u
/-- an array as long as the number of chars: LATIN1 -/
theorem law (l : Launch) (d : Addr) (B : Cell) : Law l yN 2 2 0 0 yB 2 (some .byte) site (P d B) E [] 0 0 := by
  refine Law.of_walk (plainFor_of_name (by decide +kernel)) (by decide +kernel) (by decide +kernel) (by decide) (fun _ _ h => by rw [h.1]; rfl) (fun _ U U' hal hh h => ⟨h.1, h.2.mv hal hh⟩) (fun r U U' V V' h1 hal h2 h => XT.PureE.mv r U U' V V' h1 hal h2 h) ?_
  intro p e s m args below meth c s₁ X0 hexec hbytes hml hret hlk hnm hown hh0 W hP
  obtain ⟨rfl, hB⟩ := hP
  have hB0 := hB.mv X0.warmed.alike hh0
  have c1 : Steps p.tables e below (s₁.setTop (entryFrame m #[.ref d, .int (Int32.ofNat B.slots.size)] 2)) (s₁.setTop (mkF m 0 #[.val (.ref d), .val (.int (Int32.ofNat B.slots.size))] [])) := entry rfl
  have c2 : Steps p.tables e below (s₁.setTop (entryFrame m #[.ref d, .int (Int32.ofNat B.slots.size)] 2)) (s₁.setTop (mkF m 2 #[.val (.ref d), .val (.int (Int32.ofNat B.slots.size))] [.ref d, .int (Int32.ofNat B.slots.size)])) := c1.trans (by
    refine XS.iloadN X0.here hexec rfl (hb hbytes d0) rfl ?_
    refine XS.aloadN X0.here hexec rfl (hb hbytes d1) rfl rfl ?_
    exact Steps.refl _)
  have c3 : Steps p.tables e below (s₁.setTop (entryFrame m #[.ref d, .int (Int32.ofNat B.slots.size)] 2)) (s₁.setTop (mkF m 8 #[.val (.ref d), .val (.int (Int32.ofNat B.slots.size))] [.int (lo8 (ushr (Int32.ofNat B.slots.size - Int32.ofNat B.slots.size) 31))])) := c2.trans (by
    refine X0.alen hexec hB0 rfl rfl (hb hbytes d2) ?_
    refine XS.isub X0.here hexec rfl (hb hbytes d3) rfl ?_
    refine bipushV X0.here hexec rfl 31 (hb hbytes d4) (by decide) ?_
    refine iushr X0.here hexec rfl (hb hbytes d6) rfl ?_
    refine i2b X0.here hexec rfl (hb hbytes d7) rfl ?_
    exact Steps.refl _)
  have e0 : lo8 (ushr (Int32.ofNat B.slots.size - Int32.ofNat B.slots.size) 31) = 0 := by rw [Int32.sub_self]; decide
  rw [e0] at c3
  exact ⟨s₁, some (.int 0), _, _, _, X0, rfl, rfl, rfl, (fun h => by cases h), ⟨rfl, hh0⟩, fun fs hl => c3.trans (X0.ireturnOut hexec hret rfl (Or.inr (Or.inr (Or.inl rfl))) (hb hbytes d8) hl)⟩
end CodL
/-- the String at a is Latin-1 over a new byte[] (the heap's one new cell): the low bytes of the len chars of A from o on; every cell but a is kept -/
def Got (a : Addr) (D : Cell) (fV fC : Field) (A : Cell) (o len : Nat) (r : Option Value) (s u : State) : Prop := r = none ∧ ∃ D' V : Cell, Blank "java/lang/String" a D' u ∧ Same D D' [fV.slot, fC.slot] ∧ D'.slots[fV.slot]? = some (.ref s.heap.size) ∧ D'.slots[fC.slot]? = some (.int 0) ∧ Arr .byte s.heap.size V u ∧ V.vm = .none ∧ u.vm.findClass "[B" = some V.cls ∧ V.slots.size = len ∧ (∀ j, j < len → V.slots[j]? = some (.int (lo8 (cv A (o + j))))) ∧ (∀ (y : Addr) (c : Cell), y ≠ a → s.heap[y]? = some c → u.heap[y]? = some c) ∧ u.heap.size = s.heap.size + 1
theorem Got.mv {a : Addr} {D A : Cell} {fV fC : Field} {o len : Nat} : ∀ r (U U' V V' : State), U'.heap = U.heap → V.vm.Alike V'.vm → V'.heap = V.heap → Got a D fV fC A o len r U V → Got a D fV fC A o len r U' V' :=
  fun r U U' V V' h1 hal h2 ⟨e0, D', X, a1, a2, a3, a4, a5, a6, a7, a8, a9, a10, a11⟩ => ⟨e0, D', X, a1.mv hal h2, a2, by rw [h1]; exact a3, a4, by rw [h1]; exact a5.mv hal h2, a6, by rw [hal.findClass]; exact a7, a8, a9, by rw [h1, h2]; exact a10, by rw [h1, h2]; exact a11⟩
namespace New4
def yN : MethodName := ⟨"java/lang/String", "<init>", "([CIILjava/lang/Void;)V"⟩
abbrev yB : ByteArray := jdk_42_method_149_code
theorem d0 : decode yB 0 = .ok (.aload_n 0, 1) := by decide +kernel
theorem d1 : decode yB 1 = .ok (.invokespecial 1, 3) := by decide +kernel
theorem d4 : decode yB 4 = .ok (.iload_n 3, 1) := by decide +kernel
theorem d5 : decode yB 5 = .ok (.ifCond (.ne) 22, 3) := by decide +kernel
theorem d27 : decode yB 27 = .ok (.getstatic 38, 3) := by decide +kernel
theorem d30 : decode yB 30 = .ok (.ifCond (.eq) 28, 3) := by decide +kernel
theorem d33 : decode yB 33 = .ok (.aload_n 1, 1) := by decide +kernel
theorem d34 : decode yB 34 = .ok (.iload_n 2, 1) := by decide +kernel
theorem d35 : decode yB 35 = .ok (.iload_n 3, 1) := by decide +kernel
theorem d36 : decode yB 36 = .ok (.invokestatic 177, 3) := by decide +kernel
theorem d39 : decode yB 39 = .ok (.astore 5, 2) := by decide +kernel
theorem d41 : decode yB 41 = .ok (.aload_n 0, 1) := by decide +kernel
theorem d42 : decode yB 42 = .ok (.aload 5, 2) := by decide +kernel
theorem d44 : decode yB 44 = .ok (.iload_n 3, 1) := by decide +kernel
theorem d45 : decode yB 45 = .ok (.invokestatic 47, 3) := by decide +kernel
theorem d48 : decode yB 48 = .ok (.putfield 15, 3) := by decide +kernel
theorem d51 : decode yB 51 = .ok (.aload_n 0, 1) := by decide +kernel
theorem d52 : decode yB 52 = .ok (.aload 5, 2) := by decide +kernel
theorem d54 : decode yB 54 = .ok (.putfield 9, 3) := by decide +kernel
theorem d57 : decode yB 57 = .ok (.return_, 1) := by decide +kernel
def site : List Cond := [.fieldLink "java/lang/String" 38 "java/lang/String" "COMPACT_STRINGS" "Z", Cmp3.tab, CodL.tab, .laysFinal "java/lang/String" "java/lang/String" "value" "[B", .fieldLink "java/lang/String" 9 "java/lang/String" "value" "[B", .laysFinal "java/lang/String" "java/lang/String" "coder" "B", .fieldLink "java/lang/String" 15 "java/lang/String" "coder" "B"] ++ objW "java/lang/String" 1 ++ staticW "java/lang/String" 177 Cmp3.yN ++ staticW "java/lang/String" 47 CodL.yN
def tab : Cond := tabOf yN yB 6 none site
def P (a : Addr) (D : Cell) (fV fC : Field) (b : Addr) (A : Cell) (z : Int32) (o len : Nat) (args : Array Value) (s : State) : Prop := args = #[.ref a, .ref b, .int (Int32.ofNat o), .int (Int32.ofNat len), .null] ∧ Blank "java/lang/String" a D s ∧ Found "java/lang/String" "value" "[B" fV s ∧ Found "java/lang/String" "coder" "B" fC s ∧ Ch b A s ∧ StaticIs s "java/lang/String" "COMPACT_STRINGS" "Z" (.int z) ∧ ¬ z = 0 ∧ 0 < len ∧ o + len ≤ A.slots.size ∧ len ≤ 536870912 ∧ ∀ i, i < len → ¬ 255 < cv A (o + i)
def E (a : Addr) (D : Cell) (fV fC : Field) (A : Cell) (o len : Nat) (r : Option Value) (s u : State) : Prop := Got a D fV fC A o len r s u
/-- len > 0, no char of the range above 255: a Latin-1 String of their low bytes -/
theorem law (l : Launch) (a : Addr) (D : Cell) (fV fC : Field) (b : Addr) (A : Cell) (z : Int32) (o len : Nat) : Law l yN 5 4 2 35 yB 6 none site (P a D fV fC b A z o len) (E a D fV fC A o len) [⟨a, fC.slot⟩, ⟨a, fV.slot⟩] 1 len := by
  refine Law.of_walk (plainFor_of_name (by decide +kernel)) (by decide +kernel) (by decide +kernel) (by decide) (fun _ _ h => by rw [h.1]; rfl) (fun _ U U' hal hh h => ⟨h.1, h.2.1.mv hal hh, h.2.2.1.al hal, h.2.2.2.1.al hal, h.2.2.2.2.1.mv hal hh, h.2.2.2.2.2.1.there hal hh, h.2.2.2.2.2.2⟩) (fun r U U' V V' h1 hal h2 h => Got.mv r U U' V V' h1 hal h2 h) ?_
  intro p e s m args below meth c s₁ X0 hexec hbytes hml hret hlk hnm hown hh0 W hP
  obtain ⟨rfl, hB, f1, f2, hA, s1, hz, l0, l1, l2, hp⟩ := hP
  have a31 := hA.1.2.2.2
  have c1 : Steps p.tables e below (s₁.setTop (entryFrame m #[.ref a, .ref b, .int (Int32.ofNat o), .int (Int32.ofNat len), .null] 6)) (s₁.setTop (mkF m 0 #[.val (.ref a), .val (.ref b), .val (.int (Int32.ofNat o)), .val (.int (Int32.ofNat len)), .val .null, .unset] [])) := entry rfl
  have c2 : Steps p.tables e below (s₁.setTop (entryFrame m #[.ref a, .ref b, .int (Int32.ofNat o), .int (Int32.ofNat len), .null] 6)) (s₁.setTop (mkF m 1 #[.val (.ref a), .val (.ref b), .val (.int (Int32.ofNat o)), .val (.int (Int32.ofNat len)), .val .null, .unset] [.ref a])) := c1.trans (by
    refine XS.aloadN X0.here hexec rfl (hb hbytes d0) rfl rfl ?_
    exact Steps.refl _)
  obtain ⟨T3, X3, q3, st3⟩ := X0.oinit hexec hown (wks W (objW "java/lang/String" 1)) (g := (mkF m 1 #[.val (.ref a), .val (.ref b), .val (.int (Int32.ofNat o)), .val (.int (Int32.ofNat len)), .val .null, .unset] [.ref a])) rfl (by rw [hml]; rfl) (rest := []) rfl (hb hbytes d1) (W := 0) (by show 2 * 0 + 0 ≤ _; decide) (Nat.le_of_ble_eq_true rfl) (Nat.le_of_ble_eq_true rfl)
  have hh3 := q3.trans hh0
  have c4 : Steps p.tables e below (s₁.setTop (entryFrame m #[.ref a, .ref b, .int (Int32.ofNat o), .int (Int32.ofNat len), .null] 6)) (T3.setTop (mkF m 27 #[.val (.ref a), .val (.ref b), .val (.int (Int32.ofNat o)), .val (.int (Int32.ofNat len)), .val .null, .unset] [])) := (c2.trans (st3 _ (Steps.refl _))).trans (by
    refine XS.iloadN X3.here hexec rfl (hb hbytes d4) rfl ?_
    refine XS.ifYes X3.here hexec rfl (pc0 := 5) rfl (hb hbytes d5) rfl (i0_ne_t (nz32 (by omega) l0)) (by decide) rfl ?_
    exact Steps.refl _)
  obtain ⟨T5, X5, q5, st5⟩ := X3.sget hexec hown (wk W (.fieldLink "java/lang/String" 38 "java/lang/String" "COMPACT_STRINGS" "Z")) s1 (fun _ _ h => by rw [hh3]; exact h) (g := (mkF m 27 #[.val (.ref a), .val (.ref b), .val (.int (Int32.ofNat o)), .val (.int (Int32.ofNat len)), .val .null, .unset] [])) rfl (hb hbytes d27)
  have hh5 := q5.trans hh3
  have c6 : Steps p.tables e below (s₁.setTop (entryFrame m #[.ref a, .ref b, .int (Int32.ofNat o), .int (Int32.ofNat len), .null] 6)) (T5.setTop (mkF m 30 #[.val (.ref a), .val (.ref b), .val (.int (Int32.ofNat o)), .val (.int (Int32.ofNat len)), .val .null, .unset] [.int z])) := c4.trans (st5 _ (Steps.refl _))
  have c7 : Steps p.tables e below (s₁.setTop (entryFrame m #[.ref a, .ref b, .int (Int32.ofNat o), .int (Int32.ofNat len), .null] 6)) (T5.setTop (mkF m 36 #[.val (.ref a), .val (.ref b), .val (.int (Int32.ofNat o)), .val (.int (Int32.ofNat len)), .val .null, .unset] [.int (Int32.ofNat len), .int (Int32.ofNat o), .ref b])) := c6.trans (by
    refine XS.ifNo X5.here hexec rfl (hb hbytes d30) rfl (i0_eq_f hz) ?_
    refine XS.aloadN X5.here hexec rfl (hb hbytes d33) rfl rfl ?_
    refine XS.iloadN X5.here hexec rfl (hb hbytes d34) rfl ?_
    refine XS.iloadN X5.here hexec rfl (hb hbytes d35) rfl ?_
    exact Steps.refl _)
  obtain ⟨v8, T8, X8, E8, g8⟩ := X5.callS hexec (Cmp3.law l b A o len) hown (wks W (staticW "java/lang/String" 177 Cmp3.yN)) (wk W Cmp3.tab) (W := 0) (Nat.le_of_ble_eq_true rfl) (Nat.le_of_ble_eq_true rfl) (Nat.le_refl _) (by show 0 + len ≤ len; omega) (g := (mkF m 36 #[.val (.ref a), .val (.ref b), .val (.int (Int32.ofNat o)), .val (.int (Int32.ofNat len)), .val .null, .unset] [.int (Int32.ofNat len), .int (Int32.ofNat o), .ref b])) rfl (by rw [hml]; rfl) c7 (argsL := [.ref b, .int (Int32.ofNat o), .int (Int32.ofNat len)]) (rest := []) rfl rfl (by show 2 * 0 + 0 ≤ _; decide) (hb hbytes d36) (⟨rfl, hA.mv X5.warmed.alike hh5, l1, l2, hp⟩)
  obtain ⟨e8, z8⟩ := E8
  obtain ⟨rfl, N, n1, n2, n3, n4, n5, n6⟩ := NewArr.mv _ T5 s _ _ hh5.symm (Vm.Alike.refl _) rfl e8
  rw [hh5] at z8
  have hB1 := hB.keep X8.warmed.alike (n6 _ _ hB.1)
  have hne : s.heap.size ≠ a := (Nat.ne_of_lt (Array.getElem?_eq_some_iff.mp hB.1).1).symm
  have c9 : Steps p.tables e below (s₁.setTop (entryFrame m #[.ref a, .ref b, .int (Int32.ofNat o), .int (Int32.ofNat len), .null] 6)) (T8.setTop (mkF m 39 #[.val (.ref a), .val (.ref b), .val (.int (Int32.ofNat o)), .val (.int (Int32.ofNat len)), .val .null, .unset] [.ref s.heap.size])) := g8
  have c10 : Steps p.tables e below (s₁.setTop (entryFrame m #[.ref a, .ref b, .int (Int32.ofNat o), .int (Int32.ofNat len), .null] 6)) (T8.setTop (mkF m 45 #[.val (.ref a), .val (.ref b), .val (.int (Int32.ofNat o)), .val (.int (Int32.ofNat len)), .val .null, .val (.ref s.heap.size)] [.int (Int32.ofNat N.slots.size), .ref s.heap.size, .ref a])) := by
    have hc : Steps p.tables e below (s₁.setTop (entryFrame m #[.ref a, .ref b, .int (Int32.ofNat o), .int (Int32.ofNat len), .null] 6)) (T8.setTop (mkF m 45 #[.val (.ref a), .val (.ref b), .val (.int (Int32.ofNat o)), .val (.int (Int32.ofNat len)), .val .null, .val (.ref s.heap.size)] [.int (Int32.ofNat len), .ref s.heap.size, .ref a])) := c9.trans (by
      refine XS.astore X8.here hexec rfl (hb hbytes d39) rfl rfl rfl ?_
      refine XS.aloadN X8.here hexec rfl (hb hbytes d41) rfl rfl ?_
      refine XS.aload X8.here hexec rfl (hb hbytes d42) rfl rfl ?_
      refine XS.iloadN X8.here hexec rfl (hb hbytes d44) rfl ?_
      exact Steps.refl _)
    rw [n4]; exact hc
  obtain ⟨v11, T11, X11, E11, g11⟩ := X8.callS hexec (CodL.law l s.heap.size N) hown (wks W (staticW "java/lang/String" 47 CodL.yN)) (wk W CodL.tab) (W := 1) (Nat.le_of_ble_eq_true rfl) (Nat.le_of_ble_eq_true rfl) (Nat.le_refl _) (by show 0 + len + 0 ≤ len; omega) (g := (mkF m 45 #[.val (.ref a), .val (.ref b), .val (.int (Int32.ofNat o)), .val (.int (Int32.ofNat len)), .val .null, .val (.ref s.heap.size)] [.int (Int32.ofNat N.slots.size), .ref s.heap.size, .ref a])) rfl (by rw [hml]; rfl) c10 (argsL := [.ref s.heap.size, .int (Int32.ofNat N.slots.size)]) (rest := [.ref a]) rfl rfl (by show 2 * 0 + (1 + 0) ≤ _; decide) (hb hbytes d45) (⟨rfl, n1⟩)
  obtain ⟨rfl, q11⟩ := E11
  have hB11 := hB1.mv (X8.warmed.alike.symm.trans X11.warmed.alike) q11
  have c12 : Steps p.tables e below (s₁.setTop (entryFrame m #[.ref a, .ref b, .int (Int32.ofNat o), .int (Int32.ofNat len), .null] 6)) (T11.setTop (mkF m 48 #[.val (.ref a), .val (.ref b), .val (.int (Int32.ofNat o)), .val (.int (Int32.ofNat len)), .val .null, .val (.ref s.heap.size)] [.int 0, .ref a])) := g11
  obtain ⟨T13, X13, p13, bl13, sl13, st13⟩ := X11.finit hexec hown (wk W (.fieldLink "java/lang/String" 15 "java/lang/String" "coder" "B")) (Or.inr ⟨_, (wk W (.laysFinal "java/lang/String" "java/lang/String" "coder" "B"))⟩) (Or.inl ⟨rfl, hnm⟩) f2 (Or.inl rfl) hB11 (t := .byte) (by decide +kernel) rfl (g := (mkF m 48 #[.val (.ref a), .val (.ref b), .val (.int (Int32.ofNat o)), .val (.int (Int32.ofNat len)), .val .null, .val (.ref s.heap.size)] [.int 0, .ref a])) rfl (rest := []) rfl (hb hbytes d48)
  have c14 : Steps p.tables e below (s₁.setTop (entryFrame m #[.ref a, .ref b, .int (Int32.ofNat o), .int (Int32.ofNat len), .null] 6)) (T13.setTop (mkF m 54 #[.val (.ref a), .val (.ref b), .val (.int (Int32.ofNat o)), .val (.int (Int32.ofNat len)), .val .null, .val (.ref s.heap.size)] [.ref s.heap.size, .ref a])) := (c12.trans (st13 _ (Steps.refl _))).trans (by
    refine XS.aloadN X13.here hexec rfl (hb hbytes d51) rfl rfl ?_
    refine XS.aload X13.here hexec rfl (hb hbytes d52) rfl rfl ?_
    exact Steps.refl _)
  obtain ⟨T15, X15, p15, bl15, sl15, st15⟩ := X13.finit hexec hown (wk W (.fieldLink "java/lang/String" 9 "java/lang/String" "value" "[B")) (Or.inr ⟨_, (wk W (.laysFinal "java/lang/String" "java/lang/String" "value" "[B"))⟩) (Or.inl ⟨rfl, hnm⟩) f1 (Or.inl rfl) bl13 (t := (.array .byte)) (by decide +kernel) rfl (g := (mkF m 54 #[.val (.ref a), .val (.ref b), .val (.int (Int32.ofNat o)), .val (.int (Int32.ofNat len)), .val .null, .val (.ref s.heap.size)] [.ref s.heap.size, .ref a])) rfl (rest := []) rfl (hb hbytes d54)
  have c16 : Steps p.tables e below (s₁.setTop (entryFrame m #[.ref a, .ref b, .int (Int32.ofNat o), .int (Int32.ofNat len), .null] 6)) (T15.setTop (mkF m 57 #[.val (.ref a), .val (.ref b), .val (.int (Int32.ofNat o)), .val (.int (Int32.ofNat len)), .val .null, .val (.ref s.heap.size)] [])) := c14.trans (st15 _ (Steps.refl _))
  have ap := apart (Or.inr ⟨_, (wk W (.laysFinal "java/lang/String" "java/lang/String" "value" "[B"))⟩) (Or.inr ⟨_, (wk W (.laysFinal "java/lang/String" "java/lang/String" "coder" "B"))⟩) f1 f2 (t₁ := .array .byte) (t₂ := .byte) (by decide +kernel) (by decide +kernel) (by decide)
  have al := X8.warmed.alike.symm.trans X15.warmed.alike
  have n7 : T11.heap[s.heap.size]? = some N := by rw [q11]; exact n1.1
  exact ⟨T15, none, _, _, _, X15, by simp, rfl, by omega, (fun _ => rfl), ⟨rfl, _, N, bl15, ((Same.refl D _).set _ (by simp)).set _ (by simp), sl15, (Cell.slots_setSlot_ne _ ap).trans sl13, n1.keep al (p15.other hne (p13.other hne n7)), n2, by rw [al.findClass]; exact n3, n4, n5, fun y c h1 h2 => p15.other h1 (p13.other h1 (by rw [q11]; exact n6 y c h2)), by rw [p15.2.2, p13.2.2, q11]; exact z8⟩, fun fs hl => c16.trans (X15.returnOut hexec hret (hb hbytes d57) hl)⟩
end New4
namespace New1
def yN : MethodName := ⟨"java/lang/String", "<init>", "([C)V"⟩
abbrev yB : ByteArray := jdk_42_method_3_code
theorem d0 : decode yB 0 = .ok (.aload_n 0, 1) := by decide +kernel
theorem d1 : decode yB 1 = .ok (.aload_n 1, 1) := by decide +kernel
theorem d2 : decode yB 2 = .ok (.iconst 0, 1) := by decide +kernel
theorem d3 : decode yB 3 = .ok (.aload_n 1, 1) := by decide +kernel
theorem d4 : decode yB 4 = .ok (.arraylength, 1) := by decide +kernel
theorem d5 : decode yB 5 = .ok (.aconst_null, 1) := by decide +kernel
theorem d6 : decode yB 6 = .ok (.invokespecial 27, 3) := by decide +kernel
theorem d9 : decode yB 9 = .ok (.return_, 1) := by decide +kernel
def site : List Cond := [New4.tab] ++ initW "java/lang/String" 27 New4.yN
def tab : Cond := tabOf yN yB 2 none site
def P (a : Addr) (D : Cell) (fV fC : Field) (b : Addr) (A : Cell) (z : Int32) (args : Array Value) (s : State) : Prop := args = #[.ref a, .ref b] ∧ Blank "java/lang/String" a D s ∧ Found "java/lang/String" "value" "[B" fV s ∧ Found "java/lang/String" "coder" "B" fC s ∧ Ch b A s ∧ StaticIs s "java/lang/String" "COMPACT_STRINGS" "Z" (.int z) ∧ ¬ z = 0 ∧ 0 < A.slots.size ∧ A.slots.size ≤ 536870912 ∧ ∀ i, i < A.slots.size → ¬ 255 < cv A i
def E (a : Addr) (D : Cell) (fV fC : Field) (A : Cell) (r : Option Value) (s u : State) : Prop := Got a D fV fC A 0 A.slots.size r s u
/-- new String(chars), not empty, no char above 255: a Latin-1 String of their low bytes -/
theorem law (l : Launch) (a : Addr) (D : Cell) (fV fC : Field) (b : Addr) (A : Cell) (z : Int32) : Law l yN 2 1 3 52 yB 2 none site (P a D fV fC b A z) (E a D fV fC A) [⟨a, fC.slot⟩, ⟨a, fV.slot⟩] 1 A.slots.size := by
  refine Law.of_walk (plainFor_of_name (by decide +kernel)) (by decide +kernel) (by decide +kernel) (by decide) (fun _ _ h => by rw [h.1]; rfl) (fun _ U U' hal hh h => ⟨h.1, h.2.1.mv hal hh, h.2.2.1.al hal, h.2.2.2.1.al hal, h.2.2.2.2.1.mv hal hh, h.2.2.2.2.2.1.there hal hh, h.2.2.2.2.2.2⟩) (fun r U U' V V' h1 hal h2 h => Got.mv r U U' V V' h1 hal h2 h) ?_
  intro p e s m args below meth c s₁ X0 hexec hbytes hml hret hlk hnm hown hh0 W hP
  obtain ⟨rfl, hB, f1, f2, hA, s1, hz, l0, l2, hp⟩ := hP
  have c1 : Steps p.tables e below (s₁.setTop (entryFrame m #[.ref a, .ref b] 2)) (s₁.setTop (mkF m 0 #[.val (.ref a), .val (.ref b)] [])) := entry rfl
  have c2 : Steps p.tables e below (s₁.setTop (entryFrame m #[.ref a, .ref b] 2)) (s₁.setTop (mkF m 6 #[.val (.ref a), .val (.ref b)] [.null, .int (Int32.ofNat A.slots.size), .int 0, .ref b, .ref a])) := c1.trans (by
    refine XS.aloadN X0.here hexec rfl (hb hbytes d0) rfl rfl ?_
    refine XS.aloadN X0.here hexec rfl (hb hbytes d1) rfl rfl ?_
    refine iconstV X0.here hexec rfl 0 (hb hbytes d2) (by decide) ?_
    refine XS.aloadN X0.here hexec rfl (hb hbytes d3) rfl rfl ?_
    refine X0.alen hexec (hA.1.mv X0.warmed.alike hh0) rfl rfl (hb hbytes d4) ?_
    refine XS.aconstNull X0.here hexec rfl (hb hbytes d5) ?_
    exact Steps.refl _)
  obtain ⟨v3, T3, X3, E3, g3⟩ := X0.callN hexec (New4.law l a D fV fC b A z 0 A.slots.size) rfl hown (wks W (initW "java/lang/String" 27 New4.yN)) (W New4.tab (by simp only [site, List.mem_cons, List.mem_append, true_or, or_true])) (W := 0) (Nat.le_of_ble_eq_true rfl) (Nat.le_of_ble_eq_true rfl) (Nat.le_refl _) (by show 0 + A.slots.size ≤ A.slots.size; omega) (g := (mkF m 6 #[.val (.ref a), .val (.ref b)] [.null, .int (Int32.ofNat A.slots.size), .int (Int32.ofNat 0), .ref b, .ref a])) rfl (by rw [hml]; rfl) c2 (argsL := [.ref b, .int (Int32.ofNat 0), .int (Int32.ofNat A.slots.size), .null]) (rest := []) rfl rfl (by show 2 * 0 + 0 ≤ _; decide) (hb hbytes d6) (⟨rfl, hB.mv X0.warmed.alike hh0, f1.al X0.warmed.alike, f2.al X0.warmed.alike, hA.mv X0.warmed.alike hh0, s1.there X0.warmed.alike hh0, hz, l0, by omega, l2, fun i hi => by rw [Nat.zero_add]; exact hp i hi⟩)
  have e0 := Got.mv _ s₁ s _ _ hh0.symm (Vm.Alike.refl _) rfl E3
  obtain rfl := e0.1
  have c4 : Steps p.tables e below (s₁.setTop (entryFrame m #[.ref a, .ref b] 2)) (T3.setTop (mkF m 9 #[.val (.ref a), .val (.ref b)] [])) := g3
  exact ⟨T3, none, _, _, _, X3, by simp, rfl, by omega, (fun _ => rfl), e0, fun fs hl => c4.trans (X3.returnOut hexec hret (hb hbytes d9) hl)⟩
theorem pays {l : Launch} {R : Room} {p : Program} {e : Env} {below : List Frame} {s : State} {sargs : Array Value} {len W : Nat} (a : Addr) (D : Cell) (fV fC : Field) (b : Addr) (A : Cell) (z : Int32) (htab : tab.before sargs s = true) (hfr : 4 ≤ R.frames) (hlo : W + 65 ≤ R.locals) :
    Back l R p e below s sargs yN len W (fun A₁ a₁ => A₁.cells + 1 ≤ R.cells ∧ A₁.slots + A.slots.size ≤ R.slots ∧ P a D fV fC b A z a₁ A₁.U) (fun A₁ _ v₁ B₁ => E a D fV fC A v₁ A₁.U B₁.U ∧ B₁.locs = A₁.locs ++ [⟨a, fC.slot⟩, ⟨a, fV.slot⟩] ∧ B₁.cells = A₁.cells + 1 ∧ B₁.slots = A₁.slots + A.slots.size) :=
  (law l a D fV fC b A z).pays htab hfr (by omega)
end New1
end StrChars
namespace StrChars.Road
open Jvm Sem ClassFile Op Lib Jvm.Stand Jvm.Free Jvm.Free.XT
open Jvm.Lib.Cold (StaticIs)
abbrev ST : String := "java/lang/String"
/-- every table word that New1's law asks, flat -/
abbrev words : List Jvm.Cond := [.code New1.yN New1.yB 2 none, .initialized ST, .methodLink ST 27 New4.yN, .instanceMethod New4.yN,
  .code New4.yN New4.yB 6 none, .fieldLink ST 38 ST "COMPACT_STRINGS" "Z", .laysFinal ST ST "value" "[B", .fieldLink ST 9 ST "value" "[B", .laysFinal ST ST "coder" "B", .fieldLink ST 15 ST "coder" "B",
  .methodLink ST 1 Lib.objectInit, .instanceMethod Lib.objectInit, .code Lib.objectInit ⟨#[0xb1]⟩ 1 none, .methodLink ST 177 Cmp3.yN, .static Cmp3.yN, .methodLink ST 47 CodL.yN, .static CodL.yN,
  .code Cmp3.yN Cmp3.yB 6 (some (.array .byte)), .initialized U16, .arrayClass .byte, .methodLink U16 115 Cmp5.yN, .static Cmp5.yN, .code Cmp5.yN Cmp5.yB 7 (some .int), .code CodL.yN CodL.yB 2 (some .byte)]
theorem tab_of {a : Array Value} {s : State} (h : ∀ w ∈ words, w.before a s = true) : New1.tab.before a s = true := by
  have h5 : Cmp5.tab.before a s = true := unparts (wk h (.code Cmp5.yN Cmp5.yB 7 (some .int))) (wks h (.initialized Cmp5.yN.cls :: Cmp5.site))
  have hc : CodL.tab.before a s = true := unparts (wk h (.code CodL.yN CodL.yB 2 (some .byte))) (wks h (.initialized CodL.yN.cls :: CodL.site))
  have q5 : ∀ w ∈ Cmp5.tab :: words, w.before a s = true := fun w hw => (List.mem_cons.mp hw).elim (fun e => e ▸ h5) (h w)
  have h3 : Cmp3.tab.before a s = true := unparts (wk q5 (.code Cmp3.yN Cmp3.yB 6 (some (.array .byte)))) (wks q5 (.initialized Cmp3.yN.cls :: Cmp3.site))
  have q3 : ∀ w ∈ Cmp3.tab :: CodL.tab :: words, w.before a s = true := fun w hw => (List.mem_cons.mp hw).elim (fun e => e ▸ h3) fun hw => (List.mem_cons.mp hw).elim (fun e => e ▸ hc) (h w)
  have h4 : New4.tab.before a s = true := unparts (wk q3 (.code New4.yN New4.yB 6 none)) (wks q3 (.initialized New4.yN.cls :: New4.site))
  have q4 : ∀ w ∈ New4.tab :: words, w.before a s = true := fun w hw => (List.mem_cons.mp hw).elim (fun e => e ▸ h4) (h w)
  exact unparts (wk q4 (.code New1.yN New1.yB 2 none)) (wks q4 (.initialized New1.yN.cls :: New1.site))
/-- the words ride from the start Z to the walk's own state -/
theorem moved {Z s : State} {a0 args : Array Value} (hZ : Z.Warmed39 s.vm) (hw : ∀ d ∈ words, d.before a0 Z = true) : ∀ d ∈ words, d.before args s = true := fun d hd => by
  have q := hw d hd
  have t : ∀ d ∈ words, d = .arrayClass .byte ∨ (d.onTables && d.keepsFace) = true := by decide +kernel
  rcases t d hd with rfl | t
  · exact RoadKit.mvA hZ q
  · exact RoadKit.mv hZ q t
/-- WHAT COMES BACK, over the tables of the start Z: h the heap at the call, h' behind it -/
def Q (Z : State) (x : Addr) (A : Cell) (h : Heap) (v : Option Value) (h' : Heap) (L : List Loc) : Prop := v = none ∧ (∀ y ∈ L, y.base = x) ∧ RoadKit.Keep h h' [x] ∧ h'.size = h.size + 1 ∧ RoadKit.Exa Z h' x ST ∧ RoadKit.Fld Z h' x ST "value" "[B" (.ref h.size) ∧ RoadKit.Fld Z h' x ST "coder" "B" (.int 0) ∧
  (∃ V : Cell, RoadKit.Arr Z h' h.size V .byte ∧ V.vm = .none ∧ Z.vm.findClass "[B" = some V.cls ∧ V.slots.size = A.slots.size ∧ ∀ j, j < A.slots.size → V.slots[j]? = some (.int (lo8 (cv A j)))) ∧
  ∀ (O n d : String) (w : Value), RoadKit.Fld Z h x O n d w → RoadKit.slotOf Z O n d ≠ RoadKit.slotOf Z ST "value" "[B" → RoadKit.slotOf Z O n d ≠ RoadKit.slotOf Z ST "coder" "B" → RoadKit.Fld Z h' x O n d w
/-- **new String(chars) AT A CALL, IN THE ROAD'S FORM**: for specialBack behind newO: x the fresh String, b the char[] with the cell A -/
theorem back {p : Program} {l : Launch} {e : Env} {R : Room} {s : State} {args : Array Value} {below : List Frame} {len W : Nat} {Z : State} {a0 : Array Value} {h : Heap} (hZ : Z.Warmed39 s.vm) (hw : ∀ d ∈ words, d.before a0 Z = true) {kI : Nat} (wi : (Jvm.Cond.instantiable ST kI).before a0 Z = true)
    {x b : Addr} {A : Cell} {z : Int32} {v0 c0 : Value} (E : RoadKit.Exa Z h x ST) (V : RoadKit.Fld Z h x ST "value" "[B" v0) (C : RoadKit.Fld Z h x ST "coder" "B" c0) (K : RoadKit.Arr Z h b A .char) (hty : Typed .char A) (S : RoadKit.Sta Z h ST "COMPACT_STRINGS" "Z" (.int z)) (hz : ¬ z = 0)
    (l0 : 0 < A.slots.size) (l2 : A.slots.size ≤ 536870912) (hp : ∀ i, i < A.slots.size → ¬ 255 < cv A i) (hfr : 4 ≤ R.frames) (hlo : W + 65 ≤ R.locals) :
    Back l R p e below s args New1.yN len W (fun P a => a = #[.ref x, .ref b] ∧ P.U.heap = h ∧ P.cells + 1 ≤ R.cells ∧ P.slots + A.slots.size ≤ R.slots)
      (fun P _ v B => ∃ L, Q Z x A h v B.U.heap L ∧ B.locs = P.locs ++ L ∧ B.cells = P.cells + 1 ∧ B.slots = P.slots + A.slots.size) := by
  intro m meth c P g ig mk a X hg hsize hdg hW hn hp'
  obtain ⟨rfl, rfl, r1, r2⟩ := hp'
  have al : Z.vm.Alike P.U.vm := hZ.alike.trans X.warmed.alike
  obtain ⟨D, cfV, kV, iV, fV, hD, gV, stV, knV, obV, asV, slV⟩ := id V
  obtain ⟨D', cfC, kC, iC, fC, hD', gC, stC, -, -, asC, slC⟩ := id C
  cases hD.symm.trans hD'
  obtain ⟨D2, kD, e1, e2, e3, e4, e5⟩ := id E
  cases hD.symm.trans e1
  obtain ⟨c2, k2, i1, i2, i3, -⟩ := Cond.instantiable_spec wi
  cases e2.symm.trans i1
  cases e3.symm.trans i2
  obtain ⟨kU, u1, u2⟩ := al.2.2 _ _ e3
  have hB : Blank ST x D P.U := ⟨hD, ⟨knV, fun q hq => by rw [hq] at obV; cases obV⟩, by rw [al.findClass]; exact e2, kU, u1, by rw [u2]; exact i3, by rw [u2]; exact e5 i3⟩
  have F1 : Found ST "value" "[B" fV P.U := ⟨SBG.found_only al ⟨cfV, kV, iV, gV⟩, stV⟩
  have F2 : Found ST "coder" "B" fC P.U := ⟨SBG.found_only al ⟨cfC, kC, iC, gC⟩, stC⟩
  have hA : Ch b A P.U := ⟨⟨K.1, State.isArrayOf_alike al K.2.1, K.2.2, by omega⟩, hty⟩
  have hS : StaticIs P.U ST "COMPACT_STRINGS" "Z" (.int z) := by
    obtain ⟨cfS, iS, kS, fS, st, cS, t1, t2, t3, t4, t5, t6, t7⟩ := S
    exact StaticIs.there (s := { Z with heap := P.U.heap }) ⟨cfS, iS, kS, fS, st, cS, t1, t2, t3, t4, t5, (fun q => by rw [q] at t6; cases t6), t7⟩ al rfl
  obtain ⟨v, B, X', ⟨⟨hv, E', V', q1, q2, q3, q4, q5, q6, q7, q8, q9, q10, q11⟩, hl, hc, hs⟩, st⟩ := New1.pays x D fV fC b A z (tab_of (moved hZ hw)) hfr hlo m meth c P g ig mk _ X hg hsize hdg hW hn ⟨r1, r2, rfl, hB, F1, F2, hA, hS, hz, l0, l2, hp⟩
  have al' : Z.vm.Alike B.U.vm := hZ.alike.trans X'.warmed.alike
  have hsz : E'.slots.size = D.slots.size := by
    obtain ⟨-, -, -, kB, w1, w2, w3⟩ := q1
    obtain ⟨kB', y1, y2⟩ := al'.2.2 _ _ e3
    rw [q2.2.1] at w1
    cases w1.symm.trans y1
    rw [w3, e5 i3, y2]
  refine ⟨v, B, X', ⟨_, ⟨hv, ?_, ⟨by omega, fun y cy hy hn' => q10 y cy (by simpa using hn') hy, fun y cy hy => ?_⟩, q11, ⟨E', _, q1.1, by rw [q2.2.1]; exact e2, by rw [q2.2.1]; exact e3, by rw [q2.1]; exact obV, fun _ => by rw [hsz]; exact e5 i3⟩,
    ⟨E', cfV, kV, iV, fV, q1.1, gV, stV, by rw [q2.1]; exact knV, by rw [q2.1]; exact obV, by rw [q2.2.1]; exact asV, q3⟩, ⟨E', cfC, kC, iC, fC, q1.1, gC, stC, by rw [q2.1]; exact knV, by rw [q2.1]; exact obV, by rw [q2.2.1]; exact asC, q4⟩,
    ⟨V', ⟨q5.1, State.isArrayOf_alike al'.symm q5.2.1, q5.2.2.1⟩, q6, by rw [← al'.findClass]; exact q7, q8, fun j hj => by have := q9 j hj; rwa [Nat.zero_add] at this⟩, fun O n d w F n1 n2 => ?_⟩, hl, hc, hs⟩, st⟩
  · intro y hy
    simp only [List.mem_cons, List.not_mem_nil, or_false] at hy
    rcases hy with rfl | rfl <;> rfl
  · by_cases q : y = x
    · subst q
      cases hD.symm.trans hy
      exact ⟨E', q1.1, q2.2.1, q2.1, hsz⟩
    · exact ⟨cy, q10 y cy q hy, rfl, rfl, rfl⟩
  · obtain ⟨D3, cf, k, i, f, g1, g2, g3, g4, g5, g6, g7⟩ := F
    cases hD.symm.trans g1
    simp only [RoadKit.slotOf, g2, gV, gC, Option.map_some, Option.getD_some] at n1 n2
    exact ⟨E', cf, k, i, f, q1.1, g2, g3, by rw [q2.1]; exact g4, by rw [q2.1]; exact g5, by rw [q2.2.1]; exact g6, by rw [q2.2.2 f.slot (by simp [n1, n2])]; exact g7⟩
end StrChars.Road
namespace StrChars.Road
open Jvm Sem ClassFile Op Lib Jvm.Stand Jvm.Free Jvm.Free.XT
/-- WHAT COMES BACK, the byte[] as a list of values -/
def QA (Z : State) (x : Addr) (zn : Int32) (cs : List Int32) (h : Heap) (v : Option Value) (h' : Heap) (L : List Loc) : Prop := v = none ∧ (∀ y ∈ L, y.base = x) ∧ RoadKit.Keep h h' [x] ∧ h'.size = h.size + 1 ∧ RoadKit.Exa Z h' x ST ∧ RoadKit.Fld Z h' x ST "value" "[B" (.ref h.size) ∧ RoadKit.Fld Z h' x ST "coder" "B" (.int 0) ∧
  (∃ kb, Z.vm.findClass "[B" = some kb ∧ RoadKit.Arv Z h' h.size kb .byte zn (cs.map fun c => .int (lo8 c)) (.int 0)) ∧
  ∀ (O n d : String) (w : Value), RoadKit.Fld Z h x O n d w → RoadKit.slotOf Z O n d ≠ RoadKit.slotOf Z ST "value" "[B" → RoadKit.slotOf Z O n d ≠ RoadKit.slotOf Z ST "coder" "B" → RoadKit.Fld Z h' x O n d w
/-- **new String(chars) AT A CALL, THE ARRAYS AS LISTS**: the char[] at b holds cs, not empty, no char above 255 -/
theorem backArv {p : Program} {l : Launch} {e : Env} {R : Room} {s : State} {args : Array Value} {below : List Frame} {len W : Nat} {Z : State} {a0 : Array Value} {h : Heap} (hZ : Z.Warmed39 s.vm) (hw : ∀ d ∈ words, d.before a0 Z = true) {kI : Nat} (wi : (Jvm.Cond.instantiable ST kI).before a0 Z = true)
    {x b : Addr} {k : ClassId} {zn z : Int32} {cs : List Int32} {dv v0 c0 : Value} (E : RoadKit.Exa Z h x ST) (V : RoadKit.Fld Z h x ST "value" "[B" v0) (C : RoadKit.Fld Z h x ST "coder" "B" c0) (K : RoadKit.Arv Z h b k .char zn (cs.map Value.int) dv) (S : RoadKit.Sta Z h ST "COMPACT_STRINGS" "Z" (.int z)) (hz : ¬ z = 0)
    (hlen : zn.toNatClampNeg = cs.length) (h0 : 0 < cs.length) (hbig : cs.length ≤ 536870912) (hall : ∀ c ∈ cs, ¬ 255 < c) (hfr : 4 ≤ R.frames) (hlo : W + 65 ≤ R.locals) :
    Back l R p e below s args New1.yN len W (fun P a => a = #[.ref x, .ref b] ∧ P.U.heap = h ∧ P.cells + 1 ≤ R.cells ∧ P.slots + cs.length ≤ R.slots)
      (fun P _ v B => ∃ L, QA Z x zn cs h v B.U.heap L ∧ B.locs = P.locs ++ L ∧ B.cells = P.cells + 1 ∧ B.slots = P.slots + cs.length) := by
  obtain ⟨A, K1, K2, K3, K4, K5, K6⟩ := K
  have e : A.slots.size = cs.length := K3.trans hlen
  have hat : ∀ (i : Nat) (hi : i < cs.length), A.slots[i]? = some (.int cs[i]) := fun i hi => by rw [K5 i (by omega)]; simp [List.getD_eq_getElem?_getD, hi]
  have hcv : ∀ (i : Nat) (hi : i < cs.length), cv A i = cs[i] := fun i hi => by unfold cv; rw [hat i hi]
  have hty : Typed .char A := fun i v hv => by
    have hi : i < A.slots.size := (Array.getElem?_eq_some_iff.mp hv).1
    have q := K5 i hi
    rw [hv] at q
    rw [Option.some.inj q]
    exact K6 i hi
  refine Back.mono (back hZ hw wi E V C K1 hty S hz (by omega) (by omega) (fun i hi => by rw [hcv i (by omega)]; exact hall _ (List.getElem_mem _)) hfr hlo) (fun P a hp => ⟨hp.1, hp.2.1, hp.2.2.1, by rw [e]; exact hp.2.2.2⟩) (fun P a v B hp hq => ?_)
  obtain ⟨L, ⟨q1, q2, q3, q4, q5, q6, q7, ⟨V', v1, v2, v3, v4, v5⟩, q9⟩, hl, hc, hs⟩ := hq
  refine ⟨L, ⟨q1, q2, q3, q4, q5, q6, q7, ⟨V'.cls, v3, V', v1, rfl, by rw [v4, e, hlen], K4, fun i hi => ?_, fun i hi => ?_⟩, q9⟩, hl, hc, by rw [hs, e]⟩
  · have hi' : i < cs.length := by omega
    rw [v5 i (by omega), hcv i hi']; simp [List.getD_eq_getElem?_getD, hi']
  · have hi' : i < cs.length := by omega
    simp only [List.getD_eq_getElem?_getD, List.getElem?_map, List.getElem?_eq_getElem hi', Option.map_some, Option.getD_some]
    exact fits_lo8 _
end StrChars.Road
namespace StrChars.Road
open Jvm Sem ClassFile Op Lib Jvm.Stand Jvm.Free Jvm.Free.XT
/-- WHAT COMES BACK, in the writer's own shape -/
def QV (Z : State) (x : Addr) (N : Int32) (bs : List Int32) (h : Heap) (n0 : Nat) (v : Option Value) (h' : Heap) (L : List Loc) : Prop := v = none ∧ RoadKit.Fr n0 L ∧ RoadKit.Keep h h' [x] ∧ RoadKit.Exa Z h' x ST ∧ RoadKit.Fld Z h' x ST "coder" "B" (.int 0) ∧
  ∃ (t : Addr) (kb : ClassId), n0 ≤ t ∧ h.size ≤ t ∧ ¬ t = x ∧ RoadKit.Fld Z h' x ST "value" "[B" (.ref t) ∧ RoadKit.Arv Z h' t kb .byte N (bs.map Value.int) (.int 0)
/-- **new String(chars) AT A CALL, FOR THE WRITER**: a char[] of n known ints, each 0 to 255 -/
theorem backV {p : Program} {l : Launch} {e : Env} {R : Room} {s : State} {args : Array Value} {below : List Frame} {len W : Nat} {Z : State} {a0 : Array Value} {h : Heap} (hZ : Z.Warmed39 s.vm) (hw : ∀ d ∈ words, d.before a0 Z = true) {kI : Nat} (wi : (Jvm.Cond.instantiable ST kI).before a0 Z = true)
    {x b : Addr} {kC : ClassId} {cs bs : List Int32} {d v0 c0 : Value} {z N : Int32} {n n0 : Nat} (hx0 : n0 ≤ x) (hh0 : n0 ≤ h.size) (E : RoadKit.Exa Z h x ST) (V : RoadKit.Fld Z h x ST "value" "[B" v0) (C : RoadKit.Fld Z h x ST "coder" "B" c0) (K : RoadKit.Arv Z h b kC .char N (cs.map Value.int) d) (S : RoadKit.Sta Z h ST "COMPACT_STRINGS" "Z" (.int z)) (hz : ¬ z = 0)
    (hn : cs.length = n) (hN : N = Int32.ofNat n) (l0 : 0 < n) (l2 : n ≤ 4000) (hp : ∀ c ∈ cs, ¬ c < 0 ∧ ¬ (255 : Int32) < c) (hb : bs = cs.map (fun c => c.toInt8.toInt32)) (hfr : 4 ≤ R.frames) (hlo : W + 65 ≤ R.locals) :
    Back l R p e below s args (⟨"java/lang/String", "<init>", "([C)V"⟩ : MethodName) len W (fun P a => a = #[.ref x, .ref b] ∧ P.U.heap = h ∧ P.cells + 1 ≤ R.cells ∧ P.slots + n ≤ R.slots)
      (fun P _ v B => ∃ L, QV Z x N bs h n0 v B.U.heap L ∧ B.locs = P.locs ++ L ∧ B.cells = P.cells + 1 ∧ B.slots = P.slots + n) := by
  subst hn hN hb
  refine Back.mono (backArv hZ hw wi E V C K S hz (n32 (by omega)) l0 (by omega) (fun c hc => (hp c hc).2) hfr hlo) (fun P a hp => hp) (fun P a v B hp hq => ?_)
  obtain ⟨L, ⟨q1, q2, q3, q4, q5, q6, q7, ⟨kb, v1, v2⟩, q9⟩, hl, hc, hs⟩ := hq
  exact ⟨L, ⟨q1, fun y hy => by rw [q2 y hy]; exact hx0, q3, q5, q7, h.size, kb, hh0, Nat.le_refl _, Nat.ne_of_gt E.lt, q6, by rw [List.map_map]; exact v2⟩, hl, hc, hs⟩
end StrChars.Road
end Jvm.Pilot.@@N@@

namespace Jvm.Pilot.@@N@@
open Jvm Jvm.ClassFile Sem Op Lib Jvm.Free Jvm.Stand Jvm.LawKit Jvm.RoadKit Bundle Jvm.Pilot.@@N@@.Jvm.D
theorem own_wid {p : Program} {l : Launch} {e : Env} {R : Room} {s : State} {m : MethodId} {args : Array Value} {below : List Frame} {meth : Method} {c : Code} {T : State} {locs : List Loc} {cells slots c' s' : Nat} (X : Stand p l e R s m args below meth c T locs cells slots) (h1 : cells ≤ c') (h2 : slots ≤ s') : Stand p l e R s m args below meth c T locs c' s' :=
  ⟨X.admits, X.cas, X.clock, X.frames, X.room, X.hears, X.method, X.code, X.here, X.tail, X.warmed, X.limits, X.bytes, X.same.mono h1 h2⟩
abbrev Sx (p : Program) (e : Env) (b : List Frame) (T : State) (m : MethodId) (pc : Nat) (L : Array Slot) (S : List Value) (t : State) : Prop := Steps p.tables e b (T.setTop (mkF m pc L S)) t
abbrev xvi (x : Int32) : Slot := .val (.int x)
abbrev xvj (x : Int64) : Slot := .val (.long x)
abbrev xvr (x : Addr) : Slot := .val (.ref x)
abbrev xwi (x : Int32) : Value := .int x
abbrev xwj (x : Int64) : Value := .long x
abbrev xwr (x : Addr) : Value := .ref x
abbrev xun : Slot := .unset
abbrev xse : Slot := .second
theorem own_selp {Z : State} {a0 : Array Value} {y : MethodName} {n : Nat} (wi : (Cond.instantiable y.cls n).before a0 Z = true) (wp : (Cond.privateMethod y).before a0 Z = true) (wn : (Cond.instanceMethod y).before a0 Z = true) (hy : y.cls ≠ "java/lang/invoke/MethodHandle" ∧ y.cls ≠ "java/lang/invoke/VarHandle") : (Cond.selects y.cls y y).before a0 Z = true := by
  obtain ⟨c, k, h1, h2, -, h4, -⟩ := Cond.instantiable_spec wi
  exact Jvm.Stand.selects_self_of_private h1 h2 (Bool.or_eq_false_iff.mp h4).1 (Cond.privateMethod_at wp) wn hy
theorem y_iload {p : Program} {l : Launch} {e : Env} {R : Room} {s : State} {m : MethodId} {args : Array Value} {below : List Frame} {meth : Method} {c : Code} {T : State} {locs : List Loc} {cells slots : Nat} {t : State} {L : Array Slot} {S : List Value} {pc : Nat} (X : Stand p l e R s m args below meth c T locs cells slots) (hx : p.tables.exec = Jvm.exec) {k : Nat} {v : Int32} (q : Nat) (hd : decode c.code pc = .ok (.iload k, 2)) (hl : L[k]? = some (.val (.int v))) (hq : pc + 2 = q) (hr : Sx p e below T m q L (.int v :: S) t) : Sx p e below T m pc L S t := by subst hq; exact XS.iload X.here hx rfl hd hl hr
theorem y_iloadN {p : Program} {l : Launch} {e : Env} {R : Room} {s : State} {m : MethodId} {args : Array Value} {below : List Frame} {meth : Method} {c : Code} {T : State} {locs : List Loc} {cells slots : Nat} {t : State} {L : Array Slot} {S : List Value} {pc : Nat} (X : Stand p l e R s m args below meth c T locs cells slots) (hx : p.tables.exec = Jvm.exec) {k : Fin 4} {v : Int32} (q : Nat) (hd : decode c.code pc = .ok (.iload_n k, 1)) (hl : L[k.val]? = some (.val (.int v))) (hq : pc + 1 = q) (hr : Sx p e below T m q L (.int v :: S) t) : Sx p e below T m pc L S t := by subst hq; exact XS.iloadN X.here hx rfl hd hl hr
theorem y_lload {p : Program} {l : Launch} {e : Env} {R : Room} {s : State} {m : MethodId} {args : Array Value} {below : List Frame} {meth : Method} {c : Code} {T : State} {locs : List Loc} {cells slots : Nat} {t : State} {L : Array Slot} {S : List Value} {pc : Nat} (X : Stand p l e R s m args below meth c T locs cells slots) (hx : p.tables.exec = Jvm.exec) {k : Nat} {v : Int64} (q : Nat) (hd : decode c.code pc = .ok (.lload k, 2)) (hl : L[k]? = some (.val (.long v))) (hq : pc + 2 = q) (hr : Sx p e below T m q L (.long v :: S) t) : Sx p e below T m pc L S t := by subst hq; exact XS.lload X.here hx rfl hd hl hr
theorem y_lloadN {p : Program} {l : Launch} {e : Env} {R : Room} {s : State} {m : MethodId} {args : Array Value} {below : List Frame} {meth : Method} {c : Code} {T : State} {locs : List Loc} {cells slots : Nat} {t : State} {L : Array Slot} {S : List Value} {pc : Nat} (X : Stand p l e R s m args below meth c T locs cells slots) (hx : p.tables.exec = Jvm.exec) {k : Fin 4} {v : Int64} (q : Nat) (hd : decode c.code pc = .ok (.lload_n k, 1)) (hl : L[k.val]? = some (.val (.long v))) (hq : pc + 1 = q) (hr : Sx p e below T m q L (.long v :: S) t) : Sx p e below T m pc L S t := by subst hq; exact XS.lloadN X.here hx rfl hd hl hr
theorem y_aload {p : Program} {l : Launch} {e : Env} {R : Room} {s : State} {m : MethodId} {args : Array Value} {below : List Frame} {meth : Method} {c : Code} {T : State} {locs : List Loc} {cells slots : Nat} {t : State} {L : Array Slot} {S : List Value} {pc : Nat} (X : Stand p l e R s m args below meth c T locs cells slots) (hx : p.tables.exec = Jvm.exec) {k : Nat} {v : Value} (q : Nat) (hd : decode c.code pc = .ok (.aload k, 2)) (hl : L[k]? = some (.val v)) (hv : v.isRef = true) (hq : pc + 2 = q) (hr : Sx p e below T m q L (v :: S) t) : Sx p e below T m pc L S t := by subst hq; exact XS.aload X.here hx rfl hd hl hv hr
theorem y_aloadN {p : Program} {l : Launch} {e : Env} {R : Room} {s : State} {m : MethodId} {args : Array Value} {below : List Frame} {meth : Method} {c : Code} {T : State} {locs : List Loc} {cells slots : Nat} {t : State} {L : Array Slot} {S : List Value} {pc : Nat} (X : Stand p l e R s m args below meth c T locs cells slots) (hx : p.tables.exec = Jvm.exec) {k : Fin 4} {v : Value} (q : Nat) (hd : decode c.code pc = .ok (.aload_n k, 1)) (hl : L[k.val]? = some (.val v)) (hv : v.isRef = true) (hq : pc + 1 = q) (hr : Sx p e below T m q L (v :: S) t) : Sx p e below T m pc L S t := by subst hq; exact XS.aloadN X.here hx rfl hd hl hv hr
theorem y_iconst {p : Program} {l : Launch} {e : Env} {R : Room} {s : State} {m : MethodId} {args : Array Value} {below : List Frame} {meth : Method} {c : Code} {T : State} {locs : List Loc} {cells slots : Nat} {t : State} {L : Array Slot} {S : List Value} {pc : Nat} (X : Stand p l e R s m args below meth c T locs cells slots) (hx : p.tables.exec = Jvm.exec) {i : Int} (z : Int32) (q : Nat) (hd : decode c.code pc = .ok (.iconst i, 1)) (hz : Int32.ofInt i = z) (hq : pc + 1 = q) (hr : Sx p e below T m q L (.int z :: S) t) : Sx p e below T m pc L S t := by subst hq; exact XS.iconst X.here hx rfl hd (by rw [hz]; exact hr)
theorem y_bipush {p : Program} {l : Launch} {e : Env} {R : Room} {s : State} {m : MethodId} {args : Array Value} {below : List Frame} {meth : Method} {c : Code} {T : State} {locs : List Loc} {cells slots : Nat} {t : State} {L : Array Slot} {S : List Value} {pc : Nat} (X : Stand p l e R s m args below meth c T locs cells slots) (hx : p.tables.exec = Jvm.exec) {i : Int} (z : Int32) (q : Nat) (hd : decode c.code pc = .ok (.bipush i, 2)) (hz : (Int8.ofInt i).toInt32 = z) (hq : pc + 2 = q) (hr : Sx p e below T m q L (.int z :: S) t) : Sx p e below T m pc L S t := by subst hq; exact XS.bipush X.here hx rfl hd (by rw [hz]; exact hr)
theorem y_sipush {p : Program} {l : Launch} {e : Env} {R : Room} {s : State} {m : MethodId} {args : Array Value} {below : List Frame} {meth : Method} {c : Code} {T : State} {locs : List Loc} {cells slots : Nat} {t : State} {L : Array Slot} {S : List Value} {pc : Nat} (X : Stand p l e R s m args below meth c T locs cells slots) (hx : p.tables.exec = Jvm.exec) {i : Int} (z : Int32) (q : Nat) (hd : decode c.code pc = .ok (.sipush i, 3)) (hz : (Int16.ofInt i).toInt32 = z) (hq : pc + 3 = q) (hr : Sx p e below T m q L (.int z :: S) t) : Sx p e below T m pc L S t := by subst hq; exact XS.sipush X.here hx rfl hd (by rw [hz]; exact hr)
theorem y_aconst_null {p : Program} {l : Launch} {e : Env} {R : Room} {s : State} {m : MethodId} {args : Array Value} {below : List Frame} {meth : Method} {c : Code} {T : State} {locs : List Loc} {cells slots : Nat} {t : State} {L : Array Slot} {S : List Value} {pc : Nat} (X : Stand p l e R s m args below meth c T locs cells slots) (hx : p.tables.exec = Jvm.exec) (q : Nat) (hd : decode c.code pc = .ok (.aconst_null, 1)) (hq : pc + 1 = q) (hr : Sx p e below T m q L (.null :: S) t) : Sx p e below T m pc L S t := by subst hq; exact XS.aconstNull X.here hx rfl hd hr
theorem y_iadd {p : Program} {l : Launch} {e : Env} {R : Room} {s : State} {m : MethodId} {args : Array Value} {below : List Frame} {meth : Method} {c : Code} {T : State} {locs : List Loc} {cells slots : Nat} {t : State} {L : Array Slot} {S : List Value} {pc : Nat} (X : Stand p l e R s m args below meth c T locs cells slots) (hx : p.tables.exec = Jvm.exec) {x y : Int32} (q : Nat) (hd : decode c.code pc = .ok (.iadd, 1)) (hq : pc + 1 = q) (hr : Sx p e below T m q L (.int (x + y) :: S) t) : Sx p e below T m pc L (.int y :: .int x :: S) t := by subst hq; exact XS.iadd X.here hx rfl hd rfl hr
theorem y_ladd {p : Program} {l : Launch} {e : Env} {R : Room} {s : State} {m : MethodId} {args : Array Value} {below : List Frame} {meth : Method} {c : Code} {T : State} {locs : List Loc} {cells slots : Nat} {t : State} {L : Array Slot} {S : List Value} {pc : Nat} (X : Stand p l e R s m args below meth c T locs cells slots) (hx : p.tables.exec = Jvm.exec) {x y : Int64} (q : Nat) (hd : decode c.code pc = .ok (.ladd, 1)) (hq : pc + 1 = q) (hr : Sx p e below T m q L (.long (x + y) :: S) t) : Sx p e below T m pc L (.long y :: .long x :: S) t := by subst hq; exact XS.ladd X.here hx rfl hd rfl hr
theorem y_isub {p : Program} {l : Launch} {e : Env} {R : Room} {s : State} {m : MethodId} {args : Array Value} {below : List Frame} {meth : Method} {c : Code} {T : State} {locs : List Loc} {cells slots : Nat} {t : State} {L : Array Slot} {S : List Value} {pc : Nat} (X : Stand p l e R s m args below meth c T locs cells slots) (hx : p.tables.exec = Jvm.exec) {x y : Int32} (q : Nat) (hd : decode c.code pc = .ok (.isub, 1)) (hq : pc + 1 = q) (hr : Sx p e below T m q L (.int (x - y) :: S) t) : Sx p e below T m pc L (.int y :: .int x :: S) t := by subst hq; exact XS.isub X.here hx rfl hd rfl hr
theorem y_lsub {p : Program} {l : Launch} {e : Env} {R : Room} {s : State} {m : MethodId} {args : Array Value} {below : List Frame} {meth : Method} {c : Code} {T : State} {locs : List Loc} {cells slots : Nat} {t : State} {L : Array Slot} {S : List Value} {pc : Nat} (X : Stand p l e R s m args below meth c T locs cells slots) (hx : p.tables.exec = Jvm.exec) {x y : Int64} (q : Nat) (hd : decode c.code pc = .ok (.lsub, 1)) (hq : pc + 1 = q) (hr : Sx p e below T m q L (.long (x - y) :: S) t) : Sx p e below T m pc L (.long y :: .long x :: S) t := by subst hq; exact XS.lsub X.here hx rfl hd rfl hr
theorem y_imul {p : Program} {l : Launch} {e : Env} {R : Room} {s : State} {m : MethodId} {args : Array Value} {below : List Frame} {meth : Method} {c : Code} {T : State} {locs : List Loc} {cells slots : Nat} {t : State} {L : Array Slot} {S : List Value} {pc : Nat} (X : Stand p l e R s m args below meth c T locs cells slots) (hx : p.tables.exec = Jvm.exec) {x y : Int32} (q : Nat) (hd : decode c.code pc = .ok (.imul, 1)) (hq : pc + 1 = q) (hr : Sx p e below T m q L (.int (x * y) :: S) t) : Sx p e below T m pc L (.int y :: .int x :: S) t := by subst hq; exact XS.imul X.here hx rfl hd rfl hr
theorem y_lmul {p : Program} {l : Launch} {e : Env} {R : Room} {s : State} {m : MethodId} {args : Array Value} {below : List Frame} {meth : Method} {c : Code} {T : State} {locs : List Loc} {cells slots : Nat} {t : State} {L : Array Slot} {S : List Value} {pc : Nat} (X : Stand p l e R s m args below meth c T locs cells slots) (hx : p.tables.exec = Jvm.exec) {x y : Int64} (q : Nat) (hd : decode c.code pc = .ok (.lmul, 1)) (hq : pc + 1 = q) (hr : Sx p e below T m q L (.long (x * y) :: S) t) : Sx p e below T m pc L (.long y :: .long x :: S) t := by subst hq; exact XS.lmul X.here hx rfl hd rfl hr
theorem y_iand {p : Program} {l : Launch} {e : Env} {R : Room} {s : State} {m : MethodId} {args : Array Value} {below : List Frame} {meth : Method} {c : Code} {T : State} {locs : List Loc} {cells slots : Nat} {t : State} {L : Array Slot} {S : List Value} {pc : Nat} (X : Stand p l e R s m args below meth c T locs cells slots) (hx : p.tables.exec = Jvm.exec) {x y : Int32} (q : Nat) (hd : decode c.code pc = .ok (.iand, 1)) (hq : pc + 1 = q) (hr : Sx p e below T m q L (.int (x &&& y) :: S) t) : Sx p e below T m pc L (.int y :: .int x :: S) t := by subst hq; exact XS.iand X.here hx rfl hd rfl hr
theorem y_land {p : Program} {l : Launch} {e : Env} {R : Room} {s : State} {m : MethodId} {args : Array Value} {below : List Frame} {meth : Method} {c : Code} {T : State} {locs : List Loc} {cells slots : Nat} {t : State} {L : Array Slot} {S : List Value} {pc : Nat} (X : Stand p l e R s m args below meth c T locs cells slots) (hx : p.tables.exec = Jvm.exec) {x y : Int64} (q : Nat) (hd : decode c.code pc = .ok (.land, 1)) (hq : pc + 1 = q) (hr : Sx p e below T m q L (.long (x &&& y) :: S) t) : Sx p e below T m pc L (.long y :: .long x :: S) t := by subst hq; exact XS.land X.here hx rfl hd rfl hr
theorem y_ior {p : Program} {l : Launch} {e : Env} {R : Room} {s : State} {m : MethodId} {args : Array Value} {below : List Frame} {meth : Method} {c : Code} {T : State} {locs : List Loc} {cells slots : Nat} {t : State} {L : Array Slot} {S : List Value} {pc : Nat} (X : Stand p l e R s m args below meth c T locs cells slots) (hx : p.tables.exec = Jvm.exec) {x y : Int32} (q : Nat) (hd : decode c.code pc = .ok (.ior, 1)) (hq : pc + 1 = q) (hr : Sx p e below T m q L (.int (x ||| y) :: S) t) : Sx p e below T m pc L (.int y :: .int x :: S) t := by subst hq; exact XS.ior X.here hx rfl hd rfl hr
theorem y_lor {p : Program} {l : Launch} {e : Env} {R : Room} {s : State} {m : MethodId} {args : Array Value} {below : List Frame} {meth : Method} {c : Code} {T : State} {locs : List Loc} {cells slots : Nat} {t : State} {L : Array Slot} {S : List Value} {pc : Nat} (X : Stand p l e R s m args below meth c T locs cells slots) (hx : p.tables.exec = Jvm.exec) {x y : Int64} (q : Nat) (hd : decode c.code pc = .ok (.lor, 1)) (hq : pc + 1 = q) (hr : Sx p e below T m q L (.long (x ||| y) :: S) t) : Sx p e below T m pc L (.long y :: .long x :: S) t := by subst hq; exact XS.lor X.here hx rfl hd rfl hr
theorem y_ixor {p : Program} {l : Launch} {e : Env} {R : Room} {s : State} {m : MethodId} {args : Array Value} {below : List Frame} {meth : Method} {c : Code} {T : State} {locs : List Loc} {cells slots : Nat} {t : State} {L : Array Slot} {S : List Value} {pc : Nat} (X : Stand p l e R s m args below meth c T locs cells slots) (hx : p.tables.exec = Jvm.exec) {x y : Int32} (q : Nat) (hd : decode c.code pc = .ok (.ixor, 1)) (hq : pc + 1 = q) (hr : Sx p e below T m q L (.int (x ^^^ y) :: S) t) : Sx p e below T m pc L (.int y :: .int x :: S) t := by subst hq; exact XS.ixor X.here hx rfl hd rfl hr
theorem y_lxor {p : Program} {l : Launch} {e : Env} {R : Room} {s : State} {m : MethodId} {args : Array Value} {below : List Frame} {meth : Method} {c : Code} {T : State} {locs : List Loc} {cells slots : Nat} {t : State} {L : Array Slot} {S : List Value} {pc : Nat} (X : Stand p l e R s m args below meth c T locs cells slots) (hx : p.tables.exec = Jvm.exec) {x y : Int64} (q : Nat) (hd : decode c.code pc = .ok (.lxor, 1)) (hq : pc + 1 = q) (hr : Sx p e below T m q L (.long (x ^^^ y) :: S) t) : Sx p e below T m pc L (.long y :: .long x :: S) t := by subst hq; exact XS.lxor X.here hx rfl hd rfl hr
theorem y_goto {p : Program} {l : Launch} {e : Env} {R : Room} {s : State} {m : MethodId} {args : Array Value} {below : List Frame} {meth : Method} {c : Code} {T : State} {locs : List Loc} {cells slots : Nat} {t : State} {L : Array Slot} {S : List Value} {pc : Nat} (X : Stand p l e R s m args below meth c T locs cells slots) (hx : p.tables.exec = Jvm.exec) {o : Int} (q : Nat) (hd : decode c.code pc = .ok (.goto o, 3)) (ho : 0 ≤ (pc : Int) + o) (hq : ((pc : Int) + o).toNat = q) (hr : Sx p e below T m q L S t) : Sx p e below T m pc L S t := by subst hq; exact XS.goto X.here hx rfl rfl hd ho rfl hr
theorem y_ifYes {p : Program} {l : Launch} {e : Env} {R : Room} {s : State} {m : MethodId} {args : Array Value} {below : List Frame} {meth : Method} {c : Code} {T : State} {locs : List Loc} {cells slots : Nat} {t : State} {L : Array Slot} {S : List Value} {pc : Nat} (X : Stand p l e R s m args below meth c T locs cells slots) (hx : p.tables.exec = Jvm.exec) {cd : ClassFile.Cond} {x : Int32} {o : Int} (q : Nat) (hd : decode c.code pc = .ok (.ifCond cd o, 3)) (hc : ifCond.holds cd x = true) (ho : 0 ≤ (pc : Int) + o) (hq : ((pc : Int) + o).toNat = q) (hr : Sx p e below T m q L S t) : Sx p e below T m pc L (.int x :: S) t := by subst hq; exact XS.ifYes X.here hx rfl rfl hd rfl hc ho rfl hr
theorem y_ifNo {p : Program} {l : Launch} {e : Env} {R : Room} {s : State} {m : MethodId} {args : Array Value} {below : List Frame} {meth : Method} {c : Code} {T : State} {locs : List Loc} {cells slots : Nat} {t : State} {L : Array Slot} {S : List Value} {pc : Nat} (X : Stand p l e R s m args below meth c T locs cells slots) (hx : p.tables.exec = Jvm.exec) {cd : ClassFile.Cond} {x : Int32} {o : Int} (q : Nat) (hd : decode c.code pc = .ok (.ifCond cd o, 3)) (hc : ifCond.holds cd x = false) (hq : pc + 3 = q) (hr : Sx p e below T m q L S t) : Sx p e below T m pc L (.int x :: S) t := by subst hq; exact XS.ifNo X.here hx rfl hd rfl hc hr
theorem y_icmpYes {p : Program} {l : Launch} {e : Env} {R : Room} {s : State} {m : MethodId} {args : Array Value} {below : List Frame} {meth : Method} {c : Code} {T : State} {locs : List Loc} {cells slots : Nat} {t : State} {L : Array Slot} {S : List Value} {pc : Nat} (X : Stand p l e R s m args below meth c T locs cells slots) (hx : p.tables.exec = Jvm.exec) {cd : ClassFile.Cond} {x y : Int32} {o : Int} (q : Nat) (hd : decode c.code pc = .ok (.if_icmp cd o, 3)) (hc : if_icmp.holds cd x y = true) (ho : 0 ≤ (pc : Int) + o) (hq : ((pc : Int) + o).toNat = q) (hr : Sx p e below T m q L S t) : Sx p e below T m pc L (.int y :: .int x :: S) t := by subst hq; exact XS.icmpYes X.here hx rfl rfl hd rfl hc ho rfl hr
theorem y_icmpNo {p : Program} {l : Launch} {e : Env} {R : Room} {s : State} {m : MethodId} {args : Array Value} {below : List Frame} {meth : Method} {c : Code} {T : State} {locs : List Loc} {cells slots : Nat} {t : State} {L : Array Slot} {S : List Value} {pc : Nat} (X : Stand p l e R s m args below meth c T locs cells slots) (hx : p.tables.exec = Jvm.exec) {cd : ClassFile.Cond} {x y : Int32} {o : Int} (q : Nat) (hd : decode c.code pc = .ok (.if_icmp cd o, 3)) (hc : if_icmp.holds cd x y = false) (hq : pc + 3 = q) (hr : Sx p e below T m q L S t) : Sx p e below T m pc L (.int y :: .int x :: S) t := by subst hq; exact XS.icmpNo X.here hx rfl hd rfl hc hr
theorem y_dup {p : Program} {l : Launch} {e : Env} {R : Room} {s : State} {m : MethodId} {args : Array Value} {below : List Frame} {meth : Method} {c : Code} {T : State} {locs : List Loc} {cells slots : Nat} {t : State} {L : Array Slot} {S : List Value} {pc : Nat} (X : Stand p l e R s m args below meth c T locs cells slots) (hx : p.tables.exec = Jvm.exec) {v : Value} (q : Nat) (hd : decode c.code pc = .ok (.dup, 1)) (hc : v.category = 1) (hq : pc + 1 = q) (hr : Sx p e below T m q L (v :: v :: S) t) : Sx p e below T m pc L (v :: S) t := by subst hq; exact XS.dup X.here hx rfl hd rfl hc hr
theorem y_pop {p : Program} {l : Launch} {e : Env} {R : Room} {s : State} {m : MethodId} {args : Array Value} {below : List Frame} {meth : Method} {c : Code} {T : State} {locs : List Loc} {cells slots : Nat} {t : State} {L : Array Slot} {S : List Value} {pc : Nat} (X : Stand p l e R s m args below meth c T locs cells slots) (hx : p.tables.exec = Jvm.exec) {v : Value} (q : Nat) (hd : decode c.code pc = .ok (.pop, 1)) (hc : v.category = 1) (hq : pc + 1 = q) (hr : Sx p e below T m q L S t) : Sx p e below T m pc L (v :: S) t := by subst hq; exact XS.pop X.here hx rfl hd rfl hc hr
theorem own_nar {v : Value} {t : FieldType} (h : v.isRef = true) (ht : t.isReference = true) : narrow t v = v := by
  rcases XT.refc h with rfl | ⟨r, rfl⟩ <;> cases t <;> first | rfl | cases ht
theorem own_fit {v : Value} {t : FieldType} (h : v.isRef = true) (ht : t.isReference = true) : fits t v = true := by
  rcases XT.refc h with rfl | ⟨r, rfl⟩ <;> cases t <;> first | rfl | cases ht
abbrev HW (a0 : Array Value) (Z : State) : Prop := ∀ d ∈ tables_1, d.before a0 Z = true
theorem w_at {a0 : Array Value} {Z : State} (hw : HW a0 Z) {d : Jvm.Cond} (i : Nat) (h : tables_1[i]? = some d) : d.before a0 Z = true := hw _ (List.mem_of_getElem? h)
theorem w_0 {a0 : Array Value} {Z : State} (hw : HW a0 Z) : (Cond.methodLink "com/example/arbiter/arbiter/store/SchemaNameOfPinLaw" 8 ⟨"com/example/arbiter/arbiter/store/SchemaNameOfPinLaw", "first", "(I)C"⟩).before a0 Z = true := w_at hw 0 rfl
theorem w_1 {a0 : Array Value} {Z : State} (hw : HW a0 Z) : (Cond.static ⟨"com/example/arbiter/arbiter/store/SchemaNameOfPinLaw", "first", "(I)C"⟩).before a0 Z = true := w_at hw 1 rfl
theorem w_2 {a0 : Array Value} {Z : State} (hw : HW a0 Z) : (Cond.initialized "com/example/arbiter/arbiter/store/SchemaNameOfPinLaw").before a0 Z = true := w_at hw 2 rfl
theorem w_3 {a0 : Array Value} {Z : State} (hw : HW a0 Z) : (Cond.code ⟨"com/example/arbiter/arbiter/store/SchemaNameOfPinLaw", "first", "(I)C"⟩ method_2_code 2 (Option.some FieldType.char)).before a0 Z = true := w_at hw 3 rfl
theorem w_4 {a0 : Array Value} {Z : State} (hw : HW a0 Z) : (Cond.constant "com/example/arbiter/arbiter/store/SchemaNameOfPinLaw" 7 (2147483647 : Int32)).before a0 Z = true := w_at hw 4 rfl
theorem w_5 {a0 : Array Value} {Z : State} (hw : HW a0 Z) : (Cond.methodLink "com/example/arbiter/arbiter/store/SchemaNameOfPinLaw" 14 ⟨"com/example/arbiter/arbiter/store/SchemaNameOfPinLaw", "rest", "(I)C"⟩).before a0 Z = true := w_at hw 5 rfl
theorem w_6 {a0 : Array Value} {Z : State} (hw : HW a0 Z) : (Cond.static ⟨"com/example/arbiter/arbiter/store/SchemaNameOfPinLaw", "rest", "(I)C"⟩).before a0 Z = true := w_at hw 6 rfl
theorem w_7 {a0 : Array Value} {Z : State} (hw : HW a0 Z) : (Cond.code ⟨"com/example/arbiter/arbiter/store/SchemaNameOfPinLaw", "rest", "(I)C"⟩ method_3_code 2 (Option.some FieldType.char)).before a0 Z = true := w_at hw 7 rfl
theorem w_8 {a0 : Array Value} {Z : State} (hw : HW a0 Z) : (Cond.arrayClass FieldType.char).before a0 Z = true := w_at hw 8 rfl
theorem w_9 {a0 : Array Value} {Z : State} (hw : HW a0 Z) : (Cond.classLink "com/example/arbiter/arbiter/store/SchemaNameOfPinLaw" 17 "java/lang/String").before a0 Z = true := w_at hw 9 rfl
theorem w_10 {a0 : Array Value} {Z : State} (hw : HW a0 Z) : (Cond.instantiable "java/lang/String" 4).before a0 Z = true := w_at hw 10 rfl
theorem w_11 {a0 : Array Value} {Z : State} (hw : HW a0 Z) : (Cond.initialized "java/lang/String").before a0 Z = true := w_at hw 11 rfl
theorem w_12 {a0 : Array Value} {Z : State} (hw : HW a0 Z) : (Cond.methodLink "com/example/arbiter/arbiter/store/SchemaNameOfPinLaw" 19 ⟨"java/lang/String", "<init>", "([C)V"⟩).before a0 Z = true := w_at hw 12 rfl
theorem w_13 {a0 : Array Value} {Z : State} (hw : HW a0 Z) : (Cond.instanceMethod ⟨"java/lang/String", "<init>", "([C)V"⟩).before a0 Z = true := w_at hw 13 rfl
theorem w_14 {a0 : Array Value} {Z : State} (hw : HW a0 Z) : (Cond.code ⟨"java/lang/String", "<init>", "([C)V"⟩ jdk_42_method_3_code 2 (Option.none : Option FieldType)).before a0 Z = true := w_at hw 14 rfl
theorem w_20 {a0 : Array Value} {Z : State} (hw : HW a0 Z) : (Cond.instanceMethod ⟨"java/lang/Object", "<init>", "()V"⟩).before a0 Z = true := w_at hw 20 rfl
theorem w_21 {a0 : Array Value} {Z : State} (hw : HW a0 Z) : (Cond.code ⟨"java/lang/Object", "<init>", "()V"⟩ object_method_1_code 1 (Option.none : Option FieldType)).before a0 Z = true := w_at hw 21 rfl
theorem w_22 {a0 : Array Value} {Z : State} (hw : HW a0 Z) : (Cond.fieldLink "java/lang/String" 38 "java/lang/String" "COMPACT_STRINGS" "Z").before a0 Z = true := w_at hw 22 rfl
theorem w_34 {a0 : Array Value} {Z : State} (hw : HW a0 Z) : (Cond.fieldLink "java/lang/String" 15 "java/lang/String" "coder" "B").before a0 Z = true := w_at hw 34 rfl
theorem w_35 {a0 : Array Value} {Z : State} (hw : HW a0 Z) : (Cond.laysFinal "java/lang/String" "java/lang/String" "coder" "B").before a0 Z = true := w_at hw 35 rfl
theorem w_36 {a0 : Array Value} {Z : State} (hw : HW a0 Z) : (Cond.fieldLink "java/lang/String" 9 "java/lang/String" "value" "[B").before a0 Z = true := w_at hw 36 rfl
theorem w_37 {a0 : Array Value} {Z : State} (hw : HW a0 Z) : (Cond.laysFinal "java/lang/String" "java/lang/String" "value" "[B").before a0 Z = true := w_at hw 37 rfl
theorem w_38 {a0 : Array Value} {Z : State} (hw : HW a0 Z) : (Cond.methodLink "com/example/arbiter/arbiter/store/SchemaNameOfPinLaw" 22 ⟨"com/example/arbiter/arbiter/store/SchemaName", "of", "(Ljava/lang/String;)Lcom/example/arbiter/arbiter/store/SchemaName;"⟩).before a0 Z = true := w_at hw 38 rfl
theorem w_39 {a0 : Array Value} {Z : State} (hw : HW a0 Z) : (Cond.static ⟨"com/example/arbiter/arbiter/store/SchemaName", "of", "(Ljava/lang/String;)Lcom/example/arbiter/arbiter/store/SchemaName;"⟩).before a0 Z = true := w_at hw 39 rfl
theorem w_40 {a0 : Array Value} {Z : State} (hw : HW a0 Z) : (Cond.initialized "com/example/arbiter/arbiter/store/SchemaName").before a0 Z = true := w_at hw 40 rfl
theorem w_41 {a0 : Array Value} {Z : State} (hw : HW a0 Z) : (Cond.code ⟨"com/example/arbiter/arbiter/store/SchemaName", "of", "(Ljava/lang/String;)Lcom/example/arbiter/arbiter/store/SchemaName;"⟩ prog_36_method_2_code 1 (Option.some (FieldType.object "com/example/arbiter/arbiter/store/SchemaName"))).before a0 Z = true := w_at hw 41 rfl
theorem w_42 {a0 : Array Value} {Z : State} (hw : HW a0 Z) : (Cond.classLink "com/example/arbiter/arbiter/store/SchemaName" 8 "com/example/arbiter/arbiter/store/SchemaName").before a0 Z = true := w_at hw 42 rfl
theorem w_43 {a0 : Array Value} {Z : State} (hw : HW a0 Z) : (Cond.instantiable "com/example/arbiter/arbiter/store/SchemaName" 1).before a0 Z = true := w_at hw 43 rfl
theorem w_44 {a0 : Array Value} {Z : State} (hw : HW a0 Z) : (Cond.stringLink "com/example/arbiter/arbiter/store/SchemaName" 13 "schema name").before a0 Z = true := w_at hw 44 rfl
theorem w_47 {a0 : Array Value} {Z : State} (hw : HW a0 Z) : (Cond.methodLink "com/example/arbiter/arbiter/store/SchemaName" 15 ⟨"com/example/arbiter/arbiter/store/SchemaName", "checkIdentifier", "(Ljava/lang/String;Ljava/lang/String;)Ljava/lang/String;"⟩).before a0 Z = true := w_at hw 47 rfl
theorem w_48 {a0 : Array Value} {Z : State} (hw : HW a0 Z) : (Cond.static ⟨"com/example/arbiter/arbiter/store/SchemaName", "checkIdentifier", "(Ljava/lang/String;Ljava/lang/String;)Ljava/lang/String;"⟩).before a0 Z = true := w_at hw 48 rfl
theorem w_49 {a0 : Array Value} {Z : State} (hw : HW a0 Z) : (Cond.code ⟨"com/example/arbiter/arbiter/store/SchemaName", "checkIdentifier", "(Ljava/lang/String;Ljava/lang/String;)Ljava/lang/String;"⟩ prog_36_method_6_code 6 (Option.some (FieldType.object "java/lang/String"))).before a0 Z = true := w_at hw 49 rfl
theorem w_50 {a0 : Array Value} {Z : State} (hw : HW a0 Z) : (Cond.methodLink "com/example/arbiter/arbiter/store/SchemaName" 35 ⟨"java/util/Objects", "requireNonNull", "(Ljava/lang/Object;Ljava/lang/String;)Ljava/lang/Object;"⟩).before a0 Z = true := w_at hw 50 rfl
theorem w_51 {a0 : Array Value} {Z : State} (hw : HW a0 Z) : (Cond.static ⟨"java/util/Objects", "requireNonNull", "(Ljava/lang/Object;Ljava/lang/String;)Ljava/lang/Object;"⟩).before a0 Z = true := w_at hw 51 rfl
theorem w_52 {a0 : Array Value} {Z : State} (hw : HW a0 Z) : (Cond.initialized "java/util/Objects").before a0 Z = true := w_at hw 52 rfl
theorem w_53 {a0 : Array Value} {Z : State} (hw : HW a0 Z) : (Cond.code ⟨"java/util/Objects", "requireNonNull", "(Ljava/lang/Object;Ljava/lang/String;)Ljava/lang/Object;"⟩ jdk_31_method_11_code 2 (Option.some (FieldType.object "java/lang/Object"))).before a0 Z = true := w_at hw 53 rfl
theorem w_54 {a0 : Array Value} {Z : State} (hw : HW a0 Z) : (Cond.methodLink "com/example/arbiter/arbiter/store/SchemaName" 41 ⟨"java/lang/String", "length", "()I"⟩).before a0 Z = true := w_at hw 54 rfl
theorem w_55 {a0 : Array Value} {Z : State} (hw : HW a0 Z) : (Cond.declares ⟨"java/lang/String", "length", "()I"⟩).before a0 Z = true := w_at hw 55 rfl
theorem w_56 {a0 : Array Value} {Z : State} (hw : HW a0 Z) : (Cond.instanceMethod ⟨"java/lang/String", "length", "()I"⟩).before a0 Z = true := w_at hw 56 rfl
theorem w_57 {a0 : Array Value} {Z : State} (hw : HW a0 Z) : (Cond.selects "java/lang/String" ⟨"java/lang/String", "length", "()I"⟩ ⟨"java/lang/String", "length", "()I"⟩).before a0 Z = true := w_at hw 57 rfl
theorem w_58 {a0 : Array Value} {Z : State} (hw : HW a0 Z) : (Cond.code ⟨"java/lang/String", "length", "()I"⟩ jdk_42_method_54_code 1 (Option.some FieldType.int)).before a0 Z = true := w_at hw 58 rfl
theorem w_59 {a0 : Array Value} {Z : State} (hw : HW a0 Z) : (Cond.methodLink "java/lang/String" 335 ⟨"java/lang/String", "coder", "()B"⟩).before a0 Z = true := w_at hw 59 rfl
theorem w_60 {a0 : Array Value} {Z : State} (hw : HW a0 Z) : (Cond.declares ⟨"java/lang/String", "coder", "()B"⟩).before a0 Z = true := w_at hw 60 rfl
theorem w_61 {a0 : Array Value} {Z : State} (hw : HW a0 Z) : (Cond.instanceMethod ⟨"java/lang/String", "coder", "()B"⟩).before a0 Z = true := w_at hw 61 rfl
theorem w_62 {a0 : Array Value} {Z : State} (hw : HW a0 Z) : (Cond.selects "java/lang/String" ⟨"java/lang/String", "coder", "()B"⟩ ⟨"java/lang/String", "coder", "()B"⟩).before a0 Z = true := w_at hw 62 rfl
theorem w_63 {a0 : Array Value} {Z : State} (hw : HW a0 Z) : (Cond.code ⟨"java/lang/String", "coder", "()B"⟩ jdk_42_method_152_code 1 (Option.some FieldType.byte)).before a0 Z = true := w_at hw 63 rfl
theorem w_64 {a0 : Array Value} {Z : State} (hw : HW a0 Z) : (Cond.methodLink "com/example/arbiter/arbiter/store/SchemaName" 47 ⟨"java/lang/String", "charAt", "(I)C"⟩).before a0 Z = true := w_at hw 64 rfl
theorem w_65 {a0 : Array Value} {Z : State} (hw : HW a0 Z) : (Cond.declares ⟨"java/lang/String", "charAt", "(I)C"⟩).before a0 Z = true := w_at hw 65 rfl
theorem w_66 {a0 : Array Value} {Z : State} (hw : HW a0 Z) : (Cond.instanceMethod ⟨"java/lang/String", "charAt", "(I)C"⟩).before a0 Z = true := w_at hw 66 rfl
theorem w_67 {a0 : Array Value} {Z : State} (hw : HW a0 Z) : (Cond.selects "java/lang/String" ⟨"java/lang/String", "charAt", "(I)C"⟩ ⟨"java/lang/String", "charAt", "(I)C"⟩).before a0 Z = true := w_at hw 67 rfl
theorem w_68 {a0 : Array Value} {Z : State} (hw : HW a0 Z) : (Cond.code ⟨"java/lang/String", "charAt", "(I)C"⟩ jdk_42_method_56_code 2 (Option.some FieldType.char)).before a0 Z = true := w_at hw 68 rfl
theorem w_69 {a0 : Array Value} {Z : State} (hw : HW a0 Z) : (Cond.methodLink "java/lang/String" 492 ⟨"java/lang/String", "isLatin1", "()Z"⟩).before a0 Z = true := w_at hw 69 rfl
theorem w_70 {a0 : Array Value} {Z : State} (hw : HW a0 Z) : (Cond.declares ⟨"java/lang/String", "isLatin1", "()Z"⟩).before a0 Z = true := w_at hw 70 rfl
theorem w_71 {a0 : Array Value} {Z : State} (hw : HW a0 Z) : (Cond.instanceMethod ⟨"java/lang/String", "isLatin1", "()Z"⟩).before a0 Z = true := w_at hw 71 rfl
theorem w_72 {a0 : Array Value} {Z : State} (hw : HW a0 Z) : (Cond.selects "java/lang/String" ⟨"java/lang/String", "isLatin1", "()Z"⟩ ⟨"java/lang/String", "isLatin1", "()Z"⟩).before a0 Z = true := w_at hw 72 rfl
theorem w_73 {a0 : Array Value} {Z : State} (hw : HW a0 Z) : (Cond.code ⟨"java/lang/String", "isLatin1", "()Z"⟩ jdk_42_method_154_code 1 (Option.some FieldType.boolean)).before a0 Z = true := w_at hw 73 rfl
theorem w_74 {a0 : Array Value} {Z : State} (hw : HW a0 Z) : (Cond.methodLink "java/lang/String" 495 ⟨"java/lang/StringLatin1", "charAt", "([BI)C"⟩).before a0 Z = true := w_at hw 74 rfl
theorem w_75 {a0 : Array Value} {Z : State} (hw : HW a0 Z) : (Cond.static ⟨"java/lang/StringLatin1", "charAt", "([BI)C"⟩).before a0 Z = true := w_at hw 75 rfl
theorem w_76 {a0 : Array Value} {Z : State} (hw : HW a0 Z) : (Cond.initialized "java/lang/StringLatin1").before a0 Z = true := w_at hw 76 rfl
theorem w_77 {a0 : Array Value} {Z : State} (hw : HW a0 Z) : (Cond.code ⟨"java/lang/StringLatin1", "charAt", "([BI)C"⟩ jdk_43_method_2_code 2 (Option.some FieldType.char)).before a0 Z = true := w_at hw 77 rfl
theorem w_78 {a0 : Array Value} {Z : State} (hw : HW a0 Z) : (Cond.methodLink "java/lang/StringLatin1" 9 ⟨"java/lang/String", "checkIndex", "(II)V"⟩).before a0 Z = true := w_at hw 78 rfl
theorem w_79 {a0 : Array Value} {Z : State} (hw : HW a0 Z) : (Cond.static ⟨"java/lang/String", "checkIndex", "(II)V"⟩).before a0 Z = true := w_at hw 79 rfl
theorem w_80 {a0 : Array Value} {Z : State} (hw : HW a0 Z) : (Cond.code ⟨"java/lang/String", "checkIndex", "(II)V"⟩ jdk_42_method_155_code 2 (Option.none : Option FieldType)).before a0 Z = true := w_at hw 80 rfl
theorem w_81 {a0 : Array Value} {Z : State} (hw : HW a0 Z) : (Cond.fieldLink "java/lang/String" 1053 "jdk/internal/util/Preconditions" "SIOOBE_FORMATTER" "Ljava/util/function/BiFunction;").before a0 Z = true := w_at hw 81 rfl
theorem w_82 {a0 : Array Value} {Z : State} (hw : HW a0 Z) : (Cond.initialized "jdk/internal/util/Preconditions").before a0 Z = true := w_at hw 82 rfl
theorem w_83 {a0 : Array Value} {Z : State} (hw : HW a0 Z) : (Cond.methodLink "java/lang/String" 1059 ⟨"jdk/internal/util/Preconditions", "checkIndex", "(IILjava/util/function/BiFunction;)I"⟩).before a0 Z = true := w_at hw 83 rfl
theorem w_84 {a0 : Array Value} {Z : State} (hw : HW a0 Z) : (Cond.static ⟨"jdk/internal/util/Preconditions", "checkIndex", "(IILjava/util/function/BiFunction;)I"⟩).before a0 Z = true := w_at hw 84 rfl
theorem w_85 {a0 : Array Value} {Z : State} (hw : HW a0 Z) : (Cond.code ⟨"jdk/internal/util/Preconditions", "checkIndex", "(IILjava/util/function/BiFunction;)I"⟩ jdk_41_method_11_code 3 (Option.some FieldType.int)).before a0 Z = true := w_at hw 85 rfl
theorem w_86 {a0 : Array Value} {Z : State} (hw : HW a0 Z) : (Cond.methodLink "com/example/arbiter/arbiter/store/SchemaName" 51 ⟨"com/example/arbiter/arbiter/store/SchemaName", "isAsciiLetter", "(C)Z"⟩).before a0 Z = true := w_at hw 86 rfl
theorem w_87 {a0 : Array Value} {Z : State} (hw : HW a0 Z) : (Cond.static ⟨"com/example/arbiter/arbiter/store/SchemaName", "isAsciiLetter", "(C)Z"⟩).before a0 Z = true := w_at hw 87 rfl
theorem w_88 {a0 : Array Value} {Z : State} (hw : HW a0 Z) : (Cond.code ⟨"com/example/arbiter/arbiter/store/SchemaName", "isAsciiLetter", "(C)Z"⟩ prog_36_method_7_code 1 (Option.some FieldType.boolean)).before a0 Z = true := w_at hw 88 rfl
theorem w_89 {a0 : Array Value} {Z : State} (hw : HW a0 Z) : (Cond.methodLink "com/example/arbiter/arbiter/store/SchemaName" 19 ⟨"com/example/arbiter/arbiter/store/SchemaName", "<init>", "(Ljava/lang/String;)V"⟩).before a0 Z = true := w_at hw 89 rfl
theorem w_90 {a0 : Array Value} {Z : State} (hw : HW a0 Z) : (Cond.instanceMethod ⟨"com/example/arbiter/arbiter/store/SchemaName", "<init>", "(Ljava/lang/String;)V"⟩).before a0 Z = true := w_at hw 90 rfl
theorem w_91 {a0 : Array Value} {Z : State} (hw : HW a0 Z) : (Cond.code ⟨"com/example/arbiter/arbiter/store/SchemaName", "<init>", "(Ljava/lang/String;)V"⟩ prog_36_method_1_code 2 (Option.none : Option FieldType)).before a0 Z = true := w_at hw 91 rfl
theorem w_92 {a0 : Array Value} {Z : State} (hw : HW a0 Z) : (Cond.methodLink "com/example/arbiter/arbiter/store/SchemaName" 1 ⟨"java/lang/Object", "<init>", "()V"⟩).before a0 Z = true := w_at hw 92 rfl
theorem w_93 {a0 : Array Value} {Z : State} (hw : HW a0 Z) : (Cond.fieldLink "com/example/arbiter/arbiter/store/SchemaName" 7 "com/example/arbiter/arbiter/store/SchemaName" "name" "Ljava/lang/String;").before a0 Z = true := w_at hw 93 rfl
theorem w_94 {a0 : Array Value} {Z : State} (hw : HW a0 Z) : (Cond.laysFinal "com/example/arbiter/arbiter/store/SchemaName" "com/example/arbiter/arbiter/store/SchemaName" "name" "Ljava/lang/String;").before a0 Z = true := w_at hw 94 rfl
theorem w_95 {a0 : Array Value} {Z : State} (hw : HW a0 Z) : (Cond.methodLink "com/example/arbiter/arbiter/store/SchemaNameOfPinLaw" 28 ⟨"com/example/arbiter/arbiter/store/SchemaName", "name", "()Ljava/lang/String;"⟩).before a0 Z = true := w_at hw 95 rfl
theorem w_96 {a0 : Array Value} {Z : State} (hw : HW a0 Z) : (Cond.declares ⟨"com/example/arbiter/arbiter/store/SchemaName", "name", "()Ljava/lang/String;"⟩).before a0 Z = true := w_at hw 96 rfl
theorem w_97 {a0 : Array Value} {Z : State} (hw : HW a0 Z) : (Cond.instanceMethod ⟨"com/example/arbiter/arbiter/store/SchemaName", "name", "()Ljava/lang/String;"⟩).before a0 Z = true := w_at hw 97 rfl
theorem w_98 {a0 : Array Value} {Z : State} (hw : HW a0 Z) : (Cond.selects "com/example/arbiter/arbiter/store/SchemaName" ⟨"com/example/arbiter/arbiter/store/SchemaName", "name", "()Ljava/lang/String;"⟩ ⟨"com/example/arbiter/arbiter/store/SchemaName", "name", "()Ljava/lang/String;"⟩).before a0 Z = true := w_at hw 98 rfl
theorem w_99 {a0 : Array Value} {Z : State} (hw : HW a0 Z) : (Cond.code ⟨"com/example/arbiter/arbiter/store/SchemaName", "name", "()Ljava/lang/String;"⟩ prog_36_method_3_code 1 (Option.some (FieldType.object "java/lang/String"))).before a0 Z = true := w_at hw 99 rfl
theorem w_100 {a0 : Array Value} {Z : State} (hw : HW a0 Z) : (Cond.methodLink "com/example/arbiter/arbiter/store/SchemaNameOfPinLaw" 32 ⟨"java/lang/String", "equals", "(Ljava/lang/Object;)Z"⟩).before a0 Z = true := w_at hw 100 rfl
theorem w_101 {a0 : Array Value} {Z : State} (hw : HW a0 Z) : (Cond.declares ⟨"java/lang/String", "equals", "(Ljava/lang/Object;)Z"⟩).before a0 Z = true := w_at hw 101 rfl
theorem w_102 {a0 : Array Value} {Z : State} (hw : HW a0 Z) : (Cond.instanceMethod ⟨"java/lang/String", "equals", "(Ljava/lang/Object;)Z"⟩).before a0 Z = true := w_at hw 102 rfl
theorem w_103 {a0 : Array Value} {Z : State} (hw : HW a0 Z) : (Cond.selects "java/lang/String" ⟨"java/lang/String", "equals", "(Ljava/lang/Object;)Z"⟩ ⟨"java/lang/String", "equals", "(Ljava/lang/Object;)Z"⟩).before a0 Z = true := w_at hw 103 rfl
theorem w_104 {a0 : Array Value} {Z : State} (hw : HW a0 Z) : (Cond.code ⟨"java/lang/String", "equals", "(Ljava/lang/Object;)Z"⟩ jdk_42_method_66_code 3 (Option.some FieldType.boolean)).before a0 Z = true := w_at hw 104 rfl
theorem w_105 {a0 : Array Value} {Z : State} (hw : HW a0 Z) : (Cond.methodLink "com/example/arbiter/arbiter/store/SchemaNameOfPinLaw" 36 ⟨"java/lang/String", "length", "()I"⟩).before a0 Z = true := w_at hw 105 rfl
theorem own_fn {P : Int32 → Prop} : ∀ c ∈ ([] : List Int32), P c := fun c hc => by cases hc
theorem own_fc {P : Int32 → Prop} {a : Int32} {l : List Int32} (h : P a) (t : ∀ c ∈ l, P c) : ∀ c ∈ a :: l, P c := List.forall_mem_cons.mpr ⟨h, t⟩
theorem own_and255 (x : Int32) : ∃ k : Fin 256, (x &&& (255 : Int32)) = Int32.ofNat k.val := by
  have h : (x &&& 255).toBitVec.toNat < 256 := by
    simp only [Int32.toBitVec_and, BitVec.toNat_and]
    exact Nat.lt_succ_of_le Nat.and_le_right
  refine ⟨⟨_, h⟩, ?_⟩
  apply Int32.toBitVec_inj.mp
  show _ = BitVec.ofNat 32 _
  rw [BitVec.ofNat_toNat]; simp
theorem own_i2c (x : Int32) : (x &&& (255 : Int32)).toUInt32.toUInt16.toUInt32.toInt32 = x &&& 255 := by
  have t : ∀ k : Fin 256, (Int32.ofNat k.val).toUInt32.toUInt16.toUInt32.toInt32 = Int32.ofNat k.val := by decide +kernel
  obtain ⟨k, e⟩ := own_and255 x
  rw [e]; exact t k
theorem own_narc {c : Int32} (h : ¬ c < 0 ∧ ¬ (255 : Int32) < c) : nar .char c = c := by
  have t : ∀ k : Fin 256, nar .char (Int32.ofNat k.val) = Int32.ofNat k.val := by decide +kernel
  have h1 := h.1; have h2 := h.2
  rw [Int32.lt_iff_toInt_lt] at h1 h2
  have e1 : (0 : Int32).toInt = 0 := rfl
  have e2 : (255 : Int32).toInt = 255 := rfl
  have e : c = Int32.ofNat c.toInt.toNat := by
    apply Int32.toInt_inj.mp
    rw [Int32.toInt_ofNat_of_lt (by omega)]; omega
  rw [e]; exact t ⟨c.toInt.toNat, by omega⟩
theorem own_c255 (x : Int32) : ¬ (x &&& (255 : Int32)) < 0 ∧ ¬ (255 : Int32) < (x &&& (255 : Int32)) := by
  have t : ∀ k : Fin 256, ¬ (Int32.ofNat k.val) < 0 ∧ ¬ (255 : Int32) < (Int32.ofNat k.val) := by decide +kernel
  obtain ⟨k, e⟩ := own_and255 x
  rw [e]; exact t k
theorem own_nb (x : Int32) : x.toInt8.toInt32.toInt8.toInt32 = x.toInt8.toInt32 := by
  rw [Int8.toInt8_toInt32]
theorem own_up (cs : List Int32) (h : ∀ c ∈ cs, ¬ c < 0 ∧ ¬ (255 : Int32) < c) : ∀ c ∈ cs, ¬ c < 0 ∧ ¬ (65535 : Int32) < c := fun c hc => ⟨(h c hc).1, fun q => (h c hc).2 (by rw [Int32.lt_iff_toInt_lt] at q ⊢; have e1 : (65535 : Int32).toInt = 65535 := rfl; have e2 : (255 : Int32).toInt = 255 := rfl; omega)⟩
theorem own_ofc {c : Int32} (h : ¬ c < 0 ∧ ¬ (255 : Int32) < c) : ∃ k : Fin 256, c = Int32.ofNat k.val := by
  have h1 := h.1; have h2 := h.2
  rw [Int32.lt_iff_toInt_lt] at h1 h2
  have e1 : (0 : Int32).toInt = 0 := rfl
  have e2 : (255 : Int32).toInt = 255 := rfl
  refine ⟨⟨c.toInt.toNat, by omega⟩, ?_⟩
  apply Int32.toInt_inj.mp
  show c.toInt = (Int32.ofNat c.toInt.toNat).toInt
  rw [Int32.toInt_ofNat_of_lt (by omega)]; omega
theorem own_b8 {c : Int32} (h : ¬ c < 0 ∧ ¬ (255 : Int32) < c) : (c.toInt8.toInt32 &&& (255 : Int32)) = c := by
  have t : ∀ k : Fin 256, ((Int32.ofNat k.val).toInt8.toInt32 &&& (255 : Int32)) = Int32.ofNat k.val := by decide +kernel
  obtain ⟨k, rfl⟩ := own_ofc h
  exact t k
abbrev Gs : Type := Int32 × Value
def StartF (Z : State) (G : Gs) : Prop := Sta Z Z.heap "java/lang/String" "COMPACT_STRINGS" "Z" (.int G.1) ∧ ¬ G.1 = (0 : Int32) ∧ Sta Z Z.heap "jdk/internal/util/Preconditions" "SIOOBE_FORMATTER" "Ljava/util/function/BiFunction;" G.2 ∧ G.2.isRef = true
abbrev EL : List (String × Nat) := []
theorem own_EW {a0 : Array Value} {Z : State} (hw : ∀ d ∈ tables_1, d.before a0 Z = true) : EW Z a0 EL := EW.nil
theorem own_SA {a0 : Array Value} {Z : State} (hw : ∀ d ∈ tables_1, d.before a0 Z = true) : ∀ d ∈ Bundle.stringAtoms, d.before a0 Z = true := fun d hd => hw d ((by decide +kernel : ∀ d ∈ Bundle.stringAtoms, d ∈ tables_1) d hd)
abbrev own_let (c : Int32) : Prop := (¬ c < (97 : Int32) ∧ ¬ (122 : Int32) < c) ∨ (¬ c < (65 : Int32) ∧ ¬ (90 : Int32) < c)
abbrev own_ok (c : Int32) : Prop := (¬ c < 0 ∧ ¬ (255 : Int32) < c) ∧ (own_let c ∨ (¬ c < (48 : Int32) ∧ ¬ (57 : Int32) < c) ∨ c = (95 : Int32))
theorem own_dnl {c : Int32} (h : ¬ c < (48 : Int32) ∧ ¬ (57 : Int32) < c) : ¬ own_let c := by
  simp only [own_let, Int32.lt_iff_toInt_lt] at *
  have e1 : (48 : Int32).toInt = 48 := rfl
  have e2 : (57 : Int32).toInt = 57 := rfl
  have e3 : (97 : Int32).toInt = 97 := rfl
  have e4 : (65 : Int32).toInt = 65 := rfl
  omega
theorem own_unl {c : Int32} (h : c = (95 : Int32)) : ¬ own_let c := by subst h; decide
theorem own_mem {cs : List Int32} {i : Nat} (h : ∀ c ∈ cs, own_ok c) (hi : i < cs.length) : own_ok (cs.getD i 0) := by
  rw [List.getD_eq_getElem?_getD, List.getElem?_eq_getElem hi, Option.getD_some]
  exact h _ (List.getElem_mem hi)
theorem own_nn {i : Nat} (h : i ≤ 63) : ¬ Int32.ofNat i < (0 : Int32) := by
  rw [Int32.lt_iff_toInt_lt, Int32.toInt_ofNat_of_lt (by omega), show (0 : Int32).toInt = 0 from rfl]; omega
theorem own_lt {i n : Nat} (h : i < n) (hn : n ≤ 63) : Int32.ofNat i < Int32.ofNat n := by
  rw [Int32.lt_iff_toInt_lt, Int32.toInt_ofNat_of_lt (by omega), Int32.toInt_ofNat_of_lt (by omega)]; omega
theorem own_nlt {i n : Nat} (h : n ≤ i) (hn : i ≤ 63) : ¬ Int32.ofNat i < Int32.ofNat n := by
  rw [Int32.lt_iff_toInt_lt, Int32.toInt_ofNat_of_lt (by omega), Int32.toInt_ofNat_of_lt (by omega)]; omega
theorem own_n1 {n : Nat} (h : 1 ≤ n) (hn : n ≤ 63) : ¬ Int32.ofNat n < (1 : Int32) := own_nlt (n := 1) h hn
theorem own_n63 {n : Nat} (hn : n ≤ 63) : ¬ (63 : Int32) < Int32.ofNat n := own_nlt (i := 63) hn (Nat.le_refl _)
theorem own_succ (i : Nat) : Int32.ofNat i + (1 : Int32) = Int32.ofNat (i + 1) := (Int32.ofNat_add i 1).symm
theorem own_getD {cs : List Int32} {i : Nat} (hi : i < cs.length) (h : i ≤ 63) : ((cs.map (fun c => c.toInt8.toInt32)).map Value.int).getD (Int32.ofNat i).toNatClampNeg (.int (0 : Int32)) = .int ((cs.getD i 0).toInt8.toInt32) := by
  rw [Int32.toNatClampNeg_ofNat_of_lt (by omega)]
  simp [List.getD_eq_getElem?_getD, hi]
theorem own_pos (x : Int32) : 0 ≤ (x &&& (2147483647 : Int32)).toInt := by
  have h : (x &&& 2147483647).toBitVec.toNat < 2147483648 := by
    simp only [Int32.toBitVec_and, BitVec.toNat_and]
    exact Nat.lt_succ_of_le Nat.and_le_right
  rw [Int32.toInt, BitVec.toInt_eq_toNat_of_lt (by omega)]
  omega
theorem own_mod52 (x : Int32) : ∃ k : Fin 52, (x &&& (2147483647 : Int32)) % (52 : Int32) = Int32.ofNat k.val := by
  have h := own_pos x
  have e : ((x &&& (2147483647 : Int32)) % (52 : Int32)).toInt = (x &&& (2147483647 : Int32)).toInt % 52 := by
    rw [Int32.toInt_mod, show (52 : Int32).toInt = 52 from rfl, Int.tmod_eq_emod_of_nonneg h]
  refine ⟨⟨((x &&& (2147483647 : Int32)) % (52 : Int32)).toInt.toNat, by omega⟩, ?_⟩
  apply Int32.toInt_inj.mp
  show ((x &&& (2147483647 : Int32)) % (52 : Int32)).toInt = (Int32.ofNat ((x &&& (2147483647 : Int32)) % (52 : Int32)).toInt.toNat).toInt
  rw [Int32.toInt_ofNat_of_lt (by omega)]; omega
theorem own_mod63 (x : Int32) : ∃ k : Fin 63, (x &&& (2147483647 : Int32)) % (63 : Int32) = Int32.ofNat k.val := by
  have h := own_pos x
  have e : ((x &&& (2147483647 : Int32)) % (63 : Int32)).toInt = (x &&& (2147483647 : Int32)).toInt % 63 := by
    rw [Int32.toInt_mod, show (63 : Int32).toInt = 63 from rfl, Int.tmod_eq_emod_of_nonneg h]
  refine ⟨⟨((x &&& (2147483647 : Int32)) % (63 : Int32)).toInt.toNat, by omega⟩, ?_⟩
  apply Int32.toInt_inj.mp
  show ((x &&& (2147483647 : Int32)) % (63 : Int32)).toInt = (Int32.ofNat ((x &&& (2147483647 : Int32)) % (63 : Int32)).toInt.toNat).toInt
  rw [Int32.toInt_ofNat_of_lt (by omega)]; omega
theorem own_wV {a0 : Array Value} {Z : State} (hw : ∀ d ∈ tables_1, d.before a0 Z = true) : ∀ d ∈ StrChars.Road.words, d.before a0 Z = true := fun d hd => hw d ((by decide +kernel : ∀ d ∈ StrChars.Road.words, d ∈ tables_1) d hd)
theorem own_shr0 (z : Int32) : (z >>> ((0 : Int32) &&& 31)) = z := by
  rw [show ((0 : Int32) &&& 31) = 0 from by decide]
  apply Int32.toBitVec_inj.mp
  rw [Int32.toBitVec_shiftRight]
  simp
theorem ef_rmNN (m : MethodId) (x0 : Addr) (x1 : Addr)  : entryFrame m #[(.ref x0), (.ref x1)] 2 = mkF m 0 #[.val (.ref x0), .val (.ref x1)] [] := by first | (simp [entryFrame, mkF, argsToLocals, Value.category]; done) | rfl
theorem d11_0 : decode jdk_31_method_11_code 0 = .ok (.aload_n 0, 1) := by decide +kernel
theorem d11_1 : decode jdk_31_method_11_code 1 = .ok (.ifnonnull 12, 3) := by decide +kernel
theorem d11_13 : decode jdk_31_method_11_code 13 = .ok (.aload_n 0, 1) := by decide +kernel
theorem d11_14 : decode jdk_31_method_11_code 14 = .ok (.areturn, 1) := by decide +kernel
theorem pn_0 : plainName "java/util/Objects" = true := by first | (simp [plainName, overriddenIn]; done) | decide +kernel
def QrmNN (Z : State) (G : Gs) (ax : Addr) (bx : Addr) (h0 : Heap) (n0 : Nat) (v : Option Value) (h : Heap) (L : List Loc) : Prop := v = some (.ref ax) ∧ Fr n0 L ∧ h = h0
set_option maxRecDepth 65536 in
set_option maxHeartbeats 40000000 in
theorem rmNN (l : Launch) (Z : State) (a0 : Array Value) (hw : HW a0 Z) (G : Gs) (ST : StartF Z G) (ws : List Jvm.Cond) (ax : Addr) (bx : Addr) (h0 : Heap) (n0 : Nat) (X00 : Old Z n0 h0) :
    MetFree l (⟨"java/util/Objects", "requireNonNull", "(Ljava/lang/Object;Ljava/lang/String;)Ljava/lang/Object;"⟩ : MethodName) (head1 (Jvm.Cond.code (⟨"java/util/Objects", "requireNonNull", "(Ljava/lang/Object;Ljava/lang/String;)Ljava/lang/Object;"⟩ : MethodName) jdk_31_method_11_code 2 (some (.object "java/lang/Object")) :: ws) ({ frames := 0, cells := 0, slots := 0, locals := 0 } : Room)) (fun a U => a = #[(.ref ax), (.ref bx)] ∧ Z.Warmed39 U.vm ∧ U.heap = h0) (fun _ _ _ _ _ => True) (fun _ U o U' => ∃ v L, o = .returned v ∧ QrmNN Z G ax bx h0 n0 v U'.heap L ∧ FrameEnd U o U' L ({ frames := 0, cells := 0, slots := 0, locals := 0 } : Room).cells ({ frames := 0, cells := 0, slots := 0, locals := 0 } : Room).slots) := by
  refine MetFree.of_bodySF (plainFor_of_name pn_0) hisR ?_
  intro p e s m args below meth c s₁ Bd hml0 hP hK
  obtain ⟨rfl, hZ, hh⟩ := hP
  have hx := Bd.exec
  have hby := Bd.bytes
  have hml : c.maxLocals = 2 := hml0
  have hown : s.vm.findClass "java/util/Objects" = some m.cls := findClass_of_methodNamed Bd.named
  have hnm := (name_of_methodNamed Bd.named Bd.method).1
  have X0 : Stand p l e ({ frames := 0, cells := 0, slots := 0, locals := 0 } : Room) s m #[(.ref ax), (.ref bx)] below meth c s₁ [] 0 0 := Stand.of_body Bd
  have e0 : s₁.heap = h0 := by rw [← hh, Bd.state]; rfl
  have N0 := Fr.nil n0
  have Z0 : n0 ≤ h0.size := by have q := X00.2.1; rw [X00.1] at q; exact q
  obtain ⟨TG, hTG, hT2⟩ : ∃ P : State → Prop, (∀ t, P t → Steps p.tables e below (s₁.setTop (entryFrame m #[(.ref ax), (.ref bx)] 2)) t) ∧ (∀ t, Steps p.tables e below (s₁.setTop (entryFrame m #[(.ref ax), (.ref bx)] 2)) t → P t) := ⟨_, fun t k => k, fun t k => k⟩
  have pre0 : ∀ t, Sx p e below s₁ m 0 #[xvr ax, xvr bx] [] t → TG t := fun t k => hT2 t (castTop (ef_rmNN m ax bx ) k)
  obtain ⟨fs, hr, hrun, hended, hW, hsame⟩ := X0.leave (v := some (.ref ax)) (fun h => by rw [Bd.returns] at h; cases h)
  refine ⟨_, _, hTG _ (pre0 _ ?_), hrun, hended, _, _, rfl, ?_, ⟨_, rfl⟩, hW, hsame.mono (by decide) (by decide)⟩
  · refine y_aloadN X0 hx 1 (hb hby d11_0) rfl rfl rfl ?_
    refine XS.ifnonnullYes X0.here hx rfl (pc0 := 1) (pc' := 13) rfl (hb hby d11_1) rfl (by decide) (by decide) ?_
    show Sx p e below s₁ m 13 #[xvr ax, xvr bx] [] _
    refine y_aloadN X0 hx 14 (hb hby d11_13) rfl rfl rfl ?_
    show Sx p e below s₁ m 14 #[xvr ax, xvr bx] [xwr ax] _
    exact retOut X0 hx Bd.returns rfl (Or.inr (Or.inr (Or.inr (Or.inr ⟨rfl, rfl, rfl⟩)))) (hb hby d11_14) hr
  · show QrmNN Z G ax bx h0 n0 _ s₁.heap _
    rw [e0]
    exact ⟨rfl, N0, rfl⟩
theorem ef_rmCod (m : MethodId) (x0 : Addr)  : entryFrame m #[(.ref x0)] 1 = mkF m 0 #[.val (.ref x0)] [] := by first | (simp [entryFrame, mkF, argsToLocals, Value.category]; done) | rfl
theorem d13_0 : decode jdk_42_method_152_code 0 = .ok (.getstatic 38, 3) := by decide +kernel
theorem d13_3 : decode jdk_42_method_152_code 3 = .ok (.ifCond .eq 10, 3) := by decide +kernel
theorem d13_6 : decode jdk_42_method_152_code 6 = .ok (.aload_n 0, 1) := by decide +kernel
theorem d13_7 : decode jdk_42_method_152_code 7 = .ok (.getfield 15, 3) := by decide +kernel
theorem d13_10 : decode jdk_42_method_152_code 10 = .ok (.goto 4, 3) := by decide +kernel
theorem d13_14 : decode jdk_42_method_152_code 14 = .ok (.ireturn, 1) := by decide +kernel
theorem pn_1 : plainName "java/lang/String" = true := by first | (simp [plainName, overriddenIn]; done) | decide +kernel
def QrmCod (Z : State) (G : Gs) (ax : Addr) (h0 : Heap) (n0 : Nat) (v : Option Value) (h : Heap) (L : List Loc) : Prop := v = some (.int (0 : Int32)) ∧ Fr n0 L ∧ h = h0
set_option maxRecDepth 65536 in
set_option maxHeartbeats 40000000 in
theorem rmCod (l : Launch) (Z : State) (a0 : Array Value) (hw : HW a0 Z) (G : Gs) (ST : StartF Z G) (ws : List Jvm.Cond) (ax : Addr) (h0 : Heap) (n0 : Nat) (X00 : Old Z n0 h0) (F1 : Fld Z h0 ax "java/lang/String" "coder" "B" (.int (0 : Int32))) :
    MetFree l (⟨"java/lang/String", "coder", "()B"⟩ : MethodName) (head1 (Jvm.Cond.code (⟨"java/lang/String", "coder", "()B"⟩ : MethodName) jdk_42_method_152_code 1 (some .byte) :: ws) ({ frames := 0, cells := 0, slots := 0, locals := 0 } : Room)) (fun a U => a = #[(.ref ax)] ∧ Z.Warmed39 U.vm ∧ U.heap = h0) (fun _ _ _ _ _ => True) (fun _ U o U' => ∃ v L, o = .returned v ∧ QrmCod Z G ax h0 n0 v U'.heap L ∧ FrameEnd U o U' L ({ frames := 0, cells := 0, slots := 0, locals := 0 } : Room).cells ({ frames := 0, cells := 0, slots := 0, locals := 0 } : Room).slots) := by
  refine MetFree.of_bodySF (plainFor_of_name pn_1) hisR ?_
  intro p e s m args below meth c s₁ Bd hml0 hP hK
  obtain ⟨rfl, hZ, hh⟩ := hP
  have hx := Bd.exec
  have hby := Bd.bytes
  have hml : c.maxLocals = 1 := hml0
  have hown : s.vm.findClass "java/lang/String" = some m.cls := findClass_of_methodNamed Bd.named
  have hnm := (name_of_methodNamed Bd.named Bd.method).1
  have X0 : Stand p l e ({ frames := 0, cells := 0, slots := 0, locals := 0 } : Room) s m #[(.ref ax)] below meth c s₁ [] 0 0 := Stand.of_body Bd
  have e0 : s₁.heap = h0 := by rw [← hh, Bd.state]; rfl
  have N0 := Fr.nil n0
  have Z0 : n0 ≤ h0.size := by have q := X00.2.1; rw [X00.1] at q; exact q
  obtain ⟨TG, hTG, hT2⟩ : ∃ P : State → Prop, (∀ t, P t → Steps p.tables e below (s₁.setTop (entryFrame m #[(.ref ax)] 1)) t) ∧ (∀ t, Steps p.tables e below (s₁.setTop (entryFrame m #[(.ref ax)] 1)) t → P t) := ⟨_, fun t k => k, fun t k => k⟩
  have pre0 : ∀ t, Sx p e below s₁ m 0 #[xvr ax] [] t → TG t := fun t k => hT2 t (castTop (ef_rmCod m ax ) k)
  obtain ⟨T101, X101, e101, st101⟩ := getS2 X0 hx hZ hown (host := "") (Or.inl (w_22 hw)) Via.refl e0 (ST.1.ext X00.2) (g := (mkF m 0 #[xvr ax] [])) rfl (hb hby d13_0)
  obtain ⟨T102, X102, e102, st102⟩ := getF X101 hx hZ hown (host := "") (Or.inl (w_34 hw)) Via.refl e101 F1 (g := (mkF m 7 #[xvr ax] [xwr ax])) rfl rfl (hb hby d13_7)
  obtain ⟨fs, hr, hrun, hended, hW, hsame⟩ := X102.leave (v := some (.int (0 : Int32))) (fun h => by rw [Bd.returns] at h; cases h)
  refine ⟨_, _, hTG _ (pre0 _ ?_), hrun, hended, _, _, rfl, ?_, ⟨_, rfl⟩, hW, hsame.mono (by decide) (by decide)⟩
  · refine st101 _ ?_
    show Sx p e below T101 m 3 #[xvr ax] [xwi G.1] _
    refine y_ifNo X101 hx 6 (hb hby d13_3) (XT.i0_eq_f ST.2.1) rfl ?_
    refine y_aloadN X101 hx 7 (hb hby d13_6) rfl rfl rfl ?_
    refine st102 _ ?_
    show Sx p e below T102 m 10 #[xvr ax] [xwi (0 : Int32)] _
    refine y_goto X102 hx 14 (hb hby d13_10) (by decide) (by decide) ?_
    show Sx p e below T102 m 14 #[xvr ax] [xwi (0 : Int32)] _
    exact retN X102 hx (t := .byte) Bd.returns (by simp) (hb hby d13_14) (hr)
  · show QrmCod Z G ax h0 n0 _ T102.heap _
    rw [e102]
    exact ⟨rfl, N0, rfl⟩
theorem ef_rmLen (m : MethodId) (x0 : Addr)  : entryFrame m #[(.ref x0)] 1 = mkF m 0 #[.val (.ref x0)] [] := by first | (simp [entryFrame, mkF, argsToLocals, Value.category]; done) | rfl
theorem d12_0 : decode jdk_42_method_54_code 0 = .ok (.aload_n 0, 1) := by decide +kernel
theorem d12_1 : decode jdk_42_method_54_code 1 = .ok (.getfield 9, 3) := by decide +kernel
theorem d12_4 : decode jdk_42_method_54_code 4 = .ok (.arraylength, 1) := by decide +kernel
theorem d12_5 : decode jdk_42_method_54_code 5 = .ok (.aload_n 0, 1) := by decide +kernel
theorem d12_6 : decode jdk_42_method_54_code 6 = .ok (.invokevirtual 335, 3) := by decide +kernel
theorem pd_0 : parseMethodDescriptor "()B" = some ⟨[], some .byte⟩ := by decide +kernel
theorem d12_9 : decode jdk_42_method_54_code 9 = .ok (.ishr, 1) := by decide +kernel
theorem d12_10 : decode jdk_42_method_54_code 10 = .ok (.ireturn, 1) := by decide +kernel
def QrmLen (Z : State) (G : Gs) (ax : Addr) (tx : Addr) (kb : ClassId) (zx : Int32) (bs : List Value) (dv : Value) (h0 : Heap) (n0 : Nat) (v : Option Value) (h : Heap) (L : List Loc) : Prop := v = some (.int zx) ∧ Fr n0 L ∧ h = h0
set_option maxRecDepth 65536 in
set_option maxHeartbeats 40000000 in
theorem rmLen (l : Launch) (Z : State) (a0 : Array Value) (hw : HW a0 Z) (G : Gs) (ST : StartF Z G) (ws : List Jvm.Cond) (ax : Addr) (tx : Addr) (kb : ClassId) (zx : Int32) (bs : List Value) (dv : Value) (h0 : Heap) (n0 : Nat) (X00 : Old Z n0 h0) (E1 : Exa Z h0 ax "java/lang/String") (F1 : Fld Z h0 ax "java/lang/String" "coder" "B" (.int (0 : Int32))) (F2 : Fld Z h0 ax "java/lang/String" "value" "[B" (.ref tx)) (V1 : Arv Z h0 tx kb .byte zx bs dv) :
    MetFree l (⟨"java/lang/String", "length", "()I"⟩ : MethodName) (head1 (Jvm.Cond.code (⟨"java/lang/String", "length", "()I"⟩ : MethodName) jdk_42_method_54_code 1 (some .int) :: ws) ({ frames := 1, cells := 0, slots := 0, locals := 13 } : Room)) (fun a U => a = #[(.ref ax)] ∧ Z.Warmed39 U.vm ∧ U.heap = h0) (fun _ _ _ _ _ => True) (fun _ U o U' => ∃ v L, o = .returned v ∧ QrmLen Z G ax tx kb zx bs dv h0 n0 v U'.heap L ∧ FrameEnd U o U' L ({ frames := 1, cells := 0, slots := 0, locals := 13 } : Room).cells ({ frames := 1, cells := 0, slots := 0, locals := 13 } : Room).slots) := by
  refine MetFree.of_bodySF (plainFor_of_name pn_1) hisR ?_
  intro p e s m args below meth c s₁ Bd hml0 hP hK
  obtain ⟨rfl, hZ, hh⟩ := hP
  have hx := Bd.exec
  have hby := Bd.bytes
  have hml : c.maxLocals = 1 := hml0
  have hown : s.vm.findClass "java/lang/String" = some m.cls := findClass_of_methodNamed Bd.named
  have hnm := (name_of_methodNamed Bd.named Bd.method).1
  have X0 : Stand p l e ({ frames := 1, cells := 0, slots := 0, locals := 13 } : Room) s m #[(.ref ax)] below meth c s₁ [] 0 0 := Stand.of_body Bd
  have e0 : s₁.heap = h0 := by rw [← hh, Bd.state]; rfl
  have N0 := Fr.nil n0
  have Z0 : n0 ≤ h0.size := by have q := X00.2.1; rw [X00.1] at q; exact q
  obtain ⟨TG, hTG, hT2⟩ : ∃ P : State → Prop, (∀ t, P t → Steps p.tables e below (s₁.setTop (entryFrame m #[(.ref ax)] 1)) t) ∧ (∀ t, Steps p.tables e below (s₁.setTop (entryFrame m #[(.ref ax)] 1)) t → P t) := ⟨_, fun t k => k, fun t k => k⟩
  have pre0 : ∀ t, Sx p e below s₁ m 0 #[xvr ax] [] t → TG t := fun t k => hT2 t (castTop (ef_rmLen m ax ) k)
  obtain ⟨T103, X103, e103, st103⟩ := getF X0 hx hZ hown (host := "") (Or.inl (w_36 hw)) Via.refl e0 F2 (g := (mkF m 1 #[xvr ax] [xwr ax])) rfl rfl (hb hby d12_1)
  obtain ⟨cl104, Ar104, q104, S104, M104, H104, G104⟩ := id V1
  obtain ⟨cq106, kq106, q106a, q106b, q106c⟩ := isOf hZ e103 E1
  obtain ⟨_, _, ⟨T105, L105, k105, n105⟩, -, X105, ⟨Lc105, hQ105, l105, y105, z105⟩, st105⟩ := X103.virtualBack hx (y := (⟨"java/lang/String", "coder", "()B"⟩ : MethodName)) (z := (⟨"java/lang/String", "coder", "()B"⟩ : MethodName)) hown (mvT hZ (w_59 hw)) (mvT hZ (w_60 hw)) (notFace_of_selects (args := #[]) (mvT hZ (w_62 hw))) (mvT hZ (w_62 hw)) (mvT hZ (w_61 hw)) (by decide) (backOf (W := 1) (rmCod l Z a0 hw G ST [] ax h0 n0 X00 F1) hZ (w_63 hw) (w_11 hw) (by decide) (by decide)) q106a q106c (g := (mkF m 6 #[xvr ax] [xwr ax, xwi zx])) rfl (by rw [hml]; rfl) (Steps.refl _) (argsL := []) (rest := [(.int zx)]) (lenOf pd_0 rfl) rfl (by show 2 * 0 + _ ≤ _; exact Nat.le_of_eq rfl) (hb hby d12_6) (fun _ _ => ⟨rfl, e103, (by decide : 0 + 0 ≤ _), (by decide : 0 + 0 ≤ _)⟩)
  dsimp only [Pt.U, Pt.locs, Pt.cells, Pt.slots] at X105 l105 y105 z105 st105 hQ105
  subst l105 y105 z105
  obtain ⟨rfl, N105q, e105⟩ := hQ105
  have N105 := Fr.app N0 N105q
  obtain ⟨fs, hr, hrun, hended, hW, hsame⟩ := X105.leave (v := some (.int zx)) (fun h => by rw [Bd.returns] at h; cases h)
  refine ⟨_, _, hTG _ (pre0 _ ?_), hrun, hended, _, _, rfl, ?_, ⟨_, rfl⟩, hW, hsame.mono (by decide) (by decide)⟩
  · refine y_aloadN X0 hx 1 (hb hby d12_0) rfl rfl rfl ?_
    refine st103 _ ?_
    show Sx p e below T103 m 4 #[xvr ax] [xwr tx] _
    refine X103.arraylength hx (by rw [e103]; exact Ar104.1) (State.isArrayOf_alike hZ.alike Ar104.2.1) (g := (mkF m 4 #[xvr ax] [xwr tx])) rfl rfl (hb hby d12_4) _ ?_
    rw [len_of S104 M104]
    show Sx p e below T103 m 5 #[xvr ax] [xwi zx] _
    refine y_aloadN X103 hx 6 (hb hby d12_5) rfl rfl rfl ?_
    refine st105.trans ?_
    show Sx p e below T105 m 9 #[xvr ax] [xwi (0 : Int32), xwi zx] _
    refine XS.ishr X105.here hx rfl (hb hby d12_9) rfl ?_
    show Sx p e below T105 m 10 #[xvr ax] [xwi (zx >>> ((0 : Int32) &&& 31))] _
    rw [own_shr0 zx]
    show Sx p e below T105 m 10 #[xvr ax] [xwi zx] _
    exact retOut X105 hx Bd.returns rfl (Or.inl ⟨rfl, Or.inl rfl, _, rfl⟩) (hb hby d12_10) hr
  · show QrmLen Z G ax tx kb zx bs dv h0 n0 _ T105.heap _
    rw [e105]
    exact ⟨rfl, N105, rfl⟩
theorem ef_rmCI (m : MethodId) (x0 : Int32) (x1 : Int32) (x2 : Value) (hx2 : x2.isRef = true) : entryFrame m #[(.int x0), (.int x1), x2] 3 = mkF m 0 #[.val (.int x0), .val (.int x1), .val x2] [] := by
  rcases XT.refc hx2 with rfl | ⟨_, rfl⟩ <;> first | (simp [entryFrame, mkF, argsToLocals, Value.category]; done) | rfl
theorem d18_0 : decode jdk_41_method_11_code 0 = .ok (.iload_n 0, 1) := by decide +kernel
theorem d18_1 : decode jdk_41_method_11_code 1 = .ok (.ifCond .lt 8, 3) := by decide +kernel
theorem d18_4 : decode jdk_41_method_11_code 4 = .ok (.iload_n 0, 1) := by decide +kernel
theorem d18_5 : decode jdk_41_method_11_code 5 = .ok (.iload_n 1, 1) := by decide +kernel
theorem d18_6 : decode jdk_41_method_11_code 6 = .ok (.if_icmp .lt 10, 3) := by decide +kernel
theorem d18_16 : decode jdk_41_method_11_code 16 = .ok (.iload_n 0, 1) := by decide +kernel
theorem d18_17 : decode jdk_41_method_11_code 17 = .ok (.ireturn, 1) := by decide +kernel
theorem pn_2 : plainName "jdk/internal/util/Preconditions" = true := by first | (simp [plainName, overriddenIn]; done) | decide +kernel
def QrmCI (Z : State) (G : Gs) (jx : Int32) (zx : Int32) (fm : Value) (h0 : Heap) (n0 : Nat) (v : Option Value) (h : Heap) (L : List Loc) : Prop := v = some (.int jx) ∧ Fr n0 L ∧ h = h0
set_option maxRecDepth 65536 in
set_option maxHeartbeats 40000000 in
theorem rmCI (l : Launch) (Z : State) (a0 : Array Value) (hw : HW a0 Z) (G : Gs) (ST : StartF Z G) (ws : List Jvm.Cond) (jx : Int32) (zx : Int32) (fm : Value) (h0 : Heap) (n0 : Nat) (X00 : Old Z n0 h0) (hfm : fm.isRef = true) (h1 : ¬ jx < (0 : Int32)) (h2 : jx < zx) :
    MetFree l (⟨"jdk/internal/util/Preconditions", "checkIndex", "(IILjava/util/function/BiFunction;)I"⟩ : MethodName) (head1 (Jvm.Cond.code (⟨"jdk/internal/util/Preconditions", "checkIndex", "(IILjava/util/function/BiFunction;)I"⟩ : MethodName) jdk_41_method_11_code 3 (some .int) :: ws) ({ frames := 0, cells := 0, slots := 0, locals := 0 } : Room)) (fun a U => a = #[(.int jx), (.int zx), fm] ∧ Z.Warmed39 U.vm ∧ U.heap = h0) (fun _ _ _ _ _ => True) (fun _ U o U' => ∃ v L, o = .returned v ∧ QrmCI Z G jx zx fm h0 n0 v U'.heap L ∧ FrameEnd U o U' L ({ frames := 0, cells := 0, slots := 0, locals := 0 } : Room).cells ({ frames := 0, cells := 0, slots := 0, locals := 0 } : Room).slots) := by
  refine MetFree.of_bodySF (plainFor_of_name pn_2) hisR ?_
  intro p e s m args below meth c s₁ Bd hml0 hP hK
  obtain ⟨rfl, hZ, hh⟩ := hP
  have hx := Bd.exec
  have hby := Bd.bytes
  have hml : c.maxLocals = 3 := hml0
  have hown : s.vm.findClass "jdk/internal/util/Preconditions" = some m.cls := findClass_of_methodNamed Bd.named
  have hnm := (name_of_methodNamed Bd.named Bd.method).1
  have X0 : Stand p l e ({ frames := 0, cells := 0, slots := 0, locals := 0 } : Room) s m #[(.int jx), (.int zx), fm] below meth c s₁ [] 0 0 := Stand.of_body Bd
  have e0 : s₁.heap = h0 := by rw [← hh, Bd.state]; rfl
  have N0 := Fr.nil n0
  have Z0 : n0 ≤ h0.size := by have q := X00.2.1; rw [X00.1] at q; exact q
  obtain ⟨TG, hTG, hT2⟩ : ∃ P : State → Prop, (∀ t, P t → Steps p.tables e below (s₁.setTop (entryFrame m #[(.int jx), (.int zx), fm] 3)) t) ∧ (∀ t, Steps p.tables e below (s₁.setTop (entryFrame m #[(.int jx), (.int zx), fm] 3)) t → P t) := ⟨_, fun t k => k, fun t k => k⟩
  have pre0 : ∀ t, Sx p e below s₁ m 0 #[xvi jx, xvi zx, .val fm] [] t → TG t := fun t k => hT2 t (castTop (ef_rmCI m jx zx fm hfm) k)
  obtain ⟨fs, hr, hrun, hended, hW, hsame⟩ := X0.leave (v := some (.int jx)) (fun h => by rw [Bd.returns] at h; cases h)
  refine ⟨_, _, hTG _ (pre0 _ ?_), hrun, hended, _, _, rfl, ?_, ⟨_, rfl⟩, hW, hsame.mono (by decide) (by decide)⟩
  · refine y_iloadN X0 hx 1 (hb hby d18_0) rfl rfl ?_
    refine y_ifNo X0 hx 4 (hb hby d18_1) (XT.i0_lt_f h1) rfl ?_
    refine y_iloadN X0 hx 5 (hb hby d18_4) rfl rfl ?_
    refine y_iloadN X0 hx 6 (hb hby d18_5) rfl rfl ?_
    refine y_icmpYes X0 hx 16 (hb hby d18_6) (XT.ii_lt_t h2) (by decide) (by decide) ?_
    refine y_iloadN X0 hx 17 (hb hby d18_16) rfl rfl ?_
    show Sx p e below s₁ m 17 #[xvi jx, xvi zx, .val fm] [xwi jx] _
    exact retOut X0 hx Bd.returns rfl (Or.inl ⟨rfl, Or.inl rfl, _, rfl⟩) (hb hby d18_17) hr
  · show QrmCI Z G jx zx fm h0 n0 _ s₁.heap _
    rw [e0]
    exact ⟨rfl, N0, rfl⟩
theorem ef_rmCI2 (m : MethodId) (x0 : Int32) (x1 : Int32)  : entryFrame m #[(.int x0), (.int x1)] 2 = mkF m 0 #[.val (.int x0), .val (.int x1)] [] := by first | (simp [entryFrame, mkF, argsToLocals, Value.category]; done) | rfl
theorem d17_0 : decode jdk_42_method_155_code 0 = .ok (.iload_n 0, 1) := by decide +kernel
theorem d17_1 : decode jdk_42_method_155_code 1 = .ok (.iload_n 1, 1) := by decide +kernel
theorem d17_2 : decode jdk_42_method_155_code 2 = .ok (.getstatic 1053, 3) := by decide +kernel
theorem d17_5 : decode jdk_42_method_155_code 5 = .ok (.invokestatic 1059, 3) := by decide +kernel
theorem pd_1 : parseMethodDescriptor "(IILjava/util/function/BiFunction;)I" = some ⟨[.int, .int, (.object "java/util/function/BiFunction")], some .int⟩ := by decide +kernel
theorem d17_8 : decode jdk_42_method_155_code 8 = .ok (.pop, 1) := by decide +kernel
theorem d17_9 : decode jdk_42_method_155_code 9 = .ok (.return_, 1) := by decide +kernel
def QrmCI2 (Z : State) (G : Gs) (jx : Int32) (zx : Int32) (h0 : Heap) (n0 : Nat) (v : Option Value) (h : Heap) (L : List Loc) : Prop := v = none ∧ Fr n0 L ∧ h = h0
set_option maxRecDepth 65536 in
set_option maxHeartbeats 40000000 in
theorem rmCI2 (l : Launch) (Z : State) (a0 : Array Value) (hw : HW a0 Z) (G : Gs) (ST : StartF Z G) (ws : List Jvm.Cond) (jx : Int32) (zx : Int32) (h0 : Heap) (n0 : Nat) (X00 : Old Z n0 h0) (h1 : ¬ jx < (0 : Int32)) (h2 : jx < zx) :
    MetFree l (⟨"java/lang/String", "checkIndex", "(II)V"⟩ : MethodName) (head1 (Jvm.Cond.code (⟨"java/lang/String", "checkIndex", "(II)V"⟩ : MethodName) jdk_42_method_155_code 2 none :: ws) ({ frames := 1, cells := 0, slots := 0, locals := 14 } : Room)) (fun a U => a = #[(.int jx), (.int zx)] ∧ Z.Warmed39 U.vm ∧ U.heap = h0) (fun _ _ _ _ _ => True) (fun _ U o U' => ∃ v L, o = .returned v ∧ QrmCI2 Z G jx zx h0 n0 v U'.heap L ∧ FrameEnd U o U' L ({ frames := 1, cells := 0, slots := 0, locals := 14 } : Room).cells ({ frames := 1, cells := 0, slots := 0, locals := 14 } : Room).slots) := by
  refine MetFree.of_bodySF (plainFor_of_name pn_1) hisR ?_
  intro p e s m args below meth c s₁ Bd hml0 hP hK
  obtain ⟨rfl, hZ, hh⟩ := hP
  have hx := Bd.exec
  have hby := Bd.bytes
  have hml : c.maxLocals = 2 := hml0
  have hown : s.vm.findClass "java/lang/String" = some m.cls := findClass_of_methodNamed Bd.named
  have hnm := (name_of_methodNamed Bd.named Bd.method).1
  have X0 : Stand p l e ({ frames := 1, cells := 0, slots := 0, locals := 14 } : Room) s m #[(.int jx), (.int zx)] below meth c s₁ [] 0 0 := Stand.of_body Bd
  have e0 : s₁.heap = h0 := by rw [← hh, Bd.state]; rfl
  have N0 := Fr.nil n0
  have Z0 : n0 ≤ h0.size := by have q := X00.2.1; rw [X00.1] at q; exact q
  obtain ⟨TG, hTG, hT2⟩ : ∃ P : State → Prop, (∀ t, P t → Steps p.tables e below (s₁.setTop (entryFrame m #[(.int jx), (.int zx)] 2)) t) ∧ (∀ t, Steps p.tables e below (s₁.setTop (entryFrame m #[(.int jx), (.int zx)] 2)) t → P t) := ⟨_, fun t k => k, fun t k => k⟩
  have pre0 : ∀ t, Sx p e below s₁ m 0 #[xvi jx, xvi zx] [] t → TG t := fun t k => hT2 t (castTop (ef_rmCI2 m jx zx ) k)
  obtain ⟨T107, X107, e107, st107⟩ := getS2 X0 hx hZ hown (host := "") (Or.inl (w_81 hw)) Via.refl e0 (ST.2.2.1.ext X00.2) (g := (mkF m 2 #[xvi jx, xvi zx] [xwi zx, xwi jx])) rfl (hb hby d17_2)
  obtain ⟨_, _, ⟨T108, L108, k108, n108⟩, -, X108, ⟨Lc108, hQ108, l108, y108, z108⟩, st108⟩ := Jvm.LawKit.callS X107 hx (y := (⟨"jdk/internal/util/Preconditions", "checkIndex", "(IILjava/util/function/BiFunction;)I"⟩ : MethodName)) hown (mvT hZ (w_83 hw)) (mvT hZ (w_84 hw)) (mvT hZ (w_82 hw)) (mvT hZ (w_85 hw)) (by decide) (backOf (W := 0) (rmCI l Z a0 hw G ST [] jx zx G.2 h0 n0 X00 ST.2.2.2 h1 h2) hZ (w_85 hw) (w_82 hw) (by decide) (by decide)) (g := (mkF m 5 #[xvi jx, xvi zx] [G.2, xwi zx, xwi jx])) rfl (by rw [hml]; rfl) (argsL := [(.int jx), (.int zx), G.2]) (rest := []) (lenOf pd_1 rfl) rfl (by show 2 * 0 + _ ≤ _; exact Nat.le_of_eq rfl) (hb hby d17_5) (fun _ _ => ⟨rfl, e107, (by decide : 0 + 0 ≤ _), (by decide : 0 + 0 ≤ _)⟩)
  dsimp only [Pt.U, Pt.locs, Pt.cells, Pt.slots] at X108 l108 y108 z108 st108 hQ108
  subst l108 y108 z108
  obtain ⟨rfl, N108q, e108⟩ := hQ108
  have N108 := Fr.app N0 N108q
  obtain ⟨fs, hr, hrun, hended, hW, hsame⟩ := X108.leave (v := none) (fun _ => rfl)
  refine ⟨_, _, hTG _ (pre0 _ ?_), hrun, hended, _, _, rfl, ?_, ⟨_, rfl⟩, hW, hsame.mono (by decide) (by decide)⟩
  · refine y_iloadN X0 hx 1 (hb hby d17_0) rfl rfl ?_
    refine y_iloadN X0 hx 2 (hb hby d17_1) rfl rfl ?_
    refine st107 _ ?_
    show Sx p e below T107 m 5 #[xvi jx, xvi zx] [G.2, xwi zx, xwi jx] _
    refine st108 _ ?_
    show Sx p e below T108 m 8 #[xvi jx, xvi zx] [xwi jx] _
    refine y_pop X108 hx 9 (hb hby d17_8) rfl rfl ?_
    show Sx p e below T108 m 9 #[xvi jx, xvi zx] [] _
    exact X108.returnOut hx Bd.returns (hb hby d17_9) hr
  · show QrmCI2 Z G jx zx h0 n0 _ T108.heap _
    rw [e108]
    exact ⟨rfl, N108, rfl⟩
theorem ef_rmL1 (m : MethodId) (x0 : Addr)  : entryFrame m #[(.ref x0)] 1 = mkF m 0 #[.val (.ref x0)] [] := by first | (simp [entryFrame, mkF, argsToLocals, Value.category]; done) | rfl
theorem d15_0 : decode jdk_42_method_154_code 0 = .ok (.getstatic 38, 3) := by decide +kernel
theorem d15_3 : decode jdk_42_method_154_code 3 = .ok (.ifCond .eq 14, 3) := by decide +kernel
theorem d15_6 : decode jdk_42_method_154_code 6 = .ok (.aload_n 0, 1) := by decide +kernel
theorem d15_7 : decode jdk_42_method_154_code 7 = .ok (.getfield 15, 3) := by decide +kernel
theorem d15_10 : decode jdk_42_method_154_code 10 = .ok (.ifCond .ne 7, 3) := by decide +kernel
theorem d15_13 : decode jdk_42_method_154_code 13 = .ok (.iconst 1, 1) := by decide +kernel
theorem d15_14 : decode jdk_42_method_154_code 14 = .ok (.goto 4, 3) := by decide +kernel
theorem d15_18 : decode jdk_42_method_154_code 18 = .ok (.ireturn, 1) := by decide +kernel
def QrmL1 (Z : State) (G : Gs) (ax : Addr) (h0 : Heap) (n0 : Nat) (v : Option Value) (h : Heap) (L : List Loc) : Prop := v = some (.int (1 : Int32)) ∧ Fr n0 L ∧ h = h0
set_option maxRecDepth 65536 in
set_option maxHeartbeats 40000000 in
theorem rmL1 (l : Launch) (Z : State) (a0 : Array Value) (hw : HW a0 Z) (G : Gs) (ST : StartF Z G) (ws : List Jvm.Cond) (ax : Addr) (h0 : Heap) (n0 : Nat) (X00 : Old Z n0 h0) (F1 : Fld Z h0 ax "java/lang/String" "coder" "B" (.int (0 : Int32))) :
    MetFree l (⟨"java/lang/String", "isLatin1", "()Z"⟩ : MethodName) (head1 (Jvm.Cond.code (⟨"java/lang/String", "isLatin1", "()Z"⟩ : MethodName) jdk_42_method_154_code 1 (some .boolean) :: ws) ({ frames := 0, cells := 0, slots := 0, locals := 0 } : Room)) (fun a U => a = #[(.ref ax)] ∧ Z.Warmed39 U.vm ∧ U.heap = h0) (fun _ _ _ _ _ => True) (fun _ U o U' => ∃ v L, o = .returned v ∧ QrmL1 Z G ax h0 n0 v U'.heap L ∧ FrameEnd U o U' L ({ frames := 0, cells := 0, slots := 0, locals := 0 } : Room).cells ({ frames := 0, cells := 0, slots := 0, locals := 0 } : Room).slots) := by
  refine MetFree.of_bodySF (plainFor_of_name pn_1) hisR ?_
  intro p e s m args below meth c s₁ Bd hml0 hP hK
  obtain ⟨rfl, hZ, hh⟩ := hP
  have hx := Bd.exec
  have hby := Bd.bytes
  have hml : c.maxLocals = 1 := hml0
  have hown : s.vm.findClass "java/lang/String" = some m.cls := findClass_of_methodNamed Bd.named
  have hnm := (name_of_methodNamed Bd.named Bd.method).1
  have X0 : Stand p l e ({ frames := 0, cells := 0, slots := 0, locals := 0 } : Room) s m #[(.ref ax)] below meth c s₁ [] 0 0 := Stand.of_body Bd
  have e0 : s₁.heap = h0 := by rw [← hh, Bd.state]; rfl
  have N0 := Fr.nil n0
  have Z0 : n0 ≤ h0.size := by have q := X00.2.1; rw [X00.1] at q; exact q
  obtain ⟨TG, hTG, hT2⟩ : ∃ P : State → Prop, (∀ t, P t → Steps p.tables e below (s₁.setTop (entryFrame m #[(.ref ax)] 1)) t) ∧ (∀ t, Steps p.tables e below (s₁.setTop (entryFrame m #[(.ref ax)] 1)) t → P t) := ⟨_, fun t k => k, fun t k => k⟩
  have pre0 : ∀ t, Sx p e below s₁ m 0 #[xvr ax] [] t → TG t := fun t k => hT2 t (castTop (ef_rmL1 m ax ) k)
  obtain ⟨T109, X109, e109, st109⟩ := getS2 X0 hx hZ hown (host := "") (Or.inl (w_22 hw)) Via.refl e0 (ST.1.ext X00.2) (g := (mkF m 0 #[xvr ax] [])) rfl (hb hby d15_0)
  obtain ⟨T110, X110, e110, st110⟩ := getF X109 hx hZ hown (host := "") (Or.inl (w_34 hw)) Via.refl e109 F1 (g := (mkF m 7 #[xvr ax] [xwr ax])) rfl rfl (hb hby d15_7)
  obtain ⟨fs, hr, hrun, hended, hW, hsame⟩ := X110.leave (v := some (.int (1 : Int32))) (fun h => by rw [Bd.returns] at h; cases h)
  refine ⟨_, _, hTG _ (pre0 _ ?_), hrun, hended, _, _, rfl, ?_, ⟨_, rfl⟩, hW, hsame.mono (by decide) (by decide)⟩
  · refine st109 _ ?_
    show Sx p e below T109 m 3 #[xvr ax] [xwi G.1] _
    refine y_ifNo X109 hx 6 (hb hby d15_3) (XT.i0_eq_f ST.2.1) rfl ?_
    refine y_aloadN X109 hx 7 (hb hby d15_6) rfl rfl rfl ?_
    refine st110 _ ?_
    show Sx p e below T110 m 10 #[xvr ax] [xwi (0 : Int32)] _
    refine y_ifNo X110 hx 13 (hb hby d15_10) (XT.i0_ne_f (by decide)) rfl ?_
    refine y_iconst X110 hx (1 : Int32) 14 (hb hby d15_13) rfl rfl ?_
    refine y_goto X110 hx 18 (hb hby d15_14) (by decide) (by decide) ?_
    show Sx p e below T110 m 18 #[xvr ax] [xwi (1 : Int32)] _
    exact retN X110 hx (t := .boolean) Bd.returns (by simp) (hb hby d15_18) (hr)
  · show QrmL1 Z G ax h0 n0 _ T110.heap _
    rw [e110]
    exact ⟨rfl, N0, rfl⟩
theorem ef_rmCA1 (m : MethodId) (x0 : Addr) (x1 : Int32)  : entryFrame m #[(.ref x0), (.int x1)] 2 = mkF m 0 #[.val (.ref x0), .val (.int x1)] [] := by first | (simp [entryFrame, mkF, argsToLocals, Value.category]; done) | rfl
theorem d16_0 : decode jdk_43_method_2_code 0 = .ok (.iload_n 1, 1) := by decide +kernel
theorem d16_1 : decode jdk_43_method_2_code 1 = .ok (.aload_n 0, 1) := by decide +kernel
theorem d16_2 : decode jdk_43_method_2_code 2 = .ok (.arraylength, 1) := by decide +kernel
theorem d16_3 : decode jdk_43_method_2_code 3 = .ok (.invokestatic 9, 3) := by decide +kernel
theorem pd_2 : parseMethodDescriptor "(II)V" = some ⟨[.int, .int], none⟩ := by decide +kernel
theorem d16_6 : decode jdk_43_method_2_code 6 = .ok (.aload_n 0, 1) := by decide +kernel
theorem d16_7 : decode jdk_43_method_2_code 7 = .ok (.iload_n 1, 1) := by decide +kernel
theorem d16_8 : decode jdk_43_method_2_code 8 = .ok (.baload, 1) := by decide +kernel
theorem d16_9 : decode jdk_43_method_2_code 9 = .ok (.sipush 255, 3) := by decide +kernel
theorem d16_12 : decode jdk_43_method_2_code 12 = .ok (.iand, 1) := by decide +kernel
theorem d16_13 : decode jdk_43_method_2_code 13 = .ok (.i2c, 1) := by decide +kernel
theorem d16_14 : decode jdk_43_method_2_code 14 = .ok (.ireturn, 1) := by decide +kernel
theorem pn_3 : plainName "java/lang/StringLatin1" = true := by first | (simp [plainName, overriddenIn]; done) | decide +kernel
def QrmCA1 (Z : State) (G : Gs) (tx : Addr) (jx : Int32) (kb : ClassId) (zx : Int32) (bs : List Value) (dv : Value) (by8 : Int32) (h0 : Heap) (n0 : Nat) (v : Option Value) (h : Heap) (L : List Loc) : Prop := v = some (.int (by8 &&& (255 : Int32))) ∧ Fr n0 L ∧ h = h0
set_option maxRecDepth 65536 in
set_option maxHeartbeats 40000000 in
theorem rmCA1 (l : Launch) (Z : State) (a0 : Array Value) (hw : HW a0 Z) (G : Gs) (ST : StartF Z G) (ws : List Jvm.Cond) (tx : Addr) (jx : Int32) (kb : ClassId) (zx : Int32) (bs : List Value) (dv : Value) (by8 : Int32) (h0 : Heap) (n0 : Nat) (X00 : Old Z n0 h0) (V1 : Arv Z h0 tx kb .byte zx bs dv) (h1 : ¬ jx < (0 : Int32)) (h2 : jx < zx) (h3 : bs.getD jx.toNatClampNeg dv = .int by8) :
    MetFree l (⟨"java/lang/StringLatin1", "charAt", "([BI)C"⟩ : MethodName) (head1 (Jvm.Cond.code (⟨"java/lang/StringLatin1", "charAt", "([BI)C"⟩ : MethodName) jdk_43_method_2_code 2 (some .char) :: ws) ({ frames := 2, cells := 0, slots := 0, locals := 27 } : Room)) (fun a U => a = #[(.ref tx), (.int jx)] ∧ Z.Warmed39 U.vm ∧ U.heap = h0) (fun _ _ _ _ _ => True) (fun _ U o U' => ∃ v L, o = .returned v ∧ QrmCA1 Z G tx jx kb zx bs dv by8 h0 n0 v U'.heap L ∧ FrameEnd U o U' L ({ frames := 2, cells := 0, slots := 0, locals := 27 } : Room).cells ({ frames := 2, cells := 0, slots := 0, locals := 27 } : Room).slots) := by
  refine MetFree.of_bodySF (plainFor_of_name pn_3) hisR ?_
  intro p e s m args below meth c s₁ Bd hml0 hP hK
  obtain ⟨rfl, hZ, hh⟩ := hP
  have hx := Bd.exec
  have hby := Bd.bytes
  have hml : c.maxLocals = 2 := hml0
  have hown : s.vm.findClass "java/lang/StringLatin1" = some m.cls := findClass_of_methodNamed Bd.named
  have hnm := (name_of_methodNamed Bd.named Bd.method).1
  have X0 : Stand p l e ({ frames := 2, cells := 0, slots := 0, locals := 27 } : Room) s m #[(.ref tx), (.int jx)] below meth c s₁ [] 0 0 := Stand.of_body Bd
  have e0 : s₁.heap = h0 := by rw [← hh, Bd.state]; rfl
  have N0 := Fr.nil n0
  have Z0 : n0 ≤ h0.size := by have q := X00.2.1; rw [X00.1] at q; exact q
  obtain ⟨TG, hTG, hT2⟩ : ∃ P : State → Prop, (∀ t, P t → Steps p.tables e below (s₁.setTop (entryFrame m #[(.ref tx), (.int jx)] 2)) t) ∧ (∀ t, Steps p.tables e below (s₁.setTop (entryFrame m #[(.ref tx), (.int jx)] 2)) t → P t) := ⟨_, fun t k => k, fun t k => k⟩
  have pre0 : ∀ t, Sx p e below s₁ m 0 #[xvr tx, xvi jx] [] t → TG t := fun t k => hT2 t (castTop (ef_rmCA1 m tx jx ) k)
  obtain ⟨cl111, Ar111, q111, S111, M111, H111, G111⟩ := id V1
  obtain ⟨_, _, ⟨T112, L112, k112, n112⟩, -, X112, ⟨Lc112, hQ112, l112, y112, z112⟩, st112⟩ := Jvm.LawKit.callS X0 hx (y := (⟨"java/lang/String", "checkIndex", "(II)V"⟩ : MethodName)) hown (mvT hZ (w_78 hw)) (mvT hZ (w_79 hw)) (mvT hZ (w_11 hw)) (mvT hZ (w_80 hw)) (by decide) (backOf (W := 0) (rmCI2 l Z a0 hw G ST [] jx zx h0 n0 X00 h1 h2) hZ (w_80 hw) (w_11 hw) (by decide) (by decide)) (g := (mkF m 3 #[xvr tx, xvi jx] [xwi zx, xwi jx])) rfl (by rw [hml]; rfl) (argsL := [(.int jx), (.int zx)]) (rest := []) (lenOf pd_2 rfl) rfl (by show 2 * 0 + _ ≤ _; exact Nat.le_of_eq rfl) (hb hby d16_3) (fun _ _ => ⟨rfl, e0, (by decide : 0 + 0 ≤ _), (by decide : 0 + 0 ≤ _)⟩)
  dsimp only [Pt.U, Pt.locs, Pt.cells, Pt.slots] at X112 l112 y112 z112 st112 hQ112
  subst l112 y112 z112
  obtain ⟨rfl, N112q, e112⟩ := hQ112
  have N112 := Fr.app N0 N112q
  obtain ⟨cl113, Ar113, q113, S113, M113, H113, G113⟩ := id V1
  have in113 : ¬ (jx < 0 ∨ cl113.slots.size ≤ (jx).toNatClampNeg) := inb_of S113 ⟨h1, h2⟩
  obtain ⟨fs, hr, hrun, hended, hW, hsame⟩ := X112.leave (v := some (.int (by8 &&& (255 : Int32)))) (fun h => by rw [Bd.returns] at h; cases h)
  refine ⟨_, _, hTG _ (pre0 _ ?_), hrun, hended, _, _, rfl, ?_, ⟨_, rfl⟩, hW, hsame.mono (by decide) (by decide)⟩
  · refine y_iloadN X0 hx 1 (hb hby d16_0) rfl rfl ?_
    refine y_aloadN X0 hx 2 (hb hby d16_1) rfl rfl rfl ?_
    refine X0.arraylength hx (by rw [e0]; exact Ar111.1) (State.isArrayOf_alike hZ.alike Ar111.2.1) (g := (mkF m 2 #[xvr tx, xvi jx] [xwr tx, xwi jx])) rfl rfl (hb hby d16_2) _ ?_
    rw [len_of S111 M111]
    show Sx p e below s₁ m 3 #[xvr tx, xvi jx] [xwi zx, xwi jx] _
    refine st112 _ ?_
    show Sx p e below T112 m 6 #[xvr tx, xvi jx] [] _
    refine y_aloadN X112 hx 7 (hb hby d16_6) rfl rfl rfl ?_
    refine y_iloadN X112 hx 8 (hb hby d16_7) rfl rfl ?_
    refine X112.baloadBytes hx (j := jx) (v := (.int by8)) (by rw [e112]; exact Ar113.1) (State.isArrayOf_alike hZ.alike Ar113.2.1) Ar113.2.2 in113 (Has.at H113 in113 h3) (g := (mkF m 8 #[xvr tx, xvi jx] [xwi jx, xwr tx])) rfl rfl (hb hby d16_8) _ ?_
    show Sx p e below T112 m 9 #[xvr tx, xvi jx] [xwi by8] _
    refine y_sipush X112 hx (255 : Int32) 12 (hb hby d16_9) rfl rfl ?_
    refine y_iand X112 hx 13 (hb hby d16_12) rfl ?_
    refine XS.i2c X112.here hx rfl (hb hby d16_13) rfl ?_
    show Sx p e below T112 m 14 #[xvr tx, xvi jx] [xwi ((by8 &&& (255 : Int32)).toUInt32.toUInt16.toUInt32.toInt32)] _
    rw [own_i2c by8]
    show Sx p e below T112 m 14 #[xvr tx, xvi jx] [xwi (by8 &&& (255 : Int32))] _
    exact retN X112 hx (t := .char) Bd.returns (by simp) (hb hby d16_14) ((by rw [own_narc (own_c255 by8)]; exact hr))
  · show QrmCA1 Z G tx jx kb zx bs dv by8 h0 n0 _ T112.heap _
    rw [e112]
    exact ⟨rfl, N112, rfl⟩
theorem ef_rmCA (m : MethodId) (x0 : Addr) (x1 : Int32)  : entryFrame m #[(.ref x0), (.int x1)] 2 = mkF m 0 #[.val (.ref x0), .val (.int x1)] [] := by first | (simp [entryFrame, mkF, argsToLocals, Value.category]; done) | rfl
theorem d14_0 : decode jdk_42_method_56_code 0 = .ok (.aload_n 0, 1) := by decide +kernel
theorem d14_1 : decode jdk_42_method_56_code 1 = .ok (.invokevirtual 492, 3) := by decide +kernel
theorem pd_3 : parseMethodDescriptor "()Z" = some ⟨[], some .boolean⟩ := by decide +kernel
theorem d14_4 : decode jdk_42_method_56_code 4 = .ok (.ifCond .eq 12, 3) := by decide +kernel
theorem d14_7 : decode jdk_42_method_56_code 7 = .ok (.aload_n 0, 1) := by decide +kernel
theorem d14_8 : decode jdk_42_method_56_code 8 = .ok (.getfield 9, 3) := by decide +kernel
theorem d14_11 : decode jdk_42_method_56_code 11 = .ok (.iload_n 1, 1) := by decide +kernel
theorem d14_12 : decode jdk_42_method_56_code 12 = .ok (.invokestatic 495, 3) := by decide +kernel
theorem pd_4 : parseMethodDescriptor "([BI)C" = some ⟨[(.array .byte), .int], some .char⟩ := by decide +kernel
theorem d14_15 : decode jdk_42_method_56_code 15 = .ok (.ireturn, 1) := by decide +kernel
def QrmCA (Z : State) (G : Gs) (ax : Addr) (tx : Addr) (jx : Int32) (kb : ClassId) (zx : Int32) (bs : List Value) (dv : Value) (by8 : Int32) (h0 : Heap) (n0 : Nat) (v : Option Value) (h : Heap) (L : List Loc) : Prop := v = some (.int (by8 &&& (255 : Int32))) ∧ Fr n0 L ∧ h = h0
set_option maxRecDepth 65536 in
set_option maxHeartbeats 40000000 in
theorem rmCA (l : Launch) (Z : State) (a0 : Array Value) (hw : HW a0 Z) (G : Gs) (ST : StartF Z G) (ws : List Jvm.Cond) (ax : Addr) (tx : Addr) (jx : Int32) (kb : ClassId) (zx : Int32) (bs : List Value) (dv : Value) (by8 : Int32) (h0 : Heap) (n0 : Nat) (X00 : Old Z n0 h0) (E1 : Exa Z h0 ax "java/lang/String") (F1 : Fld Z h0 ax "java/lang/String" "coder" "B" (.int (0 : Int32))) (F2 : Fld Z h0 ax "java/lang/String" "value" "[B" (.ref tx)) (V1 : Arv Z h0 tx kb .byte zx bs dv) (h1 : ¬ jx < (0 : Int32)) (h2 : jx < zx) (h3 : bs.getD jx.toNatClampNeg dv = .int by8) :
    MetFree l (⟨"java/lang/String", "charAt", "(I)C"⟩ : MethodName) (head1 (Jvm.Cond.code (⟨"java/lang/String", "charAt", "(I)C"⟩ : MethodName) jdk_42_method_56_code 2 (some .char) :: ws) ({ frames := 3, cells := 0, slots := 0, locals := 40 } : Room)) (fun a U => a = #[(.ref ax), (.int jx)] ∧ Z.Warmed39 U.vm ∧ U.heap = h0) (fun _ _ _ _ _ => True) (fun _ U o U' => ∃ v L, o = .returned v ∧ QrmCA Z G ax tx jx kb zx bs dv by8 h0 n0 v U'.heap L ∧ FrameEnd U o U' L ({ frames := 3, cells := 0, slots := 0, locals := 40 } : Room).cells ({ frames := 3, cells := 0, slots := 0, locals := 40 } : Room).slots) := by
  refine MetFree.of_bodySF (plainFor_of_name pn_1) hisR ?_
  intro p e s m args below meth c s₁ Bd hml0 hP hK
  obtain ⟨rfl, hZ, hh⟩ := hP
  have hx := Bd.exec
  have hby := Bd.bytes
  have hml : c.maxLocals = 2 := hml0
  have hown : s.vm.findClass "java/lang/String" = some m.cls := findClass_of_methodNamed Bd.named
  have hnm := (name_of_methodNamed Bd.named Bd.method).1
  have X0 : Stand p l e ({ frames := 3, cells := 0, slots := 0, locals := 40 } : Room) s m #[(.ref ax), (.int jx)] below meth c s₁ [] 0 0 := Stand.of_body Bd
  have e0 : s₁.heap = h0 := by rw [← hh, Bd.state]; rfl
  have N0 := Fr.nil n0
  have Z0 : n0 ≤ h0.size := by have q := X00.2.1; rw [X00.1] at q; exact q
  obtain ⟨TG, hTG, hT2⟩ : ∃ P : State → Prop, (∀ t, P t → Steps p.tables e below (s₁.setTop (entryFrame m #[(.ref ax), (.int jx)] 2)) t) ∧ (∀ t, Steps p.tables e below (s₁.setTop (entryFrame m #[(.ref ax), (.int jx)] 2)) t → P t) := ⟨_, fun t k => k, fun t k => k⟩
  have pre0 : ∀ t, Sx p e below s₁ m 0 #[xvr ax, xvi jx] [] t → TG t := fun t k => hT2 t (castTop (ef_rmCA m ax jx ) k)
  obtain ⟨cq115, kq115, q115a, q115b, q115c⟩ := isOf hZ e0 E1
  obtain ⟨_, _, ⟨T114, L114, k114, n114⟩, -, X114, ⟨Lc114, hQ114, l114, y114, z114⟩, st114⟩ := X0.virtualBack hx (y := (⟨"java/lang/String", "isLatin1", "()Z"⟩ : MethodName)) (z := (⟨"java/lang/String", "isLatin1", "()Z"⟩ : MethodName)) hown (mvT hZ (w_69 hw)) (mvT hZ (w_70 hw)) (notFace_of_selects (args := #[]) (mvT hZ (w_72 hw))) (mvT hZ (w_72 hw)) (mvT hZ (w_71 hw)) (by decide) (backOf (W := 0) (rmL1 l Z a0 hw G ST [] ax h0 n0 X00 F1) hZ (w_73 hw) (w_11 hw) (by decide) (by decide)) q115a q115c (g := (mkF m 1 #[xvr ax, xvi jx] [xwr ax])) rfl (by rw [hml]; rfl) (Steps.refl _) (argsL := []) (rest := []) (lenOf pd_3 rfl) rfl (by show 2 * 0 + _ ≤ _; exact Nat.le_of_eq rfl) (hb hby d14_1) (fun _ _ => ⟨rfl, e0, (by decide : 0 + 0 ≤ _), (by decide : 0 + 0 ≤ _)⟩)
  dsimp only [Pt.U, Pt.locs, Pt.cells, Pt.slots] at X114 l114 y114 z114 st114 hQ114
  subst l114 y114 z114
  obtain ⟨rfl, N114q, e114⟩ := hQ114
  have N114 := Fr.app N0 N114q
  obtain ⟨T116, X116, e116, st116⟩ := getF X114 hx hZ hown (host := "") (Or.inl (w_36 hw)) Via.refl e114 F2 (g := (mkF m 8 #[xvr ax, xvi jx] [xwr ax])) rfl rfl (hb hby d14_8)
  obtain ⟨_, _, ⟨T117, L117, k117, n117⟩, -, X117, ⟨Lc117, hQ117, l117, y117, z117⟩, st117⟩ := Jvm.LawKit.callS X116 hx (y := (⟨"java/lang/StringLatin1", "charAt", "([BI)C"⟩ : MethodName)) hown (mvT hZ (w_74 hw)) (mvT hZ (w_75 hw)) (mvT hZ (w_76 hw)) (mvT hZ (w_77 hw)) (by decide) (backOf (W := 0) (rmCA1 l Z a0 hw G ST [] tx jx kb zx (bs : List Value) dv by8 h0 n0 X00 V1 h1 h2 (by first | assumption | decide)) hZ (w_77 hw) (w_76 hw) (by decide) (by decide)) (g := (mkF m 12 #[xvr ax, xvi jx] [xwi jx, xwr tx])) rfl (by rw [hml]; rfl) (argsL := [(.ref tx), (.int jx)]) (rest := []) (lenOf pd_4 rfl) rfl (by show 2 * 0 + _ ≤ _; exact Nat.le_of_eq rfl) (hb hby d14_12) (fun _ _ => ⟨rfl, e116, (by decide : 0 + 0 ≤ _), (by decide : 0 + 0 ≤ _)⟩)
  dsimp only [Pt.U, Pt.locs, Pt.cells, Pt.slots] at X117 l117 y117 z117 st117 hQ117
  subst l117 y117 z117
  obtain ⟨rfl, N117q, e117⟩ := hQ117
  have N117 := Fr.app N114 N117q
  obtain ⟨fs, hr, hrun, hended, hW, hsame⟩ := X117.leave (v := some (.int (by8 &&& (255 : Int32)))) (fun h => by rw [Bd.returns] at h; cases h)
  refine ⟨_, _, hTG _ (pre0 _ ?_), hrun, hended, _, _, rfl, ?_, ⟨_, rfl⟩, hW, hsame.mono (by decide) (by decide)⟩
  · refine y_aloadN X0 hx 1 (hb hby d14_0) rfl rfl rfl ?_
    refine st114.trans ?_
    show Sx p e below T114 m 4 #[xvr ax, xvi jx] [xwi (1 : Int32)] _
    refine y_ifNo X114 hx 7 (hb hby d14_4) (XT.i0_eq_f (by decide)) rfl ?_
    refine y_aloadN X114 hx 8 (hb hby d14_7) rfl rfl rfl ?_
    refine st116 _ ?_
    show Sx p e below T116 m 11 #[xvr ax, xvi jx] [xwr tx] _
    refine y_iloadN X116 hx 12 (hb hby d14_11) rfl rfl ?_
    refine st117 _ ?_
    show Sx p e below T117 m 15 #[xvr ax, xvi jx] [xwi (by8 &&& (255 : Int32))] _
    exact retN X117 hx (t := .char) Bd.returns (by simp) (hb hby d14_15) ((by rw [own_narc (own_c255 by8)]; exact hr))
  · show QrmCA Z G ax tx jx kb zx bs dv by8 h0 n0 _ T117.heap _
    rw [e117]
    exact ⟨rfl, N117, rfl⟩
theorem ef_rmEqS (m : MethodId) (x0 : Addr) (x1 : Addr)  : entryFrame m #[(.ref x0), (.ref x1)] 3 = mkF m 0 #[.val (.ref x0), .val (.ref x1), .unset] [] := by first | (simp [entryFrame, mkF, argsToLocals, Value.category]; done) | rfl
theorem d22_0 : decode jdk_42_method_66_code 0 = .ok (.aload_n 0, 1) := by decide +kernel
theorem d22_1 : decode jdk_42_method_66_code 1 = .ok (.aload_n 1, 1) := by decide +kernel
theorem d22_2 : decode jdk_42_method_66_code 2 = .ok (.if_acmp .ne 5, 3) := by decide +kernel
theorem d22_5 : decode jdk_42_method_66_code 5 = .ok (.iconst 1, 1) := by decide +kernel
theorem d22_6 : decode jdk_42_method_66_code 6 = .ok (.ireturn, 1) := by decide +kernel
def QrmEqS (Z : State) (G : Gs) (ax : Addr) (h0 : Heap) (n0 : Nat) (v : Option Value) (h : Heap) (L : List Loc) : Prop := v = some (.int (1 : Int32)) ∧ Fr n0 L ∧ h = h0
set_option maxRecDepth 65536 in
set_option maxHeartbeats 40000000 in
theorem rmEqS (l : Launch) (Z : State) (a0 : Array Value) (hw : HW a0 Z) (G : Gs) (ST : StartF Z G) (ws : List Jvm.Cond) (ax : Addr) (h0 : Heap) (n0 : Nat) (X00 : Old Z n0 h0) :
    MetFree l (⟨"java/lang/String", "equals", "(Ljava/lang/Object;)Z"⟩ : MethodName) (head1 (Jvm.Cond.code (⟨"java/lang/String", "equals", "(Ljava/lang/Object;)Z"⟩ : MethodName) jdk_42_method_66_code 3 (some .boolean) :: ws) ({ frames := 0, cells := 0, slots := 0, locals := 0 } : Room)) (fun a U => a = #[(.ref ax), (.ref ax)] ∧ Z.Warmed39 U.vm ∧ U.heap = h0) (fun _ _ _ _ _ => True) (fun _ U o U' => ∃ v L, o = .returned v ∧ QrmEqS Z G ax h0 n0 v U'.heap L ∧ FrameEnd U o U' L ({ frames := 0, cells := 0, slots := 0, locals := 0 } : Room).cells ({ frames := 0, cells := 0, slots := 0, locals := 0 } : Room).slots) := by
  refine MetFree.of_bodySF (plainFor_of_name pn_1) hisR ?_
  intro p e s m args below meth c s₁ Bd hml0 hP hK
  obtain ⟨rfl, hZ, hh⟩ := hP
  have hx := Bd.exec
  have hby := Bd.bytes
  have hml : c.maxLocals = 3 := hml0
  have hown : s.vm.findClass "java/lang/String" = some m.cls := findClass_of_methodNamed Bd.named
  have hnm := (name_of_methodNamed Bd.named Bd.method).1
  have X0 : Stand p l e ({ frames := 0, cells := 0, slots := 0, locals := 0 } : Room) s m #[(.ref ax), (.ref ax)] below meth c s₁ [] 0 0 := Stand.of_body Bd
  have e0 : s₁.heap = h0 := by rw [← hh, Bd.state]; rfl
  have N0 := Fr.nil n0
  have Z0 : n0 ≤ h0.size := by have q := X00.2.1; rw [X00.1] at q; exact q
  obtain ⟨TG, hTG, hT2⟩ : ∃ P : State → Prop, (∀ t, P t → Steps p.tables e below (s₁.setTop (entryFrame m #[(.ref ax), (.ref ax)] 3)) t) ∧ (∀ t, Steps p.tables e below (s₁.setTop (entryFrame m #[(.ref ax), (.ref ax)] 3)) t → P t) := ⟨_, fun t k => k, fun t k => k⟩
  have pre0 : ∀ t, Sx p e below s₁ m 0 #[xvr ax, xvr ax, xun] [] t → TG t := fun t k => hT2 t (castTop (ef_rmEqS m ax ax ) k)
  obtain ⟨fs, hr, hrun, hended, hW, hsame⟩ := X0.leave (v := some (.int (1 : Int32))) (fun h => by rw [Bd.returns] at h; cases h)
  refine ⟨_, _, hTG _ (pre0 _ ?_), hrun, hended, _, _, rfl, ?_, ⟨_, rfl⟩, hW, hsame.mono (by decide) (by decide)⟩
  · refine y_aloadN X0 hx 1 (hb hby d22_0) rfl rfl rfl ?_
    refine y_aloadN X0 hx 2 (hb hby d22_1) rfl rfl rfl ?_
    refine Jvm.RoadKit.acmp (g := (mkF m 2 #[xvr ax, xvr ax, xun] [xwr ax, xwr ax])) X0 hx rfl rfl rfl (pc0 := 2) (pc' := 5) (same := true) rfl (hb hby d22_2) rfl (decide_eq_true rfl) (by decide) (by decide) ?_
    show Sx p e below s₁ m 5 #[xvr ax, xvr ax, xun] [] _
    refine y_iconst X0 hx (1 : Int32) 6 (hb hby d22_5) rfl rfl ?_
    show Sx p e below s₁ m 6 #[xvr ax, xvr ax, xun] [xwi (1 : Int32)] _
    exact retN X0 hx (t := .boolean) Bd.returns (by simp) (hb hby d22_6) (hr)
  · show QrmEqS Z G ax h0 n0 _ s₁.heap _
    rw [e0]
    exact ⟨rfl, N0, rfl⟩
theorem ef_rmIL (m : MethodId) (x0 : Int32)  : entryFrame m #[(.int x0)] 1 = mkF m 0 #[.val (.int x0)] [] := by first | (simp [entryFrame, mkF, argsToLocals, Value.category]; done) | rfl
theorem d19_0 : decode prog_36_method_7_code 0 = .ok (.iload_n 0, 1) := by decide +kernel
theorem d19_1 : decode prog_36_method_7_code 1 = .ok (.bipush 97, 2) := by decide +kernel
theorem d19_3 : decode prog_36_method_7_code 3 = .ok (.if_icmp .lt 9, 3) := by decide +kernel
theorem d19_12 : decode prog_36_method_7_code 12 = .ok (.iload_n 0, 1) := by decide +kernel
theorem d19_13 : decode prog_36_method_7_code 13 = .ok (.bipush 65, 2) := by decide +kernel
theorem d19_15 : decode prog_36_method_7_code 15 = .ok (.if_icmp .lt 13, 3) := by decide +kernel
theorem d19_28 : decode prog_36_method_7_code 28 = .ok (.iconst 0, 1) := by decide +kernel
theorem d19_29 : decode prog_36_method_7_code 29 = .ok (.ireturn, 1) := by decide +kernel
theorem d19_18 : decode prog_36_method_7_code 18 = .ok (.iload_n 0, 1) := by decide +kernel
theorem d19_19 : decode prog_36_method_7_code 19 = .ok (.bipush 90, 2) := by decide +kernel
theorem d19_21 : decode prog_36_method_7_code 21 = .ok (.if_icmp .gt 7, 3) := by decide +kernel
theorem d19_24 : decode prog_36_method_7_code 24 = .ok (.iconst 1, 1) := by decide +kernel
theorem d19_25 : decode prog_36_method_7_code 25 = .ok (.goto 4, 3) := by decide +kernel
theorem d19_6 : decode prog_36_method_7_code 6 = .ok (.iload_n 0, 1) := by decide +kernel
theorem d19_7 : decode prog_36_method_7_code 7 = .ok (.bipush 122, 2) := by decide +kernel
theorem d19_9 : decode prog_36_method_7_code 9 = .ok (.if_icmp .le 15, 3) := by decide +kernel
theorem pn_4 : plainName "com/example/arbiter/arbiter/store/SchemaName" = true := by first | (simp [plainName, overriddenIn]; done) | decide +kernel
def QrmIL (Z : State) (G : Gs) (cc : Int32) (h0 : Heap) (n0 : Nat) (v : Option Value) (h : Heap) (L : List Loc) : Prop := ∃ (rx : Int32), v = some (.int rx) ∧ Fr n0 L ∧ h = h0 ∧ ((rx = 1 ∧ own_let cc) ∨ (rx = 0 ∧ ¬ own_let cc))
set_option maxRecDepth 65536 in
set_option maxHeartbeats 40000000 in
theorem rmIL (l : Launch) (Z : State) (a0 : Array Value) (hw : HW a0 Z) (G : Gs) (ST : StartF Z G) (ws : List Jvm.Cond) (cc : Int32) (h0 : Heap) (n0 : Nat) (X00 : Old Z n0 h0) :
    MetFree l (⟨"com/example/arbiter/arbiter/store/SchemaName", "isAsciiLetter", "(C)Z"⟩ : MethodName) (head1 (Jvm.Cond.code (⟨"com/example/arbiter/arbiter/store/SchemaName", "isAsciiLetter", "(C)Z"⟩ : MethodName) prog_36_method_7_code 1 (some .boolean) :: ws) ({ frames := 0, cells := 0, slots := 0, locals := 0 } : Room)) (fun a U => a = #[(.int cc)] ∧ Z.Warmed39 U.vm ∧ U.heap = h0) (fun _ _ _ _ _ => True) (fun _ U o U' => ∃ v L, o = .returned v ∧ QrmIL Z G cc h0 n0 v U'.heap L ∧ FrameEnd U o U' L ({ frames := 0, cells := 0, slots := 0, locals := 0 } : Room).cells ({ frames := 0, cells := 0, slots := 0, locals := 0 } : Room).slots) := by
  refine MetFree.of_bodySF (plainFor_of_name pn_4) hisR ?_
  intro p e s m args below meth c s₁ Bd hml0 hP hK
  obtain ⟨rfl, hZ, hh⟩ := hP
  have hx := Bd.exec
  have hby := Bd.bytes
  have hml : c.maxLocals = 1 := hml0
  have hown : s.vm.findClass "com/example/arbiter/arbiter/store/SchemaName" = some m.cls := findClass_of_methodNamed Bd.named
  have hnm := (name_of_methodNamed Bd.named Bd.method).1
  have X0 : Stand p l e ({ frames := 0, cells := 0, slots := 0, locals := 0 } : Room) s m #[(.int cc)] below meth c s₁ [] 0 0 := Stand.of_body Bd
  have e0 : s₁.heap = h0 := by rw [← hh, Bd.state]; rfl
  have N0 := Fr.nil n0
  have Z0 : n0 ≤ h0.size := by have q := X00.2.1; rw [X00.1] at q; exact q
  obtain ⟨TG, hTG, hT2⟩ : ∃ P : State → Prop, (∀ t, P t → Steps p.tables e below (s₁.setTop (entryFrame m #[(.int cc)] 1)) t) ∧ (∀ t, Steps p.tables e below (s₁.setTop (entryFrame m #[(.int cc)] 1)) t → P t) := ⟨_, fun t k => k, fun t k => k⟩
  have pre0 : ∀ t, Sx p e below s₁ m 0 #[xvi cc] [] t → TG t := fun t k => hT2 t (castTop (ef_rmIL m cc ) k)
  have c118 : ∀ t, Sx p e below s₁ m 3 #[xvi cc] [xwi (97 : Int32), xwi cc] t → TG t := fun t k => pre0 t (by
    refine y_iloadN X0 hx 1 (hb hby d19_0) rfl rfl ?_
    refine y_bipush X0 hx (97 : Int32) 3 (hb hby d19_1) rfl rfl ?_
    exact k)
  by_cases hc119 : cc < (97 : Int32)
  · have c120 : ∀ t, Sx p e below s₁ m 15 #[xvi cc] [xwi (65 : Int32), xwi cc] t → TG t := fun t k => c118 t (by
      refine y_icmpYes X0 hx 12 (hb hby d19_3) (XT.ii_lt_t hc119) (by decide) (by decide) ?_
      refine y_iloadN X0 hx 13 (hb hby d19_12) rfl rfl ?_
      refine y_bipush X0 hx (65 : Int32) 15 (hb hby d19_13) rfl rfl ?_
      exact k)
    by_cases hc121 : cc < (65 : Int32)
    · have hlet : ¬ own_let cc := by show ¬ ((¬ cc < (97 : Int32) ∧ ¬ (122 : Int32) < cc) ∨ (¬ cc < (65 : Int32) ∧ ¬ (90 : Int32) < cc)); simp only [Int32.lt_iff_toInt_lt] at *; omega
      obtain ⟨fs, hr, hrun, hended, hW, hsame⟩ := X0.leave (v := some (.int (0 : Int32))) (fun h => by rw [Bd.returns] at h; cases h)
      refine ⟨_, _, hTG _ (c120 _ ?_), hrun, hended, _, _, rfl, ?_, ⟨_, rfl⟩, hW, hsame.mono (by decide) (by decide)⟩
      · refine y_icmpYes X0 hx 28 (hb hby d19_15) (XT.ii_lt_t hc121) (by decide) (by decide) ?_
        refine y_iconst X0 hx (0 : Int32) 29 (hb hby d19_28) rfl rfl ?_
        show Sx p e below s₁ m 29 #[xvi cc] [xwi (0 : Int32)] _
        exact retN X0 hx (t := .boolean) Bd.returns (by simp) (hb hby d19_29) (hr)
      · show QrmIL Z G cc h0 n0 _ s₁.heap _
        rw [e0]
        exact ⟨(0 : Int32), rfl, N0, rfl, (Or.inr ⟨rfl, hlet⟩)⟩
    · have c122 : ∀ t, Sx p e below s₁ m 21 #[xvi cc] [xwi (90 : Int32), xwi cc] t → TG t := fun t k => c120 t (by
        refine y_icmpNo X0 hx 18 (hb hby d19_15) (XT.ii_lt_f hc121) rfl ?_
        refine y_iloadN X0 hx 19 (hb hby d19_18) rfl rfl ?_
        refine y_bipush X0 hx (90 : Int32) 21 (hb hby d19_19) rfl rfl ?_
        exact k)
      by_cases hc123 : (90 : Int32) < cc
      · have hlet : ¬ own_let cc := by show ¬ ((¬ cc < (97 : Int32) ∧ ¬ (122 : Int32) < cc) ∨ (¬ cc < (65 : Int32) ∧ ¬ (90 : Int32) < cc)); simp only [Int32.lt_iff_toInt_lt] at *; omega
        obtain ⟨fs, hr, hrun, hended, hW, hsame⟩ := X0.leave (v := some (.int (0 : Int32))) (fun h => by rw [Bd.returns] at h; cases h)
        refine ⟨_, _, hTG _ (c122 _ ?_), hrun, hended, _, _, rfl, ?_, ⟨_, rfl⟩, hW, hsame.mono (by decide) (by decide)⟩
        · refine y_icmpYes X0 hx 28 (hb hby d19_21) (XT.ii_gt_t hc123) (by decide) (by decide) ?_
          refine y_iconst X0 hx (0 : Int32) 29 (hb hby d19_28) rfl rfl ?_
          show Sx p e below s₁ m 29 #[xvi cc] [xwi (0 : Int32)] _
          exact retN X0 hx (t := .boolean) Bd.returns (by simp) (hb hby d19_29) (hr)
        · show QrmIL Z G cc h0 n0 _ s₁.heap _
          rw [e0]
          exact ⟨(0 : Int32), rfl, N0, rfl, (Or.inr ⟨rfl, hlet⟩)⟩
      · have hlet : own_let cc := by show ((¬ cc < (97 : Int32) ∧ ¬ (122 : Int32) < cc) ∨ (¬ cc < (65 : Int32) ∧ ¬ (90 : Int32) < cc)); simp only [Int32.lt_iff_toInt_lt] at *; omega
        obtain ⟨fs, hr, hrun, hended, hW, hsame⟩ := X0.leave (v := some (.int (1 : Int32))) (fun h => by rw [Bd.returns] at h; cases h)
        refine ⟨_, _, hTG _ (c122 _ ?_), hrun, hended, _, _, rfl, ?_, ⟨_, rfl⟩, hW, hsame.mono (by decide) (by decide)⟩
        · refine y_icmpNo X0 hx 24 (hb hby d19_21) (XT.ii_gt_f hc123) rfl ?_
          refine y_iconst X0 hx (1 : Int32) 25 (hb hby d19_24) rfl rfl ?_
          refine y_goto X0 hx 29 (hb hby d19_25) (by decide) (by decide) ?_
          show Sx p e below s₁ m 29 #[xvi cc] [xwi (1 : Int32)] _
          exact retN X0 hx (t := .boolean) Bd.returns (by simp) (hb hby d19_29) (hr)
        · show QrmIL Z G cc h0 n0 _ s₁.heap _
          rw [e0]
          exact ⟨(1 : Int32), rfl, N0, rfl, (Or.inl ⟨rfl, hlet⟩)⟩
  · have c124 : ∀ t, Sx p e below s₁ m 9 #[xvi cc] [xwi (122 : Int32), xwi cc] t → TG t := fun t k => c118 t (by
      refine y_icmpNo X0 hx 6 (hb hby d19_3) (XT.ii_lt_f hc119) rfl ?_
      refine y_iloadN X0 hx 7 (hb hby d19_6) rfl rfl ?_
      refine y_bipush X0 hx (122 : Int32) 9 (hb hby d19_7) rfl rfl ?_
      exact k)
    by_cases hc125 : (122 : Int32) < cc
    · have c126 : ∀ t, Sx p e below s₁ m 15 #[xvi cc] [xwi (65 : Int32), xwi cc] t → TG t := fun t k => c124 t (by
        refine y_icmpNo X0 hx 12 (hb hby d19_9) (XT.ii_le_f hc125) rfl ?_
        refine y_iloadN X0 hx 13 (hb hby d19_12) rfl rfl ?_
        refine y_bipush X0 hx (65 : Int32) 15 (hb hby d19_13) rfl rfl ?_
        exact k)
      by_cases hc127 : cc < (65 : Int32)
      · have hlet : ¬ own_let cc := by show ¬ ((¬ cc < (97 : Int32) ∧ ¬ (122 : Int32) < cc) ∨ (¬ cc < (65 : Int32) ∧ ¬ (90 : Int32) < cc)); simp only [Int32.lt_iff_toInt_lt] at *; omega
        obtain ⟨fs, hr, hrun, hended, hW, hsame⟩ := X0.leave (v := some (.int (0 : Int32))) (fun h => by rw [Bd.returns] at h; cases h)
        refine ⟨_, _, hTG _ (c126 _ ?_), hrun, hended, _, _, rfl, ?_, ⟨_, rfl⟩, hW, hsame.mono (by decide) (by decide)⟩
        · refine y_icmpYes X0 hx 28 (hb hby d19_15) (XT.ii_lt_t hc127) (by decide) (by decide) ?_
          refine y_iconst X0 hx (0 : Int32) 29 (hb hby d19_28) rfl rfl ?_
          show Sx p e below s₁ m 29 #[xvi cc] [xwi (0 : Int32)] _
          exact retN X0 hx (t := .boolean) Bd.returns (by simp) (hb hby d19_29) (hr)
        · show QrmIL Z G cc h0 n0 _ s₁.heap _
          rw [e0]
          exact ⟨(0 : Int32), rfl, N0, rfl, (Or.inr ⟨rfl, hlet⟩)⟩
      · have c128 : ∀ t, Sx p e below s₁ m 21 #[xvi cc] [xwi (90 : Int32), xwi cc] t → TG t := fun t k => c126 t (by
          refine y_icmpNo X0 hx 18 (hb hby d19_15) (XT.ii_lt_f hc127) rfl ?_
          refine y_iloadN X0 hx 19 (hb hby d19_18) rfl rfl ?_
          refine y_bipush X0 hx (90 : Int32) 21 (hb hby d19_19) rfl rfl ?_
          exact k)
        by_cases hc129 : (90 : Int32) < cc
        · have hlet : ¬ own_let cc := by show ¬ ((¬ cc < (97 : Int32) ∧ ¬ (122 : Int32) < cc) ∨ (¬ cc < (65 : Int32) ∧ ¬ (90 : Int32) < cc)); simp only [Int32.lt_iff_toInt_lt] at *; omega
          obtain ⟨fs, hr, hrun, hended, hW, hsame⟩ := X0.leave (v := some (.int (0 : Int32))) (fun h => by rw [Bd.returns] at h; cases h)
          refine ⟨_, _, hTG _ (c128 _ ?_), hrun, hended, _, _, rfl, ?_, ⟨_, rfl⟩, hW, hsame.mono (by decide) (by decide)⟩
          · refine y_icmpYes X0 hx 28 (hb hby d19_21) (XT.ii_gt_t hc129) (by decide) (by decide) ?_
            refine y_iconst X0 hx (0 : Int32) 29 (hb hby d19_28) rfl rfl ?_
            show Sx p e below s₁ m 29 #[xvi cc] [xwi (0 : Int32)] _
            exact retN X0 hx (t := .boolean) Bd.returns (by simp) (hb hby d19_29) (hr)
          · show QrmIL Z G cc h0 n0 _ s₁.heap _
            rw [e0]
            exact ⟨(0 : Int32), rfl, N0, rfl, (Or.inr ⟨rfl, hlet⟩)⟩
        · have hlet : own_let cc := by show ((¬ cc < (97 : Int32) ∧ ¬ (122 : Int32) < cc) ∨ (¬ cc < (65 : Int32) ∧ ¬ (90 : Int32) < cc)); simp only [Int32.lt_iff_toInt_lt] at *; omega
          obtain ⟨fs, hr, hrun, hended, hW, hsame⟩ := X0.leave (v := some (.int (1 : Int32))) (fun h => by rw [Bd.returns] at h; cases h)
          refine ⟨_, _, hTG _ (c128 _ ?_), hrun, hended, _, _, rfl, ?_, ⟨_, rfl⟩, hW, hsame.mono (by decide) (by decide)⟩
          · refine y_icmpNo X0 hx 24 (hb hby d19_21) (XT.ii_gt_f hc129) rfl ?_
            refine y_iconst X0 hx (1 : Int32) 25 (hb hby d19_24) rfl rfl ?_
            refine y_goto X0 hx 29 (hb hby d19_25) (by decide) (by decide) ?_
            show Sx p e below s₁ m 29 #[xvi cc] [xwi (1 : Int32)] _
            exact retN X0 hx (t := .boolean) Bd.returns (by simp) (hb hby d19_29) (hr)
          · show QrmIL Z G cc h0 n0 _ s₁.heap _
            rw [e0]
            exact ⟨(1 : Int32), rfl, N0, rfl, (Or.inl ⟨rfl, hlet⟩)⟩
    · have hlet : own_let cc := by show ((¬ cc < (97 : Int32) ∧ ¬ (122 : Int32) < cc) ∨ (¬ cc < (65 : Int32) ∧ ¬ (90 : Int32) < cc)); simp only [Int32.lt_iff_toInt_lt] at *; omega
      obtain ⟨fs, hr, hrun, hended, hW, hsame⟩ := X0.leave (v := some (.int (1 : Int32))) (fun h => by rw [Bd.returns] at h; cases h)
      refine ⟨_, _, hTG _ (c124 _ ?_), hrun, hended, _, _, rfl, ?_, ⟨_, rfl⟩, hW, hsame.mono (by decide) (by decide)⟩
      · refine y_icmpYes X0 hx 24 (hb hby d19_9) (XT.ii_le_t hc125) (by decide) (by decide) ?_
        refine y_iconst X0 hx (1 : Int32) 25 (hb hby d19_24) rfl rfl ?_
        refine y_goto X0 hx 29 (hb hby d19_25) (by decide) (by decide) ?_
        show Sx p e below s₁ m 29 #[xvi cc] [xwi (1 : Int32)] _
        exact retN X0 hx (t := .boolean) Bd.returns (by simp) (hb hby d19_29) (hr)
      · show QrmIL Z G cc h0 n0 _ s₁.heap _
        rw [e0]
        exact ⟨(1 : Int32), rfl, N0, rfl, (Or.inl ⟨rfl, hlet⟩)⟩
theorem ef_rmCk (m : MethodId) (x0 : Addr) (x1 : Addr)  : entryFrame m #[(.ref x0), (.ref x1)] 6 = mkF m 0 #[.val (.ref x0), .val (.ref x1), .unset, .unset, .unset, .unset] [] := by first | (simp [entryFrame, mkF, argsToLocals, Value.category]; done) | rfl
theorem d10_0 : decode prog_36_method_6_code 0 = .ok (.aload_n 1, 1) := by decide +kernel
theorem d10_1 : decode prog_36_method_6_code 1 = .ok (.aload_n 0, 1) := by decide +kernel
theorem d10_2 : decode prog_36_method_6_code 2 = .ok (.invokestatic 35, 3) := by decide +kernel
theorem pd_5 : parseMethodDescriptor "(Ljava/lang/Object;Ljava/lang/String;)Ljava/lang/Object;" = some ⟨[(.object "java/lang/Object"), (.object "java/lang/String")], some (.object "java/lang/Object")⟩ := by decide +kernel
theorem d10_5 : decode prog_36_method_6_code 5 = .ok (.pop, 1) := by decide +kernel
theorem d10_6 : decode prog_36_method_6_code 6 = .ok (.aload_n 1, 1) := by decide +kernel
theorem d10_7 : decode prog_36_method_6_code 7 = .ok (.invokevirtual 41, 3) := by decide +kernel
theorem pd_6 : parseMethodDescriptor "()I" = some ⟨[], some .int⟩ := by decide +kernel
theorem d10_10 : decode prog_36_method_6_code 10 = .ok (.istore_n 2, 1) := by decide +kernel
theorem d10_11 : decode prog_36_method_6_code 11 = .ok (.iload_n 2, 1) := by decide +kernel
theorem d10_12 : decode prog_36_method_6_code 12 = .ok (.iconst 1, 1) := by decide +kernel
theorem d10_13 : decode prog_36_method_6_code 13 = .ok (.if_icmp .lt 13, 3) := by decide +kernel
theorem d10_16 : decode prog_36_method_6_code 16 = .ok (.iload_n 2, 1) := by decide +kernel
theorem d10_17 : decode prog_36_method_6_code 17 = .ok (.bipush 63, 2) := by decide +kernel
theorem d10_19 : decode prog_36_method_6_code 19 = .ok (.if_icmp .gt 7, 3) := by decide +kernel
theorem d10_22 : decode prog_36_method_6_code 22 = .ok (.iconst 1, 1) := by decide +kernel
theorem d10_23 : decode prog_36_method_6_code 23 = .ok (.goto 4, 3) := by decide +kernel
theorem d10_27 : decode prog_36_method_6_code 27 = .ok (.istore_n 3, 1) := by decide +kernel
theorem d10_28 : decode prog_36_method_6_code 28 = .ok (.iload_n 3, 1) := by decide +kernel
theorem d10_29 : decode prog_36_method_6_code 29 = .ok (.ifCond .eq 18, 3) := by decide +kernel
theorem d10_32 : decode prog_36_method_6_code 32 = .ok (.aload_n 1, 1) := by decide +kernel
theorem d10_33 : decode prog_36_method_6_code 33 = .ok (.iconst 0, 1) := by decide +kernel
theorem d10_34 : decode prog_36_method_6_code 34 = .ok (.invokevirtual 47, 3) := by decide +kernel
theorem pd_7 : parseMethodDescriptor "(I)C" = some ⟨[.int], some .char⟩ := by decide +kernel
theorem d10_37 : decode prog_36_method_6_code 37 = .ok (.invokestatic 51, 3) := by decide +kernel
theorem pd_8 : parseMethodDescriptor "(C)Z" = some ⟨[.char], some .boolean⟩ := by decide +kernel
theorem d10_40 : decode prog_36_method_6_code 40 = .ok (.ifCond .eq 7, 3) := by decide +kernel
theorem d10_43 : decode prog_36_method_6_code 43 = .ok (.iconst 1, 1) := by decide +kernel
theorem d10_44 : decode prog_36_method_6_code 44 = .ok (.goto 4, 3) := by decide +kernel
theorem d10_48 : decode prog_36_method_6_code 48 = .ok (.istore_n 3, 1) := by decide +kernel
theorem d10_49 : decode prog_36_method_6_code 49 = .ok (.iconst 1, 1) := by decide +kernel
theorem d10_50 : decode prog_36_method_6_code 50 = .ok (.istore 4, 2) := by decide +kernel
theorem d10_52 : decode prog_36_method_6_code 52 = .ok (.iload_n 3, 1) := by decide +kernel
theorem d10_53 : decode prog_36_method_6_code 53 = .ok (.ifCond .eq 58, 3) := by decide +kernel
theorem d10_56 : decode prog_36_method_6_code 56 = .ok (.iload 4, 2) := by decide +kernel
theorem d10_58 : decode prog_36_method_6_code 58 = .ok (.iload_n 2, 1) := by decide +kernel
theorem d10_59 : decode prog_36_method_6_code 59 = .ok (.if_icmp .ge 52, 3) := by decide +kernel
theorem d10_62 : decode prog_36_method_6_code 62 = .ok (.aload_n 1, 1) := by decide +kernel
theorem d10_63 : decode prog_36_method_6_code 63 = .ok (.iload 4, 2) := by decide +kernel
theorem d10_65 : decode prog_36_method_6_code 65 = .ok (.invokevirtual 47, 3) := by decide +kernel
theorem d10_68 : decode prog_36_method_6_code 68 = .ok (.istore 5, 2) := by decide +kernel
theorem d10_70 : decode prog_36_method_6_code 70 = .ok (.iload 5, 2) := by decide +kernel
theorem d10_72 : decode prog_36_method_6_code 72 = .ok (.invokestatic 51, 3) := by decide +kernel
theorem d10_75 : decode prog_36_method_6_code 75 = .ok (.ifCond .ne 24, 3) := by decide +kernel
theorem d10_99 : decode prog_36_method_6_code 99 = .ok (.iconst 1, 1) := by decide +kernel
theorem d10_100 : decode prog_36_method_6_code 100 = .ok (.goto 4, 3) := by decide +kernel
theorem d10_104 : decode prog_36_method_6_code 104 = .ok (.istore_n 3, 1) := by decide +kernel
theorem d10_105 : decode prog_36_method_6_code 105 = .ok (.iinc 4 1, 3) := by decide +kernel
theorem d10_108 : decode prog_36_method_6_code 108 = .ok (.goto (-56), 3) := by decide +kernel
theorem d10_78 : decode prog_36_method_6_code 78 = .ok (.iload 5, 2) := by decide +kernel
theorem d10_80 : decode prog_36_method_6_code 80 = .ok (.bipush 48, 2) := by decide +kernel
theorem d10_82 : decode prog_36_method_6_code 82 = .ok (.if_icmp .lt 10, 3) := by decide +kernel
theorem d10_85 : decode prog_36_method_6_code 85 = .ok (.iload 5, 2) := by decide +kernel
theorem d10_87 : decode prog_36_method_6_code 87 = .ok (.bipush 57, 2) := by decide +kernel
theorem d10_89 : decode prog_36_method_6_code 89 = .ok (.if_icmp .le 10, 3) := by decide +kernel
theorem d10_92 : decode prog_36_method_6_code 92 = .ok (.iload 5, 2) := by decide +kernel
theorem d10_94 : decode prog_36_method_6_code 94 = .ok (.bipush 95, 2) := by decide +kernel
theorem d10_96 : decode prog_36_method_6_code 96 = .ok (.if_icmp .ne 7, 3) := by decide +kernel
theorem d10_111 : decode prog_36_method_6_code 111 = .ok (.iload_n 3, 1) := by decide +kernel
theorem d10_112 : decode prog_36_method_6_code 112 = .ok (.ifCond .ne 36, 3) := by decide +kernel
theorem d10_148 : decode prog_36_method_6_code 148 = .ok (.aload_n 1, 1) := by decide +kernel
theorem d10_149 : decode prog_36_method_6_code 149 = .ok (.areturn, 1) := by decide +kernel
def QrmCk (Z : State) (G : Gs) (mx : Addr) (sx : Addr) (tx : Addr) (kb : ClassId) (cs : List Int32) (nn : Nat) (h0 : Heap) (n0 : Nat) (v : Option Value) (h : Heap) (L : List Loc) : Prop := v = some (.ref sx) ∧ Fr n0 L ∧ h = h0
set_option maxRecDepth 65536 in
set_option maxHeartbeats 40000000 in
theorem rmCk (l : Launch) (Z : State) (a0 : Array Value) (hw : HW a0 Z) (G : Gs) (ST : StartF Z G) (ws : List Jvm.Cond) (mx : Addr) (sx : Addr) (tx : Addr) (kb : ClassId) (cs : List Int32) (nn : Nat) (h0 : Heap) (n0 : Nat) (X00 : Old Z n0 h0) (E1 : Exa Z h0 sx "java/lang/String") (F1 : Fld Z h0 sx "java/lang/String" "coder" "B" (.int (0 : Int32))) (F2 : Fld Z h0 sx "java/lang/String" "value" "[B" (.ref tx)) (V1 : Arv Z h0 tx kb .byte (Int32.ofNat nn) ((cs.map (fun c => c.toInt8.toInt32)).map Value.int) (.int (0 : Int32))) (hl : cs.length = nn) (hn1 : 1 ≤ nn) (hn2 : nn ≤ 63) (hok : ∀ c ∈ cs, own_ok c) (hlt : own_let (cs.getD 0 0)) :
    MetFree l (⟨"com/example/arbiter/arbiter/store/SchemaName", "checkIdentifier", "(Ljava/lang/String;Ljava/lang/String;)Ljava/lang/String;"⟩ : MethodName) (head1 (Jvm.Cond.code (⟨"com/example/arbiter/arbiter/store/SchemaName", "checkIdentifier", "(Ljava/lang/String;Ljava/lang/String;)Ljava/lang/String;"⟩ : MethodName) prog_36_method_6_code 6 (some (.object "java/lang/String")) :: ws) ({ frames := 4, cells := 0, slots := 0, locals := 53 } : Room)) (fun a U => a = #[(.ref mx), (.ref sx)] ∧ Z.Warmed39 U.vm ∧ U.heap = h0) (fun _ _ _ _ _ => True) (fun _ U o U' => ∃ v L, o = .returned v ∧ QrmCk Z G mx sx tx kb cs nn h0 n0 v U'.heap L ∧ FrameEnd U o U' L ({ frames := 4, cells := 0, slots := 0, locals := 53 } : Room).cells ({ frames := 4, cells := 0, slots := 0, locals := 53 } : Room).slots) := by
  refine MetFree.of_bodySF (plainFor_of_name pn_4) hisR ?_
  intro p e s m args below meth c s₁ Bd hml0 hP hK
  obtain ⟨rfl, hZ, hh⟩ := hP
  have hx := Bd.exec
  have hby := Bd.bytes
  have hml : c.maxLocals = 6 := hml0
  have hown : s.vm.findClass "com/example/arbiter/arbiter/store/SchemaName" = some m.cls := findClass_of_methodNamed Bd.named
  have hnm := (name_of_methodNamed Bd.named Bd.method).1
  have X0 : Stand p l e ({ frames := 4, cells := 0, slots := 0, locals := 53 } : Room) s m #[(.ref mx), (.ref sx)] below meth c s₁ [] 0 0 := Stand.of_body Bd
  have e0 : s₁.heap = h0 := by rw [← hh, Bd.state]; rfl
  have N0 := Fr.nil n0
  have Z0 : n0 ≤ h0.size := by have q := X00.2.1; rw [X00.1] at q; exact q
  obtain ⟨TG, hTG, hT2⟩ : ∃ P : State → Prop, (∀ t, P t → Steps p.tables e below (s₁.setTop (entryFrame m #[(.ref mx), (.ref sx)] 6)) t) ∧ (∀ t, Steps p.tables e below (s₁.setTop (entryFrame m #[(.ref mx), (.ref sx)] 6)) t → P t) := ⟨_, fun t k => k, fun t k => k⟩
  have pre0 : ∀ t, Sx p e below s₁ m 0 #[xvr mx, xvr sx, xun, xun, xun, xun] [] t → TG t := fun t k => hT2 t (castTop (ef_rmCk m mx sx ) k)
  obtain ⟨_, _, ⟨T130, L130, k130, n130⟩, -, X130, ⟨Lc130, hQ130, l130, y130, z130⟩, st130⟩ := Jvm.LawKit.callS X0 hx (y := (⟨"java/util/Objects", "requireNonNull", "(Ljava/lang/Object;Ljava/lang/String;)Ljava/lang/Object;"⟩ : MethodName)) hown (mvT hZ (w_50 hw)) (mvT hZ (w_51 hw)) (mvT hZ (w_52 hw)) (mvT hZ (w_53 hw)) (by decide) (backOf (W := 0) (rmNN l Z a0 hw G ST [] sx mx h0 n0 X00 ) hZ (w_53 hw) (w_52 hw) (by decide) (by decide)) (g := (mkF m 2 #[xvr mx, xvr sx, xun, xun, xun, xun] [xwr mx, xwr sx])) rfl (by rw [hml]; rfl) (argsL := [(.ref sx), (.ref mx)]) (rest := []) (lenOf pd_5 rfl) rfl (by show 2 * 0 + _ ≤ _; exact Nat.le_of_eq rfl) (hb hby d10_2) (fun _ _ => ⟨rfl, e0, (by decide : 0 + 0 ≤ _), (by decide : 0 + 0 ≤ _)⟩)
  dsimp only [Pt.U, Pt.locs, Pt.cells, Pt.slots] at X130 l130 y130 z130 st130 hQ130
  subst l130 y130 z130
  obtain ⟨rfl, N130q, e130⟩ := hQ130
  have N130 := Fr.app N0 N130q
  obtain ⟨cq132, kq132, q132a, q132b, q132c⟩ := isOf hZ e130 E1
  obtain ⟨_, _, ⟨T131, L131, k131, n131⟩, -, X131, ⟨Lc131, hQ131, l131, y131, z131⟩, st131⟩ := X130.virtualBack hx (y := (⟨"java/lang/String", "length", "()I"⟩ : MethodName)) (z := (⟨"java/lang/String", "length", "()I"⟩ : MethodName)) hown (mvT hZ (w_54 hw)) (mvT hZ (w_55 hw)) (notFace_of_selects (args := #[]) (mvT hZ (w_57 hw))) (mvT hZ (w_57 hw)) (mvT hZ (w_56 hw)) (by decide) (backOf (W := 0) (rmLen l Z a0 hw G ST [] sx tx kb (Int32.ofNat nn) (((cs.map (fun c => c.toInt8.toInt32)).map Value.int) : List Value) (.int (0 : Int32)) h0 n0 X00 E1 F1 F2 V1) hZ (w_58 hw) (w_11 hw) (by decide) (by decide)) q132a q132c (g := (mkF m 7 #[xvr mx, xvr sx, xun, xun, xun, xun] [xwr sx])) rfl (by rw [hml]; rfl) (Steps.refl _) (argsL := []) (rest := []) (lenOf pd_6 rfl) rfl (by show 2 * 0 + _ ≤ _; exact Nat.le_of_eq rfl) (hb hby d10_7) (fun _ _ => ⟨rfl, e130, (by decide : 0 + 0 ≤ _), (by decide : 0 + 0 ≤ _)⟩)
  dsimp only [Pt.U, Pt.locs, Pt.cells, Pt.slots] at X131 l131 y131 z131 st131 hQ131
  subst l131 y131 z131
  obtain ⟨rfl, N131q, e131⟩ := hQ131
  have N131 := Fr.app N130 N131q
  obtain ⟨cq134, kq134, q134a, q134b, q134c⟩ := isOf hZ e131 E1
  obtain ⟨_, _, ⟨T133, L133, k133, n133⟩, -, X133, ⟨Lc133, hQ133, l133, y133, z133⟩, st133⟩ := X131.virtualBack hx (y := (⟨"java/lang/String", "charAt", "(I)C"⟩ : MethodName)) (z := (⟨"java/lang/String", "charAt", "(I)C"⟩ : MethodName)) hown (mvT hZ (w_64 hw)) (mvT hZ (w_65 hw)) (notFace_of_selects (args := #[]) (mvT hZ (w_67 hw))) (mvT hZ (w_67 hw)) (mvT hZ (w_66 hw)) (by decide) (backOf (W := 0) (rmCA l Z a0 hw G ST [] sx tx (Int32.ofNat 0) kb (Int32.ofNat nn) (((cs.map (fun c => c.toInt8.toInt32)).map Value.int) : List Value) (.int (0 : Int32)) ((cs.getD 0 0).toInt8.toInt32) h0 n0 X00 E1 F1 F2 V1 (own_nn (i := 0) (by omega)) (own_lt (i := 0) (n := nn) (by omega) (by omega)) (own_getD (cs := cs) (i := 0) (by omega) (by omega))) hZ (w_68 hw) (w_11 hw) (by decide) (by decide)) q134a q134c (g := (mkF m 34 #[xvr mx, xvr sx, xvi (Int32.ofNat nn), xvi (1 : Int32), xun, xun] [xwi (Int32.ofNat 0), xwr sx])) rfl (by rw [hml]; rfl) (Steps.refl _) (argsL := [(.int (Int32.ofNat 0))]) (rest := []) (lenOf pd_7 rfl) rfl (by show 2 * 0 + _ ≤ _; exact Nat.le_of_eq rfl) (hb hby d10_34) (fun _ _ => ⟨rfl, e131, (by decide : 0 + 0 ≤ _), (by decide : 0 + 0 ≤ _)⟩)
  dsimp only [Pt.U, Pt.locs, Pt.cells, Pt.slots] at X133 l133 y133 z133 st133 hQ133
  subst l133 y133 z133
  obtain ⟨rfl, N133q, e133⟩ := hQ133
  have N133 := Fr.app N131 N133q
  obtain ⟨_, _, ⟨T135, L135, k135, n135⟩, -, X135, ⟨Lc135, hQ135, l135, y135, z135⟩, st135⟩ := Jvm.LawKit.callS X133 hx (y := (⟨"com/example/arbiter/arbiter/store/SchemaName", "isAsciiLetter", "(C)Z"⟩ : MethodName)) hown (mvT hZ (w_86 hw)) (mvT hZ (w_87 hw)) (mvT hZ (w_40 hw)) (mvT hZ (w_88 hw)) (by decide) (backOf (W := 0) (rmIL l Z a0 hw G ST [] (cs.getD 0 0) h0 n0 X00 ) hZ (w_88 hw) (w_40 hw) (by decide) (by decide)) (g := (mkF m 37 #[xvr mx, xvr sx, xvi (Int32.ofNat nn), xvi (1 : Int32), xun, xun] [xwi (cs.getD 0 0)])) rfl (by rw [hml]; rfl) (argsL := [(.int (cs.getD 0 0))]) (rest := []) (lenOf pd_8 rfl) rfl (by show 2 * 0 + _ ≤ _; exact Nat.le_of_eq rfl) (hb hby d10_37) (fun _ _ => ⟨rfl, e133, (by decide : 0 + 0 ≤ _), (by decide : 0 + 0 ≤ _)⟩)
  dsimp only [Pt.U, Pt.locs, Pt.cells, Pt.slots] at X135 l135 y135 z135 st135 hQ135
  subst l135 y135 z135
  obtain ⟨o136, rfl, N135q, e135, p137⟩ := hQ135
  have N135 := Fr.app N133 N135q
  have hr1 : o136 = 1 := by rcases p137 with q | q; exact q.1; exact absurd hlt q.2
  have c138 : ∀ t, Sx p e below T135 m 52 #[xvr mx, xvr sx, xvi (Int32.ofNat nn), xvi (1 : Int32), xvi (Int32.ofNat 1), xun] [] t → TG t := fun t k => pre0 t (by
    refine y_aloadN X0 hx 1 (hb hby d10_0) rfl rfl rfl ?_
    refine y_aloadN X0 hx 2 (hb hby d10_1) rfl rfl rfl ?_
    refine st130 _ ?_
    show Sx p e below T130 m 5 #[xvr mx, xvr sx, xun, xun, xun, xun] [xwr sx] _
    refine y_pop X130 hx 6 (hb hby d10_5) rfl rfl ?_
    refine y_aloadN X130 hx 7 (hb hby d10_6) rfl rfl rfl ?_
    refine st131.trans ?_
    show Sx p e below T131 m 10 #[xvr mx, xvr sx, xun, xun, xun, xun] [xwi (Int32.ofNat nn)] _
    refine XS.istoreN X131.here hx rfl (hb hby d10_10) rfl (l' := #[xvr mx, xvr sx, xvi (Int32.ofNat nn), xun, xun, xun]) rfl ?_
    show Sx p e below T131 m 11 #[xvr mx, xvr sx, xvi (Int32.ofNat nn), xun, xun, xun] [] _
    refine y_iloadN X131 hx 12 (hb hby d10_11) rfl rfl ?_
    refine y_iconst X131 hx (1 : Int32) 13 (hb hby d10_12) rfl rfl ?_
    refine y_icmpNo X131 hx 16 (hb hby d10_13) (XT.ii_lt_f (own_n1 hn1 hn2)) rfl ?_
    refine y_iloadN X131 hx 17 (hb hby d10_16) rfl rfl ?_
    refine y_bipush X131 hx (63 : Int32) 19 (hb hby d10_17) rfl rfl ?_
    refine y_icmpNo X131 hx 22 (hb hby d10_19) (XT.ii_gt_f (own_n63 hn2)) rfl ?_
    refine y_iconst X131 hx (1 : Int32) 23 (hb hby d10_22) rfl rfl ?_
    refine y_goto X131 hx 27 (hb hby d10_23) (by decide) (by decide) ?_
    refine XS.istoreN X131.here hx rfl (hb hby d10_27) rfl (l' := #[xvr mx, xvr sx, xvi (Int32.ofNat nn), xvi (1 : Int32), xun, xun]) rfl ?_
    show Sx p e below T131 m 28 #[xvr mx, xvr sx, xvi (Int32.ofNat nn), xvi (1 : Int32), xun, xun] [] _
    refine y_iloadN X131 hx 29 (hb hby d10_28) rfl rfl ?_
    refine y_ifNo X131 hx 32 (hb hby d10_29) (XT.i0_eq_f (by decide)) rfl ?_
    refine y_aloadN X131 hx 33 (hb hby d10_32) rfl rfl rfl ?_
    refine y_iconst X131 hx (0 : Int32) 34 (hb hby d10_33) rfl rfl ?_
    refine st133.trans ?_
    show Sx p e below T133 m 37 #[xvr mx, xvr sx, xvi (Int32.ofNat nn), xvi (1 : Int32), xun, xun] [xwi (((cs.getD 0 0).toInt8.toInt32) &&& (255 : Int32))] _
    rw [own_b8 (own_mem (i := 0) hok (by omega)).1]
    refine st135 _ ?_
    show Sx p e below T135 m 40 #[xvr mx, xvr sx, xvi (Int32.ofNat nn), xvi (1 : Int32), xun, xun] [xwi o136] _
    rw [hr1]
    refine y_ifNo X135 hx 43 (hb hby d10_40) (XT.i0_eq_f (by decide)) rfl ?_
    refine y_iconst X135 hx (1 : Int32) 44 (hb hby d10_43) rfl rfl ?_
    refine y_goto X135 hx 48 (hb hby d10_44) (by decide) (by decide) ?_
    refine XS.istoreN X135.here hx rfl (hb hby d10_48) rfl (l' := #[xvr mx, xvr sx, xvi (Int32.ofNat nn), xvi (1 : Int32), xun, xun]) rfl ?_
    show Sx p e below T135 m 49 #[xvr mx, xvr sx, xvi (Int32.ofNat nn), xvi (1 : Int32), xun, xun] [] _
    refine y_iconst X135 hx (1 : Int32) 50 (hb hby d10_49) rfl rfl ?_
    refine XS.istore X135.here hx rfl (hb hby d10_50) rfl (l' := #[xvr mx, xvr sx, xvi (Int32.ofNat nn), xvi (1 : Int32), xvi (1 : Int32), xun]) rfl ?_
    exact k)
  have loop : ∀ (kk ii : Nat) (T9 : State) (locs9 : List Loc) (s5 : Slot), (s5 = .unset ∨ ∃ w, s5 = .val w ∧ w.category = 1) → ii + kk = nn → 1 ≤ ii → Fr n0 locs9 → Stand p l e ({ frames := 4, cells := 0, slots := 0, locals := 53 } : Room) s m #[(.ref mx), (.ref sx)] below meth c T9 locs9 0 0 → T9.heap = h0 → ∃ (T' : State) (locs' : List Loc) (s6 : Slot) (jj : Int32), Stand p l e ({ frames := 4, cells := 0, slots := 0, locals := 53 } : Room) s m #[(.ref mx), (.ref sx)] below meth c T' locs' 0 0 ∧ T'.heap = h0 ∧ Fr n0 locs' ∧ ∀ t, Sx p e below T' m 111 #[xvr mx, xvr sx, xvi (Int32.ofNat nn), xvi (1 : Int32), xvi jj, s6] [] t → Sx p e below T9 m 52 #[xvr mx, xvr sx, xvi (Int32.ofNat nn), xvi (1 : Int32), xvi (Int32.ofNat ii), s5] [] t := by
    intro kk
    induction kk with
    | zero =>
      intro ii T9 locs9 s5 hs5 hik hi1 N9 X9 e9
      have idc139 : ∀ t, Sx p e below T9 m 52 #[xvr mx, xvr sx, xvi (Int32.ofNat nn), xvi (1 : Int32), xvi (Int32.ofNat ii), s5] [] t → Sx p e below T9 m 52 #[xvr mx, xvr sx, xvi (Int32.ofNat nn), xvi (1 : Int32), xvi (Int32.ofNat ii), s5] [] t := fun t k => k
      refine ⟨T9, locs9, s5, (Int32.ofNat ii), X9, e9, N9, fun t k => idc139 t ?_⟩
      refine y_iloadN X9 hx 53 (hb hby d10_52) rfl rfl ?_
      refine y_ifNo X9 hx 56 (hb hby d10_53) (XT.i0_eq_f (by decide)) rfl ?_
      refine y_iload X9 hx 58 (hb hby d10_56) rfl rfl ?_
      refine y_iloadN X9 hx 59 (hb hby d10_58) rfl rfl ?_
      refine y_icmpYes X9 hx 111 (hb hby d10_59) (XT.ii_ge_t (own_nlt (i := ii) (n := nn) (by omega) (by omega))) (by decide) (by decide) ?_
      exact k
    | succ kk ih =>
      intro ii T9 locs9 s5 hs5 hik hi1 N9 X9 e9
      have idc140 : ∀ t, Sx p e below T9 m 52 #[xvr mx, xvr sx, xvi (Int32.ofNat nn), xvi (1 : Int32), xvi (Int32.ofNat ii), s5] [] t → Sx p e below T9 m 52 #[xvr mx, xvr sx, xvi (Int32.ofNat nn), xvi (1 : Int32), xvi (Int32.ofNat ii), s5] [] t := fun t k => k
      obtain ⟨cq142, kq142, q142a, q142b, q142c⟩ := isOf hZ e9 E1
      obtain ⟨_, _, ⟨T141, L141, k141, n141⟩, -, X141, ⟨Lc141, hQ141, l141, y141, z141⟩, st141⟩ := X9.virtualBack hx (y := (⟨"java/lang/String", "charAt", "(I)C"⟩ : MethodName)) (z := (⟨"java/lang/String", "charAt", "(I)C"⟩ : MethodName)) hown (mvT hZ (w_64 hw)) (mvT hZ (w_65 hw)) (notFace_of_selects (args := #[]) (mvT hZ (w_67 hw))) (mvT hZ (w_67 hw)) (mvT hZ (w_66 hw)) (by decide) (backOf (W := 0) (rmCA l Z a0 hw G ST [] sx tx (Int32.ofNat ii) kb (Int32.ofNat nn) (((cs.map (fun c => c.toInt8.toInt32)).map Value.int) : List Value) (.int (0 : Int32)) ((cs.getD ii 0).toInt8.toInt32) h0 n0 X00 E1 F1 F2 V1 (own_nn (i := ii) (by omega)) (own_lt (i := ii) (n := nn) (by omega) (by omega)) (own_getD (cs := cs) (i := ii) (by omega) (by omega))) hZ (w_68 hw) (w_11 hw) (by decide) (by decide)) q142a q142c (g := (mkF m 65 #[xvr mx, xvr sx, xvi (Int32.ofNat nn), xvi (1 : Int32), xvi (Int32.ofNat ii), s5] [xwi (Int32.ofNat ii), xwr sx])) rfl (by rw [hml]; rfl) (Steps.refl _) (argsL := [(.int (Int32.ofNat ii))]) (rest := []) (lenOf pd_7 rfl) rfl (by show 2 * 0 + _ ≤ _; exact Nat.le_of_eq rfl) (hb hby d10_65) (fun _ _ => ⟨rfl, e9, (by decide : 0 + 0 ≤ _), (by decide : 0 + 0 ≤ _)⟩)
      dsimp only [Pt.U, Pt.locs, Pt.cells, Pt.slots] at X141 l141 y141 z141 st141 hQ141
      subst l141 y141 z141
      obtain ⟨rfl, N141q, e141⟩ := hQ141
      have N141 := Fr.app N9 N141q
      obtain ⟨_, _, ⟨T143, L143, k143, n143⟩, -, X143, ⟨Lc143, hQ143, l143, y143, z143⟩, st143⟩ := Jvm.LawKit.callS X141 hx (y := (⟨"com/example/arbiter/arbiter/store/SchemaName", "isAsciiLetter", "(C)Z"⟩ : MethodName)) hown (mvT hZ (w_86 hw)) (mvT hZ (w_87 hw)) (mvT hZ (w_40 hw)) (mvT hZ (w_88 hw)) (by decide) (backOf (W := 0) (rmIL l Z a0 hw G ST [] (cs.getD ii 0) h0 n0 X00 ) hZ (w_88 hw) (w_40 hw) (by decide) (by decide)) (g := (mkF m 72 #[xvr mx, xvr sx, xvi (Int32.ofNat nn), xvi (1 : Int32), xvi (Int32.ofNat ii), xvi (cs.getD ii 0)] [xwi (cs.getD ii 0)])) rfl (by rw [hml]; rfl) (argsL := [(.int (cs.getD ii 0))]) (rest := []) (lenOf pd_8 rfl) rfl (by show 2 * 0 + _ ≤ _; exact Nat.le_of_eq rfl) (hb hby d10_72) (fun _ _ => ⟨rfl, e141, (by decide : 0 + 0 ≤ _), (by decide : 0 + 0 ≤ _)⟩)
      dsimp only [Pt.U, Pt.locs, Pt.cells, Pt.slots] at X143 l143 y143 z143 st143 hQ143
      subst l143 y143 z143
      obtain ⟨o144, rfl, N143q, e143, p145⟩ := hQ143
      have N143 := Fr.app N141 N143q
      have c146 : ∀ t, Sx p e below T143 m 75 #[xvr mx, xvr sx, xvi (Int32.ofNat nn), xvi (1 : Int32), xvi (Int32.ofNat ii), xvi (cs.getD ii 0)] [xwi o144] t → Sx p e below T9 m 52 #[xvr mx, xvr sx, xvi (Int32.ofNat nn), xvi (1 : Int32), xvi (Int32.ofNat ii), s5] [] t := fun t k => idc140 t (by
        refine y_iloadN X9 hx 53 (hb hby d10_52) rfl rfl ?_
        refine y_ifNo X9 hx 56 (hb hby d10_53) (XT.i0_eq_f (by decide)) rfl ?_
        refine y_iload X9 hx 58 (hb hby d10_56) rfl rfl ?_
        refine y_iloadN X9 hx 59 (hb hby d10_58) rfl rfl ?_
        refine y_icmpNo X9 hx 62 (hb hby d10_59) (XT.ii_ge_f (own_lt (i := ii) (n := nn) (by omega) (by omega))) rfl ?_
        refine y_aloadN X9 hx 63 (hb hby d10_62) rfl rfl rfl ?_
        refine y_iload X9 hx 65 (hb hby d10_63) rfl rfl ?_
        refine st141.trans ?_
        show Sx p e below T141 m 68 #[xvr mx, xvr sx, xvi (Int32.ofNat nn), xvi (1 : Int32), xvi (Int32.ofNat ii), s5] [xwi (((cs.getD ii 0).toInt8.toInt32) &&& (255 : Int32))] _
        rw [own_b8 (own_mem (i := ii) hok (by omega)).1]
        refine XS.istore X141.here hx rfl (hb hby d10_68) rfl (l' := #[xvr mx, xvr sx, xvi (Int32.ofNat nn), xvi (1 : Int32), xvi (Int32.ofNat ii), xvi (cs.getD ii 0)]) (XS.store1 rfl hs5 rfl) ?_
        show Sx p e below T141 m 70 #[xvr mx, xvr sx, xvi (Int32.ofNat nn), xvi (1 : Int32), xvi (Int32.ofNat ii), xvi (cs.getD ii 0)] [] _
        refine y_iload X141 hx 72 (hb hby d10_70) rfl rfl ?_
        refine st143 _ ?_
        exact k)
      rcases (own_mem hok (by omega : ii < cs.length)).2 with hk147 | hk147 | hk147
      · have hr1 : o144 = 1 := by rcases p145 with q | q; exact q.1; exact absurd hk147 q.2
        obtain ⟨T8, locs8, s6, jj, X8, e8, N8, st8⟩ := ih (ii + 1) T143 _ (.val (.int (cs.getD ii 0))) (Or.inr ⟨_, rfl, rfl⟩) (by omega) (by omega) N143 X143 e143
        refine ⟨T8, locs8, s6, jj, X8, e8, N8, fun t k => c146 t ?_⟩
        rw [hr1]
        refine y_ifYes X143 hx 99 (hb hby d10_75) (XT.i0_ne_t (by decide)) (by decide) (by decide) ?_
        refine y_iconst X143 hx (1 : Int32) 100 (hb hby d10_99) rfl rfl ?_
        refine y_goto X143 hx 104 (hb hby d10_100) (by decide) (by decide) ?_
        refine XS.istoreN X143.here hx rfl (hb hby d10_104) rfl (l' := #[xvr mx, xvr sx, xvi (Int32.ofNat nn), xvi (1 : Int32), xvi (Int32.ofNat ii), xvi (cs.getD ii 0)]) rfl ?_
        show Sx p e below T143 m 105 #[xvr mx, xvr sx, xvi (Int32.ofNat nn), xvi (1 : Int32), xvi (Int32.ofNat ii), xvi (cs.getD ii 0)] [] _
        refine XS.iinc X143.here hx rfl (hb hby d10_105) rfl (l' := #[xvr mx, xvr sx, xvi (Int32.ofNat nn), xvi (1 : Int32), xvi ((Int32.ofNat ii) + (1 : Int32)), xvi (cs.getD ii 0)]) rfl ?_
        rw [own_succ ii]
        show Sx p e below T143 m 108 #[xvr mx, xvr sx, xvi (Int32.ofNat nn), xvi (1 : Int32), xvi (Int32.ofNat (ii + 1)), xvi (cs.getD ii 0)] [] _
        refine y_goto X143 hx 52 (hb hby d10_108) (by decide) (by decide) ?_
        exact st8 t k
      · have hr1 : o144 = 0 := by rcases p145 with q | q; exact absurd q.2 (own_dnl hk147); exact q.1
        obtain ⟨T8, locs8, s6, jj, X8, e8, N8, st8⟩ := ih (ii + 1) T143 _ (.val (.int (cs.getD ii 0))) (Or.inr ⟨_, rfl, rfl⟩) (by omega) (by omega) N143 X143 e143
        refine ⟨T8, locs8, s6, jj, X8, e8, N8, fun t k => c146 t ?_⟩
        rw [hr1]
        refine y_ifNo X143 hx 78 (hb hby d10_75) (XT.i0_ne_f (by decide)) rfl ?_
        refine y_iload X143 hx 80 (hb hby d10_78) rfl rfl ?_
        refine y_bipush X143 hx (48 : Int32) 82 (hb hby d10_80) rfl rfl ?_
        refine y_icmpNo X143 hx 85 (hb hby d10_82) (XT.ii_lt_f hk147.1) rfl ?_
        refine y_iload X143 hx 87 (hb hby d10_85) rfl rfl ?_
        refine y_bipush X143 hx (57 : Int32) 89 (hb hby d10_87) rfl rfl ?_
        refine y_icmpYes X143 hx 99 (hb hby d10_89) (XT.ii_le_t hk147.2) (by decide) (by decide) ?_
        refine y_iconst X143 hx (1 : Int32) 100 (hb hby d10_99) rfl rfl ?_
        refine y_goto X143 hx 104 (hb hby d10_100) (by decide) (by decide) ?_
        refine XS.istoreN X143.here hx rfl (hb hby d10_104) rfl (l' := #[xvr mx, xvr sx, xvi (Int32.ofNat nn), xvi (1 : Int32), xvi (Int32.ofNat ii), xvi (cs.getD ii 0)]) rfl ?_
        show Sx p e below T143 m 105 #[xvr mx, xvr sx, xvi (Int32.ofNat nn), xvi (1 : Int32), xvi (Int32.ofNat ii), xvi (cs.getD ii 0)] [] _
        refine XS.iinc X143.here hx rfl (hb hby d10_105) rfl (l' := #[xvr mx, xvr sx, xvi (Int32.ofNat nn), xvi (1 : Int32), xvi ((Int32.ofNat ii) + (1 : Int32)), xvi (cs.getD ii 0)]) rfl ?_
        rw [own_succ ii]
        show Sx p e below T143 m 108 #[xvr mx, xvr sx, xvi (Int32.ofNat nn), xvi (1 : Int32), xvi (Int32.ofNat (ii + 1)), xvi (cs.getD ii 0)] [] _
        refine y_goto X143 hx 52 (hb hby d10_108) (by decide) (by decide) ?_
        exact st8 t k
      · have hr1 : o144 = 0 := by rcases p145 with q | q; exact absurd q.2 (own_unl hk147); exact q.1
        obtain ⟨T8, locs8, s6, jj, X8, e8, N8, st8⟩ := ih (ii + 1) T143 _ (.val (.int (cs.getD ii 0))) (Or.inr ⟨_, rfl, rfl⟩) (by omega) (by omega) N143 X143 e143
        refine ⟨T8, locs8, s6, jj, X8, e8, N8, fun t k => c146 t ?_⟩
        rw [hr1]
        refine y_ifNo X143 hx 78 (hb hby d10_75) (XT.i0_ne_f (by decide)) rfl ?_
        refine y_iload X143 hx 80 (hb hby d10_78) rfl rfl ?_
        refine y_bipush X143 hx (48 : Int32) 82 (hb hby d10_80) rfl rfl ?_
        refine y_icmpNo X143 hx 85 (hb hby d10_82) (XT.ii_lt_f (by rw [hk147]; decide)) rfl ?_
        refine y_iload X143 hx 87 (hb hby d10_85) rfl rfl ?_
        refine y_bipush X143 hx (57 : Int32) 89 (hb hby d10_87) rfl rfl ?_
        refine y_icmpNo X143 hx 92 (hb hby d10_89) (XT.ii_le_f (by rw [hk147]; decide)) rfl ?_
        refine y_iload X143 hx 94 (hb hby d10_92) rfl rfl ?_
        refine y_bipush X143 hx (95 : Int32) 96 (hb hby d10_94) rfl rfl ?_
        refine y_icmpNo X143 hx 99 (hb hby d10_96) (XT.ii_ne_f hk147) rfl ?_
        refine y_iconst X143 hx (1 : Int32) 100 (hb hby d10_99) rfl rfl ?_
        refine y_goto X143 hx 104 (hb hby d10_100) (by decide) (by decide) ?_
        refine XS.istoreN X143.here hx rfl (hb hby d10_104) rfl (l' := #[xvr mx, xvr sx, xvi (Int32.ofNat nn), xvi (1 : Int32), xvi (Int32.ofNat ii), xvi (cs.getD ii 0)]) rfl ?_
        show Sx p e below T143 m 105 #[xvr mx, xvr sx, xvi (Int32.ofNat nn), xvi (1 : Int32), xvi (Int32.ofNat ii), xvi (cs.getD ii 0)] [] _
        refine XS.iinc X143.here hx rfl (hb hby d10_105) rfl (l' := #[xvr mx, xvr sx, xvi (Int32.ofNat nn), xvi (1 : Int32), xvi ((Int32.ofNat ii) + (1 : Int32)), xvi (cs.getD ii 0)]) rfl ?_
        rw [own_succ ii]
        show Sx p e below T143 m 108 #[xvr mx, xvr sx, xvi (Int32.ofNat nn), xvi (1 : Int32), xvi (Int32.ofNat (ii + 1)), xvi (cs.getD ii 0)] [] _
        refine y_goto X143 hx 52 (hb hby d10_108) (by decide) (by decide) ?_
        exact st8 t k
  obtain ⟨T148, locs148, s6, jj, X148, e148, N148, st148⟩ := loop (nn - 1) 1 T135 _ .unset (Or.inl rfl) (by omega) (by omega) N135 X135 e135
  obtain ⟨fs, hr, hrun, hended, hW, hsame⟩ := X148.leave (v := some (.ref sx)) (fun h => by rw [Bd.returns] at h; cases h)
  refine ⟨_, _, hTG _ (c138 _ ?_), hrun, hended, _, _, rfl, ?_, ⟨_, rfl⟩, hW, hsame.mono (by decide) (by decide)⟩
  · refine st148 _ ?_
    refine y_iloadN X148 hx 112 (hb hby d10_111) rfl rfl ?_
    refine y_ifYes X148 hx 148 (hb hby d10_112) (XT.i0_ne_t (by decide)) (by decide) (by decide) ?_
    refine y_aloadN X148 hx 149 (hb hby d10_148) rfl rfl rfl ?_
    show Sx p e below T148 m 149 #[xvr mx, xvr sx, xvi (Int32.ofNat nn), xvi (1 : Int32), xvi jj, s6] [xwr sx] _
    exact retOut X148 hx Bd.returns rfl (Or.inr (Or.inr (Or.inr (Or.inr ⟨rfl, rfl, rfl⟩)))) (hb hby d10_149) hr
  · show QrmCk Z G mx sx tx kb cs nn h0 n0 _ T148.heap _
    rw [e148]
    exact ⟨rfl, N148, rfl⟩
theorem ef_rmSI (m : MethodId) (x0 : Addr) (x1 : Addr)  : entryFrame m #[(.ref x0), (.ref x1)] 2 = mkF m 0 #[.val (.ref x0), .val (.ref x1)] [] := by first | (simp [entryFrame, mkF, argsToLocals, Value.category]; done) | rfl
theorem d20_0 : decode prog_36_method_1_code 0 = .ok (.aload_n 0, 1) := by decide +kernel
theorem d20_1 : decode prog_36_method_1_code 1 = .ok (.invokespecial 1, 3) := by decide +kernel
theorem d20_4 : decode prog_36_method_1_code 4 = .ok (.aload_n 0, 1) := by decide +kernel
theorem d20_5 : decode prog_36_method_1_code 5 = .ok (.aload_n 1, 1) := by decide +kernel
theorem d20_6 : decode prog_36_method_1_code 6 = .ok (.putfield 7, 3) := by decide +kernel
theorem d20_9 : decode prog_36_method_1_code 9 = .ok (.return_, 1) := by decide +kernel
def QrmSI (Z : State) (G : Gs) (ax : Addr) (sx : Addr) (u1 : Value) (h0 : Heap) (n0 : Nat) (v : Option Value) (h : Heap) (L : List Loc) : Prop := v = none ∧ Fr n0 L ∧ Keep h0 h [ax] ∧ Exa Z h ax "com/example/arbiter/arbiter/store/SchemaName" ∧ Fld Z h ax "com/example/arbiter/arbiter/store/SchemaName" "name" "Ljava/lang/String;" (.ref sx)
set_option maxRecDepth 65536 in
set_option maxHeartbeats 40000000 in
theorem rmSI (l : Launch) (Z : State) (a0 : Array Value) (hw : HW a0 Z) (G : Gs) (ST : StartF Z G) (ws : List Jvm.Cond) (ax : Addr) (sx : Addr) (u1 : Value) (h0 : Heap) (n0 : Nat) (X00 : Old Z n0 h0) (E1 : Exa Z h0 ax "com/example/arbiter/arbiter/store/SchemaName") (F1 : Fld Z h0 ax "com/example/arbiter/arbiter/store/SchemaName" "name" "Ljava/lang/String;" u1) (g1 : n0 ≤ ax) :
    MetFree l (⟨"com/example/arbiter/arbiter/store/SchemaName", "<init>", "(Ljava/lang/String;)V"⟩ : MethodName) (head1 (Jvm.Cond.code (⟨"com/example/arbiter/arbiter/store/SchemaName", "<init>", "(Ljava/lang/String;)V"⟩ : MethodName) prog_36_method_1_code 2 none :: ws) ({ frames := 1, cells := 0, slots := 0, locals := 12 } : Room)) (fun a U => a = #[(.ref ax), (.ref sx)] ∧ Z.Warmed39 U.vm ∧ U.heap = h0) (fun _ _ _ _ _ => True) (fun _ U o U' => ∃ v L, o = .returned v ∧ QrmSI Z G ax sx u1 h0 n0 v U'.heap L ∧ FrameEnd U o U' L ({ frames := 1, cells := 0, slots := 0, locals := 12 } : Room).cells ({ frames := 1, cells := 0, slots := 0, locals := 12 } : Room).slots) := by
  refine MetFree.of_bodySF (plainFor_of_name pn_4) hisR ?_
  intro p e s m args below meth c s₁ Bd hml0 hP hK
  obtain ⟨rfl, hZ, hh⟩ := hP
  have hx := Bd.exec
  have hby := Bd.bytes
  have hml : c.maxLocals = 2 := hml0
  have hown : s.vm.findClass "com/example/arbiter/arbiter/store/SchemaName" = some m.cls := findClass_of_methodNamed Bd.named
  have hnm := (name_of_methodNamed Bd.named Bd.method).1
  have X0 : Stand p l e ({ frames := 1, cells := 0, slots := 0, locals := 12 } : Room) s m #[(.ref ax), (.ref sx)] below meth c s₁ [] 0 0 := Stand.of_body Bd
  have e0 : s₁.heap = h0 := by rw [← hh, Bd.state]; rfl
  have N0 := Fr.nil n0
  have Z0 : n0 ≤ h0.size := by have q := X00.2.1; rw [X00.1] at q; exact q
  obtain ⟨TG, hTG, hT2⟩ : ∃ P : State → Prop, (∀ t, P t → Steps p.tables e below (s₁.setTop (entryFrame m #[(.ref ax), (.ref sx)] 2)) t) ∧ (∀ t, Steps p.tables e below (s₁.setTop (entryFrame m #[(.ref ax), (.ref sx)] 2)) t → P t) := ⟨_, fun t k => k, fun t k => k⟩
  have pre0 : ∀ t, Sx p e below s₁ m 0 #[xvr ax, xvr sx] [] t → TG t := fun t k => hT2 t (castTop (ef_rmSI m ax sx ) k)
  obtain ⟨T149, X149, e149, st149⟩ := initO X0 hx hZ hown (w_92 hw) (w_20 hw) (w_21 hw) e0 (g := (mkF m 1 #[xvr ax, xvr sx] [xwr ax])) rfl (by rw [hml]; rfl) rfl (hb hby d20_1) (by decide) (W := 0) (by show 2 * 0 + _ ≤ _; exact Nat.le_of_eq rfl) (by decide)
  obtain ⟨T150, h150, X150, e150, W150, st150⟩ := putF X149 hx hZ hown (host := "") (Or.inl (w_93 hw)) Via.refl e149 F1 E1 (Or.inr ⟨(w_94 hw), rfl, hnm⟩) (w_43 hw) (ty := (.object "java/lang/String")) (by decide) rfl rfl (g := (mkF m 6 #[xvr ax, xvr sx] [xwr sx, xwr ax])) rfl rfl (hb hby d20_6)
  have Fw150 := F1.same W150
  have N150 := Fr.snoc X150 N0 g1
  have f151 := (E1.wr W150)
  obtain ⟨fs, hr, hrun, hended, hW, hsame⟩ := X150.leave (v := none) (fun _ => rfl)
  refine ⟨_, _, hTG _ (pre0 _ ?_), hrun, hended, _, _, rfl, ?_, ⟨_, rfl⟩, hW, hsame.mono (by decide) (by decide)⟩
  · refine y_aloadN X0 hx 1 (hb hby d20_0) rfl rfl rfl ?_
    refine st149 _ ?_
    show Sx p e below T149 m 4 #[xvr ax, xvr sx] [] _
    refine y_aloadN X149 hx 5 (hb hby d20_4) rfl rfl rfl ?_
    refine y_aloadN X149 hx 6 (hb hby d20_5) rfl rfl rfl ?_
    refine st150 _ ?_
    show Sx p e below T150 m 9 #[xvr ax, xvr sx] [] _
    exact X150.returnOut hx Bd.returns (hb hby d20_9) hr
  · show QrmSI Z G ax sx u1 h0 n0 _ T150.heap _
    rw [e150]
    exact ⟨rfl, N150, ((Keep.refl h0 [ax]).wr W150 (Or.inl (List.mem_of_getElem? (i := 0) rfl))), f151, Fw150⟩
theorem ef_rmOf (m : MethodId) (x0 : Addr)  : entryFrame m #[(.ref x0)] 1 = mkF m 0 #[.val (.ref x0)] [] := by first | (simp [entryFrame, mkF, argsToLocals, Value.category]; done) | rfl
theorem d9_0 : decode prog_36_method_2_code 0 = .ok (.new 8, 3) := by decide +kernel
theorem d9_3 : decode prog_36_method_2_code 3 = .ok (.dup, 1) := by decide +kernel
theorem d9_4 : decode prog_36_method_2_code 4 = .ok (.ldc 13, 2) := by decide +kernel
theorem d9_6 : decode prog_36_method_2_code 6 = .ok (.aload_n 0, 1) := by decide +kernel
theorem d9_7 : decode prog_36_method_2_code 7 = .ok (.invokestatic 15, 3) := by decide +kernel
theorem pd_9 : parseMethodDescriptor "(Ljava/lang/String;Ljava/lang/String;)Ljava/lang/String;" = some ⟨[(.object "java/lang/String"), (.object "java/lang/String")], some (.object "java/lang/String")⟩ := by decide +kernel
theorem d9_10 : decode prog_36_method_2_code 10 = .ok (.invokespecial 19, 3) := by decide +kernel
theorem pd_10 : parseMethodDescriptor "(Ljava/lang/String;)V" = some ⟨[(.object "java/lang/String")], none⟩ := by decide +kernel
theorem d9_13 : decode prog_36_method_2_code 13 = .ok (.areturn, 1) := by decide +kernel
def QrmOf (Z : State) (G : Gs) (sx : Addr) (tx : Addr) (kb : ClassId) (cs : List Int32) (nn : Nat) (h0 : Heap) (n0 : Nat) (v : Option Value) (h : Heap) (L : List Loc) : Prop := ∃ (bx : Addr), v = some (.ref bx) ∧ Fr n0 L ∧ Keep h0 h [] ∧ h0.size ≤ bx ∧ Exa Z h bx "com/example/arbiter/arbiter/store/SchemaName" ∧ Fld Z h bx "com/example/arbiter/arbiter/store/SchemaName" "name" "Ljava/lang/String;" (.ref sx)
set_option maxRecDepth 65536 in
set_option maxHeartbeats 40000000 in
theorem rmOf (l : Launch) (Z : State) (a0 : Array Value) (hw : HW a0 Z) (G : Gs) (ST : StartF Z G) (ws : List Jvm.Cond) (sx : Addr) (tx : Addr) (kb : ClassId) (cs : List Int32) (nn : Nat) (h0 : Heap) (n0 : Nat) (X00 : Old Z n0 h0) (E1 : Exa Z h0 sx "java/lang/String") (F1 : Fld Z h0 sx "java/lang/String" "coder" "B" (.int (0 : Int32))) (F2 : Fld Z h0 sx "java/lang/String" "value" "[B" (.ref tx)) (V1 : Arv Z h0 tx kb .byte (Int32.ofNat nn) ((cs.map (fun c => c.toInt8.toInt32)).map Value.int) (.int (0 : Int32))) (hl : cs.length = nn) (hn1 : 1 ≤ nn) (hn2 : nn ≤ 63) (hok : ∀ c ∈ cs, own_ok c) (hlt : own_let (cs.getD 0 0)) :
    MetFree l (⟨"com/example/arbiter/arbiter/store/SchemaName", "of", "(Ljava/lang/String;)Lcom/example/arbiter/arbiter/store/SchemaName;"⟩ : MethodName) (head1 (Jvm.Cond.code (⟨"com/example/arbiter/arbiter/store/SchemaName", "of", "(Ljava/lang/String;)Lcom/example/arbiter/arbiter/store/SchemaName;"⟩ : MethodName) prog_36_method_2_code 1 (some (.object "com/example/arbiter/arbiter/store/SchemaName")) :: ws) ({ frames := 5, cells := 3, slots := 49, locals := 72 } : Room)) (fun a U => a = #[(.ref sx)] ∧ Z.Warmed39 U.vm ∧ U.heap = h0 ∧ CHv Z EL U.vm h0) (fun _ _ _ _ _ => True) (fun _ U o U' => ∃ v L, o = .returned v ∧ QrmOf Z G sx tx kb cs nn h0 n0 v U'.heap L ∧ CHr Z EL U.vm U.heap U'.vm U'.heap ∧ ReturnedEndW U o U' L ({ frames := 5, cells := 3, slots := 49, locals := 72 } : Room).cells ({ frames := 5, cells := 3, slots := 49, locals := 72 } : Room).slots) := by
  refine MetFree.of_bodySF (plainFor_of_name pn_4) hisR ?_
  intro p e s m args below meth c s₁ Bd hml0 hP hK
  obtain ⟨rfl, hZ, hh, HC0⟩ := hP
  have hx := Bd.exec
  have hby := Bd.bytes
  have hml : c.maxLocals = 1 := hml0
  have hown : s.vm.findClass "com/example/arbiter/arbiter/store/SchemaName" = some m.cls := findClass_of_methodNamed Bd.named
  have hnm := (name_of_methodNamed Bd.named Bd.method).1
  have X0 : Stand p l e ({ frames := 5, cells := 3, slots := 49, locals := 72 } : Room) (s.setVm s.vm) m #[(.ref sx)] below meth c s₁ [] 0 0 := Stand.of_body Bd
  have e0 : s₁.heap = h0 := by rw [← hh, Bd.state]; rfl
  have N0 := Fr.nil n0
  have Z0 : n0 ≤ h0.size := by have q := X00.2.1; rw [X00.1] at q; exact q
  have C0 := CHr.refl HC0
  have hS0 : s.Since s.vm h0.size := (State.WarmedH.refl s).since h0.size
  obtain ⟨TG, hTG, hT2⟩ : ∃ P : State → Prop, (∀ t, P t → Steps p.tables e below (s₁.setTop (entryFrame m #[(.ref sx)] 1)) t) ∧ (∀ t, Steps p.tables e below (s₁.setTop (entryFrame m #[(.ref sx)] 1)) t → P t) := ⟨_, fun t k => k, fun t k => k⟩
  have pre0 : ∀ t, Sx p e below s₁ m 0 #[xvr sx] [] t → TG t := fun t k => hT2 t (castTop (ef_rmOf m sx ) k)
  obtain ⟨T152, h152, X152, e152, E152, A152, D152, -, st152⟩ := newO X0 hx hZ hown (w_42 hw) (w_43 hw) (w_40 hw) e0 (g := (mkF m 0 #[xvr sx] [])) rfl (hb hby d9_0) (by decide) (by decide)
  obtain ⟨b152, g152⟩ : ∃ z, z = h0.size := ⟨_, rfl⟩
  rw [← g152] at A152 D152 st152
  have ch154 := CHr.ext E152 C0.1
  have C153 := C0.trans ch154
  have Fb152_name : Fld Z h152 b152 "com/example/arbiter/arbiter/store/SchemaName" "name" "Ljava/lang/String;" .null := D152 (Or.inr (w_94 hw)) (ty := (.object "java/lang/String")) (by decide)
  obtain ⟨a155, T155, h155, kk155, X155, e155, E155, hS155, hk155, hZ155, hown155, CH155, Li155, st155⟩ := ldcOH X152 hx hZ hown (w_44 hw) (own_SA hw) e152 hS0 E152.1 (own_EW hw) C153.1 (g := (mkF m 4 #[xvr sx] [xwr b152, xwr b152])) rfl (hb hby d9_4) (n := 44) (by decide) (by decide) (by decide) (by decide)
  have C156 := C153.trans CH155
  have f157 := ((E1.ext E152).ext E155)
  have f158 := ((F1.ext E152).ext E155)
  have f159 := ((F2.ext E152).ext E155)
  have f160 := ((V1.ext E152).ext E155)
  have Ol161 : Old Z n0 h155 := ((X00.ext E152).ext E155)
  obtain ⟨_, _, ⟨T162, L162, k162, n162⟩, -, X162, ⟨Lc162, hQ162, l162, y162, z162⟩, st162⟩ := Jvm.LawKit.callS X155 hx (y := (⟨"com/example/arbiter/arbiter/store/SchemaName", "checkIdentifier", "(Ljava/lang/String;Ljava/lang/String;)Ljava/lang/String;"⟩ : MethodName)) hown155 (mvT hZ155 (w_47 hw)) (mvT hZ155 (w_48 hw)) (mvT hZ155 (w_40 hw)) (mvT hZ155 (w_49 hw)) (by decide) (backOf (W := 2) (rmCk l Z a0 hw G ST [] a155 sx tx kb cs nn h155 n0 Ol161 f157 f158 f159 f160 hl hn1 hn2 hok hlt) hZ155 (w_49 hw) (w_40 hw) (by decide) (by decide)) (g := (mkF m 7 #[xvr sx] [xwr sx, xwr a155, xwr b152, xwr b152])) rfl (by rw [hml]; rfl) (argsL := [(.ref a155), (.ref sx)]) (rest := [(.ref b152), (.ref b152)]) (lenOf pd_9 rfl) rfl (by show 2 * 0 + _ ≤ _; exact Nat.le_of_eq rfl) (hb hby d9_7) (fun _ _ => ⟨rfl, e155, (by decide : 3 + 0 ≤ _), (by decide : 49 + 0 ≤ _)⟩)
  dsimp only [Pt.U, Pt.locs, Pt.cells, Pt.slots] at X162 l162 y162 z162 st162 hQ162
  subst l162 y162 z162
  obtain ⟨rfl, N162q, e162⟩ := hQ162
  have N162 := Fr.app N0 N162q
  have f163 := (A152.ext E155)
  have f164 := (Fb152_name.ext E155)
  obtain ⟨_, _, ⟨T165, L165, k165, n165⟩, -, X165, ⟨Lc165, hQ165, l165, y165, z165⟩, st165⟩ := X162.specialBack hx (y := (⟨"com/example/arbiter/arbiter/store/SchemaName", "<init>", "(Ljava/lang/String;)V"⟩ : MethodName)) rfl hown155 (mvT hZ155 (w_89 hw)) (mvT hZ155 (w_90 hw)) (mvT hZ155 (w_91 hw)) (by decide) (backOf (W := 1) (rmSI l Z a0 hw G ST [] b152 sx .null h155 n0 Ol161 f163 f164 (Nat.le_trans Z0 (Nat.le_trans (Nat.le_refl _) (Nat.le_of_eq g152.symm)))) hZ155 (w_91 hw) (w_40 hw) (by decide) (by decide)) (g := (mkF m 10 #[xvr sx] [xwr sx, xwr b152, xwr b152])) rfl (by rw [hml]; rfl) (Steps.refl _) (a := b152) (argsL := [(.ref sx)]) (rest := [(.ref b152)]) (lenOf pd_10 rfl) rfl (by show 2 * 0 + _ ≤ _; exact Nat.le_of_eq rfl) (hb hby d9_10) (fun _ _ => ⟨rfl, e162, (by decide : 3 + 0 ≤ _), (by decide : 49 + 0 ≤ _)⟩)
  dsimp only [Pt.U, Pt.locs, Pt.cells, Pt.slots] at X165 l165 y165 z165 st165 hQ165
  subst l165 y165 z165
  obtain ⟨hp165, e165⟩ : ∃ z, T165.heap = z := ⟨_, rfl⟩
  rw [e165] at hQ165
  obtain ⟨rfl, N165q, K165, p166, p167⟩ := hQ165
  have N165 := Fr.app N162 N165q
  have ch169 := CHr.keep K165 (sfS (Safe.exa hZ155.alike f163 (by decide) (by decide)) sf0) C156.1
  have C168 := C156.trans ch169
  obtain ⟨fs, hr, hrun, hended, hE⟩ := X165.leaveW hS155 (by rw [e165]; exact (Nat.le_trans hk155 K165.1)) (v := some (.ref b152)) (fun h => by rw [Bd.returns] at h; cases h)
  refine ⟨_, _, hTG _ (pre0 _ ?_), hrun, hended, _, _, rfl, ?_, ?_, hE.1, hE.2.1, hE.2.2.1, hE.2.2.2.mono (by decide) (by decide)⟩
  · refine st152 _ ?_
    show Sx p e below T152 m 3 #[xvr sx] [xwr b152] _
    refine y_dup X152 hx 4 (hb hby d9_3) rfl rfl ?_
    refine st155 _ ?_
    show Sx p e below T155 m 6 #[xvr sx] [xwr a155, xwr b152, xwr b152] _
    refine y_aloadN X155 hx 7 (hb hby d9_6) rfl rfl rfl ?_
    refine st162 _ ?_
    show Sx p e below T162 m 10 #[xvr sx] [xwr sx, xwr b152, xwr b152] _
    refine st165.trans ?_
    show Sx p e below T165 m 13 #[xvr sx] [xwr b152] _
    exact retOut X165 hx Bd.returns rfl (Or.inr (Or.inr (Or.inr (Or.inr ⟨rfl, rfl, rfl⟩)))) (hb hby d9_13) hr
  · show QrmOf Z G sx tx kb cs nn h0 n0 _ T165.heap _
    rw [e165]
    exact ⟨b152, rfl, N165, ((((Keep.refl h0 []).ext E152).ext E155).trans K165 (allS (Or.inr (Nat.le_trans (Nat.le_refl _) (Nat.le_of_eq g152.symm))) all0)), (Nat.le_trans (Nat.le_refl _) (Nat.le_of_eq g152.symm)), p166, p167⟩
  · rw [hh]; show CHr Z EL s.vm h0 T165.vm T165.heap; rw [e165]; exact C168.trans (CHv.at X165 hZ155 (own_EW hw) C168.1)
theorem ef_rmNa (m : MethodId) (x0 : Addr)  : entryFrame m #[(.ref x0)] 1 = mkF m 0 #[.val (.ref x0)] [] := by first | (simp [entryFrame, mkF, argsToLocals, Value.category]; done) | rfl
theorem d21_0 : decode prog_36_method_3_code 0 = .ok (.aload_n 0, 1) := by decide +kernel
theorem d21_1 : decode prog_36_method_3_code 1 = .ok (.getfield 7, 3) := by decide +kernel
theorem d21_4 : decode prog_36_method_3_code 4 = .ok (.areturn, 1) := by decide +kernel
def QrmNa (Z : State) (G : Gs) (ax : Addr) (wx : Addr) (h0 : Heap) (n0 : Nat) (v : Option Value) (h : Heap) (L : List Loc) : Prop := v = some (.ref wx) ∧ Fr n0 L ∧ h = h0
set_option maxRecDepth 65536 in
set_option maxHeartbeats 40000000 in
theorem rmNa (l : Launch) (Z : State) (a0 : Array Value) (hw : HW a0 Z) (G : Gs) (ST : StartF Z G) (ws : List Jvm.Cond) (ax : Addr) (wx : Addr) (h0 : Heap) (n0 : Nat) (X00 : Old Z n0 h0) (F1 : Fld Z h0 ax "com/example/arbiter/arbiter/store/SchemaName" "name" "Ljava/lang/String;" (.ref wx)) :
    MetFree l (⟨"com/example/arbiter/arbiter/store/SchemaName", "name", "()Ljava/lang/String;"⟩ : MethodName) (head1 (Jvm.Cond.code (⟨"com/example/arbiter/arbiter/store/SchemaName", "name", "()Ljava/lang/String;"⟩ : MethodName) prog_36_method_3_code 1 (some (.object "java/lang/String")) :: ws) ({ frames := 0, cells := 0, slots := 0, locals := 0 } : Room)) (fun a U => a = #[(.ref ax)] ∧ Z.Warmed39 U.vm ∧ U.heap = h0) (fun _ _ _ _ _ => True) (fun _ U o U' => ∃ v L, o = .returned v ∧ QrmNa Z G ax wx h0 n0 v U'.heap L ∧ FrameEnd U o U' L ({ frames := 0, cells := 0, slots := 0, locals := 0 } : Room).cells ({ frames := 0, cells := 0, slots := 0, locals := 0 } : Room).slots) := by
  refine MetFree.of_bodySF (plainFor_of_name pn_4) hisR ?_
  intro p e s m args below meth c s₁ Bd hml0 hP hK
  obtain ⟨rfl, hZ, hh⟩ := hP
  have hx := Bd.exec
  have hby := Bd.bytes
  have hml : c.maxLocals = 1 := hml0
  have hown : s.vm.findClass "com/example/arbiter/arbiter/store/SchemaName" = some m.cls := findClass_of_methodNamed Bd.named
  have hnm := (name_of_methodNamed Bd.named Bd.method).1
  have X0 : Stand p l e ({ frames := 0, cells := 0, slots := 0, locals := 0 } : Room) s m #[(.ref ax)] below meth c s₁ [] 0 0 := Stand.of_body Bd
  have e0 : s₁.heap = h0 := by rw [← hh, Bd.state]; rfl
  have N0 := Fr.nil n0
  have Z0 : n0 ≤ h0.size := by have q := X00.2.1; rw [X00.1] at q; exact q
  obtain ⟨TG, hTG, hT2⟩ : ∃ P : State → Prop, (∀ t, P t → Steps p.tables e below (s₁.setTop (entryFrame m #[(.ref ax)] 1)) t) ∧ (∀ t, Steps p.tables e below (s₁.setTop (entryFrame m #[(.ref ax)] 1)) t → P t) := ⟨_, fun t k => k, fun t k => k⟩
  have pre0 : ∀ t, Sx p e below s₁ m 0 #[xvr ax] [] t → TG t := fun t k => hT2 t (castTop (ef_rmNa m ax ) k)
  obtain ⟨T170, X170, e170, st170⟩ := getF X0 hx hZ hown (host := "") (Or.inl (w_93 hw)) Via.refl e0 F1 (g := (mkF m 1 #[xvr ax] [xwr ax])) rfl rfl (hb hby d21_1)
  obtain ⟨fs, hr, hrun, hended, hW, hsame⟩ := X170.leave (v := some (.ref wx)) (fun h => by rw [Bd.returns] at h; cases h)
  refine ⟨_, _, hTG _ (pre0 _ ?_), hrun, hended, _, _, rfl, ?_, ⟨_, rfl⟩, hW, hsame.mono (by decide) (by decide)⟩
  · refine y_aloadN X0 hx 1 (hb hby d21_0) rfl rfl rfl ?_
    refine st170 _ ?_
    show Sx p e below T170 m 4 #[xvr ax] [xwr wx] _
    exact retOut X170 hx Bd.returns rfl (Or.inr (Or.inr (Or.inr (Or.inr ⟨rfl, rfl, rfl⟩)))) (hb hby d21_4) hr
  · show QrmNa Z G ax wx h0 n0 _ T170.heap _
    rw [e170]
    exact ⟨rfl, N0, rfl⟩
theorem ef_rmFi (m : MethodId) (x0 : Int32)  : entryFrame m #[(.int x0)] 2 = mkF m 0 #[.val (.int x0), .unset] [] := by first | (simp [entryFrame, mkF, argsToLocals, Value.category]; done) | rfl
theorem d1_0 : decode method_2_code 0 = .ok (.iload_n 0, 1) := by decide +kernel
theorem d1_1 : decode method_2_code 1 = .ok (.ldc 7, 2) := by decide +kernel
theorem d1_3 : decode method_2_code 3 = .ok (.iand, 1) := by decide +kernel
theorem d1_4 : decode method_2_code 4 = .ok (.bipush 52, 2) := by decide +kernel
theorem d1_6 : decode method_2_code 6 = .ok (.irem, 1) := by decide +kernel
theorem d1_7 : decode method_2_code 7 = .ok (.istore_n 1, 1) := by decide +kernel
theorem d1_8 : decode method_2_code 8 = .ok (.iload_n 1, 1) := by decide +kernel
theorem d1_9 : decode method_2_code 9 = .ok (.bipush 26, 2) := by decide +kernel
theorem d1_11 : decode method_2_code 11 = .ok (.if_icmp .ge 9, 3) := by decide +kernel
theorem d1_14 : decode method_2_code 14 = .ok (.bipush 97, 2) := by decide +kernel
theorem d1_16 : decode method_2_code 16 = .ok (.iload_n 1, 1) := by decide +kernel
theorem d1_17 : decode method_2_code 17 = .ok (.iadd, 1) := by decide +kernel
theorem d1_18 : decode method_2_code 18 = .ok (.i2c, 1) := by decide +kernel
theorem d1_19 : decode method_2_code 19 = .ok (.ireturn, 1) := by decide +kernel
theorem d1_20 : decode method_2_code 20 = .ok (.bipush 65, 2) := by decide +kernel
theorem d1_22 : decode method_2_code 22 = .ok (.iload_n 1, 1) := by decide +kernel
theorem d1_23 : decode method_2_code 23 = .ok (.bipush 26, 2) := by decide +kernel
theorem d1_25 : decode method_2_code 25 = .ok (.isub, 1) := by decide +kernel
theorem d1_26 : decode method_2_code 26 = .ok (.iadd, 1) := by decide +kernel
theorem d1_27 : decode method_2_code 27 = .ok (.i2c, 1) := by decide +kernel
theorem d1_28 : decode method_2_code 28 = .ok (.ireturn, 1) := by decide +kernel
theorem pn_5 : plainName "com/example/arbiter/arbiter/store/SchemaNameOfPinLaw" = true := by first | (simp [plainName, overriddenIn]; done) | decide +kernel
def QrmFi (Z : State) (G : Gs) (px : Int32) (h0 : Heap) (n0 : Nat) (v : Option Value) (h : Heap) (L : List Loc) : Prop := ∃ (rx : Int32), v = some (.int rx) ∧ Fr n0 L ∧ h = h0 ∧ own_ok rx ∧ own_let rx
set_option maxRecDepth 65536 in
set_option maxHeartbeats 40000000 in
theorem rmFi (l : Launch) (Z : State) (a0 : Array Value) (hw : HW a0 Z) (G : Gs) (ST : StartF Z G) (ws : List Jvm.Cond) (px : Int32) (h0 : Heap) (n0 : Nat) (X00 : Old Z n0 h0) :
    MetFree l (⟨"com/example/arbiter/arbiter/store/SchemaNameOfPinLaw", "first", "(I)C"⟩ : MethodName) (head1 (Jvm.Cond.code (⟨"com/example/arbiter/arbiter/store/SchemaNameOfPinLaw", "first", "(I)C"⟩ : MethodName) method_2_code 2 (some .char) :: ws) ({ frames := 0, cells := 0, slots := 0, locals := 0 } : Room)) (fun a U => a = #[(.int px)] ∧ Z.Warmed39 U.vm ∧ U.heap = h0) (fun _ _ _ _ _ => True) (fun _ U o U' => ∃ v L, o = .returned v ∧ QrmFi Z G px h0 n0 v U'.heap L ∧ FrameEnd U o U' L ({ frames := 0, cells := 0, slots := 0, locals := 0 } : Room).cells ({ frames := 0, cells := 0, slots := 0, locals := 0 } : Room).slots) := by
  refine MetFree.of_bodySF (plainFor_of_name pn_5) hisR ?_
  intro p e s m args below meth c s₁ Bd hml0 hP hK
  obtain ⟨rfl, hZ, hh⟩ := hP
  have hx := Bd.exec
  have hby := Bd.bytes
  have hml : c.maxLocals = 2 := hml0
  have hown : s.vm.findClass "com/example/arbiter/arbiter/store/SchemaNameOfPinLaw" = some m.cls := findClass_of_methodNamed Bd.named
  have hnm := (name_of_methodNamed Bd.named Bd.method).1
  have X0 : Stand p l e ({ frames := 0, cells := 0, slots := 0, locals := 0 } : Room) s m #[(.int px)] below meth c s₁ [] 0 0 := Stand.of_body Bd
  have e0 : s₁.heap = h0 := by rw [← hh, Bd.state]; rfl
  have N0 := Fr.nil n0
  have Z0 : n0 ≤ h0.size := by have q := X00.2.1; rw [X00.1] at q; exact q
  obtain ⟨TG, hTG, hT2⟩ : ∃ P : State → Prop, (∀ t, P t → Steps p.tables e below (s₁.setTop (entryFrame m #[(.int px)] 2)) t) ∧ (∀ t, Steps p.tables e below (s₁.setTop (entryFrame m #[(.int px)] 2)) t → P t) := ⟨_, fun t k => k, fun t k => k⟩
  have pre0 : ∀ t, Sx p e below s₁ m 0 #[xvi px, xun] [] t → TG t := fun t k => hT2 t (castTop (ef_rmFi m px ) k)
  obtain ⟨ii, e_ii⟩ : ∃ z, z = ((px &&& (2147483647 : Int32)) % (52 : Int32)) := ⟨_, rfl⟩
  obtain ⟨kf, hkf⟩ := own_mod52 px
  rw [← e_ii] at hkf
  have c171 : ∀ t, Sx p e below s₁ m 11 #[xvi px, xvi ii] [xwi (26 : Int32), xwi ii] t → TG t := fun t k => pre0 t (by
    refine y_iloadN X0 hx 1 (hb hby d1_0) rfl rfl ?_
    refine X0.ldcInt hx hown (mvT hZ (w_4 hw)) (g := (mkF m 1 #[xvi px, xun] [xwi px])) rfl (hb hby d1_1) _ ?_
    show Sx p e below s₁ m 3 #[xvi px, xun] [xwi (2147483647 : Int32), xwi px] _
    refine y_iand X0 hx 4 (hb hby d1_3) rfl ?_
    refine y_bipush X0 hx (52 : Int32) 6 (hb hby d1_4) rfl rfl ?_
    refine iremM X0 hx rfl (hb hby d1_6) rfl (by decide) ?_
    show Sx p e below s₁ m 7 #[xvi px, xun] [xwi ((px &&& (2147483647 : Int32)) % (52 : Int32))] _
    rw [← e_ii]
    refine XS.istoreN X0.here hx rfl (hb hby d1_7) rfl (l' := #[xvi px, xvi ii]) rfl ?_
    show Sx p e below s₁ m 8 #[xvi px, xvi ii] [] _
    refine y_iloadN X0 hx 9 (hb hby d1_8) rfl rfl ?_
    refine y_bipush X0 hx (26 : Int32) 11 (hb hby d1_9) rfl rfl ?_
    exact k)
  by_cases hc172 : ii < (26 : Int32)
  · have hall : ∀ k : Fin 52, ((Int32.ofNat k.val) < (26 : Int32)) → own_ok (nar .char (((97 : Int32) + (Int32.ofNat k.val)).toUInt32.toUInt16.toUInt32.toInt32)) ∧ own_let (nar .char (((97 : Int32) + (Int32.ofNat k.val)).toUInt32.toUInt16.toUInt32.toInt32)) := by decide +kernel
    have hthis := hall kf
    rw [← hkf] at hthis
    have hfin := hthis hc172
    obtain ⟨fs, hr, hrun, hended, hW, hsame⟩ := X0.leave (v := some (.int (nar .char (((97 : Int32) + ii).toUInt32.toUInt16.toUInt32.toInt32)))) (fun h => by rw [Bd.returns] at h; cases h)
    refine ⟨_, _, hTG _ (c171 _ ?_), hrun, hended, _, _, rfl, ?_, ⟨_, rfl⟩, hW, hsame.mono (by decide) (by decide)⟩
    · refine y_icmpNo X0 hx 14 (hb hby d1_11) (XT.ii_ge_f hc172) rfl ?_
      refine y_bipush X0 hx (97 : Int32) 16 (hb hby d1_14) rfl rfl ?_
      refine y_iloadN X0 hx 17 (hb hby d1_16) rfl rfl ?_
      refine y_iadd X0 hx 18 (hb hby d1_17) rfl ?_
      refine XS.i2c X0.here hx rfl (hb hby d1_18) rfl ?_
      show Sx p e below s₁ m 19 #[xvi px, xvi ii] [xwi (((97 : Int32) + ii).toUInt32.toUInt16.toUInt32.toInt32)] _
      exact retN X0 hx (t := .char) Bd.returns (by simp) (hb hby d1_19) (hr)
    · show QrmFi Z G px h0 n0 _ s₁.heap _
      rw [e0]
      exact ⟨(nar .char (((97 : Int32) + ii).toUInt32.toUInt16.toUInt32.toInt32)), rfl, N0, rfl, hfin.1, hfin.2⟩
  · have hall : ∀ k : Fin 52, ¬ ((Int32.ofNat k.val) < (26 : Int32)) → own_ok (nar .char (((65 : Int32) + ((Int32.ofNat k.val) - (26 : Int32))).toUInt32.toUInt16.toUInt32.toInt32)) ∧ own_let (nar .char (((65 : Int32) + ((Int32.ofNat k.val) - (26 : Int32))).toUInt32.toUInt16.toUInt32.toInt32)) := by decide +kernel
    have hthis := hall kf
    rw [← hkf] at hthis
    have hfin := hthis hc172
    obtain ⟨fs, hr, hrun, hended, hW, hsame⟩ := X0.leave (v := some (.int (nar .char (((65 : Int32) + (ii - (26 : Int32))).toUInt32.toUInt16.toUInt32.toInt32)))) (fun h => by rw [Bd.returns] at h; cases h)
    refine ⟨_, _, hTG _ (c171 _ ?_), hrun, hended, _, _, rfl, ?_, ⟨_, rfl⟩, hW, hsame.mono (by decide) (by decide)⟩
    · refine y_icmpYes X0 hx 20 (hb hby d1_11) (XT.ii_ge_t hc172) (by decide) (by decide) ?_
      refine y_bipush X0 hx (65 : Int32) 22 (hb hby d1_20) rfl rfl ?_
      refine y_iloadN X0 hx 23 (hb hby d1_22) rfl rfl ?_
      refine y_bipush X0 hx (26 : Int32) 25 (hb hby d1_23) rfl rfl ?_
      refine y_isub X0 hx 26 (hb hby d1_25) rfl ?_
      refine y_iadd X0 hx 27 (hb hby d1_26) rfl ?_
      refine XS.i2c X0.here hx rfl (hb hby d1_27) rfl ?_
      show Sx p e below s₁ m 28 #[xvi px, xvi ii] [xwi (((65 : Int32) + (ii - (26 : Int32))).toUInt32.toUInt16.toUInt32.toInt32)] _
      exact retN X0 hx (t := .char) Bd.returns (by simp) (hb hby d1_28) (hr)
    · show QrmFi Z G px h0 n0 _ s₁.heap _
      rw [e0]
      exact ⟨(nar .char (((65 : Int32) + (ii - (26 : Int32))).toUInt32.toUInt16.toUInt32.toInt32)), rfl, N0, rfl, hfin.1, hfin.2⟩
theorem ef_rmRe (m : MethodId) (x0 : Int32)  : entryFrame m #[(.int x0)] 2 = mkF m 0 #[.val (.int x0), .unset] [] := by first | (simp [entryFrame, mkF, argsToLocals, Value.category]; done) | rfl
theorem d2_0 : decode method_3_code 0 = .ok (.iload_n 0, 1) := by decide +kernel
theorem d2_1 : decode method_3_code 1 = .ok (.ldc 7, 2) := by decide +kernel
theorem d2_3 : decode method_3_code 3 = .ok (.iand, 1) := by decide +kernel
theorem d2_4 : decode method_3_code 4 = .ok (.bipush 63, 2) := by decide +kernel
theorem d2_6 : decode method_3_code 6 = .ok (.irem, 1) := by decide +kernel
theorem d2_7 : decode method_3_code 7 = .ok (.istore_n 1, 1) := by decide +kernel
theorem d2_8 : decode method_3_code 8 = .ok (.iload_n 1, 1) := by decide +kernel
theorem d2_9 : decode method_3_code 9 = .ok (.bipush 26, 2) := by decide +kernel
theorem d2_11 : decode method_3_code 11 = .ok (.if_icmp .ge 9, 3) := by decide +kernel
theorem d2_14 : decode method_3_code 14 = .ok (.bipush 97, 2) := by decide +kernel
theorem d2_16 : decode method_3_code 16 = .ok (.iload_n 1, 1) := by decide +kernel
theorem d2_17 : decode method_3_code 17 = .ok (.iadd, 1) := by decide +kernel
theorem d2_18 : decode method_3_code 18 = .ok (.i2c, 1) := by decide +kernel
theorem d2_19 : decode method_3_code 19 = .ok (.ireturn, 1) := by decide +kernel
theorem d2_20 : decode method_3_code 20 = .ok (.iload_n 1, 1) := by decide +kernel
theorem d2_21 : decode method_3_code 21 = .ok (.bipush 52, 2) := by decide +kernel
theorem d2_23 : decode method_3_code 23 = .ok (.if_icmp .ge 12, 3) := by decide +kernel
theorem d2_26 : decode method_3_code 26 = .ok (.bipush 65, 2) := by decide +kernel
theorem d2_28 : decode method_3_code 28 = .ok (.iload_n 1, 1) := by decide +kernel
theorem d2_29 : decode method_3_code 29 = .ok (.bipush 26, 2) := by decide +kernel
theorem d2_31 : decode method_3_code 31 = .ok (.isub, 1) := by decide +kernel
theorem d2_32 : decode method_3_code 32 = .ok (.iadd, 1) := by decide +kernel
theorem d2_33 : decode method_3_code 33 = .ok (.i2c, 1) := by decide +kernel
theorem d2_34 : decode method_3_code 34 = .ok (.ireturn, 1) := by decide +kernel
theorem d2_35 : decode method_3_code 35 = .ok (.iload_n 1, 1) := by decide +kernel
theorem d2_36 : decode method_3_code 36 = .ok (.bipush 62, 2) := by decide +kernel
theorem d2_38 : decode method_3_code 38 = .ok (.if_icmp .ge 12, 3) := by decide +kernel
theorem d2_41 : decode method_3_code 41 = .ok (.bipush 48, 2) := by decide +kernel
theorem d2_43 : decode method_3_code 43 = .ok (.iload_n 1, 1) := by decide +kernel
theorem d2_44 : decode method_3_code 44 = .ok (.bipush 52, 2) := by decide +kernel
theorem d2_46 : decode method_3_code 46 = .ok (.isub, 1) := by decide +kernel
theorem d2_47 : decode method_3_code 47 = .ok (.iadd, 1) := by decide +kernel
theorem d2_48 : decode method_3_code 48 = .ok (.i2c, 1) := by decide +kernel
theorem d2_49 : decode method_3_code 49 = .ok (.ireturn, 1) := by decide +kernel
theorem d2_50 : decode method_3_code 50 = .ok (.bipush 95, 2) := by decide +kernel
theorem d2_52 : decode method_3_code 52 = .ok (.ireturn, 1) := by decide +kernel
def QrmRe (Z : State) (G : Gs) (px : Int32) (h0 : Heap) (n0 : Nat) (v : Option Value) (h : Heap) (L : List Loc) : Prop := ∃ (rx : Int32), v = some (.int rx) ∧ Fr n0 L ∧ h = h0 ∧ own_ok rx
set_option maxRecDepth 65536 in
set_option maxHeartbeats 40000000 in
theorem rmRe (l : Launch) (Z : State) (a0 : Array Value) (hw : HW a0 Z) (G : Gs) (ST : StartF Z G) (ws : List Jvm.Cond) (px : Int32) (h0 : Heap) (n0 : Nat) (X00 : Old Z n0 h0) :
    MetFree l (⟨"com/example/arbiter/arbiter/store/SchemaNameOfPinLaw", "rest", "(I)C"⟩ : MethodName) (head1 (Jvm.Cond.code (⟨"com/example/arbiter/arbiter/store/SchemaNameOfPinLaw", "rest", "(I)C"⟩ : MethodName) method_3_code 2 (some .char) :: ws) ({ frames := 0, cells := 0, slots := 0, locals := 0 } : Room)) (fun a U => a = #[(.int px)] ∧ Z.Warmed39 U.vm ∧ U.heap = h0) (fun _ _ _ _ _ => True) (fun _ U o U' => ∃ v L, o = .returned v ∧ QrmRe Z G px h0 n0 v U'.heap L ∧ FrameEnd U o U' L ({ frames := 0, cells := 0, slots := 0, locals := 0 } : Room).cells ({ frames := 0, cells := 0, slots := 0, locals := 0 } : Room).slots) := by
  refine MetFree.of_bodySF (plainFor_of_name pn_5) hisR ?_
  intro p e s m args below meth c s₁ Bd hml0 hP hK
  obtain ⟨rfl, hZ, hh⟩ := hP
  have hx := Bd.exec
  have hby := Bd.bytes
  have hml : c.maxLocals = 2 := hml0
  have hown : s.vm.findClass "com/example/arbiter/arbiter/store/SchemaNameOfPinLaw" = some m.cls := findClass_of_methodNamed Bd.named
  have hnm := (name_of_methodNamed Bd.named Bd.method).1
  have X0 : Stand p l e ({ frames := 0, cells := 0, slots := 0, locals := 0 } : Room) s m #[(.int px)] below meth c s₁ [] 0 0 := Stand.of_body Bd
  have e0 : s₁.heap = h0 := by rw [← hh, Bd.state]; rfl
  have N0 := Fr.nil n0
  have Z0 : n0 ≤ h0.size := by have q := X00.2.1; rw [X00.1] at q; exact q
  obtain ⟨TG, hTG, hT2⟩ : ∃ P : State → Prop, (∀ t, P t → Steps p.tables e below (s₁.setTop (entryFrame m #[(.int px)] 2)) t) ∧ (∀ t, Steps p.tables e below (s₁.setTop (entryFrame m #[(.int px)] 2)) t → P t) := ⟨_, fun t k => k, fun t k => k⟩
  have pre0 : ∀ t, Sx p e below s₁ m 0 #[xvi px, xun] [] t → TG t := fun t k => hT2 t (castTop (ef_rmRe m px ) k)
  obtain ⟨ii, e_ii⟩ : ∃ z, z = ((px &&& (2147483647 : Int32)) % (63 : Int32)) := ⟨_, rfl⟩
  obtain ⟨kf, hkf⟩ := own_mod63 px
  rw [← e_ii] at hkf
  have c173 : ∀ t, Sx p e below s₁ m 11 #[xvi px, xvi ii] [xwi (26 : Int32), xwi ii] t → TG t := fun t k => pre0 t (by
    refine y_iloadN X0 hx 1 (hb hby d2_0) rfl rfl ?_
    refine X0.ldcInt hx hown (mvT hZ (w_4 hw)) (g := (mkF m 1 #[xvi px, xun] [xwi px])) rfl (hb hby d2_1) _ ?_
    show Sx p e below s₁ m 3 #[xvi px, xun] [xwi (2147483647 : Int32), xwi px] _
    refine y_iand X0 hx 4 (hb hby d2_3) rfl ?_
    refine y_bipush X0 hx (63 : Int32) 6 (hb hby d2_4) rfl rfl ?_
    refine iremM X0 hx rfl (hb hby d2_6) rfl (by decide) ?_
    show Sx p e below s₁ m 7 #[xvi px, xun] [xwi ((px &&& (2147483647 : Int32)) % (63 : Int32))] _
    rw [← e_ii]
    refine XS.istoreN X0.here hx rfl (hb hby d2_7) rfl (l' := #[xvi px, xvi ii]) rfl ?_
    show Sx p e below s₁ m 8 #[xvi px, xvi ii] [] _
    refine y_iloadN X0 hx 9 (hb hby d2_8) rfl rfl ?_
    refine y_bipush X0 hx (26 : Int32) 11 (hb hby d2_9) rfl rfl ?_
    exact k)
  by_cases hc174 : ii < (26 : Int32)
  · have hall : ∀ k : Fin 63, ((Int32.ofNat k.val) < (26 : Int32)) → own_ok (nar .char (((97 : Int32) + (Int32.ofNat k.val)).toUInt32.toUInt16.toUInt32.toInt32)) := by decide +kernel
    have hthis := hall kf
    rw [← hkf] at hthis
    have hfin := hthis hc174
    obtain ⟨fs, hr, hrun, hended, hW, hsame⟩ := X0.leave (v := some (.int (nar .char (((97 : Int32) + ii).toUInt32.toUInt16.toUInt32.toInt32)))) (fun h => by rw [Bd.returns] at h; cases h)
    refine ⟨_, _, hTG _ (c173 _ ?_), hrun, hended, _, _, rfl, ?_, ⟨_, rfl⟩, hW, hsame.mono (by decide) (by decide)⟩
    · refine y_icmpNo X0 hx 14 (hb hby d2_11) (XT.ii_ge_f hc174) rfl ?_
      refine y_bipush X0 hx (97 : Int32) 16 (hb hby d2_14) rfl rfl ?_
      refine y_iloadN X0 hx 17 (hb hby d2_16) rfl rfl ?_
      refine y_iadd X0 hx 18 (hb hby d2_17) rfl ?_
      refine XS.i2c X0.here hx rfl (hb hby d2_18) rfl ?_
      show Sx p e below s₁ m 19 #[xvi px, xvi ii] [xwi (((97 : Int32) + ii).toUInt32.toUInt16.toUInt32.toInt32)] _
      exact retN X0 hx (t := .char) Bd.returns (by simp) (hb hby d2_19) (hr)
    · show QrmRe Z G px h0 n0 _ s₁.heap _
      rw [e0]
      exact ⟨(nar .char (((97 : Int32) + ii).toUInt32.toUInt16.toUInt32.toInt32)), rfl, N0, rfl, hfin⟩
  · have c175 : ∀ t, Sx p e below s₁ m 23 #[xvi px, xvi ii] [xwi (52 : Int32), xwi ii] t → TG t := fun t k => c173 t (by
      refine y_icmpYes X0 hx 20 (hb hby d2_11) (XT.ii_ge_t hc174) (by decide) (by decide) ?_
      refine y_iloadN X0 hx 21 (hb hby d2_20) rfl rfl ?_
      refine y_bipush X0 hx (52 : Int32) 23 (hb hby d2_21) rfl rfl ?_
      exact k)
    by_cases hc176 : ii < (52 : Int32)
    · have hall : ∀ k : Fin 63, ¬ ((Int32.ofNat k.val) < (26 : Int32)) → ((Int32.ofNat k.val) < (52 : Int32)) → own_ok (nar .char (((65 : Int32) + ((Int32.ofNat k.val) - (26 : Int32))).toUInt32.toUInt16.toUInt32.toInt32)) := by decide +kernel
      have hthis := hall kf
      rw [← hkf] at hthis
      have hfin := hthis hc174 hc176
      obtain ⟨fs, hr, hrun, hended, hW, hsame⟩ := X0.leave (v := some (.int (nar .char (((65 : Int32) + (ii - (26 : Int32))).toUInt32.toUInt16.toUInt32.toInt32)))) (fun h => by rw [Bd.returns] at h; cases h)
      refine ⟨_, _, hTG _ (c175 _ ?_), hrun, hended, _, _, rfl, ?_, ⟨_, rfl⟩, hW, hsame.mono (by decide) (by decide)⟩
      · refine y_icmpNo X0 hx 26 (hb hby d2_23) (XT.ii_ge_f hc176) rfl ?_
        refine y_bipush X0 hx (65 : Int32) 28 (hb hby d2_26) rfl rfl ?_
        refine y_iloadN X0 hx 29 (hb hby d2_28) rfl rfl ?_
        refine y_bipush X0 hx (26 : Int32) 31 (hb hby d2_29) rfl rfl ?_
        refine y_isub X0 hx 32 (hb hby d2_31) rfl ?_
        refine y_iadd X0 hx 33 (hb hby d2_32) rfl ?_
        refine XS.i2c X0.here hx rfl (hb hby d2_33) rfl ?_
        show Sx p e below s₁ m 34 #[xvi px, xvi ii] [xwi (((65 : Int32) + (ii - (26 : Int32))).toUInt32.toUInt16.toUInt32.toInt32)] _
        exact retN X0 hx (t := .char) Bd.returns (by simp) (hb hby d2_34) (hr)
      · show QrmRe Z G px h0 n0 _ s₁.heap _
        rw [e0]
        exact ⟨(nar .char (((65 : Int32) + (ii - (26 : Int32))).toUInt32.toUInt16.toUInt32.toInt32)), rfl, N0, rfl, hfin⟩
    · have c177 : ∀ t, Sx p e below s₁ m 38 #[xvi px, xvi ii] [xwi (62 : Int32), xwi ii] t → TG t := fun t k => c175 t (by
        refine y_icmpYes X0 hx 35 (hb hby d2_23) (XT.ii_ge_t hc176) (by decide) (by decide) ?_
        refine y_iloadN X0 hx 36 (hb hby d2_35) rfl rfl ?_
        refine y_bipush X0 hx (62 : Int32) 38 (hb hby d2_36) rfl rfl ?_
        exact k)
      by_cases hc178 : ii < (62 : Int32)
      · have hall : ∀ k : Fin 63, ¬ ((Int32.ofNat k.val) < (26 : Int32)) → ¬ ((Int32.ofNat k.val) < (52 : Int32)) → ((Int32.ofNat k.val) < (62 : Int32)) → own_ok (nar .char (((48 : Int32) + ((Int32.ofNat k.val) - (52 : Int32))).toUInt32.toUInt16.toUInt32.toInt32)) := by decide +kernel
        have hthis := hall kf
        rw [← hkf] at hthis
        have hfin := hthis hc174 hc176 hc178
        obtain ⟨fs, hr, hrun, hended, hW, hsame⟩ := X0.leave (v := some (.int (nar .char (((48 : Int32) + (ii - (52 : Int32))).toUInt32.toUInt16.toUInt32.toInt32)))) (fun h => by rw [Bd.returns] at h; cases h)
        refine ⟨_, _, hTG _ (c177 _ ?_), hrun, hended, _, _, rfl, ?_, ⟨_, rfl⟩, hW, hsame.mono (by decide) (by decide)⟩
        · refine y_icmpNo X0 hx 41 (hb hby d2_38) (XT.ii_ge_f hc178) rfl ?_
          refine y_bipush X0 hx (48 : Int32) 43 (hb hby d2_41) rfl rfl ?_
          refine y_iloadN X0 hx 44 (hb hby d2_43) rfl rfl ?_
          refine y_bipush X0 hx (52 : Int32) 46 (hb hby d2_44) rfl rfl ?_
          refine y_isub X0 hx 47 (hb hby d2_46) rfl ?_
          refine y_iadd X0 hx 48 (hb hby d2_47) rfl ?_
          refine XS.i2c X0.here hx rfl (hb hby d2_48) rfl ?_
          show Sx p e below s₁ m 49 #[xvi px, xvi ii] [xwi (((48 : Int32) + (ii - (52 : Int32))).toUInt32.toUInt16.toUInt32.toInt32)] _
          exact retN X0 hx (t := .char) Bd.returns (by simp) (hb hby d2_49) (hr)
        · show QrmRe Z G px h0 n0 _ s₁.heap _
          rw [e0]
          exact ⟨(nar .char (((48 : Int32) + (ii - (52 : Int32))).toUInt32.toUInt16.toUInt32.toInt32)), rfl, N0, rfl, hfin⟩
      · have hall : ∀ k : Fin 63, ¬ ((Int32.ofNat k.val) < (26 : Int32)) → ¬ ((Int32.ofNat k.val) < (52 : Int32)) → ¬ ((Int32.ofNat k.val) < (62 : Int32)) → own_ok (95 : Int32) := by decide +kernel
        have hthis := hall kf
        rw [← hkf] at hthis
        have hfin := hthis hc174 hc176 hc178
        obtain ⟨fs, hr, hrun, hended, hW, hsame⟩ := X0.leave (v := some (.int (95 : Int32))) (fun h => by rw [Bd.returns] at h; cases h)
        refine ⟨_, _, hTG _ (c177 _ ?_), hrun, hended, _, _, rfl, ?_, ⟨_, rfl⟩, hW, hsame.mono (by decide) (by decide)⟩
        · refine y_icmpYes X0 hx 50 (hb hby d2_38) (XT.ii_ge_t hc178) (by decide) (by decide) ?_
          refine y_bipush X0 hx (95 : Int32) 52 (hb hby d2_50) rfl rfl ?_
          show Sx p e below s₁ m 52 #[xvi px, xvi ii] [xwi (95 : Int32)] _
          exact retN X0 hx (t := .char) Bd.returns (by simp) (hb hby d2_52) (hr)
        · show QrmRe Z G px h0 n0 _ s₁.heap _
          rw [e0]
          exact ⟨(95 : Int32), rfl, N0, rfl, hfin⟩
theorem ef_rm0 (m : MethodId) (x0 : Int32) (x1 : Int32) (x2 : Int32) (x3 : Int32) (x4 : Int32)  : entryFrame m #[(.int x0), (.int x1), (.int x2), (.int x3), (.int x4)] maxLocals = mkF m 0 #[.val (.int x0), .val (.int x1), .val (.int x2), .val (.int x3), .val (.int x4), .unset, .unset, .unset, .unset, .unset, .unset, .unset, .unset, .unset] [] := by first | (simp [entryFrame, mkF, argsToLocals, Value.category, maxLocals]; done) | rfl
theorem pd_11 : parseMethodDescriptor "([C)V" = some ⟨[(.array .char)], none⟩ := by decide +kernel
theorem pd_12 : parseMethodDescriptor "(Ljava/lang/String;)Lcom/example/arbiter/arbiter/store/SchemaName;" = some ⟨[(.object "java/lang/String")], some (.object "com/example/arbiter/arbiter/store/SchemaName")⟩ := by decide +kernel
theorem pd_13 : parseMethodDescriptor "()Ljava/lang/String;" = some ⟨[], some (.object "java/lang/String")⟩ := by decide +kernel
theorem pd_14 : parseMethodDescriptor "(Ljava/lang/Object;)Z" = some ⟨[(.object "java/lang/Object")], some .boolean⟩ := by decide +kernel
def Qrm0 (Z : State) (G : Gs) (p0 : Int32) (p1 : Int32) (p2 : Int32) (p3 : Int32) (p4 : Int32) (h0 : Heap) (n0 : Nat) (v : Option Value) (h : Heap) (L : List Loc) : Prop := v = some (.int (1 : Int32)) ∧ Fr n0 L ∧ Keep h0 h []
set_option maxRecDepth 65536 in
set_option maxHeartbeats 40000000 in
theorem rm0 (l : Launch) (Z : State) (a0 : Array Value) (hw : HW a0 Z) (G : Gs) (ST : StartF Z G) (ws : List Jvm.Cond) (p0 : Int32) (p1 : Int32) (p2 : Int32) (p3 : Int32) (p4 : Int32) (h0 : Heap) (n0 : Nat) (X00 : Old Z n0 h0) :
    MetFree l x (head1 (Jvm.Cond.code x code maxLocals ret :: ws) room_1) (fun a U => a = #[(.int p0), (.int p1), (.int p2), (.int p3), (.int p4)] ∧ Z.Warmed39 U.vm ∧ U.heap = h0 ∧ CHv Z EL U.vm h0) (fun _ _ _ _ _ => True) (fun _ U o U' => ∃ v L, o = .returned v ∧ Qrm0 Z G p0 p1 p2 p3 p4 h0 n0 v U'.heap L ∧ CHr Z EL U.vm U.heap U'.vm U'.heap ∧ ReturnedEndW U o U' L 6 179) := by
  refine MetFree.of_bodySF (plainFor_of_name pn_5) hisR ?_
  intro p e s m args below meth c s₁ Bd hml0 hP hK
  obtain ⟨rfl, hZ, hh, HC0⟩ := hP
  have hx := Bd.exec
  have hby := Bd.bytes
  have hml : c.maxLocals = 14 := hml0
  have hown : s.vm.findClass "com/example/arbiter/arbiter/store/SchemaNameOfPinLaw" = some m.cls := findClass_of_methodNamed Bd.named
  have hnm := (name_of_methodNamed Bd.named Bd.method).1
  have X0 : Stand p l e room_1 (s.setVm s.vm) m #[(.int p0), (.int p1), (.int p2), (.int p3), (.int p4)] below meth c s₁ [] 0 0 := Stand.of_body Bd
  have e0 : s₁.heap = h0 := by rw [← hh, Bd.state]; rfl
  have N0 := Fr.nil n0
  have Z0 : n0 ≤ h0.size := by have q := X00.2.1; rw [X00.1] at q; exact q
  have C0 := CHr.refl HC0
  have hS0 : s.Since s.vm h0.size := (State.WarmedH.refl s).since h0.size
  obtain ⟨TG, hTG, hT2⟩ : ∃ P : State → Prop, (∀ t, P t → Steps p.tables e below (s₁.setTop (entryFrame m #[(.int p0), (.int p1), (.int p2), (.int p3), (.int p4)] maxLocals)) t) ∧ (∀ t, Steps p.tables e below (s₁.setTop (entryFrame m #[(.int p0), (.int p1), (.int p2), (.int p3), (.int p4)] maxLocals)) t → P t) := ⟨_, fun t k => k, fun t k => k⟩
  have pre0 : ∀ t, Sx p e below s₁ m 0 #[xvi p0, xvi p1, xvi p2, xvi p3, xvi p4, xun, xun, xun, xun, xun, xun, xun, xun, xun] [] t → TG t := fun t k => hT2 t (castTop (ef_rm0 m p0 p1 p2 p3 p4 ) k)
  obtain ⟨_, _, ⟨T179, L179, k179, n179⟩, -, X179, ⟨Lc179, hQ179, l179, y179, z179⟩, st179⟩ := Jvm.LawKit.callS X0 hx (y := (⟨"com/example/arbiter/arbiter/store/SchemaNameOfPinLaw", "first", "(I)C"⟩ : MethodName)) hown (mvT hZ (w_0 hw)) (mvT hZ (w_1 hw)) (mvT hZ (w_2 hw)) (mvT hZ (w_3 hw)) (by decide) (backOf (W := 0) (rmFi l Z a0 hw G ST [] p1 h0 n0 X00 ) hZ (w_3 hw) (w_2 hw) (by decide) (by decide)) (g := (mkF m 1 #[xvi p0, xvi p1, xvi p2, xvi p3, xvi p4, xun, xun, xun, xun, xun, xun, xun, xun, xun] [xwi p1])) rfl (by rw [hml]; rfl) (argsL := [(.int p1)]) (rest := []) (lenOf pd_7 rfl) rfl (by show 2 * 0 + _ ≤ _; exact Nat.le_of_eq rfl) (hb hby at_1) (fun _ _ => ⟨rfl, e0, (by decide : 0 + 0 ≤ _), (by decide : 0 + 0 ≤ _)⟩)
  dsimp only [Pt.U, Pt.locs, Pt.cells, Pt.slots] at X179 l179 y179 z179 st179 hQ179
  subst l179 y179 z179
  obtain ⟨o180, rfl, N179q, e179, p181, p182⟩ := hQ179
  have N179 := Fr.app N0 N179q
  obtain ⟨_, _, ⟨T183, L183, k183, n183⟩, -, X183, ⟨Lc183, hQ183, l183, y183, z183⟩, st183⟩ := Jvm.LawKit.callS X179 hx (y := (⟨"com/example/arbiter/arbiter/store/SchemaNameOfPinLaw", "rest", "(I)C"⟩ : MethodName)) hown (mvT hZ (w_5 hw)) (mvT hZ (w_6 hw)) (mvT hZ (w_2 hw)) (mvT hZ (w_7 hw)) (by decide) (backOf (W := 0) (rmRe l Z a0 hw G ST [] p2 h0 n0 X00 ) hZ (w_7 hw) (w_2 hw) (by decide) (by decide)) (g := (mkF m 7 #[xvi p0, xvi p1, xvi p2, xvi p3, xvi p4, xvi o180, xun, xun, xun, xun, xun, xun, xun, xun] [xwi p2])) rfl (by rw [hml]; rfl) (argsL := [(.int p2)]) (rest := []) (lenOf pd_7 rfl) rfl (by show 2 * 0 + _ ≤ _; exact Nat.le_of_eq rfl) (hb hby at_7) (fun _ _ => ⟨rfl, e179, (by decide : 0 + 0 ≤ _), (by decide : 0 + 0 ≤ _)⟩)
  dsimp only [Pt.U, Pt.locs, Pt.cells, Pt.slots] at X183 l183 y183 z183 st183 hQ183
  subst l183 y183 z183
  obtain ⟨o184, rfl, N183q, e183, p185⟩ := hQ183
  have N183 := Fr.app N179 N183q
  obtain ⟨_, _, ⟨T186, L186, k186, n186⟩, -, X186, ⟨Lc186, hQ186, l186, y186, z186⟩, st186⟩ := Jvm.LawKit.callS X183 hx (y := (⟨"com/example/arbiter/arbiter/store/SchemaNameOfPinLaw", "rest", "(I)C"⟩ : MethodName)) hown (mvT hZ (w_5 hw)) (mvT hZ (w_6 hw)) (mvT hZ (w_2 hw)) (mvT hZ (w_7 hw)) (by decide) (backOf (W := 0) (rmRe l Z a0 hw G ST [] p3 h0 n0 X00 ) hZ (w_7 hw) (w_2 hw) (by decide) (by decide)) (g := (mkF m 13 #[xvi p0, xvi p1, xvi p2, xvi p3, xvi p4, xvi o180, xvi o184, xun, xun, xun, xun, xun, xun, xun] [xwi p3])) rfl (by rw [hml]; rfl) (argsL := [(.int p3)]) (rest := []) (lenOf pd_7 rfl) rfl (by show 2 * 0 + _ ≤ _; exact Nat.le_of_eq rfl) (hb hby at_13) (fun _ _ => ⟨rfl, e183, (by decide : 0 + 0 ≤ _), (by decide : 0 + 0 ≤ _)⟩)
  dsimp only [Pt.U, Pt.locs, Pt.cells, Pt.slots] at X186 l186 y186 z186 st186 hQ186
  subst l186 y186 z186
  obtain ⟨o187, rfl, N186q, e186, p188⟩ := hQ186
  have N186 := Fr.app N183 N186q
  obtain ⟨_, _, ⟨T189, L189, k189, n189⟩, -, X189, ⟨Lc189, hQ189, l189, y189, z189⟩, st189⟩ := Jvm.LawKit.callS X186 hx (y := (⟨"com/example/arbiter/arbiter/store/SchemaNameOfPinLaw", "rest", "(I)C"⟩ : MethodName)) hown (mvT hZ (w_5 hw)) (mvT hZ (w_6 hw)) (mvT hZ (w_2 hw)) (mvT hZ (w_7 hw)) (by decide) (backOf (W := 0) (rmRe l Z a0 hw G ST [] p4 h0 n0 X00 ) hZ (w_7 hw) (w_2 hw) (by decide) (by decide)) (g := (mkF m 20 #[xvi p0, xvi p1, xvi p2, xvi p3, xvi p4, xvi o180, xvi o184, xvi o187, xun, xun, xun, xun, xun, xun] [xwi p4])) rfl (by rw [hml]; rfl) (argsL := [(.int p4)]) (rest := []) (lenOf pd_7 rfl) rfl (by show 2 * 0 + _ ≤ _; exact Nat.le_of_eq rfl) (hb hby at_20) (fun _ _ => ⟨rfl, e186, (by decide : 0 + 0 ≤ _), (by decide : 0 + 0 ≤ _)⟩)
  dsimp only [Pt.U, Pt.locs, Pt.cells, Pt.slots] at X189 l189 y189 z189 st189 hQ189
  subst l189 y189 z189
  obtain ⟨o190, rfl, N189q, e189, p191⟩ := hQ189
  have N189 := Fr.app N186 N189q
  have c192 : ∀ t, Sx p e below T189 m 33 #[xvi p0, xvi p1, xvi p2, xvi p3, xvi p4, xvi o180, xvi o184, xvi o187, xvi o190, xvi (p0 &&& (7 : Int32)), xun, xun, xun, xun] [xwi (p0 &&& (7 : Int32))] t → TG t := fun t k => pre0 t (by
    refine y_iloadN X0 hx 1 (hb hby at_0) rfl rfl ?_
    refine st179 _ ?_
    show Sx p e below T179 m 4 #[xvi p0, xvi p1, xvi p2, xvi p3, xvi p4, xun, xun, xun, xun, xun, xun, xun, xun, xun] [xwi o180] _
    refine XS.istore X179.here hx rfl (hb hby at_4) rfl (l' := #[xvi p0, xvi p1, xvi p2, xvi p3, xvi p4, xvi o180, xun, xun, xun, xun, xun, xun, xun, xun]) rfl ?_
    show Sx p e below T179 m 6 #[xvi p0, xvi p1, xvi p2, xvi p3, xvi p4, xvi o180, xun, xun, xun, xun, xun, xun, xun, xun] [] _
    refine y_iloadN X179 hx 7 (hb hby at_6) rfl rfl ?_
    refine st183 _ ?_
    show Sx p e below T183 m 10 #[xvi p0, xvi p1, xvi p2, xvi p3, xvi p4, xvi o180, xun, xun, xun, xun, xun, xun, xun, xun] [xwi o184] _
    refine XS.istore X183.here hx rfl (hb hby at_10) rfl (l' := #[xvi p0, xvi p1, xvi p2, xvi p3, xvi p4, xvi o180, xvi o184, xun, xun, xun, xun, xun, xun, xun]) rfl ?_
    show Sx p e below T183 m 12 #[xvi p0, xvi p1, xvi p2, xvi p3, xvi p4, xvi o180, xvi o184, xun, xun, xun, xun, xun, xun, xun] [] _
    refine y_iloadN X183 hx 13 (hb hby at_12) rfl rfl ?_
    refine st186 _ ?_
    show Sx p e below T186 m 16 #[xvi p0, xvi p1, xvi p2, xvi p3, xvi p4, xvi o180, xvi o184, xun, xun, xun, xun, xun, xun, xun] [xwi o187] _
    refine XS.istore X186.here hx rfl (hb hby at_16) rfl (l' := #[xvi p0, xvi p1, xvi p2, xvi p3, xvi p4, xvi o180, xvi o184, xvi o187, xun, xun, xun, xun, xun, xun]) rfl ?_
    show Sx p e below T186 m 18 #[xvi p0, xvi p1, xvi p2, xvi p3, xvi p4, xvi o180, xvi o184, xvi o187, xun, xun, xun, xun, xun, xun] [] _
    refine y_iload X186 hx 20 (hb hby at_18) rfl rfl ?_
    refine st189 _ ?_
    show Sx p e below T189 m 23 #[xvi p0, xvi p1, xvi p2, xvi p3, xvi p4, xvi o180, xvi o184, xvi o187, xun, xun, xun, xun, xun, xun] [xwi o190] _
    refine XS.istore X189.here hx rfl (hb hby at_23) rfl (l' := #[xvi p0, xvi p1, xvi p2, xvi p3, xvi p4, xvi o180, xvi o184, xvi o187, xvi o190, xun, xun, xun, xun, xun]) rfl ?_
    show Sx p e below T189 m 25 #[xvi p0, xvi p1, xvi p2, xvi p3, xvi p4, xvi o180, xvi o184, xvi o187, xvi o190, xun, xun, xun, xun, xun] [] _
    refine y_iloadN X189 hx 26 (hb hby at_25) rfl rfl ?_
    refine y_bipush X189 hx (7 : Int32) 28 (hb hby at_26) rfl rfl ?_
    refine y_iand X189 hx 29 (hb hby at_28) rfl ?_
    refine XS.istore X189.here hx rfl (hb hby at_29) rfl (l' := #[xvi p0, xvi p1, xvi p2, xvi p3, xvi p4, xvi o180, xvi o184, xvi o187, xvi o190, xvi (p0 &&& (7 : Int32)), xun, xun, xun, xun]) rfl ?_
    show Sx p e below T189 m 31 #[xvi p0, xvi p1, xvi p2, xvi p3, xvi p4, xvi o180, xvi o184, xvi o187, xvi o190, xvi (p0 &&& (7 : Int32)), xun, xun, xun, xun] [] _
    refine y_iload X189 hx 33 (hb hby at_31) rfl rfl ?_
    exact k)
  by_cases hc193 : (p0 &&& (7 : Int32)) = (0 : Int32)
  · obtain ⟨T194, h194, k194, X194, e194, E194, A194, st194⟩ := newP (aty := .char) X189 hx hZ (w_8 hw) e189 (g := (mkF m 37 #[xvi p0, xvi p1, xvi p2, xvi p3, xvi p4, xvi o180, xvi o184, xvi o187, xvi o190, xvi (p0 &&& (7 : Int32)), xun, xun, xun, xun] [xwi (1 : Int32)])) rfl (hb hby at_37) rfl (by decide) (cap := 1) (by decide) (by decide) (by decide) (by decide)
    obtain ⟨b194, g194⟩ : ∃ z, z = h0.size := ⟨_, rfl⟩
    rw [← g194] at A194 st194
    have ch196 := CHr.ext E194 C0.1
    have C195 := C0.trans ch196
    have V194 : Arv Z h194 b194 k194 .char (1 : Int32) [(.int (0 : Int32))] (.int (0 : Int32)) := (Arv.new A194 (by decide)).pad (pad_rep [] (.int (0 : Int32)) 1)
    obtain ⟨cl197, Ar197, q197, S197, M197, H197, G197⟩ := id V194
    have in197 : ¬ ((0 : Int32) < 0 ∨ cl197.slots.size ≤ ((0 : Int32)).toNatClampNeg) := inb_of S197 ⟨by decide, by decide⟩
    obtain ⟨T198, h198, X198, e198, W198, st198⟩ := stC X194 hx hZ e194 Ar197 (j := (0 : Int32)) in197 (g := (mkF m 43 #[xvi p0, xvi p1, xvi p2, xvi p3, xvi p4, xvi o180, xvi o184, xvi o187, xvi o190, xvi (p0 &&& (7 : Int32)), xun, xun, xun, xun] [xwi o180, xwi (0 : Int32), xwr b194, xwr b194])) rfl rfl (hb hby at_43)
    have ch200 := CHr.wr W198 (Safe.arv hZ.alike V194 (by decide)) C195.1
    have C199 := C195.trans ch200
    have V198 : Arv Z h198 b194 k194 .char (1 : Int32) [(.int o180)] (.int (0 : Int32)) := by have q := Arv.set Ar197 q197 S197 M197 H197 G197 (fits_nar_char _) W198 0 rfl (Nat.le_of_ble_eq_true rfl); rw [own_narc p181.1] at q; exact q
    have N198 := Fr.snoc X198 N189 (Nat.le_trans Z0 (Nat.le_trans (Nat.le_refl _) (Nat.le_of_eq g194.symm)))
    obtain ⟨T201, h201, X201, e201, E201, A201, D201, -, st201⟩ := newO X198 hx hZ hown (w_9 hw) (w_10 hw) (w_11 hw) e198 (g := (mkF m 514 #[xvi p0, xvi p1, xvi p2, xvi p3, xvi p4, xvi o180, xvi o184, xvi o187, xvi o190, xvi (p0 &&& (7 : Int32)), xvr b194, xun, xun, xun] [])) rfl (hb hby at_514) (by decide) (by decide)
    obtain ⟨b201, g201⟩ : ∃ z, z = h198.size := ⟨_, rfl⟩
    rw [← g201] at A201 D201 st201
    have ch203 := CHr.ext E201 C199.1
    have C202 := C199.trans ch203
    have Fb201_coder : Fld Z h201 b201 "java/lang/String" "coder" "B" (.int (0 : Int32)) := D201 (Or.inr (w_35 hw)) (ty := .byte) (by decide)
    have Fb201_value : Fld Z h201 b201 "java/lang/String" "value" "[B" .null := D201 (Or.inr (w_37 hw)) (ty := (.array .byte)) (by decide)
    have hp204 : ∀ c ∈ ([o180] : List Int32), ¬ c < 0 ∧ ¬ (255 : Int32) < c := (own_fc p181.1 own_fn)
    have f205 := (V198.ext E201)
    have Ol206 : Old Z n0 h201 := (((X00.ext E194).wr W198 (Nat.le_trans Z0 (Nat.le_trans (Nat.le_refl _) (Nat.le_of_eq g194.symm)))).ext E201)
    obtain ⟨_, _, ⟨T207, L207, k207, n207⟩, -, X207, ⟨Lc207, hQ207, l207, y207, z207⟩, st207⟩ := X201.specialBack hx (y := (⟨"java/lang/String", "<init>", "([C)V"⟩ : MethodName)) rfl hown (mvT hZ (w_12 hw)) (mvT hZ (w_13 hw)) (mvT hZ (w_14 hw)) (by decide) (StrChars.Road.backV (W := 1) hZ (own_wV hw) (kI := 4) (w_10 hw) (cs := ([o180] : List Int32)) (bs := (([o180] : List Int32).map (fun c => c.toInt8.toInt32))) (n := 1) (Nat.le_trans Z0 (Nat.le_trans (Nat.le_trans E194.1 (Nat.le_of_eq W198.size.symm)) (Nat.le_of_eq g201.symm))) (Nat.le_trans Z0 (Nat.le_trans (Nat.le_trans E194.1 (Nat.le_of_eq W198.size.symm)) E201.1)) A201 Fb201_value Fb201_coder f205 (ST.1.ext Ol206.2) ST.2.1 rfl rfl (by decide) (by decide) hp204 rfl (by decide) (by decide)) (g := (mkF m 520 #[xvi p0, xvi p1, xvi p2, xvi p3, xvi p4, xvi o180, xvi o184, xvi o187, xvi o190, xvi (p0 &&& (7 : Int32)), xvr b194, xun, xun, xun] [xwr b194, xwr b201, xwr b201])) rfl (by rw [hml]; rfl) (Steps.refl _) (a := b201) (argsL := [(.ref b194)]) (rest := [(.ref b201)]) (lenOf pd_11 rfl) rfl (by show 2 * 0 + _ ≤ _; exact Nat.le_of_eq rfl) (hb hby at_520) (fun _ _ => ⟨rfl, e201, (by decide : 2 + 1 ≤ _), (by decide : 5 + 1 ≤ _)⟩)
    dsimp only [Pt.U, Pt.locs, Pt.cells, Pt.slots] at X207 l207 y207 z207 st207 hQ207
    subst l207 y207 z207
    obtain ⟨hp207, e207⟩ : ∃ z, T207.heap = z := ⟨_, rfl⟩
    rw [e207] at hQ207
    obtain ⟨rfl, N207q, K207, E207, Fc207, t207, kb207, -, gt207, -, Fv207, V207⟩ := hQ207
    have N207 := Fr.app N198 N207q
    have sf210 := (Safe.ext E201 C199.1 (Safe.new (Nat.le_of_eq g201.symm)))
    have ch209 := CHr.keep K207 (sfS sf210 sf0) C202.1
    have C208 := C202.trans ch209
    have hok : ∀ c ∈ ([o180] : List Int32), own_ok c := (own_fc p181 own_fn)
    have Ol211 : Old Z n0 hp207 := (Ol206.keep K207 (allS (Nat.le_trans Z0 (Nat.le_trans (Nat.le_trans E194.1 (Nat.le_of_eq W198.size.symm)) (Nat.le_of_eq g201.symm))) all0))
    obtain ⟨_, _, ⟨T212, L212, k212, n212⟩, -, X212, hS212, g212, ⟨Lc212, hQ212, l212, y212, z212, CH212⟩, st212⟩ := callSS X207 hx (y := (⟨"com/example/arbiter/arbiter/store/SchemaName", "of", "(Ljava/lang/String;)Lcom/example/arbiter/arbiter/store/SchemaName;"⟩ : MethodName)) hown (mvT hZ (w_38 hw)) (mvT hZ (w_39 hw)) (mvT hZ (w_40 hw)) (mvT hZ (w_41 hw)) (by decide) (backOfSH (W := 0) (rmOf l Z a0 hw G ST [] b201 t207 kb207 ([o180] : List Int32) 1 hp207 n0 Ol211 E207 Fc207 Fv207 V207 rfl (by decide) (by decide) hok p182) hZ (w_41 hw) (w_40 hw) (by decide) (by decide) (own_EW hw) C208.1) (g := (mkF m 527 #[xvi p0, xvi p1, xvi p2, xvi p3, xvi p4, xvi o180, xvi o184, xvi o187, xvi o190, xvi (p0 &&& (7 : Int32)), xvr b194, xvr b201, xun, xun] [xwr b201])) rfl (by rw [hml]; rfl) (argsL := [(.ref b201)]) (rest := []) (lenOf pd_12 rfl) rfl (by show 2 * 0 + _ ≤ _; exact Nat.le_of_eq rfl) (hb hby at_527) (fun _ _ => ⟨rfl, e207, (by decide : 3 + 3 ≤ _), (by decide : 6 + 49 ≤ _)⟩)
    dsimp only [Pt.U, Pt.locs, Pt.cells, Pt.slots] at X212 l212 y212 z212 st212 hQ212 CH212 hS212 g212
    subst l212 y212 z212
    obtain ⟨hp212, e212⟩ : ∃ z, T212.heap = z := ⟨_, rfl⟩
    rw [e212] at hQ212 CH212 hS212 g212
    rw [e207] at g212
    obtain ⟨X212, hS212, hZ212, hown212⟩ := rebS hS0 (Nat.le_trans (Nat.le_trans (Nat.le_trans E194.1 (Nat.le_of_eq W198.size.symm)) E201.1) K207.1) X212 hS212 g212 hZ hown
    obtain ⟨o213, rfl, N212q, K212, p214, p215, p216⟩ := hQ212
    have N212 := Fr.app N207 N212q
    have C217 := C208.trans CH212
    have Ol218 : Old Z n0 hp212 := (Ol211.keep K212 all0)
    obtain ⟨cq220, kq220, q220a, q220b, q220c⟩ := isOf hZ212 e212 p215
    obtain ⟨_, _, ⟨T219, L219, k219, n219⟩, -, X219, ⟨Lc219, hQ219, l219, y219, z219⟩, st219⟩ := X212.virtualBack hx (y := (⟨"com/example/arbiter/arbiter/store/SchemaName", "name", "()Ljava/lang/String;"⟩ : MethodName)) (z := (⟨"com/example/arbiter/arbiter/store/SchemaName", "name", "()Ljava/lang/String;"⟩ : MethodName)) hown212 (mvT hZ212 (w_95 hw)) (mvT hZ212 (w_96 hw)) (notFace_of_selects (args := #[]) (mvT hZ212 (w_98 hw))) (mvT hZ212 (w_98 hw)) (mvT hZ212 (w_97 hw)) (by decide) (backOf (W := 0) (rmNa l Z a0 hw G ST [] o213 b201 hp212 n0 Ol218 p216) hZ212 (w_99 hw) (w_40 hw) (by decide) (by decide)) q220a q220c (g := (mkF m 534 #[xvi p0, xvi p1, xvi p2, xvi p3, xvi p4, xvi o180, xvi o184, xvi o187, xvi o190, xvi (p0 &&& (7 : Int32)), xvr b194, xvr b201, xvr o213, xun] [xwr o213])) rfl (by rw [hml]; rfl) (Steps.refl _) (argsL := []) (rest := []) (lenOf pd_13 rfl) rfl (by show 2 * 0 + _ ≤ _; exact Nat.le_of_eq rfl) (hb hby at_534) (fun _ _ => ⟨rfl, e212, (by decide : 6 + 0 ≤ _), (by decide : 55 + 0 ≤ _)⟩)
    dsimp only [Pt.U, Pt.locs, Pt.cells, Pt.slots] at X219 l219 y219 z219 st219 hQ219
    subst l219 y219 z219
    obtain ⟨rfl, N219q, e219⟩ := hQ219
    have N219 := Fr.app N212 N219q
    have f222 := (E207.keep K212)
    obtain ⟨cq223, kq223, q223a, q223b, q223c⟩ := isOf hZ212 e219 f222
    obtain ⟨_, _, ⟨T221, L221, k221, n221⟩, -, X221, ⟨Lc221, hQ221, l221, y221, z221⟩, st221⟩ := X219.virtualBack hx (y := (⟨"java/lang/String", "equals", "(Ljava/lang/Object;)Z"⟩ : MethodName)) (z := (⟨"java/lang/String", "equals", "(Ljava/lang/Object;)Z"⟩ : MethodName)) hown212 (mvT hZ212 (w_100 hw)) (mvT hZ212 (w_101 hw)) (notFace_of_selects (args := #[]) (mvT hZ212 (w_103 hw))) (mvT hZ212 (w_103 hw)) (mvT hZ212 (w_102 hw)) (by decide) (backOf (W := 0) (rmEqS l Z a0 hw G ST [] b201 hp212 n0 Ol218 ) hZ212 (w_104 hw) (w_11 hw) (by decide) (by decide)) q223a q223c (g := (mkF m 543 #[xvi p0, xvi p1, xvi p2, xvi p3, xvi p4, xvi o180, xvi o184, xvi o187, xvi o190, xvi (p0 &&& (7 : Int32)), xvr b194, xvr b201, xvr o213, xvr b201] [xwr b201, xwr b201])) rfl (by rw [hml]; rfl) (Steps.refl _) (argsL := [(.ref b201)]) (rest := []) (lenOf pd_14 rfl) rfl (by show 2 * 0 + _ ≤ _; exact Nat.le_of_eq rfl) (hb hby at_543) (fun _ _ => ⟨rfl, e219, (by decide : 6 + 0 ≤ _), (by decide : 55 + 0 ≤ _)⟩)
    dsimp only [Pt.U, Pt.locs, Pt.cells, Pt.slots] at X221 l221 y221 z221 st221 hQ221
    subst l221 y221 z221
    obtain ⟨rfl, N221q, e221⟩ := hQ221
    have N221 := Fr.app N219 N221q
    have f224 := (Fc207.keep K212 nin0)
    have f225 := (Fv207.keep K212 nin0)
    have f226 := (V207.keep K212 nin0)
    obtain ⟨cq228, kq228, q228a, q228b, q228c⟩ := isOf hZ212 e221 f222
    obtain ⟨_, _, ⟨T227, L227, k227, n227⟩, -, X227, ⟨Lc227, hQ227, l227, y227, z227⟩, st227⟩ := X221.virtualBack hx (y := (⟨"java/lang/String", "length", "()I"⟩ : MethodName)) (z := (⟨"java/lang/String", "length", "()I"⟩ : MethodName)) hown212 (mvT hZ212 (w_105 hw)) (mvT hZ212 (w_55 hw)) (notFace_of_selects (args := #[]) (mvT hZ212 (w_57 hw))) (mvT hZ212 (w_57 hw)) (mvT hZ212 (w_56 hw)) (by decide) (backOf (W := 0) (rmLen l Z a0 hw G ST [] b201 t207 kb207 (1 : Int32) (((([o180] : List Int32).map (fun c => c.toInt8.toInt32)).map Value.int) : List Value) (.int (0 : Int32)) hp212 n0 Ol218 f222 f224 f225 f226) hZ212 (w_58 hw) (w_11 hw) (by decide) (by decide)) q228a q228c (g := (mkF m 551 #[xvi p0, xvi p1, xvi p2, xvi p3, xvi p4, xvi o180, xvi o184, xvi o187, xvi o190, xvi (p0 &&& (7 : Int32)), xvr b194, xvr b201, xvr o213, xvr b201] [xwr b201])) rfl (by rw [hml]; rfl) (Steps.refl _) (argsL := []) (rest := []) (lenOf pd_6 rfl) rfl (by show 2 * 0 + _ ≤ _; exact Nat.le_of_eq rfl) (hb hby at_551) (fun _ _ => ⟨rfl, e221, (by decide : 6 + 0 ≤ _), (by decide : 55 + 0 ≤ _)⟩)
    dsimp only [Pt.U, Pt.locs, Pt.cells, Pt.slots] at X227 l227 y227 z227 st227 hQ227
    subst l227 y227 z227
    obtain ⟨rfl, N227q, e227⟩ := hQ227
    have N227 := Fr.app N221 N227q
    have f229 := ((f205.keep K207 (ninS (Nat.ne_of_lt (Nat.lt_of_lt_of_le (Nat.lt_of_lt_of_le V194.lt (Nat.le_of_eq W198.size.symm)) (Nat.le_of_eq g201.symm))) nin0)).keep K212 nin0)
    obtain ⟨cl230, Ar230, q230, S230, M230, H230, G230⟩ := id f229
    obtain ⟨fs, hr, hrun, hended, hE⟩ := X227.leaveW hS212 (by rw [e227]; exact (Nat.le_refl _)) (v := some (.int (1 : Int32))) (fun h => by rw [Bd.returns] at h; cases h)
    refine ⟨_, _, hTG _ (c192 _ ?_), hrun, hended, _, _, rfl, ?_, ?_, hE.1, hE.2.1, hE.2.2.1, hE.2.2.2.mono (by decide) (by decide)⟩
    · refine y_ifNo X189 hx 36 (hb hby at_33) (XT.i0_ne_f hc193) rfl ?_
      refine y_iconst X189 hx (1 : Int32) 37 (hb hby at_36) rfl rfl ?_
      refine st194 _ ?_
      show Sx p e below T194 m 39 #[xvi p0, xvi p1, xvi p2, xvi p3, xvi p4, xvi o180, xvi o184, xvi o187, xvi o190, xvi (p0 &&& (7 : Int32)), xun, xun, xun, xun] [xwr b194] _
      refine y_dup X194 hx 40 (hb hby at_39) rfl rfl ?_
      refine y_iconst X194 hx (0 : Int32) 41 (hb hby at_40) rfl rfl ?_
      refine y_iload X194 hx 43 (hb hby at_41) rfl rfl ?_
      refine st198 _ ?_
      show Sx p e below T198 m 44 #[xvi p0, xvi p1, xvi p2, xvi p3, xvi p4, xvi o180, xvi o184, xvi o187, xvi o190, xvi (p0 &&& (7 : Int32)), xun, xun, xun, xun] [xwr b194] _
      refine XS.astore X198.here hx rfl (hb hby at_44) rfl rfl (l' := #[xvi p0, xvi p1, xvi p2, xvi p3, xvi p4, xvi o180, xvi o184, xvi o187, xvi o190, xvi (p0 &&& (7 : Int32)), xvr b194, xun, xun, xun]) rfl ?_
      show Sx p e below T198 m 46 #[xvi p0, xvi p1, xvi p2, xvi p3, xvi p4, xvi o180, xvi o184, xvi o187, xvi o190, xvi (p0 &&& (7 : Int32)), xvr b194, xun, xun, xun] [] _
      refine y_goto X198 hx 514 (hb hby at_46) (by decide) (by decide) ?_
      refine st201 _ ?_
      show Sx p e below T201 m 517 #[xvi p0, xvi p1, xvi p2, xvi p3, xvi p4, xvi o180, xvi o184, xvi o187, xvi o190, xvi (p0 &&& (7 : Int32)), xvr b194, xun, xun, xun] [xwr b201] _
      refine y_dup X201 hx 518 (hb hby at_517) rfl rfl ?_
      refine y_aload X201 hx 520 (hb hby at_518) rfl rfl rfl ?_
      refine st207.trans ?_
      show Sx p e below T207 m 523 #[xvi p0, xvi p1, xvi p2, xvi p3, xvi p4, xvi o180, xvi o184, xvi o187, xvi o190, xvi (p0 &&& (7 : Int32)), xvr b194, xun, xun, xun] [xwr b201] _
      refine XS.astore X207.here hx rfl (hb hby at_523) rfl rfl (l' := #[xvi p0, xvi p1, xvi p2, xvi p3, xvi p4, xvi o180, xvi o184, xvi o187, xvi o190, xvi (p0 &&& (7 : Int32)), xvr b194, xvr b201, xun, xun]) rfl ?_
      show Sx p e below T207 m 525 #[xvi p0, xvi p1, xvi p2, xvi p3, xvi p4, xvi o180, xvi o184, xvi o187, xvi o190, xvi (p0 &&& (7 : Int32)), xvr b194, xvr b201, xun, xun] [] _
      refine y_aload X207 hx 527 (hb hby at_525) rfl rfl rfl ?_
      refine st212.trans ?_
      show Sx p e below T212 m 530 #[xvi p0, xvi p1, xvi p2, xvi p3, xvi p4, xvi o180, xvi o184, xvi o187, xvi o190, xvi (p0 &&& (7 : Int32)), xvr b194, xvr b201, xun, xun] [xwr o213] _
      refine XS.astore X212.here hx rfl (hb hby at_530) rfl rfl (l' := #[xvi p0, xvi p1, xvi p2, xvi p3, xvi p4, xvi o180, xvi o184, xvi o187, xvi o190, xvi (p0 &&& (7 : Int32)), xvr b194, xvr b201, xvr o213, xun]) rfl ?_
      show Sx p e below T212 m 532 #[xvi p0, xvi p1, xvi p2, xvi p3, xvi p4, xvi o180, xvi o184, xvi o187, xvi o190, xvi (p0 &&& (7 : Int32)), xvr b194, xvr b201, xvr o213, xun] [] _
      refine y_aload X212 hx 534 (hb hby at_532) rfl rfl rfl ?_
      refine st219.trans ?_
      show Sx p e below T219 m 537 #[xvi p0, xvi p1, xvi p2, xvi p3, xvi p4, xvi o180, xvi o184, xvi o187, xvi o190, xvi (p0 &&& (7 : Int32)), xvr b194, xvr b201, xvr o213, xun] [xwr b201] _
      refine XS.astore X219.here hx rfl (hb hby at_537) rfl rfl (l' := #[xvi p0, xvi p1, xvi p2, xvi p3, xvi p4, xvi o180, xvi o184, xvi o187, xvi o190, xvi (p0 &&& (7 : Int32)), xvr b194, xvr b201, xvr o213, xvr b201]) rfl ?_
      show Sx p e below T219 m 539 #[xvi p0, xvi p1, xvi p2, xvi p3, xvi p4, xvi o180, xvi o184, xvi o187, xvi o190, xvi (p0 &&& (7 : Int32)), xvr b194, xvr b201, xvr o213, xvr b201] [] _
      refine y_aload X219 hx 541 (hb hby at_539) rfl rfl rfl ?_
      refine y_aload X219 hx 543 (hb hby at_541) rfl rfl rfl ?_
      refine st221.trans ?_
      show Sx p e below T221 m 546 #[xvi p0, xvi p1, xvi p2, xvi p3, xvi p4, xvi o180, xvi o184, xvi o187, xvi o190, xvi (p0 &&& (7 : Int32)), xvr b194, xvr b201, xvr o213, xvr b201] [xwi (1 : Int32)] _
      refine y_ifNo X221 hx 549 (hb hby at_546) (XT.i0_eq_f (by decide)) rfl ?_
      refine y_aload X221 hx 551 (hb hby at_549) rfl rfl rfl ?_
      refine st227.trans ?_
      show Sx p e below T227 m 554 #[xvi p0, xvi p1, xvi p2, xvi p3, xvi p4, xvi o180, xvi o184, xvi o187, xvi o190, xvi (p0 &&& (7 : Int32)), xvr b194, xvr b201, xvr o213, xvr b201] [xwi (1 : Int32)] _
      refine y_aload X227 hx 556 (hb hby at_554) rfl rfl rfl ?_
      refine X227.arraylength hx (by rw [e227]; exact Ar230.1) (State.isArrayOf_alike hZ212.alike Ar230.2.1) (g := (mkF m 556 #[xvi p0, xvi p1, xvi p2, xvi p3, xvi p4, xvi o180, xvi o184, xvi o187, xvi o190, xvi (p0 &&& (7 : Int32)), xvr b194, xvr b201, xvr o213, xvr b201] [xwr b194, xwi (1 : Int32)])) rfl rfl (hb hby at_556) _ ?_
      rw [len_of S230 M230]
      show Sx p e below T227 m 557 #[xvi p0, xvi p1, xvi p2, xvi p3, xvi p4, xvi o180, xvi o184, xvi o187, xvi o190, xvi (p0 &&& (7 : Int32)), xvr b194, xvr b201, xvr o213, xvr b201] [xwi (1 : Int32), xwi (1 : Int32)] _
      refine y_icmpNo X227 hx 560 (hb hby at_557) (XT.ii_ne_f (by decide)) rfl ?_
      refine y_iconst X227 hx (1 : Int32) 561 (hb hby at_560) rfl rfl ?_
      refine y_goto X227 hx 565 (hb hby at_561) (by decide) (by decide) ?_
      show Sx p e below T227 m 565 #[xvi p0, xvi p1, xvi p2, xvi p3, xvi p4, xvi o180, xvi o184, xvi o187, xvi o190, xvi (p0 &&& (7 : Int32)), xvr b194, xvr b201, xvr o213, xvr b201] [xwi (1 : Int32)] _
      exact retN X227 hx (t := .boolean) Bd.returns (by simp) (hb hby at_565) (hr)
    · show Qrm0 Z G p0 p1 p2 p3 p4 h0 n0 _ T227.heap _
      rw [e227]
      exact ⟨rfl, N227, ((((((Keep.refl h0 []).ext E194).wr W198 (Or.inr (Nat.le_trans (Nat.le_refl _) (Nat.le_of_eq g194.symm)))).ext E201).trans K207 (allS (Or.inr (Nat.le_trans (Nat.le_trans E194.1 (Nat.le_of_eq W198.size.symm)) (Nat.le_of_eq g201.symm))) all0)).trans K212 all0)⟩
    · rw [hh]; show CHr Z EL s.vm h0 T227.vm T227.heap; rw [e227]; exact C217.trans (CHv.at X227 hZ212 (own_EW hw) C217.1)
  · have c231 : ∀ t, Sx p e below T189 m 52 #[xvi p0, xvi p1, xvi p2, xvi p3, xvi p4, xvi o180, xvi o184, xvi o187, xvi o190, xvi (p0 &&& (7 : Int32)), xun, xun, xun, xun] [xwi (1 : Int32), xwi (p0 &&& (7 : Int32))] t → TG t := fun t k => c192 t (by
      refine y_ifYes X189 hx 49 (hb hby at_33) (XT.i0_ne_t hc193) (by decide) (by decide) ?_
      refine y_iload X189 hx 51 (hb hby at_49) rfl rfl ?_
      refine y_iconst X189 hx (1 : Int32) 52 (hb hby at_51) rfl rfl ?_
      exact k)
    by_cases hc232 : (p0 &&& (7 : Int32)) = (1 : Int32)
    · obtain ⟨T233, h233, k233, X233, e233, E233, A233, st233⟩ := newP (aty := .char) X189 hx hZ (w_8 hw) e189 (g := (mkF m 56 #[xvi p0, xvi p1, xvi p2, xvi p3, xvi p4, xvi o180, xvi o184, xvi o187, xvi o190, xvi (p0 &&& (7 : Int32)), xun, xun, xun, xun] [xwi (2 : Int32)])) rfl (hb hby at_56) rfl (by decide) (cap := 2) (by decide) (by decide) (by decide) (by decide)
      obtain ⟨b233, g233⟩ : ∃ z, z = h0.size := ⟨_, rfl⟩
      rw [← g233] at A233 st233
      have ch235 := CHr.ext E233 C0.1
      have C234 := C0.trans ch235
      have V233 : Arv Z h233 b233 k233 .char (2 : Int32) [(.int (0 : Int32)), (.int (0 : Int32))] (.int (0 : Int32)) := (Arv.new A233 (by decide)).pad (pad_rep [] (.int (0 : Int32)) 2)
      obtain ⟨cl236, Ar236, q236, S236, M236, H236, G236⟩ := id V233
      have in236 : ¬ ((0 : Int32) < 0 ∨ cl236.slots.size ≤ ((0 : Int32)).toNatClampNeg) := inb_of S236 ⟨by decide, by decide⟩
      obtain ⟨T237, h237, X237, e237, W237, st237⟩ := stC X233 hx hZ e233 Ar236 (j := (0 : Int32)) in236 (g := (mkF m 62 #[xvi p0, xvi p1, xvi p2, xvi p3, xvi p4, xvi o180, xvi o184, xvi o187, xvi o190, xvi (p0 &&& (7 : Int32)), xun, xun, xun, xun] [xwi o180, xwi (0 : Int32), xwr b233, xwr b233])) rfl rfl (hb hby at_62)
      have ch239 := CHr.wr W237 (Safe.arv hZ.alike V233 (by decide)) C234.1
      have C238 := C234.trans ch239
      have V237 : Arv Z h237 b233 k233 .char (2 : Int32) [(.int o180), (.int (0 : Int32))] (.int (0 : Int32)) := by have q := Arv.set Ar236 q236 S236 M236 H236 G236 (fits_nar_char _) W237 0 rfl (Nat.le_of_ble_eq_true rfl); rw [own_narc p181.1] at q; exact q
      have N237 := Fr.snoc X237 N189 (Nat.le_trans Z0 (Nat.le_trans (Nat.le_refl _) (Nat.le_of_eq g233.symm)))
      obtain ⟨cl240, Ar240, q240, S240, M240, H240, G240⟩ := id V237
      have in240 : ¬ ((1 : Int32) < 0 ∨ cl240.slots.size ≤ ((1 : Int32)).toNatClampNeg) := inb_of S240 ⟨by decide, by decide⟩
      obtain ⟨T241, h241, X241, e241, W241, st241⟩ := stC X237 hx hZ e237 Ar240 (j := (1 : Int32)) in240 (g := (mkF m 67 #[xvi p0, xvi p1, xvi p2, xvi p3, xvi p4, xvi o180, xvi o184, xvi o187, xvi o190, xvi (p0 &&& (7 : Int32)), xun, xun, xun, xun] [xwi o184, xwi (1 : Int32), xwr b233, xwr b233])) rfl rfl (hb hby at_67)
      have ch243 := CHr.wr W241 (Safe.arv hZ.alike V237 (by decide)) C238.1
      have C242 := C238.trans ch243
      have V241 : Arv Z h241 b233 k233 .char (2 : Int32) [(.int o180), (.int o184)] (.int (0 : Int32)) := by have q := Arv.set Ar240 q240 S240 M240 H240 G240 (fits_nar_char _) W241 1 rfl (Nat.le_of_ble_eq_true rfl); rw [own_narc p185.1] at q; exact q
      have N241 := Fr.snoc X241 N237 (Nat.le_trans Z0 (Nat.le_trans (Nat.le_refl _) (Nat.le_of_eq g233.symm)))
      obtain ⟨T244, h244, X244, e244, E244, A244, D244, -, st244⟩ := newO X241 hx hZ hown (w_9 hw) (w_10 hw) (w_11 hw) e241 (g := (mkF m 514 #[xvi p0, xvi p1, xvi p2, xvi p3, xvi p4, xvi o180, xvi o184, xvi o187, xvi o190, xvi (p0 &&& (7 : Int32)), xvr b233, xun, xun, xun] [])) rfl (hb hby at_514) (by decide) (by decide)
      obtain ⟨b244, g244⟩ : ∃ z, z = h241.size := ⟨_, rfl⟩
      rw [← g244] at A244 D244 st244
      have ch246 := CHr.ext E244 C242.1
      have C245 := C242.trans ch246
      have Fb244_coder : Fld Z h244 b244 "java/lang/String" "coder" "B" (.int (0 : Int32)) := D244 (Or.inr (w_35 hw)) (ty := .byte) (by decide)
      have Fb244_value : Fld Z h244 b244 "java/lang/String" "value" "[B" .null := D244 (Or.inr (w_37 hw)) (ty := (.array .byte)) (by decide)
      have hp247 : ∀ c ∈ ([o180, o184] : List Int32), ¬ c < 0 ∧ ¬ (255 : Int32) < c := (own_fc p181.1 (own_fc p185.1 own_fn))
      have f248 := (V241.ext E244)
      have Ol249 : Old Z n0 h244 := ((((X00.ext E233).wr W237 (Nat.le_trans Z0 (Nat.le_trans (Nat.le_refl _) (Nat.le_of_eq g233.symm)))).wr W241 (Nat.le_trans Z0 (Nat.le_trans (Nat.le_refl _) (Nat.le_of_eq g233.symm)))).ext E244)
      obtain ⟨_, _, ⟨T250, L250, k250, n250⟩, -, X250, ⟨Lc250, hQ250, l250, y250, z250⟩, st250⟩ := X244.specialBack hx (y := (⟨"java/lang/String", "<init>", "([C)V"⟩ : MethodName)) rfl hown (mvT hZ (w_12 hw)) (mvT hZ (w_13 hw)) (mvT hZ (w_14 hw)) (by decide) (StrChars.Road.backV (W := 1) hZ (own_wV hw) (kI := 4) (w_10 hw) (cs := ([o180, o184] : List Int32)) (bs := (([o180, o184] : List Int32).map (fun c => c.toInt8.toInt32))) (n := 2) (Nat.le_trans Z0 (Nat.le_trans (Nat.le_trans (Nat.le_trans E233.1 (Nat.le_of_eq W237.size.symm)) (Nat.le_of_eq W241.size.symm)) (Nat.le_of_eq g244.symm))) (Nat.le_trans Z0 (Nat.le_trans (Nat.le_trans (Nat.le_trans E233.1 (Nat.le_of_eq W237.size.symm)) (Nat.le_of_eq W241.size.symm)) E244.1)) A244 Fb244_value Fb244_coder f248 (ST.1.ext Ol249.2) ST.2.1 rfl rfl (by decide) (by decide) hp247 rfl (by decide) (by decide)) (g := (mkF m 520 #[xvi p0, xvi p1, xvi p2, xvi p3, xvi p4, xvi o180, xvi o184, xvi o187, xvi o190, xvi (p0 &&& (7 : Int32)), xvr b233, xun, xun, xun] [xwr b233, xwr b244, xwr b244])) rfl (by rw [hml]; rfl) (Steps.refl _) (a := b244) (argsL := [(.ref b233)]) (rest := [(.ref b244)]) (lenOf pd_11 rfl) rfl (by show 2 * 0 + _ ≤ _; exact Nat.le_of_eq rfl) (hb hby at_520) (fun _ _ => ⟨rfl, e244, (by decide : 2 + 1 ≤ _), (by decide : 6 + 2 ≤ _)⟩)
      dsimp only [Pt.U, Pt.locs, Pt.cells, Pt.slots] at X250 l250 y250 z250 st250 hQ250
      subst l250 y250 z250
      obtain ⟨hp250, e250⟩ : ∃ z, T250.heap = z := ⟨_, rfl⟩
      rw [e250] at hQ250
      obtain ⟨rfl, N250q, K250, E250, Fc250, t250, kb250, -, gt250, -, Fv250, V250⟩ := hQ250
      have N250 := Fr.app N241 N250q
      have sf253 := (Safe.ext E244 C242.1 (Safe.new (Nat.le_of_eq g244.symm)))
      have ch252 := CHr.keep K250 (sfS sf253 sf0) C245.1
      have C251 := C245.trans ch252
      have hok : ∀ c ∈ ([o180, o184] : List Int32), own_ok c := (own_fc p181 (own_fc p185 own_fn))
      have Ol254 : Old Z n0 hp250 := (Ol249.keep K250 (allS (Nat.le_trans Z0 (Nat.le_trans (Nat.le_trans (Nat.le_trans E233.1 (Nat.le_of_eq W237.size.symm)) (Nat.le_of_eq W241.size.symm)) (Nat.le_of_eq g244.symm))) all0))
      obtain ⟨_, _, ⟨T255, L255, k255, n255⟩, -, X255, hS255, g255, ⟨Lc255, hQ255, l255, y255, z255, CH255⟩, st255⟩ := callSS X250 hx (y := (⟨"com/example/arbiter/arbiter/store/SchemaName", "of", "(Ljava/lang/String;)Lcom/example/arbiter/arbiter/store/SchemaName;"⟩ : MethodName)) hown (mvT hZ (w_38 hw)) (mvT hZ (w_39 hw)) (mvT hZ (w_40 hw)) (mvT hZ (w_41 hw)) (by decide) (backOfSH (W := 0) (rmOf l Z a0 hw G ST [] b244 t250 kb250 ([o180, o184] : List Int32) 2 hp250 n0 Ol254 E250 Fc250 Fv250 V250 rfl (by decide) (by decide) hok p182) hZ (w_41 hw) (w_40 hw) (by decide) (by decide) (own_EW hw) C251.1) (g := (mkF m 527 #[xvi p0, xvi p1, xvi p2, xvi p3, xvi p4, xvi o180, xvi o184, xvi o187, xvi o190, xvi (p0 &&& (7 : Int32)), xvr b233, xvr b244, xun, xun] [xwr b244])) rfl (by rw [hml]; rfl) (argsL := [(.ref b244)]) (rest := []) (lenOf pd_12 rfl) rfl (by show 2 * 0 + _ ≤ _; exact Nat.le_of_eq rfl) (hb hby at_527) (fun _ _ => ⟨rfl, e250, (by decide : 3 + 3 ≤ _), (by decide : 8 + 49 ≤ _)⟩)
      dsimp only [Pt.U, Pt.locs, Pt.cells, Pt.slots] at X255 l255 y255 z255 st255 hQ255 CH255 hS255 g255
      subst l255 y255 z255
      obtain ⟨hp255, e255⟩ : ∃ z, T255.heap = z := ⟨_, rfl⟩
      rw [e255] at hQ255 CH255 hS255 g255
      rw [e250] at g255
      obtain ⟨X255, hS255, hZ255, hown255⟩ := rebS hS0 (Nat.le_trans (Nat.le_trans (Nat.le_trans (Nat.le_trans E233.1 (Nat.le_of_eq W237.size.symm)) (Nat.le_of_eq W241.size.symm)) E244.1) K250.1) X255 hS255 g255 hZ hown
      obtain ⟨o256, rfl, N255q, K255, p257, p258, p259⟩ := hQ255
      have N255 := Fr.app N250 N255q
      have C260 := C251.trans CH255
      have Ol261 : Old Z n0 hp255 := (Ol254.keep K255 all0)
      obtain ⟨cq263, kq263, q263a, q263b, q263c⟩ := isOf hZ255 e255 p258
      obtain ⟨_, _, ⟨T262, L262, k262, n262⟩, -, X262, ⟨Lc262, hQ262, l262, y262, z262⟩, st262⟩ := X255.virtualBack hx (y := (⟨"com/example/arbiter/arbiter/store/SchemaName", "name", "()Ljava/lang/String;"⟩ : MethodName)) (z := (⟨"com/example/arbiter/arbiter/store/SchemaName", "name", "()Ljava/lang/String;"⟩ : MethodName)) hown255 (mvT hZ255 (w_95 hw)) (mvT hZ255 (w_96 hw)) (notFace_of_selects (args := #[]) (mvT hZ255 (w_98 hw))) (mvT hZ255 (w_98 hw)) (mvT hZ255 (w_97 hw)) (by decide) (backOf (W := 0) (rmNa l Z a0 hw G ST [] o256 b244 hp255 n0 Ol261 p259) hZ255 (w_99 hw) (w_40 hw) (by decide) (by decide)) q263a q263c (g := (mkF m 534 #[xvi p0, xvi p1, xvi p2, xvi p3, xvi p4, xvi o180, xvi o184, xvi o187, xvi o190, xvi (p0 &&& (7 : Int32)), xvr b233, xvr b244, xvr o256, xun] [xwr o256])) rfl (by rw [hml]; rfl) (Steps.refl _) (argsL := []) (rest := []) (lenOf pd_13 rfl) rfl (by show 2 * 0 + _ ≤ _; exact Nat.le_of_eq rfl) (hb hby at_534) (fun _ _ => ⟨rfl, e255, (by decide : 6 + 0 ≤ _), (by decide : 57 + 0 ≤ _)⟩)
      dsimp only [Pt.U, Pt.locs, Pt.cells, Pt.slots] at X262 l262 y262 z262 st262 hQ262
      subst l262 y262 z262
      obtain ⟨rfl, N262q, e262⟩ := hQ262
      have N262 := Fr.app N255 N262q
      have f265 := (E250.keep K255)
      obtain ⟨cq266, kq266, q266a, q266b, q266c⟩ := isOf hZ255 e262 f265
      obtain ⟨_, _, ⟨T264, L264, k264, n264⟩, -, X264, ⟨Lc264, hQ264, l264, y264, z264⟩, st264⟩ := X262.virtualBack hx (y := (⟨"java/lang/String", "equals", "(Ljava/lang/Object;)Z"⟩ : MethodName)) (z := (⟨"java/lang/String", "equals", "(Ljava/lang/Object;)Z"⟩ : MethodName)) hown255 (mvT hZ255 (w_100 hw)) (mvT hZ255 (w_101 hw)) (notFace_of_selects (args := #[]) (mvT hZ255 (w_103 hw))) (mvT hZ255 (w_103 hw)) (mvT hZ255 (w_102 hw)) (by decide) (backOf (W := 0) (rmEqS l Z a0 hw G ST [] b244 hp255 n0 Ol261 ) hZ255 (w_104 hw) (w_11 hw) (by decide) (by decide)) q266a q266c (g := (mkF m 543 #[xvi p0, xvi p1, xvi p2, xvi p3, xvi p4, xvi o180, xvi o184, xvi o187, xvi o190, xvi (p0 &&& (7 : Int32)), xvr b233, xvr b244, xvr o256, xvr b244] [xwr b244, xwr b244])) rfl (by rw [hml]; rfl) (Steps.refl _) (argsL := [(.ref b244)]) (rest := []) (lenOf pd_14 rfl) rfl (by show 2 * 0 + _ ≤ _; exact Nat.le_of_eq rfl) (hb hby at_543) (fun _ _ => ⟨rfl, e262, (by decide : 6 + 0 ≤ _), (by decide : 57 + 0 ≤ _)⟩)
      dsimp only [Pt.U, Pt.locs, Pt.cells, Pt.slots] at X264 l264 y264 z264 st264 hQ264
      subst l264 y264 z264
      obtain ⟨rfl, N264q, e264⟩ := hQ264
      have N264 := Fr.app N262 N264q
      have f267 := (Fc250.keep K255 nin0)
      have f268 := (Fv250.keep K255 nin0)
      have f269 := (V250.keep K255 nin0)
      obtain ⟨cq271, kq271, q271a, q271b, q271c⟩ := isOf hZ255 e264 f265
      obtain ⟨_, _, ⟨T270, L270, k270, n270⟩, -, X270, ⟨Lc270, hQ270, l270, y270, z270⟩, st270⟩ := X264.virtualBack hx (y := (⟨"java/lang/String", "length", "()I"⟩ : MethodName)) (z := (⟨"java/lang/String", "length", "()I"⟩ : MethodName)) hown255 (mvT hZ255 (w_105 hw)) (mvT hZ255 (w_55 hw)) (notFace_of_selects (args := #[]) (mvT hZ255 (w_57 hw))) (mvT hZ255 (w_57 hw)) (mvT hZ255 (w_56 hw)) (by decide) (backOf (W := 0) (rmLen l Z a0 hw G ST [] b244 t250 kb250 (2 : Int32) (((([o180, o184] : List Int32).map (fun c => c.toInt8.toInt32)).map Value.int) : List Value) (.int (0 : Int32)) hp255 n0 Ol261 f265 f267 f268 f269) hZ255 (w_58 hw) (w_11 hw) (by decide) (by decide)) q271a q271c (g := (mkF m 551 #[xvi p0, xvi p1, xvi p2, xvi p3, xvi p4, xvi o180, xvi o184, xvi o187, xvi o190, xvi (p0 &&& (7 : Int32)), xvr b233, xvr b244, xvr o256, xvr b244] [xwr b244])) rfl (by rw [hml]; rfl) (Steps.refl _) (argsL := []) (rest := []) (lenOf pd_6 rfl) rfl (by show 2 * 0 + _ ≤ _; exact Nat.le_of_eq rfl) (hb hby at_551) (fun _ _ => ⟨rfl, e264, (by decide : 6 + 0 ≤ _), (by decide : 57 + 0 ≤ _)⟩)
      dsimp only [Pt.U, Pt.locs, Pt.cells, Pt.slots] at X270 l270 y270 z270 st270 hQ270
      subst l270 y270 z270
      obtain ⟨rfl, N270q, e270⟩ := hQ270
      have N270 := Fr.app N264 N270q
      have f272 := ((f248.keep K250 (ninS (Nat.ne_of_lt (Nat.lt_of_lt_of_le (Nat.lt_of_lt_of_le V233.lt (Nat.le_trans (Nat.le_of_eq W237.size.symm) (Nat.le_of_eq W241.size.symm))) (Nat.le_of_eq g244.symm))) nin0)).keep K255 nin0)
      obtain ⟨cl273, Ar273, q273, S273, M273, H273, G273⟩ := id f272
      obtain ⟨fs, hr, hrun, hended, hE⟩ := X270.leaveW hS255 (by rw [e270]; exact (Nat.le_refl _)) (v := some (.int (1 : Int32))) (fun h => by rw [Bd.returns] at h; cases h)
      refine ⟨_, _, hTG _ (c231 _ ?_), hrun, hended, _, _, rfl, ?_, ?_, hE.1, hE.2.1, hE.2.2.1, hE.2.2.2.mono (by decide) (by decide)⟩
      · refine y_icmpNo X189 hx 55 (hb hby at_52) (XT.ii_ne_f hc232) rfl ?_
        refine y_iconst X189 hx (2 : Int32) 56 (hb hby at_55) rfl rfl ?_
        refine st233 _ ?_
        show Sx p e below T233 m 58 #[xvi p0, xvi p1, xvi p2, xvi p3, xvi p4, xvi o180, xvi o184, xvi o187, xvi o190, xvi (p0 &&& (7 : Int32)), xun, xun, xun, xun] [xwr b233] _
        refine y_dup X233 hx 59 (hb hby at_58) rfl rfl ?_
        refine y_iconst X233 hx (0 : Int32) 60 (hb hby at_59) rfl rfl ?_
        refine y_iload X233 hx 62 (hb hby at_60) rfl rfl ?_
        refine st237 _ ?_
        show Sx p e below T237 m 63 #[xvi p0, xvi p1, xvi p2, xvi p3, xvi p4, xvi o180, xvi o184, xvi o187, xvi o190, xvi (p0 &&& (7 : Int32)), xun, xun, xun, xun] [xwr b233] _
        refine y_dup X237 hx 64 (hb hby at_63) rfl rfl ?_
        refine y_iconst X237 hx (1 : Int32) 65 (hb hby at_64) rfl rfl ?_
        refine y_iload X237 hx 67 (hb hby at_65) rfl rfl ?_
        refine st241 _ ?_
        show Sx p e below T241 m 68 #[xvi p0, xvi p1, xvi p2, xvi p3, xvi p4, xvi o180, xvi o184, xvi o187, xvi o190, xvi (p0 &&& (7 : Int32)), xun, xun, xun, xun] [xwr b233] _
        refine XS.astore X241.here hx rfl (hb hby at_68) rfl rfl (l' := #[xvi p0, xvi p1, xvi p2, xvi p3, xvi p4, xvi o180, xvi o184, xvi o187, xvi o190, xvi (p0 &&& (7 : Int32)), xvr b233, xun, xun, xun]) rfl ?_
        show Sx p e below T241 m 70 #[xvi p0, xvi p1, xvi p2, xvi p3, xvi p4, xvi o180, xvi o184, xvi o187, xvi o190, xvi (p0 &&& (7 : Int32)), xvr b233, xun, xun, xun] [] _
        refine y_goto X241 hx 514 (hb hby at_70) (by decide) (by decide) ?_
        refine st244 _ ?_
        show Sx p e below T244 m 517 #[xvi p0, xvi p1, xvi p2, xvi p3, xvi p4, xvi o180, xvi o184, xvi o187, xvi o190, xvi (p0 &&& (7 : Int32)), xvr b233, xun, xun, xun] [xwr b244] _
        refine y_dup X244 hx 518 (hb hby at_517) rfl rfl ?_
        refine y_aload X244 hx 520 (hb hby at_518) rfl rfl rfl ?_
        refine st250.trans ?_
        show Sx p e below T250 m 523 #[xvi p0, xvi p1, xvi p2, xvi p3, xvi p4, xvi o180, xvi o184, xvi o187, xvi o190, xvi (p0 &&& (7 : Int32)), xvr b233, xun, xun, xun] [xwr b244] _
        refine XS.astore X250.here hx rfl (hb hby at_523) rfl rfl (l' := #[xvi p0, xvi p1, xvi p2, xvi p3, xvi p4, xvi o180, xvi o184, xvi o187, xvi o190, xvi (p0 &&& (7 : Int32)), xvr b233, xvr b244, xun, xun]) rfl ?_
        show Sx p e below T250 m 525 #[xvi p0, xvi p1, xvi p2, xvi p3, xvi p4, xvi o180, xvi o184, xvi o187, xvi o190, xvi (p0 &&& (7 : Int32)), xvr b233, xvr b244, xun, xun] [] _
        refine y_aload X250 hx 527 (hb hby at_525) rfl rfl rfl ?_
        refine st255.trans ?_
        show Sx p e below T255 m 530 #[xvi p0, xvi p1, xvi p2, xvi p3, xvi p4, xvi o180, xvi o184, xvi o187, xvi o190, xvi (p0 &&& (7 : Int32)), xvr b233, xvr b244, xun, xun] [xwr o256] _
        refine XS.astore X255.here hx rfl (hb hby at_530) rfl rfl (l' := #[xvi p0, xvi p1, xvi p2, xvi p3, xvi p4, xvi o180, xvi o184, xvi o187, xvi o190, xvi (p0 &&& (7 : Int32)), xvr b233, xvr b244, xvr o256, xun]) rfl ?_
        show Sx p e below T255 m 532 #[xvi p0, xvi p1, xvi p2, xvi p3, xvi p4, xvi o180, xvi o184, xvi o187, xvi o190, xvi (p0 &&& (7 : Int32)), xvr b233, xvr b244, xvr o256, xun] [] _
        refine y_aload X255 hx 534 (hb hby at_532) rfl rfl rfl ?_
        refine st262.trans ?_
        show Sx p e below T262 m 537 #[xvi p0, xvi p1, xvi p2, xvi p3, xvi p4, xvi o180, xvi o184, xvi o187, xvi o190, xvi (p0 &&& (7 : Int32)), xvr b233, xvr b244, xvr o256, xun] [xwr b244] _
        refine XS.astore X262.here hx rfl (hb hby at_537) rfl rfl (l' := #[xvi p0, xvi p1, xvi p2, xvi p3, xvi p4, xvi o180, xvi o184, xvi o187, xvi o190, xvi (p0 &&& (7 : Int32)), xvr b233, xvr b244, xvr o256, xvr b244]) rfl ?_
        show Sx p e below T262 m 539 #[xvi p0, xvi p1, xvi p2, xvi p3, xvi p4, xvi o180, xvi o184, xvi o187, xvi o190, xvi (p0 &&& (7 : Int32)), xvr b233, xvr b244, xvr o256, xvr b244] [] _
        refine y_aload X262 hx 541 (hb hby at_539) rfl rfl rfl ?_
        refine y_aload X262 hx 543 (hb hby at_541) rfl rfl rfl ?_
        refine st264.trans ?_
        show Sx p e below T264 m 546 #[xvi p0, xvi p1, xvi p2, xvi p3, xvi p4, xvi o180, xvi o184, xvi o187, xvi o190, xvi (p0 &&& (7 : Int32)), xvr b233, xvr b244, xvr o256, xvr b244] [xwi (1 : Int32)] _
        refine y_ifNo X264 hx 549 (hb hby at_546) (XT.i0_eq_f (by decide)) rfl ?_
        refine y_aload X264 hx 551 (hb hby at_549) rfl rfl rfl ?_
        refine st270.trans ?_
        show Sx p e below T270 m 554 #[xvi p0, xvi p1, xvi p2, xvi p3, xvi p4, xvi o180, xvi o184, xvi o187, xvi o190, xvi (p0 &&& (7 : Int32)), xvr b233, xvr b244, xvr o256, xvr b244] [xwi (2 : Int32)] _
        refine y_aload X270 hx 556 (hb hby at_554) rfl rfl rfl ?_
        refine X270.arraylength hx (by rw [e270]; exact Ar273.1) (State.isArrayOf_alike hZ255.alike Ar273.2.1) (g := (mkF m 556 #[xvi p0, xvi p1, xvi p2, xvi p3, xvi p4, xvi o180, xvi o184, xvi o187, xvi o190, xvi (p0 &&& (7 : Int32)), xvr b233, xvr b244, xvr o256, xvr b244] [xwr b233, xwi (2 : Int32)])) rfl rfl (hb hby at_556) _ ?_
        rw [len_of S273 M273]
        show Sx p e below T270 m 557 #[xvi p0, xvi p1, xvi p2, xvi p3, xvi p4, xvi o180, xvi o184, xvi o187, xvi o190, xvi (p0 &&& (7 : Int32)), xvr b233, xvr b244, xvr o256, xvr b244] [xwi (2 : Int32), xwi (2 : Int32)] _
        refine y_icmpNo X270 hx 560 (hb hby at_557) (XT.ii_ne_f (by decide)) rfl ?_
        refine y_iconst X270 hx (1 : Int32) 561 (hb hby at_560) rfl rfl ?_
        refine y_goto X270 hx 565 (hb hby at_561) (by decide) (by decide) ?_
        show Sx p e below T270 m 565 #[xvi p0, xvi p1, xvi p2, xvi p3, xvi p4, xvi o180, xvi o184, xvi o187, xvi o190, xvi (p0 &&& (7 : Int32)), xvr b233, xvr b244, xvr o256, xvr b244] [xwi (1 : Int32)] _
        exact retN X270 hx (t := .boolean) Bd.returns (by simp) (hb hby at_565) (hr)
      · show Qrm0 Z G p0 p1 p2 p3 p4 h0 n0 _ T270.heap _
        rw [e270]
        exact ⟨rfl, N270, (((((((Keep.refl h0 []).ext E233).wr W237 (Or.inr (Nat.le_trans (Nat.le_refl _) (Nat.le_of_eq g233.symm)))).wr W241 (Or.inr (Nat.le_trans (Nat.le_refl _) (Nat.le_of_eq g233.symm)))).ext E244).trans K250 (allS (Or.inr (Nat.le_trans (Nat.le_trans (Nat.le_trans E233.1 (Nat.le_of_eq W237.size.symm)) (Nat.le_of_eq W241.size.symm)) (Nat.le_of_eq g244.symm))) all0)).trans K255 all0)⟩
      · rw [hh]; show CHr Z EL s.vm h0 T270.vm T270.heap; rw [e270]; exact C260.trans (CHv.at X270 hZ255 (own_EW hw) C260.1)
    · have c274 : ∀ t, Sx p e below T189 m 76 #[xvi p0, xvi p1, xvi p2, xvi p3, xvi p4, xvi o180, xvi o184, xvi o187, xvi o190, xvi (p0 &&& (7 : Int32)), xun, xun, xun, xun] [xwi (2 : Int32), xwi (p0 &&& (7 : Int32))] t → TG t := fun t k => c231 t (by
        refine y_icmpYes X189 hx 73 (hb hby at_52) (XT.ii_ne_t hc232) (by decide) (by decide) ?_
        refine y_iload X189 hx 75 (hb hby at_73) rfl rfl ?_
        refine y_iconst X189 hx (2 : Int32) 76 (hb hby at_75) rfl rfl ?_
        exact k)
      by_cases hc275 : (p0 &&& (7 : Int32)) = (2 : Int32)
      · obtain ⟨T276, h276, k276, X276, e276, E276, A276, st276⟩ := newP (aty := .char) X189 hx hZ (w_8 hw) e189 (g := (mkF m 80 #[xvi p0, xvi p1, xvi p2, xvi p3, xvi p4, xvi o180, xvi o184, xvi o187, xvi o190, xvi (p0 &&& (7 : Int32)), xun, xun, xun, xun] [xwi (3 : Int32)])) rfl (hb hby at_80) rfl (by decide) (cap := 3) (by decide) (by decide) (by decide) (by decide)
        obtain ⟨b276, g276⟩ : ∃ z, z = h0.size := ⟨_, rfl⟩
        rw [← g276] at A276 st276
        have ch278 := CHr.ext E276 C0.1
        have C277 := C0.trans ch278
        have V276 : Arv Z h276 b276 k276 .char (3 : Int32) [(.int (0 : Int32)), (.int (0 : Int32)), (.int (0 : Int32))] (.int (0 : Int32)) := (Arv.new A276 (by decide)).pad (pad_rep [] (.int (0 : Int32)) 3)
        obtain ⟨cl279, Ar279, q279, S279, M279, H279, G279⟩ := id V276
        have in279 : ¬ ((0 : Int32) < 0 ∨ cl279.slots.size ≤ ((0 : Int32)).toNatClampNeg) := inb_of S279 ⟨by decide, by decide⟩
        obtain ⟨T280, h280, X280, e280, W280, st280⟩ := stC X276 hx hZ e276 Ar279 (j := (0 : Int32)) in279 (g := (mkF m 86 #[xvi p0, xvi p1, xvi p2, xvi p3, xvi p4, xvi o180, xvi o184, xvi o187, xvi o190, xvi (p0 &&& (7 : Int32)), xun, xun, xun, xun] [xwi o180, xwi (0 : Int32), xwr b276, xwr b276])) rfl rfl (hb hby at_86)
        have ch282 := CHr.wr W280 (Safe.arv hZ.alike V276 (by decide)) C277.1
        have C281 := C277.trans ch282
        have V280 : Arv Z h280 b276 k276 .char (3 : Int32) [(.int o180), (.int (0 : Int32)), (.int (0 : Int32))] (.int (0 : Int32)) := by have q := Arv.set Ar279 q279 S279 M279 H279 G279 (fits_nar_char _) W280 0 rfl (Nat.le_of_ble_eq_true rfl); rw [own_narc p181.1] at q; exact q
        have N280 := Fr.snoc X280 N189 (Nat.le_trans Z0 (Nat.le_trans (Nat.le_refl _) (Nat.le_of_eq g276.symm)))
        obtain ⟨cl283, Ar283, q283, S283, M283, H283, G283⟩ := id V280
        have in283 : ¬ ((1 : Int32) < 0 ∨ cl283.slots.size ≤ ((1 : Int32)).toNatClampNeg) := inb_of S283 ⟨by decide, by decide⟩
        obtain ⟨T284, h284, X284, e284, W284, st284⟩ := stC X280 hx hZ e280 Ar283 (j := (1 : Int32)) in283 (g := (mkF m 91 #[xvi p0, xvi p1, xvi p2, xvi p3, xvi p4, xvi o180, xvi o184, xvi o187, xvi o190, xvi (p0 &&& (7 : Int32)), xun, xun, xun, xun] [xwi o184, xwi (1 : Int32), xwr b276, xwr b276])) rfl rfl (hb hby at_91)
        have ch286 := CHr.wr W284 (Safe.arv hZ.alike V280 (by decide)) C281.1
        have C285 := C281.trans ch286
        have V284 : Arv Z h284 b276 k276 .char (3 : Int32) [(.int o180), (.int o184), (.int (0 : Int32))] (.int (0 : Int32)) := by have q := Arv.set Ar283 q283 S283 M283 H283 G283 (fits_nar_char _) W284 1 rfl (Nat.le_of_ble_eq_true rfl); rw [own_narc p185.1] at q; exact q
        have N284 := Fr.snoc X284 N280 (Nat.le_trans Z0 (Nat.le_trans (Nat.le_refl _) (Nat.le_of_eq g276.symm)))
        obtain ⟨cl287, Ar287, q287, S287, M287, H287, G287⟩ := id V284
        have in287 : ¬ ((2 : Int32) < 0 ∨ cl287.slots.size ≤ ((2 : Int32)).toNatClampNeg) := inb_of S287 ⟨by decide, by decide⟩
        obtain ⟨T288, h288, X288, e288, W288, st288⟩ := stC X284 hx hZ e284 Ar287 (j := (2 : Int32)) in287 (g := (mkF m 96 #[xvi p0, xvi p1, xvi p2, xvi p3, xvi p4, xvi o180, xvi o184, xvi o187, xvi o190, xvi (p0 &&& (7 : Int32)), xun, xun, xun, xun] [xwi o187, xwi (2 : Int32), xwr b276, xwr b276])) rfl rfl (hb hby at_96)
        have ch290 := CHr.wr W288 (Safe.arv hZ.alike V284 (by decide)) C285.1
        have C289 := C285.trans ch290
        have V288 : Arv Z h288 b276 k276 .char (3 : Int32) [(.int o180), (.int o184), (.int o187)] (.int (0 : Int32)) := by have q := Arv.set Ar287 q287 S287 M287 H287 G287 (fits_nar_char _) W288 2 rfl (Nat.le_of_ble_eq_true rfl); rw [own_narc p188.1] at q; exact q
        have N288 := Fr.snoc X288 N284 (Nat.le_trans Z0 (Nat.le_trans (Nat.le_refl _) (Nat.le_of_eq g276.symm)))
        obtain ⟨T291, h291, X291, e291, E291, A291, D291, -, st291⟩ := newO X288 hx hZ hown (w_9 hw) (w_10 hw) (w_11 hw) e288 (g := (mkF m 514 #[xvi p0, xvi p1, xvi p2, xvi p3, xvi p4, xvi o180, xvi o184, xvi o187, xvi o190, xvi (p0 &&& (7 : Int32)), xvr b276, xun, xun, xun] [])) rfl (hb hby at_514) (by decide) (by decide)
        obtain ⟨b291, g291⟩ : ∃ z, z = h288.size := ⟨_, rfl⟩
        rw [← g291] at A291 D291 st291
        have ch293 := CHr.ext E291 C289.1
        have C292 := C289.trans ch293
        have Fb291_coder : Fld Z h291 b291 "java/lang/String" "coder" "B" (.int (0 : Int32)) := D291 (Or.inr (w_35 hw)) (ty := .byte) (by decide)
        have Fb291_value : Fld Z h291 b291 "java/lang/String" "value" "[B" .null := D291 (Or.inr (w_37 hw)) (ty := (.array .byte)) (by decide)
        have hp294 : ∀ c ∈ ([o180, o184, o187] : List Int32), ¬ c < 0 ∧ ¬ (255 : Int32) < c := (own_fc p181.1 (own_fc p185.1 (own_fc p188.1 own_fn)))
        have f295 := (V288.ext E291)
        have Ol296 : Old Z n0 h291 := (((((X00.ext E276).wr W280 (Nat.le_trans Z0 (Nat.le_trans (Nat.le_refl _) (Nat.le_of_eq g276.symm)))).wr W284 (Nat.le_trans Z0 (Nat.le_trans (Nat.le_refl _) (Nat.le_of_eq g276.symm)))).wr W288 (Nat.le_trans Z0 (Nat.le_trans (Nat.le_refl _) (Nat.le_of_eq g276.symm)))).ext E291)
        obtain ⟨_, _, ⟨T297, L297, k297, n297⟩, -, X297, ⟨Lc297, hQ297, l297, y297, z297⟩, st297⟩ := X291.specialBack hx (y := (⟨"java/lang/String", "<init>", "([C)V"⟩ : MethodName)) rfl hown (mvT hZ (w_12 hw)) (mvT hZ (w_13 hw)) (mvT hZ (w_14 hw)) (by decide) (StrChars.Road.backV (W := 1) hZ (own_wV hw) (kI := 4) (w_10 hw) (cs := ([o180, o184, o187] : List Int32)) (bs := (([o180, o184, o187] : List Int32).map (fun c => c.toInt8.toInt32))) (n := 3) (Nat.le_trans Z0 (Nat.le_trans (Nat.le_trans (Nat.le_trans (Nat.le_trans E276.1 (Nat.le_of_eq W280.size.symm)) (Nat.le_of_eq W284.size.symm)) (Nat.le_of_eq W288.size.symm)) (Nat.le_of_eq g291.symm))) (Nat.le_trans Z0 (Nat.le_trans (Nat.le_trans (Nat.le_trans (Nat.le_trans E276.1 (Nat.le_of_eq W280.size.symm)) (Nat.le_of_eq W284.size.symm)) (Nat.le_of_eq W288.size.symm)) E291.1)) A291 Fb291_value Fb291_coder f295 (ST.1.ext Ol296.2) ST.2.1 rfl rfl (by decide) (by decide) hp294 rfl (by decide) (by decide)) (g := (mkF m 520 #[xvi p0, xvi p1, xvi p2, xvi p3, xvi p4, xvi o180, xvi o184, xvi o187, xvi o190, xvi (p0 &&& (7 : Int32)), xvr b276, xun, xun, xun] [xwr b276, xwr b291, xwr b291])) rfl (by rw [hml]; rfl) (Steps.refl _) (a := b291) (argsL := [(.ref b276)]) (rest := [(.ref b291)]) (lenOf pd_11 rfl) rfl (by show 2 * 0 + _ ≤ _; exact Nat.le_of_eq rfl) (hb hby at_520) (fun _ _ => ⟨rfl, e291, (by decide : 2 + 1 ≤ _), (by decide : 7 + 3 ≤ _)⟩)
        dsimp only [Pt.U, Pt.locs, Pt.cells, Pt.slots] at X297 l297 y297 z297 st297 hQ297
        subst l297 y297 z297
        obtain ⟨hp297, e297⟩ : ∃ z, T297.heap = z := ⟨_, rfl⟩
        rw [e297] at hQ297
        obtain ⟨rfl, N297q, K297, E297, Fc297, t297, kb297, -, gt297, -, Fv297, V297⟩ := hQ297
        have N297 := Fr.app N288 N297q
        have sf300 := (Safe.ext E291 C289.1 (Safe.new (Nat.le_of_eq g291.symm)))
        have ch299 := CHr.keep K297 (sfS sf300 sf0) C292.1
        have C298 := C292.trans ch299
        have hok : ∀ c ∈ ([o180, o184, o187] : List Int32), own_ok c := (own_fc p181 (own_fc p185 (own_fc p188 own_fn)))
        have Ol301 : Old Z n0 hp297 := (Ol296.keep K297 (allS (Nat.le_trans Z0 (Nat.le_trans (Nat.le_trans (Nat.le_trans (Nat.le_trans E276.1 (Nat.le_of_eq W280.size.symm)) (Nat.le_of_eq W284.size.symm)) (Nat.le_of_eq W288.size.symm)) (Nat.le_of_eq g291.symm))) all0))
        obtain ⟨_, _, ⟨T302, L302, k302, n302⟩, -, X302, hS302, g302, ⟨Lc302, hQ302, l302, y302, z302, CH302⟩, st302⟩ := callSS X297 hx (y := (⟨"com/example/arbiter/arbiter/store/SchemaName", "of", "(Ljava/lang/String;)Lcom/example/arbiter/arbiter/store/SchemaName;"⟩ : MethodName)) hown (mvT hZ (w_38 hw)) (mvT hZ (w_39 hw)) (mvT hZ (w_40 hw)) (mvT hZ (w_41 hw)) (by decide) (backOfSH (W := 0) (rmOf l Z a0 hw G ST [] b291 t297 kb297 ([o180, o184, o187] : List Int32) 3 hp297 n0 Ol301 E297 Fc297 Fv297 V297 rfl (by decide) (by decide) hok p182) hZ (w_41 hw) (w_40 hw) (by decide) (by decide) (own_EW hw) C298.1) (g := (mkF m 527 #[xvi p0, xvi p1, xvi p2, xvi p3, xvi p4, xvi o180, xvi o184, xvi o187, xvi o190, xvi (p0 &&& (7 : Int32)), xvr b276, xvr b291, xun, xun] [xwr b291])) rfl (by rw [hml]; rfl) (argsL := [(.ref b291)]) (rest := []) (lenOf pd_12 rfl) rfl (by show 2 * 0 + _ ≤ _; exact Nat.le_of_eq rfl) (hb hby at_527) (fun _ _ => ⟨rfl, e297, (by decide : 3 + 3 ≤ _), (by decide : 10 + 49 ≤ _)⟩)
        dsimp only [Pt.U, Pt.locs, Pt.cells, Pt.slots] at X302 l302 y302 z302 st302 hQ302 CH302 hS302 g302
        subst l302 y302 z302
        obtain ⟨hp302, e302⟩ : ∃ z, T302.heap = z := ⟨_, rfl⟩
        rw [e302] at hQ302 CH302 hS302 g302
        rw [e297] at g302
        obtain ⟨X302, hS302, hZ302, hown302⟩ := rebS hS0 (Nat.le_trans (Nat.le_trans (Nat.le_trans (Nat.le_trans (Nat.le_trans E276.1 (Nat.le_of_eq W280.size.symm)) (Nat.le_of_eq W284.size.symm)) (Nat.le_of_eq W288.size.symm)) E291.1) K297.1) X302 hS302 g302 hZ hown
        obtain ⟨o303, rfl, N302q, K302, p304, p305, p306⟩ := hQ302
        have N302 := Fr.app N297 N302q
        have C307 := C298.trans CH302
        have Ol308 : Old Z n0 hp302 := (Ol301.keep K302 all0)
        obtain ⟨cq310, kq310, q310a, q310b, q310c⟩ := isOf hZ302 e302 p305
        obtain ⟨_, _, ⟨T309, L309, k309, n309⟩, -, X309, ⟨Lc309, hQ309, l309, y309, z309⟩, st309⟩ := X302.virtualBack hx (y := (⟨"com/example/arbiter/arbiter/store/SchemaName", "name", "()Ljava/lang/String;"⟩ : MethodName)) (z := (⟨"com/example/arbiter/arbiter/store/SchemaName", "name", "()Ljava/lang/String;"⟩ : MethodName)) hown302 (mvT hZ302 (w_95 hw)) (mvT hZ302 (w_96 hw)) (notFace_of_selects (args := #[]) (mvT hZ302 (w_98 hw))) (mvT hZ302 (w_98 hw)) (mvT hZ302 (w_97 hw)) (by decide) (backOf (W := 0) (rmNa l Z a0 hw G ST [] o303 b291 hp302 n0 Ol308 p306) hZ302 (w_99 hw) (w_40 hw) (by decide) (by decide)) q310a q310c (g := (mkF m 534 #[xvi p0, xvi p1, xvi p2, xvi p3, xvi p4, xvi o180, xvi o184, xvi o187, xvi o190, xvi (p0 &&& (7 : Int32)), xvr b276, xvr b291, xvr o303, xun] [xwr o303])) rfl (by rw [hml]; rfl) (Steps.refl _) (argsL := []) (rest := []) (lenOf pd_13 rfl) rfl (by show 2 * 0 + _ ≤ _; exact Nat.le_of_eq rfl) (hb hby at_534) (fun _ _ => ⟨rfl, e302, (by decide : 6 + 0 ≤ _), (by decide : 59 + 0 ≤ _)⟩)
        dsimp only [Pt.U, Pt.locs, Pt.cells, Pt.slots] at X309 l309 y309 z309 st309 hQ309
        subst l309 y309 z309
        obtain ⟨rfl, N309q, e309⟩ := hQ309
        have N309 := Fr.app N302 N309q
        have f312 := (E297.keep K302)
        obtain ⟨cq313, kq313, q313a, q313b, q313c⟩ := isOf hZ302 e309 f312
        obtain ⟨_, _, ⟨T311, L311, k311, n311⟩, -, X311, ⟨Lc311, hQ311, l311, y311, z311⟩, st311⟩ := X309.virtualBack hx (y := (⟨"java/lang/String", "equals", "(Ljava/lang/Object;)Z"⟩ : MethodName)) (z := (⟨"java/lang/String", "equals", "(Ljava/lang/Object;)Z"⟩ : MethodName)) hown302 (mvT hZ302 (w_100 hw)) (mvT hZ302 (w_101 hw)) (notFace_of_selects (args := #[]) (mvT hZ302 (w_103 hw))) (mvT hZ302 (w_103 hw)) (mvT hZ302 (w_102 hw)) (by decide) (backOf (W := 0) (rmEqS l Z a0 hw G ST [] b291 hp302 n0 Ol308 ) hZ302 (w_104 hw) (w_11 hw) (by decide) (by decide)) q313a q313c (g := (mkF m 543 #[xvi p0, xvi p1, xvi p2, xvi p3, xvi p4, xvi o180, xvi o184, xvi o187, xvi o190, xvi (p0 &&& (7 : Int32)), xvr b276, xvr b291, xvr o303, xvr b291] [xwr b291, xwr b291])) rfl (by rw [hml]; rfl) (Steps.refl _) (argsL := [(.ref b291)]) (rest := []) (lenOf pd_14 rfl) rfl (by show 2 * 0 + _ ≤ _; exact Nat.le_of_eq rfl) (hb hby at_543) (fun _ _ => ⟨rfl, e309, (by decide : 6 + 0 ≤ _), (by decide : 59 + 0 ≤ _)⟩)
        dsimp only [Pt.U, Pt.locs, Pt.cells, Pt.slots] at X311 l311 y311 z311 st311 hQ311
        subst l311 y311 z311
        obtain ⟨rfl, N311q, e311⟩ := hQ311
        have N311 := Fr.app N309 N311q
        have f314 := (Fc297.keep K302 nin0)
        have f315 := (Fv297.keep K302 nin0)
        have f316 := (V297.keep K302 nin0)
        obtain ⟨cq318, kq318, q318a, q318b, q318c⟩ := isOf hZ302 e311 f312
        obtain ⟨_, _, ⟨T317, L317, k317, n317⟩, -, X317, ⟨Lc317, hQ317, l317, y317, z317⟩, st317⟩ := X311.virtualBack hx (y := (⟨"java/lang/String", "length", "()I"⟩ : MethodName)) (z := (⟨"java/lang/String", "length", "()I"⟩ : MethodName)) hown302 (mvT hZ302 (w_105 hw)) (mvT hZ302 (w_55 hw)) (notFace_of_selects (args := #[]) (mvT hZ302 (w_57 hw))) (mvT hZ302 (w_57 hw)) (mvT hZ302 (w_56 hw)) (by decide) (backOf (W := 0) (rmLen l Z a0 hw G ST [] b291 t297 kb297 (3 : Int32) (((([o180, o184, o187] : List Int32).map (fun c => c.toInt8.toInt32)).map Value.int) : List Value) (.int (0 : Int32)) hp302 n0 Ol308 f312 f314 f315 f316) hZ302 (w_58 hw) (w_11 hw) (by decide) (by decide)) q318a q318c (g := (mkF m 551 #[xvi p0, xvi p1, xvi p2, xvi p3, xvi p4, xvi o180, xvi o184, xvi o187, xvi o190, xvi (p0 &&& (7 : Int32)), xvr b276, xvr b291, xvr o303, xvr b291] [xwr b291])) rfl (by rw [hml]; rfl) (Steps.refl _) (argsL := []) (rest := []) (lenOf pd_6 rfl) rfl (by show 2 * 0 + _ ≤ _; exact Nat.le_of_eq rfl) (hb hby at_551) (fun _ _ => ⟨rfl, e311, (by decide : 6 + 0 ≤ _), (by decide : 59 + 0 ≤ _)⟩)
        dsimp only [Pt.U, Pt.locs, Pt.cells, Pt.slots] at X317 l317 y317 z317 st317 hQ317
        subst l317 y317 z317
        obtain ⟨rfl, N317q, e317⟩ := hQ317
        have N317 := Fr.app N311 N317q
        have f319 := ((f295.keep K297 (ninS (Nat.ne_of_lt (Nat.lt_of_lt_of_le (Nat.lt_of_lt_of_le V276.lt (Nat.le_trans (Nat.le_trans (Nat.le_of_eq W280.size.symm) (Nat.le_of_eq W284.size.symm)) (Nat.le_of_eq W288.size.symm))) (Nat.le_of_eq g291.symm))) nin0)).keep K302 nin0)
        obtain ⟨cl320, Ar320, q320, S320, M320, H320, G320⟩ := id f319
        obtain ⟨fs, hr, hrun, hended, hE⟩ := X317.leaveW hS302 (by rw [e317]; exact (Nat.le_refl _)) (v := some (.int (1 : Int32))) (fun h => by rw [Bd.returns] at h; cases h)
        refine ⟨_, _, hTG _ (c274 _ ?_), hrun, hended, _, _, rfl, ?_, ?_, hE.1, hE.2.1, hE.2.2.1, hE.2.2.2.mono (by decide) (by decide)⟩
        · refine y_icmpNo X189 hx 79 (hb hby at_76) (XT.ii_ne_f hc275) rfl ?_
          refine y_iconst X189 hx (3 : Int32) 80 (hb hby at_79) rfl rfl ?_
          refine st276 _ ?_
          show Sx p e below T276 m 82 #[xvi p0, xvi p1, xvi p2, xvi p3, xvi p4, xvi o180, xvi o184, xvi o187, xvi o190, xvi (p0 &&& (7 : Int32)), xun, xun, xun, xun] [xwr b276] _
          refine y_dup X276 hx 83 (hb hby at_82) rfl rfl ?_
          refine y_iconst X276 hx (0 : Int32) 84 (hb hby at_83) rfl rfl ?_
          refine y_iload X276 hx 86 (hb hby at_84) rfl rfl ?_
          refine st280 _ ?_
          show Sx p e below T280 m 87 #[xvi p0, xvi p1, xvi p2, xvi p3, xvi p4, xvi o180, xvi o184, xvi o187, xvi o190, xvi (p0 &&& (7 : Int32)), xun, xun, xun, xun] [xwr b276] _
          refine y_dup X280 hx 88 (hb hby at_87) rfl rfl ?_
          refine y_iconst X280 hx (1 : Int32) 89 (hb hby at_88) rfl rfl ?_
          refine y_iload X280 hx 91 (hb hby at_89) rfl rfl ?_
          refine st284 _ ?_
          show Sx p e below T284 m 92 #[xvi p0, xvi p1, xvi p2, xvi p3, xvi p4, xvi o180, xvi o184, xvi o187, xvi o190, xvi (p0 &&& (7 : Int32)), xun, xun, xun, xun] [xwr b276] _
          refine y_dup X284 hx 93 (hb hby at_92) rfl rfl ?_
          refine y_iconst X284 hx (2 : Int32) 94 (hb hby at_93) rfl rfl ?_
          refine y_iload X284 hx 96 (hb hby at_94) rfl rfl ?_
          refine st288 _ ?_
          show Sx p e below T288 m 97 #[xvi p0, xvi p1, xvi p2, xvi p3, xvi p4, xvi o180, xvi o184, xvi o187, xvi o190, xvi (p0 &&& (7 : Int32)), xun, xun, xun, xun] [xwr b276] _
          refine XS.astore X288.here hx rfl (hb hby at_97) rfl rfl (l' := #[xvi p0, xvi p1, xvi p2, xvi p3, xvi p4, xvi o180, xvi o184, xvi o187, xvi o190, xvi (p0 &&& (7 : Int32)), xvr b276, xun, xun, xun]) rfl ?_
          show Sx p e below T288 m 99 #[xvi p0, xvi p1, xvi p2, xvi p3, xvi p4, xvi o180, xvi o184, xvi o187, xvi o190, xvi (p0 &&& (7 : Int32)), xvr b276, xun, xun, xun] [] _
          refine y_goto X288 hx 514 (hb hby at_99) (by decide) (by decide) ?_
          refine st291 _ ?_
          show Sx p e below T291 m 517 #[xvi p0, xvi p1, xvi p2, xvi p3, xvi p4, xvi o180, xvi o184, xvi o187, xvi o190, xvi (p0 &&& (7 : Int32)), xvr b276, xun, xun, xun] [xwr b291] _
          refine y_dup X291 hx 518 (hb hby at_517) rfl rfl ?_
          refine y_aload X291 hx 520 (hb hby at_518) rfl rfl rfl ?_
          refine st297.trans ?_
          show Sx p e below T297 m 523 #[xvi p0, xvi p1, xvi p2, xvi p3, xvi p4, xvi o180, xvi o184, xvi o187, xvi o190, xvi (p0 &&& (7 : Int32)), xvr b276, xun, xun, xun] [xwr b291] _
          refine XS.astore X297.here hx rfl (hb hby at_523) rfl rfl (l' := #[xvi p0, xvi p1, xvi p2, xvi p3, xvi p4, xvi o180, xvi o184, xvi o187, xvi o190, xvi (p0 &&& (7 : Int32)), xvr b276, xvr b291, xun, xun]) rfl ?_
          show Sx p e below T297 m 525 #[xvi p0, xvi p1, xvi p2, xvi p3, xvi p4, xvi o180, xvi o184, xvi o187, xvi o190, xvi (p0 &&& (7 : Int32)), xvr b276, xvr b291, xun, xun] [] _
          refine y_aload X297 hx 527 (hb hby at_525) rfl rfl rfl ?_
          refine st302.trans ?_
          show Sx p e below T302 m 530 #[xvi p0, xvi p1, xvi p2, xvi p3, xvi p4, xvi o180, xvi o184, xvi o187, xvi o190, xvi (p0 &&& (7 : Int32)), xvr b276, xvr b291, xun, xun] [xwr o303] _
          refine XS.astore X302.here hx rfl (hb hby at_530) rfl rfl (l' := #[xvi p0, xvi p1, xvi p2, xvi p3, xvi p4, xvi o180, xvi o184, xvi o187, xvi o190, xvi (p0 &&& (7 : Int32)), xvr b276, xvr b291, xvr o303, xun]) rfl ?_
          show Sx p e below T302 m 532 #[xvi p0, xvi p1, xvi p2, xvi p3, xvi p4, xvi o180, xvi o184, xvi o187, xvi o190, xvi (p0 &&& (7 : Int32)), xvr b276, xvr b291, xvr o303, xun] [] _
          refine y_aload X302 hx 534 (hb hby at_532) rfl rfl rfl ?_
          refine st309.trans ?_
          show Sx p e below T309 m 537 #[xvi p0, xvi p1, xvi p2, xvi p3, xvi p4, xvi o180, xvi o184, xvi o187, xvi o190, xvi (p0 &&& (7 : Int32)), xvr b276, xvr b291, xvr o303, xun] [xwr b291] _
          refine XS.astore X309.here hx rfl (hb hby at_537) rfl rfl (l' := #[xvi p0, xvi p1, xvi p2, xvi p3, xvi p4, xvi o180, xvi o184, xvi o187, xvi o190, xvi (p0 &&& (7 : Int32)), xvr b276, xvr b291, xvr o303, xvr b291]) rfl ?_
          show Sx p e below T309 m 539 #[xvi p0, xvi p1, xvi p2, xvi p3, xvi p4, xvi o180, xvi o184, xvi o187, xvi o190, xvi (p0 &&& (7 : Int32)), xvr b276, xvr b291, xvr o303, xvr b291] [] _
          refine y_aload X309 hx 541 (hb hby at_539) rfl rfl rfl ?_
          refine y_aload X309 hx 543 (hb hby at_541) rfl rfl rfl ?_
          refine st311.trans ?_
          show Sx p e below T311 m 546 #[xvi p0, xvi p1, xvi p2, xvi p3, xvi p4, xvi o180, xvi o184, xvi o187, xvi o190, xvi (p0 &&& (7 : Int32)), xvr b276, xvr b291, xvr o303, xvr b291] [xwi (1 : Int32)] _
          refine y_ifNo X311 hx 549 (hb hby at_546) (XT.i0_eq_f (by decide)) rfl ?_
          refine y_aload X311 hx 551 (hb hby at_549) rfl rfl rfl ?_
          refine st317.trans ?_
          show Sx p e below T317 m 554 #[xvi p0, xvi p1, xvi p2, xvi p3, xvi p4, xvi o180, xvi o184, xvi o187, xvi o190, xvi (p0 &&& (7 : Int32)), xvr b276, xvr b291, xvr o303, xvr b291] [xwi (3 : Int32)] _
          refine y_aload X317 hx 556 (hb hby at_554) rfl rfl rfl ?_
          refine X317.arraylength hx (by rw [e317]; exact Ar320.1) (State.isArrayOf_alike hZ302.alike Ar320.2.1) (g := (mkF m 556 #[xvi p0, xvi p1, xvi p2, xvi p3, xvi p4, xvi o180, xvi o184, xvi o187, xvi o190, xvi (p0 &&& (7 : Int32)), xvr b276, xvr b291, xvr o303, xvr b291] [xwr b276, xwi (3 : Int32)])) rfl rfl (hb hby at_556) _ ?_
          rw [len_of S320 M320]
          show Sx p e below T317 m 557 #[xvi p0, xvi p1, xvi p2, xvi p3, xvi p4, xvi o180, xvi o184, xvi o187, xvi o190, xvi (p0 &&& (7 : Int32)), xvr b276, xvr b291, xvr o303, xvr b291] [xwi (3 : Int32), xwi (3 : Int32)] _
          refine y_icmpNo X317 hx 560 (hb hby at_557) (XT.ii_ne_f (by decide)) rfl ?_
          refine y_iconst X317 hx (1 : Int32) 561 (hb hby at_560) rfl rfl ?_
          refine y_goto X317 hx 565 (hb hby at_561) (by decide) (by decide) ?_
          show Sx p e below T317 m 565 #[xvi p0, xvi p1, xvi p2, xvi p3, xvi p4, xvi o180, xvi o184, xvi o187, xvi o190, xvi (p0 &&& (7 : Int32)), xvr b276, xvr b291, xvr o303, xvr b291] [xwi (1 : Int32)] _
          exact retN X317 hx (t := .boolean) Bd.returns (by simp) (hb hby at_565) (hr)
        · show Qrm0 Z G p0 p1 p2 p3 p4 h0 n0 _ T317.heap _
          rw [e317]
          exact ⟨rfl, N317, ((((((((Keep.refl h0 []).ext E276).wr W280 (Or.inr (Nat.le_trans (Nat.le_refl _) (Nat.le_of_eq g276.symm)))).wr W284 (Or.inr (Nat.le_trans (Nat.le_refl _) (Nat.le_of_eq g276.symm)))).wr W288 (Or.inr (Nat.le_trans (Nat.le_refl _) (Nat.le_of_eq g276.symm)))).ext E291).trans K297 (allS (Or.inr (Nat.le_trans (Nat.le_trans (Nat.le_trans (Nat.le_trans E276.1 (Nat.le_of_eq W280.size.symm)) (Nat.le_of_eq W284.size.symm)) (Nat.le_of_eq W288.size.symm)) (Nat.le_of_eq g291.symm))) all0)).trans K302 all0)⟩
        · rw [hh]; show CHr Z EL s.vm h0 T317.vm T317.heap; rw [e317]; exact C307.trans (CHv.at X317 hZ302 (own_EW hw) C307.1)
      · have c321 : ∀ t, Sx p e below T189 m 105 #[xvi p0, xvi p1, xvi p2, xvi p3, xvi p4, xvi o180, xvi o184, xvi o187, xvi o190, xvi (p0 &&& (7 : Int32)), xun, xun, xun, xun] [xwi (3 : Int32), xwi (p0 &&& (7 : Int32))] t → TG t := fun t k => c274 t (by
          refine y_icmpYes X189 hx 102 (hb hby at_76) (XT.ii_ne_t hc275) (by decide) (by decide) ?_
          refine y_iload X189 hx 104 (hb hby at_102) rfl rfl ?_
          refine y_iconst X189 hx (3 : Int32) 105 (hb hby at_104) rfl rfl ?_
          exact k)
        by_cases hc322 : (p0 &&& (7 : Int32)) = (3 : Int32)
        · obtain ⟨T323, h323, k323, X323, e323, E323, A323, st323⟩ := newP (aty := .char) X189 hx hZ (w_8 hw) e189 (g := (mkF m 109 #[xvi p0, xvi p1, xvi p2, xvi p3, xvi p4, xvi o180, xvi o184, xvi o187, xvi o190, xvi (p0 &&& (7 : Int32)), xun, xun, xun, xun] [xwi (4 : Int32)])) rfl (hb hby at_109) rfl (by decide) (cap := 4) (by decide) (by decide) (by decide) (by decide)
          obtain ⟨b323, g323⟩ : ∃ z, z = h0.size := ⟨_, rfl⟩
          rw [← g323] at A323 st323
          have ch325 := CHr.ext E323 C0.1
          have C324 := C0.trans ch325
          have V323 : Arv Z h323 b323 k323 .char (4 : Int32) [(.int (0 : Int32)), (.int (0 : Int32)), (.int (0 : Int32)), (.int (0 : Int32))] (.int (0 : Int32)) := (Arv.new A323 (by decide)).pad (pad_rep [] (.int (0 : Int32)) 4)
          obtain ⟨cl326, Ar326, q326, S326, M326, H326, G326⟩ := id V323
          have in326 : ¬ ((0 : Int32) < 0 ∨ cl326.slots.size ≤ ((0 : Int32)).toNatClampNeg) := inb_of S326 ⟨by decide, by decide⟩
          obtain ⟨T327, h327, X327, e327, W327, st327⟩ := stC X323 hx hZ e323 Ar326 (j := (0 : Int32)) in326 (g := (mkF m 115 #[xvi p0, xvi p1, xvi p2, xvi p3, xvi p4, xvi o180, xvi o184, xvi o187, xvi o190, xvi (p0 &&& (7 : Int32)), xun, xun, xun, xun] [xwi o180, xwi (0 : Int32), xwr b323, xwr b323])) rfl rfl (hb hby at_115)
          have ch329 := CHr.wr W327 (Safe.arv hZ.alike V323 (by decide)) C324.1
          have C328 := C324.trans ch329
          have V327 : Arv Z h327 b323 k323 .char (4 : Int32) [(.int o180), (.int (0 : Int32)), (.int (0 : Int32)), (.int (0 : Int32))] (.int (0 : Int32)) := by have q := Arv.set Ar326 q326 S326 M326 H326 G326 (fits_nar_char _) W327 0 rfl (Nat.le_of_ble_eq_true rfl); rw [own_narc p181.1] at q; exact q
          have N327 := Fr.snoc X327 N189 (Nat.le_trans Z0 (Nat.le_trans (Nat.le_refl _) (Nat.le_of_eq g323.symm)))
          obtain ⟨cl330, Ar330, q330, S330, M330, H330, G330⟩ := id V327
          have in330 : ¬ ((1 : Int32) < 0 ∨ cl330.slots.size ≤ ((1 : Int32)).toNatClampNeg) := inb_of S330 ⟨by decide, by decide⟩
          obtain ⟨T331, h331, X331, e331, W331, st331⟩ := stC X327 hx hZ e327 Ar330 (j := (1 : Int32)) in330 (g := (mkF m 120 #[xvi p0, xvi p1, xvi p2, xvi p3, xvi p4, xvi o180, xvi o184, xvi o187, xvi o190, xvi (p0 &&& (7 : Int32)), xun, xun, xun, xun] [xwi o184, xwi (1 : Int32), xwr b323, xwr b323])) rfl rfl (hb hby at_120)
          have ch333 := CHr.wr W331 (Safe.arv hZ.alike V327 (by decide)) C328.1
          have C332 := C328.trans ch333
          have V331 : Arv Z h331 b323 k323 .char (4 : Int32) [(.int o180), (.int o184), (.int (0 : Int32)), (.int (0 : Int32))] (.int (0 : Int32)) := by have q := Arv.set Ar330 q330 S330 M330 H330 G330 (fits_nar_char _) W331 1 rfl (Nat.le_of_ble_eq_true rfl); rw [own_narc p185.1] at q; exact q
          have N331 := Fr.snoc X331 N327 (Nat.le_trans Z0 (Nat.le_trans (Nat.le_refl _) (Nat.le_of_eq g323.symm)))
          obtain ⟨cl334, Ar334, q334, S334, M334, H334, G334⟩ := id V331
          have in334 : ¬ ((2 : Int32) < 0 ∨ cl334.slots.size ≤ ((2 : Int32)).toNatClampNeg) := inb_of S334 ⟨by decide, by decide⟩
          obtain ⟨T335, h335, X335, e335, W335, st335⟩ := stC X331 hx hZ e331 Ar334 (j := (2 : Int32)) in334 (g := (mkF m 125 #[xvi p0, xvi p1, xvi p2, xvi p3, xvi p4, xvi o180, xvi o184, xvi o187, xvi o190, xvi (p0 &&& (7 : Int32)), xun, xun, xun, xun] [xwi o187, xwi (2 : Int32), xwr b323, xwr b323])) rfl rfl (hb hby at_125)
          have ch337 := CHr.wr W335 (Safe.arv hZ.alike V331 (by decide)) C332.1
          have C336 := C332.trans ch337
          have V335 : Arv Z h335 b323 k323 .char (4 : Int32) [(.int o180), (.int o184), (.int o187), (.int (0 : Int32))] (.int (0 : Int32)) := by have q := Arv.set Ar334 q334 S334 M334 H334 G334 (fits_nar_char _) W335 2 rfl (Nat.le_of_ble_eq_true rfl); rw [own_narc p188.1] at q; exact q
          have N335 := Fr.snoc X335 N331 (Nat.le_trans Z0 (Nat.le_trans (Nat.le_refl _) (Nat.le_of_eq g323.symm)))
          obtain ⟨cl338, Ar338, q338, S338, M338, H338, G338⟩ := id V335
          have in338 : ¬ ((3 : Int32) < 0 ∨ cl338.slots.size ≤ ((3 : Int32)).toNatClampNeg) := inb_of S338 ⟨by decide, by decide⟩
          obtain ⟨T339, h339, X339, e339, W339, st339⟩ := stC X335 hx hZ e335 Ar338 (j := (3 : Int32)) in338 (g := (mkF m 130 #[xvi p0, xvi p1, xvi p2, xvi p3, xvi p4, xvi o180, xvi o184, xvi o187, xvi o190, xvi (p0 &&& (7 : Int32)), xun, xun, xun, xun] [xwi o190, xwi (3 : Int32), xwr b323, xwr b323])) rfl rfl (hb hby at_130)
          have ch341 := CHr.wr W339 (Safe.arv hZ.alike V335 (by decide)) C336.1
          have C340 := C336.trans ch341
          have V339 : Arv Z h339 b323 k323 .char (4 : Int32) [(.int o180), (.int o184), (.int o187), (.int o190)] (.int (0 : Int32)) := by have q := Arv.set Ar338 q338 S338 M338 H338 G338 (fits_nar_char _) W339 3 rfl (Nat.le_of_ble_eq_true rfl); rw [own_narc p191.1] at q; exact q
          have N339 := Fr.snoc X339 N335 (Nat.le_trans Z0 (Nat.le_trans (Nat.le_refl _) (Nat.le_of_eq g323.symm)))
          obtain ⟨T342, h342, X342, e342, E342, A342, D342, -, st342⟩ := newO X339 hx hZ hown (w_9 hw) (w_10 hw) (w_11 hw) e339 (g := (mkF m 514 #[xvi p0, xvi p1, xvi p2, xvi p3, xvi p4, xvi o180, xvi o184, xvi o187, xvi o190, xvi (p0 &&& (7 : Int32)), xvr b323, xun, xun, xun] [])) rfl (hb hby at_514) (by decide) (by decide)
          obtain ⟨b342, g342⟩ : ∃ z, z = h339.size := ⟨_, rfl⟩
          rw [← g342] at A342 D342 st342
          have ch344 := CHr.ext E342 C340.1
          have C343 := C340.trans ch344
          have Fb342_coder : Fld Z h342 b342 "java/lang/String" "coder" "B" (.int (0 : Int32)) := D342 (Or.inr (w_35 hw)) (ty := .byte) (by decide)
          have Fb342_value : Fld Z h342 b342 "java/lang/String" "value" "[B" .null := D342 (Or.inr (w_37 hw)) (ty := (.array .byte)) (by decide)
          have hp345 : ∀ c ∈ ([o180, o184, o187, o190] : List Int32), ¬ c < 0 ∧ ¬ (255 : Int32) < c := (own_fc p181.1 (own_fc p185.1 (own_fc p188.1 (own_fc p191.1 own_fn))))
          have f346 := (V339.ext E342)
          have Ol347 : Old Z n0 h342 := ((((((X00.ext E323).wr W327 (Nat.le_trans Z0 (Nat.le_trans (Nat.le_refl _) (Nat.le_of_eq g323.symm)))).wr W331 (Nat.le_trans Z0 (Nat.le_trans (Nat.le_refl _) (Nat.le_of_eq g323.symm)))).wr W335 (Nat.le_trans Z0 (Nat.le_trans (Nat.le_refl _) (Nat.le_of_eq g323.symm)))).wr W339 (Nat.le_trans Z0 (Nat.le_trans (Nat.le_refl _) (Nat.le_of_eq g323.symm)))).ext E342)
          obtain ⟨_, _, ⟨T348, L348, k348, n348⟩, -, X348, ⟨Lc348, hQ348, l348, y348, z348⟩, st348⟩ := X342.specialBack hx (y := (⟨"java/lang/String", "<init>", "([C)V"⟩ : MethodName)) rfl hown (mvT hZ (w_12 hw)) (mvT hZ (w_13 hw)) (mvT hZ (w_14 hw)) (by decide) (StrChars.Road.backV (W := 1) hZ (own_wV hw) (kI := 4) (w_10 hw) (cs := ([o180, o184, o187, o190] : List Int32)) (bs := (([o180, o184, o187, o190] : List Int32).map (fun c => c.toInt8.toInt32))) (n := 4) (Nat.le_trans Z0 (Nat.le_trans (Nat.le_trans (Nat.le_trans (Nat.le_trans (Nat.le_trans E323.1 (Nat.le_of_eq W327.size.symm)) (Nat.le_of_eq W331.size.symm)) (Nat.le_of_eq W335.size.symm)) (Nat.le_of_eq W339.size.symm)) (Nat.le_of_eq g342.symm))) (Nat.le_trans Z0 (Nat.le_trans (Nat.le_trans (Nat.le_trans (Nat.le_trans (Nat.le_trans E323.1 (Nat.le_of_eq W327.size.symm)) (Nat.le_of_eq W331.size.symm)) (Nat.le_of_eq W335.size.symm)) (Nat.le_of_eq W339.size.symm)) E342.1)) A342 Fb342_value Fb342_coder f346 (ST.1.ext Ol347.2) ST.2.1 rfl rfl (by decide) (by decide) hp345 rfl (by decide) (by decide)) (g := (mkF m 520 #[xvi p0, xvi p1, xvi p2, xvi p3, xvi p4, xvi o180, xvi o184, xvi o187, xvi o190, xvi (p0 &&& (7 : Int32)), xvr b323, xun, xun, xun] [xwr b323, xwr b342, xwr b342])) rfl (by rw [hml]; rfl) (Steps.refl _) (a := b342) (argsL := [(.ref b323)]) (rest := [(.ref b342)]) (lenOf pd_11 rfl) rfl (by show 2 * 0 + _ ≤ _; exact Nat.le_of_eq rfl) (hb hby at_520) (fun _ _ => ⟨rfl, e342, (by decide : 2 + 1 ≤ _), (by decide : 8 + 4 ≤ _)⟩)
          dsimp only [Pt.U, Pt.locs, Pt.cells, Pt.slots] at X348 l348 y348 z348 st348 hQ348
          subst l348 y348 z348
          obtain ⟨hp348, e348⟩ : ∃ z, T348.heap = z := ⟨_, rfl⟩
          rw [e348] at hQ348
          obtain ⟨rfl, N348q, K348, E348, Fc348, t348, kb348, -, gt348, -, Fv348, V348⟩ := hQ348
          have N348 := Fr.app N339 N348q
          have sf351 := (Safe.ext E342 C340.1 (Safe.new (Nat.le_of_eq g342.symm)))
          have ch350 := CHr.keep K348 (sfS sf351 sf0) C343.1
          have C349 := C343.trans ch350
          have hok : ∀ c ∈ ([o180, o184, o187, o190] : List Int32), own_ok c := (own_fc p181 (own_fc p185 (own_fc p188 (own_fc p191 own_fn))))
          have Ol352 : Old Z n0 hp348 := (Ol347.keep K348 (allS (Nat.le_trans Z0 (Nat.le_trans (Nat.le_trans (Nat.le_trans (Nat.le_trans (Nat.le_trans E323.1 (Nat.le_of_eq W327.size.symm)) (Nat.le_of_eq W331.size.symm)) (Nat.le_of_eq W335.size.symm)) (Nat.le_of_eq W339.size.symm)) (Nat.le_of_eq g342.symm))) all0))
          obtain ⟨_, _, ⟨T353, L353, k353, n353⟩, -, X353, hS353, g353, ⟨Lc353, hQ353, l353, y353, z353, CH353⟩, st353⟩ := callSS X348 hx (y := (⟨"com/example/arbiter/arbiter/store/SchemaName", "of", "(Ljava/lang/String;)Lcom/example/arbiter/arbiter/store/SchemaName;"⟩ : MethodName)) hown (mvT hZ (w_38 hw)) (mvT hZ (w_39 hw)) (mvT hZ (w_40 hw)) (mvT hZ (w_41 hw)) (by decide) (backOfSH (W := 0) (rmOf l Z a0 hw G ST [] b342 t348 kb348 ([o180, o184, o187, o190] : List Int32) 4 hp348 n0 Ol352 E348 Fc348 Fv348 V348 rfl (by decide) (by decide) hok p182) hZ (w_41 hw) (w_40 hw) (by decide) (by decide) (own_EW hw) C349.1) (g := (mkF m 527 #[xvi p0, xvi p1, xvi p2, xvi p3, xvi p4, xvi o180, xvi o184, xvi o187, xvi o190, xvi (p0 &&& (7 : Int32)), xvr b323, xvr b342, xun, xun] [xwr b342])) rfl (by rw [hml]; rfl) (argsL := [(.ref b342)]) (rest := []) (lenOf pd_12 rfl) rfl (by show 2 * 0 + _ ≤ _; exact Nat.le_of_eq rfl) (hb hby at_527) (fun _ _ => ⟨rfl, e348, (by decide : 3 + 3 ≤ _), (by decide : 12 + 49 ≤ _)⟩)
          dsimp only [Pt.U, Pt.locs, Pt.cells, Pt.slots] at X353 l353 y353 z353 st353 hQ353 CH353 hS353 g353
          subst l353 y353 z353
          obtain ⟨hp353, e353⟩ : ∃ z, T353.heap = z := ⟨_, rfl⟩
          rw [e353] at hQ353 CH353 hS353 g353
          rw [e348] at g353
          obtain ⟨X353, hS353, hZ353, hown353⟩ := rebS hS0 (Nat.le_trans (Nat.le_trans (Nat.le_trans (Nat.le_trans (Nat.le_trans (Nat.le_trans E323.1 (Nat.le_of_eq W327.size.symm)) (Nat.le_of_eq W331.size.symm)) (Nat.le_of_eq W335.size.symm)) (Nat.le_of_eq W339.size.symm)) E342.1) K348.1) X353 hS353 g353 hZ hown
          obtain ⟨o354, rfl, N353q, K353, p355, p356, p357⟩ := hQ353
          have N353 := Fr.app N348 N353q
          have C358 := C349.trans CH353
          have Ol359 : Old Z n0 hp353 := (Ol352.keep K353 all0)
          obtain ⟨cq361, kq361, q361a, q361b, q361c⟩ := isOf hZ353 e353 p356
          obtain ⟨_, _, ⟨T360, L360, k360, n360⟩, -, X360, ⟨Lc360, hQ360, l360, y360, z360⟩, st360⟩ := X353.virtualBack hx (y := (⟨"com/example/arbiter/arbiter/store/SchemaName", "name", "()Ljava/lang/String;"⟩ : MethodName)) (z := (⟨"com/example/arbiter/arbiter/store/SchemaName", "name", "()Ljava/lang/String;"⟩ : MethodName)) hown353 (mvT hZ353 (w_95 hw)) (mvT hZ353 (w_96 hw)) (notFace_of_selects (args := #[]) (mvT hZ353 (w_98 hw))) (mvT hZ353 (w_98 hw)) (mvT hZ353 (w_97 hw)) (by decide) (backOf (W := 0) (rmNa l Z a0 hw G ST [] o354 b342 hp353 n0 Ol359 p357) hZ353 (w_99 hw) (w_40 hw) (by decide) (by decide)) q361a q361c (g := (mkF m 534 #[xvi p0, xvi p1, xvi p2, xvi p3, xvi p4, xvi o180, xvi o184, xvi o187, xvi o190, xvi (p0 &&& (7 : Int32)), xvr b323, xvr b342, xvr o354, xun] [xwr o354])) rfl (by rw [hml]; rfl) (Steps.refl _) (argsL := []) (rest := []) (lenOf pd_13 rfl) rfl (by show 2 * 0 + _ ≤ _; exact Nat.le_of_eq rfl) (hb hby at_534) (fun _ _ => ⟨rfl, e353, (by decide : 6 + 0 ≤ _), (by decide : 61 + 0 ≤ _)⟩)
          dsimp only [Pt.U, Pt.locs, Pt.cells, Pt.slots] at X360 l360 y360 z360 st360 hQ360
          subst l360 y360 z360
          obtain ⟨rfl, N360q, e360⟩ := hQ360
          have N360 := Fr.app N353 N360q
          have f363 := (E348.keep K353)
          obtain ⟨cq364, kq364, q364a, q364b, q364c⟩ := isOf hZ353 e360 f363
          obtain ⟨_, _, ⟨T362, L362, k362, n362⟩, -, X362, ⟨Lc362, hQ362, l362, y362, z362⟩, st362⟩ := X360.virtualBack hx (y := (⟨"java/lang/String", "equals", "(Ljava/lang/Object;)Z"⟩ : MethodName)) (z := (⟨"java/lang/String", "equals", "(Ljava/lang/Object;)Z"⟩ : MethodName)) hown353 (mvT hZ353 (w_100 hw)) (mvT hZ353 (w_101 hw)) (notFace_of_selects (args := #[]) (mvT hZ353 (w_103 hw))) (mvT hZ353 (w_103 hw)) (mvT hZ353 (w_102 hw)) (by decide) (backOf (W := 0) (rmEqS l Z a0 hw G ST [] b342 hp353 n0 Ol359 ) hZ353 (w_104 hw) (w_11 hw) (by decide) (by decide)) q364a q364c (g := (mkF m 543 #[xvi p0, xvi p1, xvi p2, xvi p3, xvi p4, xvi o180, xvi o184, xvi o187, xvi o190, xvi (p0 &&& (7 : Int32)), xvr b323, xvr b342, xvr o354, xvr b342] [xwr b342, xwr b342])) rfl (by rw [hml]; rfl) (Steps.refl _) (argsL := [(.ref b342)]) (rest := []) (lenOf pd_14 rfl) rfl (by show 2 * 0 + _ ≤ _; exact Nat.le_of_eq rfl) (hb hby at_543) (fun _ _ => ⟨rfl, e360, (by decide : 6 + 0 ≤ _), (by decide : 61 + 0 ≤ _)⟩)
          dsimp only [Pt.U, Pt.locs, Pt.cells, Pt.slots] at X362 l362 y362 z362 st362 hQ362
          subst l362 y362 z362
          obtain ⟨rfl, N362q, e362⟩ := hQ362
          have N362 := Fr.app N360 N362q
          have f365 := (Fc348.keep K353 nin0)
          have f366 := (Fv348.keep K353 nin0)
          have f367 := (V348.keep K353 nin0)
          obtain ⟨cq369, kq369, q369a, q369b, q369c⟩ := isOf hZ353 e362 f363
          obtain ⟨_, _, ⟨T368, L368, k368, n368⟩, -, X368, ⟨Lc368, hQ368, l368, y368, z368⟩, st368⟩ := X362.virtualBack hx (y := (⟨"java/lang/String", "length", "()I"⟩ : MethodName)) (z := (⟨"java/lang/String", "length", "()I"⟩ : MethodName)) hown353 (mvT hZ353 (w_105 hw)) (mvT hZ353 (w_55 hw)) (notFace_of_selects (args := #[]) (mvT hZ353 (w_57 hw))) (mvT hZ353 (w_57 hw)) (mvT hZ353 (w_56 hw)) (by decide) (backOf (W := 0) (rmLen l Z a0 hw G ST [] b342 t348 kb348 (4 : Int32) (((([o180, o184, o187, o190] : List Int32).map (fun c => c.toInt8.toInt32)).map Value.int) : List Value) (.int (0 : Int32)) hp353 n0 Ol359 f363 f365 f366 f367) hZ353 (w_58 hw) (w_11 hw) (by decide) (by decide)) q369a q369c (g := (mkF m 551 #[xvi p0, xvi p1, xvi p2, xvi p3, xvi p4, xvi o180, xvi o184, xvi o187, xvi o190, xvi (p0 &&& (7 : Int32)), xvr b323, xvr b342, xvr o354, xvr b342] [xwr b342])) rfl (by rw [hml]; rfl) (Steps.refl _) (argsL := []) (rest := []) (lenOf pd_6 rfl) rfl (by show 2 * 0 + _ ≤ _; exact Nat.le_of_eq rfl) (hb hby at_551) (fun _ _ => ⟨rfl, e362, (by decide : 6 + 0 ≤ _), (by decide : 61 + 0 ≤ _)⟩)
          dsimp only [Pt.U, Pt.locs, Pt.cells, Pt.slots] at X368 l368 y368 z368 st368 hQ368
          subst l368 y368 z368
          obtain ⟨rfl, N368q, e368⟩ := hQ368
          have N368 := Fr.app N362 N368q
          have f370 := ((f346.keep K348 (ninS (Nat.ne_of_lt (Nat.lt_of_lt_of_le (Nat.lt_of_lt_of_le V323.lt (Nat.le_trans (Nat.le_trans (Nat.le_trans (Nat.le_of_eq W327.size.symm) (Nat.le_of_eq W331.size.symm)) (Nat.le_of_eq W335.size.symm)) (Nat.le_of_eq W339.size.symm))) (Nat.le_of_eq g342.symm))) nin0)).keep K353 nin0)
          obtain ⟨cl371, Ar371, q371, S371, M371, H371, G371⟩ := id f370
          obtain ⟨fs, hr, hrun, hended, hE⟩ := X368.leaveW hS353 (by rw [e368]; exact (Nat.le_refl _)) (v := some (.int (1 : Int32))) (fun h => by rw [Bd.returns] at h; cases h)
          refine ⟨_, _, hTG _ (c321 _ ?_), hrun, hended, _, _, rfl, ?_, ?_, hE.1, hE.2.1, hE.2.2.1, hE.2.2.2.mono (by decide) (by decide)⟩
          · refine y_icmpNo X189 hx 108 (hb hby at_105) (XT.ii_ne_f hc322) rfl ?_
            refine y_iconst X189 hx (4 : Int32) 109 (hb hby at_108) rfl rfl ?_
            refine st323 _ ?_
            show Sx p e below T323 m 111 #[xvi p0, xvi p1, xvi p2, xvi p3, xvi p4, xvi o180, xvi o184, xvi o187, xvi o190, xvi (p0 &&& (7 : Int32)), xun, xun, xun, xun] [xwr b323] _
            refine y_dup X323 hx 112 (hb hby at_111) rfl rfl ?_
            refine y_iconst X323 hx (0 : Int32) 113 (hb hby at_112) rfl rfl ?_
            refine y_iload X323 hx 115 (hb hby at_113) rfl rfl ?_
            refine st327 _ ?_
            show Sx p e below T327 m 116 #[xvi p0, xvi p1, xvi p2, xvi p3, xvi p4, xvi o180, xvi o184, xvi o187, xvi o190, xvi (p0 &&& (7 : Int32)), xun, xun, xun, xun] [xwr b323] _
            refine y_dup X327 hx 117 (hb hby at_116) rfl rfl ?_
            refine y_iconst X327 hx (1 : Int32) 118 (hb hby at_117) rfl rfl ?_
            refine y_iload X327 hx 120 (hb hby at_118) rfl rfl ?_
            refine st331 _ ?_
            show Sx p e below T331 m 121 #[xvi p0, xvi p1, xvi p2, xvi p3, xvi p4, xvi o180, xvi o184, xvi o187, xvi o190, xvi (p0 &&& (7 : Int32)), xun, xun, xun, xun] [xwr b323] _
            refine y_dup X331 hx 122 (hb hby at_121) rfl rfl ?_
            refine y_iconst X331 hx (2 : Int32) 123 (hb hby at_122) rfl rfl ?_
            refine y_iload X331 hx 125 (hb hby at_123) rfl rfl ?_
            refine st335 _ ?_
            show Sx p e below T335 m 126 #[xvi p0, xvi p1, xvi p2, xvi p3, xvi p4, xvi o180, xvi o184, xvi o187, xvi o190, xvi (p0 &&& (7 : Int32)), xun, xun, xun, xun] [xwr b323] _
            refine y_dup X335 hx 127 (hb hby at_126) rfl rfl ?_
            refine y_iconst X335 hx (3 : Int32) 128 (hb hby at_127) rfl rfl ?_
            refine y_iload X335 hx 130 (hb hby at_128) rfl rfl ?_
            refine st339 _ ?_
            show Sx p e below T339 m 131 #[xvi p0, xvi p1, xvi p2, xvi p3, xvi p4, xvi o180, xvi o184, xvi o187, xvi o190, xvi (p0 &&& (7 : Int32)), xun, xun, xun, xun] [xwr b323] _
            refine XS.astore X339.here hx rfl (hb hby at_131) rfl rfl (l' := #[xvi p0, xvi p1, xvi p2, xvi p3, xvi p4, xvi o180, xvi o184, xvi o187, xvi o190, xvi (p0 &&& (7 : Int32)), xvr b323, xun, xun, xun]) rfl ?_
            show Sx p e below T339 m 133 #[xvi p0, xvi p1, xvi p2, xvi p3, xvi p4, xvi o180, xvi o184, xvi o187, xvi o190, xvi (p0 &&& (7 : Int32)), xvr b323, xun, xun, xun] [] _
            refine y_goto X339 hx 514 (hb hby at_133) (by decide) (by decide) ?_
            refine st342 _ ?_
            show Sx p e below T342 m 517 #[xvi p0, xvi p1, xvi p2, xvi p3, xvi p4, xvi o180, xvi o184, xvi o187, xvi o190, xvi (p0 &&& (7 : Int32)), xvr b323, xun, xun, xun] [xwr b342] _
            refine y_dup X342 hx 518 (hb hby at_517) rfl rfl ?_
            refine y_aload X342 hx 520 (hb hby at_518) rfl rfl rfl ?_
            refine st348.trans ?_
            show Sx p e below T348 m 523 #[xvi p0, xvi p1, xvi p2, xvi p3, xvi p4, xvi o180, xvi o184, xvi o187, xvi o190, xvi (p0 &&& (7 : Int32)), xvr b323, xun, xun, xun] [xwr b342] _
            refine XS.astore X348.here hx rfl (hb hby at_523) rfl rfl (l' := #[xvi p0, xvi p1, xvi p2, xvi p3, xvi p4, xvi o180, xvi o184, xvi o187, xvi o190, xvi (p0 &&& (7 : Int32)), xvr b323, xvr b342, xun, xun]) rfl ?_
            show Sx p e below T348 m 525 #[xvi p0, xvi p1, xvi p2, xvi p3, xvi p4, xvi o180, xvi o184, xvi o187, xvi o190, xvi (p0 &&& (7 : Int32)), xvr b323, xvr b342, xun, xun] [] _
            refine y_aload X348 hx 527 (hb hby at_525) rfl rfl rfl ?_
            refine st353.trans ?_
            show Sx p e below T353 m 530 #[xvi p0, xvi p1, xvi p2, xvi p3, xvi p4, xvi o180, xvi o184, xvi o187, xvi o190, xvi (p0 &&& (7 : Int32)), xvr b323, xvr b342, xun, xun] [xwr o354] _
            refine XS.astore X353.here hx rfl (hb hby at_530) rfl rfl (l' := #[xvi p0, xvi p1, xvi p2, xvi p3, xvi p4, xvi o180, xvi o184, xvi o187, xvi o190, xvi (p0 &&& (7 : Int32)), xvr b323, xvr b342, xvr o354, xun]) rfl ?_
            show Sx p e below T353 m 532 #[xvi p0, xvi p1, xvi p2, xvi p3, xvi p4, xvi o180, xvi o184, xvi o187, xvi o190, xvi (p0 &&& (7 : Int32)), xvr b323, xvr b342, xvr o354, xun] [] _
            refine y_aload X353 hx 534 (hb hby at_532) rfl rfl rfl ?_
            refine st360.trans ?_
            show Sx p e below T360 m 537 #[xvi p0, xvi p1, xvi p2, xvi p3, xvi p4, xvi o180, xvi o184, xvi o187, xvi o190, xvi (p0 &&& (7 : Int32)), xvr b323, xvr b342, xvr o354, xun] [xwr b342] _
            refine XS.astore X360.here hx rfl (hb hby at_537) rfl rfl (l' := #[xvi p0, xvi p1, xvi p2, xvi p3, xvi p4, xvi o180, xvi o184, xvi o187, xvi o190, xvi (p0 &&& (7 : Int32)), xvr b323, xvr b342, xvr o354, xvr b342]) rfl ?_
            show Sx p e below T360 m 539 #[xvi p0, xvi p1, xvi p2, xvi p3, xvi p4, xvi o180, xvi o184, xvi o187, xvi o190, xvi (p0 &&& (7 : Int32)), xvr b323, xvr b342, xvr o354, xvr b342] [] _
            refine y_aload X360 hx 541 (hb hby at_539) rfl rfl rfl ?_
            refine y_aload X360 hx 543 (hb hby at_541) rfl rfl rfl ?_
            refine st362.trans ?_
            show Sx p e below T362 m 546 #[xvi p0, xvi p1, xvi p2, xvi p3, xvi p4, xvi o180, xvi o184, xvi o187, xvi o190, xvi (p0 &&& (7 : Int32)), xvr b323, xvr b342, xvr o354, xvr b342] [xwi (1 : Int32)] _
            refine y_ifNo X362 hx 549 (hb hby at_546) (XT.i0_eq_f (by decide)) rfl ?_
            refine y_aload X362 hx 551 (hb hby at_549) rfl rfl rfl ?_
            refine st368.trans ?_
            show Sx p e below T368 m 554 #[xvi p0, xvi p1, xvi p2, xvi p3, xvi p4, xvi o180, xvi o184, xvi o187, xvi o190, xvi (p0 &&& (7 : Int32)), xvr b323, xvr b342, xvr o354, xvr b342] [xwi (4 : Int32)] _
            refine y_aload X368 hx 556 (hb hby at_554) rfl rfl rfl ?_
            refine X368.arraylength hx (by rw [e368]; exact Ar371.1) (State.isArrayOf_alike hZ353.alike Ar371.2.1) (g := (mkF m 556 #[xvi p0, xvi p1, xvi p2, xvi p3, xvi p4, xvi o180, xvi o184, xvi o187, xvi o190, xvi (p0 &&& (7 : Int32)), xvr b323, xvr b342, xvr o354, xvr b342] [xwr b323, xwi (4 : Int32)])) rfl rfl (hb hby at_556) _ ?_
            rw [len_of S371 M371]
            show Sx p e below T368 m 557 #[xvi p0, xvi p1, xvi p2, xvi p3, xvi p4, xvi o180, xvi o184, xvi o187, xvi o190, xvi (p0 &&& (7 : Int32)), xvr b323, xvr b342, xvr o354, xvr b342] [xwi (4 : Int32), xwi (4 : Int32)] _
            refine y_icmpNo X368 hx 560 (hb hby at_557) (XT.ii_ne_f (by decide)) rfl ?_
            refine y_iconst X368 hx (1 : Int32) 561 (hb hby at_560) rfl rfl ?_
            refine y_goto X368 hx 565 (hb hby at_561) (by decide) (by decide) ?_
            show Sx p e below T368 m 565 #[xvi p0, xvi p1, xvi p2, xvi p3, xvi p4, xvi o180, xvi o184, xvi o187, xvi o190, xvi (p0 &&& (7 : Int32)), xvr b323, xvr b342, xvr o354, xvr b342] [xwi (1 : Int32)] _
            exact retN X368 hx (t := .boolean) Bd.returns (by simp) (hb hby at_565) (hr)
          · show Qrm0 Z G p0 p1 p2 p3 p4 h0 n0 _ T368.heap _
            rw [e368]
            exact ⟨rfl, N368, (((((((((Keep.refl h0 []).ext E323).wr W327 (Or.inr (Nat.le_trans (Nat.le_refl _) (Nat.le_of_eq g323.symm)))).wr W331 (Or.inr (Nat.le_trans (Nat.le_refl _) (Nat.le_of_eq g323.symm)))).wr W335 (Or.inr (Nat.le_trans (Nat.le_refl _) (Nat.le_of_eq g323.symm)))).wr W339 (Or.inr (Nat.le_trans (Nat.le_refl _) (Nat.le_of_eq g323.symm)))).ext E342).trans K348 (allS (Or.inr (Nat.le_trans (Nat.le_trans (Nat.le_trans (Nat.le_trans (Nat.le_trans E323.1 (Nat.le_of_eq W327.size.symm)) (Nat.le_of_eq W331.size.symm)) (Nat.le_of_eq W335.size.symm)) (Nat.le_of_eq W339.size.symm)) (Nat.le_of_eq g342.symm))) all0)).trans K353 all0)⟩
          · rw [hh]; show CHr Z EL s.vm h0 T368.vm T368.heap; rw [e368]; exact C358.trans (CHv.at X368 hZ353 (own_EW hw) C358.1)
        · obtain ⟨T372, h372, k372, X372, e372, E372, A372, st372⟩ := newP (aty := .char) X189 hx hZ (w_8 hw) e189 (g := (mkF m 138 #[xvi p0, xvi p1, xvi p2, xvi p3, xvi p4, xvi o180, xvi o184, xvi o187, xvi o190, xvi (p0 &&& (7 : Int32)), xun, xun, xun, xun] [xwi (63 : Int32)])) rfl (hb hby at_138) rfl (by decide) (cap := 63) (by decide) (by decide) (by decide) (by decide)
          obtain ⟨b372, g372⟩ : ∃ z, z = h0.size := ⟨_, rfl⟩
          rw [← g372] at A372 st372
          have ch374 := CHr.ext E372 C0.1
          have C373 := C0.trans ch374
          have V372 : Arv Z h372 b372 k372 .char (63 : Int32) [(.int (0 : Int32)), (.int (0 : Int32)), (.int (0 : Int32)), (.int (0 : Int32)), (.int (0 : Int32)), (.int (0 : Int32)), (.int (0 : Int32)), (.int (0 : Int32)), (.int (0 : Int32)), (.int (0 : Int32)), (.int (0 : Int32)), (.int (0 : Int32)), (.int (0 : Int32)), (.int (0 : Int32)), (.int (0 : Int32)), (.int (0 : Int32)), (.int (0 : Int32)), (.int (0 : Int32)), (.int (0 : Int32)), (.int (0 : Int32)), (.int (0 : Int32)), (.int (0 : Int32)), (.int (0 : Int32)), (.int (0 : Int32)), (.int (0 : Int32)), (.int (0 : Int32)), (.int (0 : Int32)), (.int (0 : Int32)), (.int (0 : Int32)), (.int (0 : Int32)), (.int (0 : Int32)), (.int (0 : Int32)), (.int (0 : Int32)), (.int (0 : Int32)), (.int (0 : Int32)), (.int (0 : Int32)), (.int (0 : Int32)), (.int (0 : Int32)), (.int (0 : Int32)), (.int (0 : Int32)), (.int (0 : Int32)), (.int (0 : Int32)), (.int (0 : Int32)), (.int (0 : Int32)), (.int (0 : Int32)), (.int (0 : Int32)), (.int (0 : Int32)), (.int (0 : Int32)), (.int (0 : Int32)), (.int (0 : Int32)), (.int (0 : Int32)), (.int (0 : Int32)), (.int (0 : Int32)), (.int (0 : Int32)), (.int (0 : Int32)), (.int (0 : Int32)), (.int (0 : Int32)), (.int (0 : Int32)), (.int (0 : Int32)), (.int (0 : Int32)), (.int (0 : Int32)), (.int (0 : Int32)), (.int (0 : Int32))] (.int (0 : Int32)) := (Arv.new A372 (by decide)).pad (pad_rep [] (.int (0 : Int32)) 63)
          have c407 : ∀ t, Sx p e below T372 m 140 #[xvi p0, xvi p1, xvi p2, xvi p3, xvi p4, xvi o180, xvi o184, xvi o187, xvi o190, xvi (p0 &&& (7 : Int32)), xun, xun, xun, xun] [xwr b372] t → TG t := fun t k => c321 t (by
            refine y_icmpYes X189 hx 136 (hb hby at_105) (XT.ii_ne_t hc322) (by decide) (by decide) ?_
            refine y_bipush X189 hx (63 : Int32) 138 (hb hby at_136) rfl rfl ?_
            refine st372 _ ?_
            exact k)
          have j408 : ∃ (T' : State) (h' : Heap) (locs' : List Loc) (vm' : Vm) (k' : Nat) , Stand p l e room_1 (s.setVm vm') m #[(.int p0), (.int p1), (.int p2), (.int p3), (.int p4)] below meth c T' locs' 1 63 ∧ T'.heap = h' ∧ Fr n0 locs' ∧ Keep h372 h' [b372] ∧ Z.Warmed39 (s.setVm vm').vm ∧ (s.setVm vm').vm.findClass "com/example/arbiter/arbiter/store/SchemaNameOfPinLaw" = some m.cls ∧ s.Since vm' k' ∧ k' ≤ h'.size ∧ CHr Z EL s.vm h372 vm' h' ∧ Arv Z h' b372 k372 .char (63 : Int32) [(.int o180), (.int o184), (.int o187), (.int o190), (.int o184), (.int o187), (.int o190), (.int o184), (.int (0 : Int32)), (.int (0 : Int32)), (.int (0 : Int32)), (.int (0 : Int32)), (.int (0 : Int32)), (.int (0 : Int32)), (.int (0 : Int32)), (.int (0 : Int32)), (.int (0 : Int32)), (.int (0 : Int32)), (.int (0 : Int32)), (.int (0 : Int32)), (.int (0 : Int32)), (.int (0 : Int32)), (.int (0 : Int32)), (.int (0 : Int32)), (.int (0 : Int32)), (.int (0 : Int32)), (.int (0 : Int32)), (.int (0 : Int32)), (.int (0 : Int32)), (.int (0 : Int32)), (.int (0 : Int32)), (.int (0 : Int32)), (.int (0 : Int32)), (.int (0 : Int32)), (.int (0 : Int32)), (.int (0 : Int32)), (.int (0 : Int32)), (.int (0 : Int32)), (.int (0 : Int32)), (.int (0 : Int32)), (.int (0 : Int32)), (.int (0 : Int32)), (.int (0 : Int32)), (.int (0 : Int32)), (.int (0 : Int32)), (.int (0 : Int32)), (.int (0 : Int32)), (.int (0 : Int32)), (.int (0 : Int32)), (.int (0 : Int32)), (.int (0 : Int32)), (.int (0 : Int32)), (.int (0 : Int32)), (.int (0 : Int32)), (.int (0 : Int32)), (.int (0 : Int32)), (.int (0 : Int32)), (.int (0 : Int32)), (.int (0 : Int32)), (.int (0 : Int32)), (.int (0 : Int32)), (.int (0 : Int32)), (.int (0 : Int32))] (.int (0 : Int32)) ∧ ∀ t, Sx p e below T' m 182 #[xvi p0, xvi p1, xvi p2, xvi p3, xvi p4, xvi o180, xvi o184, xvi o187, xvi o190, xvi (p0 &&& (7 : Int32)), xun, xun, xun, xun] [xwr b372] t → TG t := by
            obtain ⟨cl409, Ar409, q409, S409, M409, H409, G409⟩ := id V372
            have in409 : ¬ ((0 : Int32) < 0 ∨ cl409.slots.size ≤ ((0 : Int32)).toNatClampNeg) := inb_of S409 ⟨by decide, by decide⟩
            obtain ⟨T410, h410, X410, e410, W410, st410⟩ := stC X372 hx hZ e372 Ar409 (j := (0 : Int32)) in409 (g := (mkF m 144 #[xvi p0, xvi p1, xvi p2, xvi p3, xvi p4, xvi o180, xvi o184, xvi o187, xvi o190, xvi (p0 &&& (7 : Int32)), xun, xun, xun, xun] [xwi o180, xwi (0 : Int32), xwr b372, xwr b372])) rfl rfl (hb hby at_144)
            have ch412 := CHr.wr W410 (Safe.arv hZ.alike V372 (by decide)) C373.1
            have C411 := C373.trans ch412
            have V410 : Arv Z h410 b372 k372 .char (63 : Int32) [(.int o180), (.int (0 : Int32)), (.int (0 : Int32)), (.int (0 : Int32)), (.int (0 : Int32)), (.int (0 : Int32)), (.int (0 : Int32)), (.int (0 : Int32)), (.int (0 : Int32)), (.int (0 : Int32)), (.int (0 : Int32)), (.int (0 : Int32)), (.int (0 : Int32)), (.int (0 : Int32)), (.int (0 : Int32)), (.int (0 : Int32)), (.int (0 : Int32)), (.int (0 : Int32)), (.int (0 : Int32)), (.int (0 : Int32)), (.int (0 : Int32)), (.int (0 : Int32)), (.int (0 : Int32)), (.int (0 : Int32)), (.int (0 : Int32)), (.int (0 : Int32)), (.int (0 : Int32)), (.int (0 : Int32)), (.int (0 : Int32)), (.int (0 : Int32)), (.int (0 : Int32)), (.int (0 : Int32)), (.int (0 : Int32)), (.int (0 : Int32)), (.int (0 : Int32)), (.int (0 : Int32)), (.int (0 : Int32)), (.int (0 : Int32)), (.int (0 : Int32)), (.int (0 : Int32)), (.int (0 : Int32)), (.int (0 : Int32)), (.int (0 : Int32)), (.int (0 : Int32)), (.int (0 : Int32)), (.int (0 : Int32)), (.int (0 : Int32)), (.int (0 : Int32)), (.int (0 : Int32)), (.int (0 : Int32)), (.int (0 : Int32)), (.int (0 : Int32)), (.int (0 : Int32)), (.int (0 : Int32)), (.int (0 : Int32)), (.int (0 : Int32)), (.int (0 : Int32)), (.int (0 : Int32)), (.int (0 : Int32)), (.int (0 : Int32)), (.int (0 : Int32)), (.int (0 : Int32)), (.int (0 : Int32))] (.int (0 : Int32)) := by have q := Arv.set Ar409 q409 S409 M409 H409 G409 (fits_nar_char _) W410 0 rfl (Nat.le_of_ble_eq_true rfl); rw [own_narc p181.1] at q; exact q
            have N410 := Fr.snoc X410 N189 (Nat.le_trans Z0 (Nat.le_trans (Nat.le_refl _) (Nat.le_of_eq g372.symm)))
            obtain ⟨cl413, Ar413, q413, S413, M413, H413, G413⟩ := id V410
            have in413 : ¬ ((1 : Int32) < 0 ∨ cl413.slots.size ≤ ((1 : Int32)).toNatClampNeg) := inb_of S413 ⟨by decide, by decide⟩
            obtain ⟨T414, h414, X414, e414, W414, st414⟩ := stC X410 hx hZ e410 Ar413 (j := (1 : Int32)) in413 (g := (mkF m 149 #[xvi p0, xvi p1, xvi p2, xvi p3, xvi p4, xvi o180, xvi o184, xvi o187, xvi o190, xvi (p0 &&& (7 : Int32)), xun, xun, xun, xun] [xwi o184, xwi (1 : Int32), xwr b372, xwr b372])) rfl rfl (hb hby at_149)
            have ch416 := CHr.wr W414 (Safe.arv hZ.alike V410 (by decide)) C411.1
            have C415 := C411.trans ch416
            have V414 : Arv Z h414 b372 k372 .char (63 : Int32) [(.int o180), (.int o184), (.int (0 : Int32)), (.int (0 : Int32)), (.int (0 : Int32)), (.int (0 : Int32)), (.int (0 : Int32)), (.int (0 : Int32)), (.int (0 : Int32)), (.int (0 : Int32)), (.int (0 : Int32)), (.int (0 : Int32)), (.int (0 : Int32)), (.int (0 : Int32)), (.int (0 : Int32)), (.int (0 : Int32)), (.int (0 : Int32)), (.int (0 : Int32)), (.int (0 : Int32)), (.int (0 : Int32)), (.int (0 : Int32)), (.int (0 : Int32)), (.int (0 : Int32)), (.int (0 : Int32)), (.int (0 : Int32)), (.int (0 : Int32)), (.int (0 : Int32)), (.int (0 : Int32)), (.int (0 : Int32)), (.int (0 : Int32)), (.int (0 : Int32)), (.int (0 : Int32)), (.int (0 : Int32)), (.int (0 : Int32)), (.int (0 : Int32)), (.int (0 : Int32)), (.int (0 : Int32)), (.int (0 : Int32)), (.int (0 : Int32)), (.int (0 : Int32)), (.int (0 : Int32)), (.int (0 : Int32)), (.int (0 : Int32)), (.int (0 : Int32)), (.int (0 : Int32)), (.int (0 : Int32)), (.int (0 : Int32)), (.int (0 : Int32)), (.int (0 : Int32)), (.int (0 : Int32)), (.int (0 : Int32)), (.int (0 : Int32)), (.int (0 : Int32)), (.int (0 : Int32)), (.int (0 : Int32)), (.int (0 : Int32)), (.int (0 : Int32)), (.int (0 : Int32)), (.int (0 : Int32)), (.int (0 : Int32)), (.int (0 : Int32)), (.int (0 : Int32)), (.int (0 : Int32))] (.int (0 : Int32)) := by have q := Arv.set Ar413 q413 S413 M413 H413 G413 (fits_nar_char _) W414 1 rfl (Nat.le_of_ble_eq_true rfl); rw [own_narc p185.1] at q; exact q
            have N414 := Fr.snoc X414 N410 (Nat.le_trans Z0 (Nat.le_trans (Nat.le_refl _) (Nat.le_of_eq g372.symm)))
            obtain ⟨cl417, Ar417, q417, S417, M417, H417, G417⟩ := id V414
            have in417 : ¬ ((2 : Int32) < 0 ∨ cl417.slots.size ≤ ((2 : Int32)).toNatClampNeg) := inb_of S417 ⟨by decide, by decide⟩
            obtain ⟨T418, h418, X418, e418, W418, st418⟩ := stC X414 hx hZ e414 Ar417 (j := (2 : Int32)) in417 (g := (mkF m 154 #[xvi p0, xvi p1, xvi p2, xvi p3, xvi p4, xvi o180, xvi o184, xvi o187, xvi o190, xvi (p0 &&& (7 : Int32)), xun, xun, xun, xun] [xwi o187, xwi (2 : Int32), xwr b372, xwr b372])) rfl rfl (hb hby at_154)
            have ch420 := CHr.wr W418 (Safe.arv hZ.alike V414 (by decide)) C415.1
            have C419 := C415.trans ch420
            have V418 : Arv Z h418 b372 k372 .char (63 : Int32) [(.int o180), (.int o184), (.int o187), (.int (0 : Int32)), (.int (0 : Int32)), (.int (0 : Int32)), (.int (0 : Int32)), (.int (0 : Int32)), (.int (0 : Int32)), (.int (0 : Int32)), (.int (0 : Int32)), (.int (0 : Int32)), (.int (0 : Int32)), (.int (0 : Int32)), (.int (0 : Int32)), (.int (0 : Int32)), (.int (0 : Int32)), (.int (0 : Int32)), (.int (0 : Int32)), (.int (0 : Int32)), (.int (0 : Int32)), (.int (0 : Int32)), (.int (0 : Int32)), (.int (0 : Int32)), (.int (0 : Int32)), (.int (0 : Int32)), (.int (0 : Int32)), (.int (0 : Int32)), (.int (0 : Int32)), (.int (0 : Int32)), (.int (0 : Int32)), (.int (0 : Int32)), (.int (0 : Int32)), (.int (0 : Int32)), (.int (0 : Int32)), (.int (0 : Int32)), (.int (0 : Int32)), (.int (0 : Int32)), (.int (0 : Int32)), (.int (0 : Int32)), (.int (0 : Int32)), (.int (0 : Int32)), (.int (0 : Int32)), (.int (0 : Int32)), (.int (0 : Int32)), (.int (0 : Int32)), (.int (0 : Int32)), (.int (0 : Int32)), (.int (0 : Int32)), (.int (0 : Int32)), (.int (0 : Int32)), (.int (0 : Int32)), (.int (0 : Int32)), (.int (0 : Int32)), (.int (0 : Int32)), (.int (0 : Int32)), (.int (0 : Int32)), (.int (0 : Int32)), (.int (0 : Int32)), (.int (0 : Int32)), (.int (0 : Int32)), (.int (0 : Int32)), (.int (0 : Int32))] (.int (0 : Int32)) := by have q := Arv.set Ar417 q417 S417 M417 H417 G417 (fits_nar_char _) W418 2 rfl (Nat.le_of_ble_eq_true rfl); rw [own_narc p188.1] at q; exact q
            have N418 := Fr.snoc X418 N414 (Nat.le_trans Z0 (Nat.le_trans (Nat.le_refl _) (Nat.le_of_eq g372.symm)))
            obtain ⟨cl421, Ar421, q421, S421, M421, H421, G421⟩ := id V418
            have in421 : ¬ ((3 : Int32) < 0 ∨ cl421.slots.size ≤ ((3 : Int32)).toNatClampNeg) := inb_of S421 ⟨by decide, by decide⟩
            obtain ⟨T422, h422, X422, e422, W422, st422⟩ := stC X418 hx hZ e418 Ar421 (j := (3 : Int32)) in421 (g := (mkF m 159 #[xvi p0, xvi p1, xvi p2, xvi p3, xvi p4, xvi o180, xvi o184, xvi o187, xvi o190, xvi (p0 &&& (7 : Int32)), xun, xun, xun, xun] [xwi o190, xwi (3 : Int32), xwr b372, xwr b372])) rfl rfl (hb hby at_159)
            have ch424 := CHr.wr W422 (Safe.arv hZ.alike V418 (by decide)) C419.1
            have C423 := C419.trans ch424
            have V422 : Arv Z h422 b372 k372 .char (63 : Int32) [(.int o180), (.int o184), (.int o187), (.int o190), (.int (0 : Int32)), (.int (0 : Int32)), (.int (0 : Int32)), (.int (0 : Int32)), (.int (0 : Int32)), (.int (0 : Int32)), (.int (0 : Int32)), (.int (0 : Int32)), (.int (0 : Int32)), (.int (0 : Int32)), (.int (0 : Int32)), (.int (0 : Int32)), (.int (0 : Int32)), (.int (0 : Int32)), (.int (0 : Int32)), (.int (0 : Int32)), (.int (0 : Int32)), (.int (0 : Int32)), (.int (0 : Int32)), (.int (0 : Int32)), (.int (0 : Int32)), (.int (0 : Int32)), (.int (0 : Int32)), (.int (0 : Int32)), (.int (0 : Int32)), (.int (0 : Int32)), (.int (0 : Int32)), (.int (0 : Int32)), (.int (0 : Int32)), (.int (0 : Int32)), (.int (0 : Int32)), (.int (0 : Int32)), (.int (0 : Int32)), (.int (0 : Int32)), (.int (0 : Int32)), (.int (0 : Int32)), (.int (0 : Int32)), (.int (0 : Int32)), (.int (0 : Int32)), (.int (0 : Int32)), (.int (0 : Int32)), (.int (0 : Int32)), (.int (0 : Int32)), (.int (0 : Int32)), (.int (0 : Int32)), (.int (0 : Int32)), (.int (0 : Int32)), (.int (0 : Int32)), (.int (0 : Int32)), (.int (0 : Int32)), (.int (0 : Int32)), (.int (0 : Int32)), (.int (0 : Int32)), (.int (0 : Int32)), (.int (0 : Int32)), (.int (0 : Int32)), (.int (0 : Int32)), (.int (0 : Int32)), (.int (0 : Int32))] (.int (0 : Int32)) := by have q := Arv.set Ar421 q421 S421 M421 H421 G421 (fits_nar_char _) W422 3 rfl (Nat.le_of_ble_eq_true rfl); rw [own_narc p191.1] at q; exact q
            have N422 := Fr.snoc X422 N418 (Nat.le_trans Z0 (Nat.le_trans (Nat.le_refl _) (Nat.le_of_eq g372.symm)))
            obtain ⟨cl425, Ar425, q425, S425, M425, H425, G425⟩ := id V422
            have in425 : ¬ ((4 : Int32) < 0 ∨ cl425.slots.size ≤ ((4 : Int32)).toNatClampNeg) := inb_of S425 ⟨by decide, by decide⟩
            obtain ⟨T426, h426, X426, e426, W426, st426⟩ := stC X422 hx hZ e422 Ar425 (j := (4 : Int32)) in425 (g := (mkF m 164 #[xvi p0, xvi p1, xvi p2, xvi p3, xvi p4, xvi o180, xvi o184, xvi o187, xvi o190, xvi (p0 &&& (7 : Int32)), xun, xun, xun, xun] [xwi o184, xwi (4 : Int32), xwr b372, xwr b372])) rfl rfl (hb hby at_164)
            have ch428 := CHr.wr W426 (Safe.arv hZ.alike V422 (by decide)) C423.1
            have C427 := C423.trans ch428
            have V426 : Arv Z h426 b372 k372 .char (63 : Int32) [(.int o180), (.int o184), (.int o187), (.int o190), (.int o184), (.int (0 : Int32)), (.int (0 : Int32)), (.int (0 : Int32)), (.int (0 : Int32)), (.int (0 : Int32)), (.int (0 : Int32)), (.int (0 : Int32)), (.int (0 : Int32)), (.int (0 : Int32)), (.int (0 : Int32)), (.int (0 : Int32)), (.int (0 : Int32)), (.int (0 : Int32)), (.int (0 : Int32)), (.int (0 : Int32)), (.int (0 : Int32)), (.int (0 : Int32)), (.int (0 : Int32)), (.int (0 : Int32)), (.int (0 : Int32)), (.int (0 : Int32)), (.int (0 : Int32)), (.int (0 : Int32)), (.int (0 : Int32)), (.int (0 : Int32)), (.int (0 : Int32)), (.int (0 : Int32)), (.int (0 : Int32)), (.int (0 : Int32)), (.int (0 : Int32)), (.int (0 : Int32)), (.int (0 : Int32)), (.int (0 : Int32)), (.int (0 : Int32)), (.int (0 : Int32)), (.int (0 : Int32)), (.int (0 : Int32)), (.int (0 : Int32)), (.int (0 : Int32)), (.int (0 : Int32)), (.int (0 : Int32)), (.int (0 : Int32)), (.int (0 : Int32)), (.int (0 : Int32)), (.int (0 : Int32)), (.int (0 : Int32)), (.int (0 : Int32)), (.int (0 : Int32)), (.int (0 : Int32)), (.int (0 : Int32)), (.int (0 : Int32)), (.int (0 : Int32)), (.int (0 : Int32)), (.int (0 : Int32)), (.int (0 : Int32)), (.int (0 : Int32)), (.int (0 : Int32)), (.int (0 : Int32))] (.int (0 : Int32)) := by have q := Arv.set Ar425 q425 S425 M425 H425 G425 (fits_nar_char _) W426 4 rfl (Nat.le_of_ble_eq_true rfl); rw [own_narc p185.1] at q; exact q
            have N426 := Fr.snoc X426 N422 (Nat.le_trans Z0 (Nat.le_trans (Nat.le_refl _) (Nat.le_of_eq g372.symm)))
            obtain ⟨cl429, Ar429, q429, S429, M429, H429, G429⟩ := id V426
            have in429 : ¬ ((5 : Int32) < 0 ∨ cl429.slots.size ≤ ((5 : Int32)).toNatClampNeg) := inb_of S429 ⟨by decide, by decide⟩
            obtain ⟨T430, h430, X430, e430, W430, st430⟩ := stC X426 hx hZ e426 Ar429 (j := (5 : Int32)) in429 (g := (mkF m 169 #[xvi p0, xvi p1, xvi p2, xvi p3, xvi p4, xvi o180, xvi o184, xvi o187, xvi o190, xvi (p0 &&& (7 : Int32)), xun, xun, xun, xun] [xwi o187, xwi (5 : Int32), xwr b372, xwr b372])) rfl rfl (hb hby at_169)
            have ch432 := CHr.wr W430 (Safe.arv hZ.alike V426 (by decide)) C427.1
            have C431 := C427.trans ch432
            have V430 : Arv Z h430 b372 k372 .char (63 : Int32) [(.int o180), (.int o184), (.int o187), (.int o190), (.int o184), (.int o187), (.int (0 : Int32)), (.int (0 : Int32)), (.int (0 : Int32)), (.int (0 : Int32)), (.int (0 : Int32)), (.int (0 : Int32)), (.int (0 : Int32)), (.int (0 : Int32)), (.int (0 : Int32)), (.int (0 : Int32)), (.int (0 : Int32)), (.int (0 : Int32)), (.int (0 : Int32)), (.int (0 : Int32)), (.int (0 : Int32)), (.int (0 : Int32)), (.int (0 : Int32)), (.int (0 : Int32)), (.int (0 : Int32)), (.int (0 : Int32)), (.int (0 : Int32)), (.int (0 : Int32)), (.int (0 : Int32)), (.int (0 : Int32)), (.int (0 : Int32)), (.int (0 : Int32)), (.int (0 : Int32)), (.int (0 : Int32)), (.int (0 : Int32)), (.int (0 : Int32)), (.int (0 : Int32)), (.int (0 : Int32)), (.int (0 : Int32)), (.int (0 : Int32)), (.int (0 : Int32)), (.int (0 : Int32)), (.int (0 : Int32)), (.int (0 : Int32)), (.int (0 : Int32)), (.int (0 : Int32)), (.int (0 : Int32)), (.int (0 : Int32)), (.int (0 : Int32)), (.int (0 : Int32)), (.int (0 : Int32)), (.int (0 : Int32)), (.int (0 : Int32)), (.int (0 : Int32)), (.int (0 : Int32)), (.int (0 : Int32)), (.int (0 : Int32)), (.int (0 : Int32)), (.int (0 : Int32)), (.int (0 : Int32)), (.int (0 : Int32)), (.int (0 : Int32)), (.int (0 : Int32))] (.int (0 : Int32)) := by have q := Arv.set Ar429 q429 S429 M429 H429 G429 (fits_nar_char _) W430 5 rfl (Nat.le_of_ble_eq_true rfl); rw [own_narc p188.1] at q; exact q
            have N430 := Fr.snoc X430 N426 (Nat.le_trans Z0 (Nat.le_trans (Nat.le_refl _) (Nat.le_of_eq g372.symm)))
            obtain ⟨cl433, Ar433, q433, S433, M433, H433, G433⟩ := id V430
            have in433 : ¬ ((6 : Int32) < 0 ∨ cl433.slots.size ≤ ((6 : Int32)).toNatClampNeg) := inb_of S433 ⟨by decide, by decide⟩
            obtain ⟨T434, h434, X434, e434, W434, st434⟩ := stC X430 hx hZ e430 Ar433 (j := (6 : Int32)) in433 (g := (mkF m 175 #[xvi p0, xvi p1, xvi p2, xvi p3, xvi p4, xvi o180, xvi o184, xvi o187, xvi o190, xvi (p0 &&& (7 : Int32)), xun, xun, xun, xun] [xwi o190, xwi (6 : Int32), xwr b372, xwr b372])) rfl rfl (hb hby at_175)
            have ch436 := CHr.wr W434 (Safe.arv hZ.alike V430 (by decide)) C431.1
            have C435 := C431.trans ch436
            have V434 : Arv Z h434 b372 k372 .char (63 : Int32) [(.int o180), (.int o184), (.int o187), (.int o190), (.int o184), (.int o187), (.int o190), (.int (0 : Int32)), (.int (0 : Int32)), (.int (0 : Int32)), (.int (0 : Int32)), (.int (0 : Int32)), (.int (0 : Int32)), (.int (0 : Int32)), (.int (0 : Int32)), (.int (0 : Int32)), (.int (0 : Int32)), (.int (0 : Int32)), (.int (0 : Int32)), (.int (0 : Int32)), (.int (0 : Int32)), (.int (0 : Int32)), (.int (0 : Int32)), (.int (0 : Int32)), (.int (0 : Int32)), (.int (0 : Int32)), (.int (0 : Int32)), (.int (0 : Int32)), (.int (0 : Int32)), (.int (0 : Int32)), (.int (0 : Int32)), (.int (0 : Int32)), (.int (0 : Int32)), (.int (0 : Int32)), (.int (0 : Int32)), (.int (0 : Int32)), (.int (0 : Int32)), (.int (0 : Int32)), (.int (0 : Int32)), (.int (0 : Int32)), (.int (0 : Int32)), (.int (0 : Int32)), (.int (0 : Int32)), (.int (0 : Int32)), (.int (0 : Int32)), (.int (0 : Int32)), (.int (0 : Int32)), (.int (0 : Int32)), (.int (0 : Int32)), (.int (0 : Int32)), (.int (0 : Int32)), (.int (0 : Int32)), (.int (0 : Int32)), (.int (0 : Int32)), (.int (0 : Int32)), (.int (0 : Int32)), (.int (0 : Int32)), (.int (0 : Int32)), (.int (0 : Int32)), (.int (0 : Int32)), (.int (0 : Int32)), (.int (0 : Int32)), (.int (0 : Int32))] (.int (0 : Int32)) := by have q := Arv.set Ar433 q433 S433 M433 H433 G433 (fits_nar_char _) W434 6 rfl (Nat.le_of_ble_eq_true rfl); rw [own_narc p191.1] at q; exact q
            have N434 := Fr.snoc X434 N430 (Nat.le_trans Z0 (Nat.le_trans (Nat.le_refl _) (Nat.le_of_eq g372.symm)))
            obtain ⟨cl437, Ar437, q437, S437, M437, H437, G437⟩ := id V434
            have in437 : ¬ ((7 : Int32) < 0 ∨ cl437.slots.size ≤ ((7 : Int32)).toNatClampNeg) := inb_of S437 ⟨by decide, by decide⟩
            obtain ⟨T438, h438, X438, e438, W438, st438⟩ := stC X434 hx hZ e434 Ar437 (j := (7 : Int32)) in437 (g := (mkF m 181 #[xvi p0, xvi p1, xvi p2, xvi p3, xvi p4, xvi o180, xvi o184, xvi o187, xvi o190, xvi (p0 &&& (7 : Int32)), xun, xun, xun, xun] [xwi o184, xwi (7 : Int32), xwr b372, xwr b372])) rfl rfl (hb hby at_181)
            have ch440 := CHr.wr W438 (Safe.arv hZ.alike V434 (by decide)) C435.1
            have C439 := C435.trans ch440
            have V438 : Arv Z h438 b372 k372 .char (63 : Int32) [(.int o180), (.int o184), (.int o187), (.int o190), (.int o184), (.int o187), (.int o190), (.int o184), (.int (0 : Int32)), (.int (0 : Int32)), (.int (0 : Int32)), (.int (0 : Int32)), (.int (0 : Int32)), (.int (0 : Int32)), (.int (0 : Int32)), (.int (0 : Int32)), (.int (0 : Int32)), (.int (0 : Int32)), (.int (0 : Int32)), (.int (0 : Int32)), (.int (0 : Int32)), (.int (0 : Int32)), (.int (0 : Int32)), (.int (0 : Int32)), (.int (0 : Int32)), (.int (0 : Int32)), (.int (0 : Int32)), (.int (0 : Int32)), (.int (0 : Int32)), (.int (0 : Int32)), (.int (0 : Int32)), (.int (0 : Int32)), (.int (0 : Int32)), (.int (0 : Int32)), (.int (0 : Int32)), (.int (0 : Int32)), (.int (0 : Int32)), (.int (0 : Int32)), (.int (0 : Int32)), (.int (0 : Int32)), (.int (0 : Int32)), (.int (0 : Int32)), (.int (0 : Int32)), (.int (0 : Int32)), (.int (0 : Int32)), (.int (0 : Int32)), (.int (0 : Int32)), (.int (0 : Int32)), (.int (0 : Int32)), (.int (0 : Int32)), (.int (0 : Int32)), (.int (0 : Int32)), (.int (0 : Int32)), (.int (0 : Int32)), (.int (0 : Int32)), (.int (0 : Int32)), (.int (0 : Int32)), (.int (0 : Int32)), (.int (0 : Int32)), (.int (0 : Int32)), (.int (0 : Int32)), (.int (0 : Int32)), (.int (0 : Int32))] (.int (0 : Int32)) := by have q := Arv.set Ar437 q437 S437 M437 H437 G437 (fits_nar_char _) W438 7 rfl (Nat.le_of_ble_eq_true rfl); rw [own_narc p185.1] at q; exact q
            have N438 := Fr.snoc X438 N434 (Nat.le_trans Z0 (Nat.le_trans (Nat.le_refl _) (Nat.le_of_eq g372.symm)))
            refine ⟨T438, h438, _, s.vm, _, own_wid X438 (by decide : 1 ≤ 1) (by decide : 63 ≤ 63), e438, N438, (((((((((Keep.refl h372 [b372]).wr W410 (Or.inl (List.mem_of_getElem? (i := 0) rfl))).wr W414 (Or.inl (List.mem_of_getElem? (i := 0) rfl))).wr W418 (Or.inl (List.mem_of_getElem? (i := 0) rfl))).wr W422 (Or.inl (List.mem_of_getElem? (i := 0) rfl))).wr W426 (Or.inl (List.mem_of_getElem? (i := 0) rfl))).wr W430 (Or.inl (List.mem_of_getElem? (i := 0) rfl))).wr W434 (Or.inl (List.mem_of_getElem? (i := 0) rfl))).wr W438 (Or.inl (List.mem_of_getElem? (i := 0) rfl))), hZ, hown, hS0, (Nat.le_trans (Nat.le_trans (Nat.le_trans (Nat.le_trans (Nat.le_trans (Nat.le_trans (Nat.le_trans (Nat.le_trans E372.1 (Nat.le_of_eq W410.size.symm)) (Nat.le_of_eq W414.size.symm)) (Nat.le_of_eq W418.size.symm)) (Nat.le_of_eq W422.size.symm)) (Nat.le_of_eq W426.size.symm)) (Nat.le_of_eq W430.size.symm)) (Nat.le_of_eq W434.size.symm)) (Nat.le_of_eq W438.size.symm)), (((((((ch412.trans ch416).trans ch420).trans ch424).trans ch428).trans ch432).trans ch436).trans ch440), V438, fun t k => c407 t ?_⟩
            refine y_dup X372 hx 141 (hb hby at_140) rfl rfl ?_
            refine y_iconst X372 hx (0 : Int32) 142 (hb hby at_141) rfl rfl ?_
            refine y_iload X372 hx 144 (hb hby at_142) rfl rfl ?_
            refine st410 _ ?_
            show Sx p e below T410 m 145 #[xvi p0, xvi p1, xvi p2, xvi p3, xvi p4, xvi o180, xvi o184, xvi o187, xvi o190, xvi (p0 &&& (7 : Int32)), xun, xun, xun, xun] [xwr b372] _
            refine y_dup X410 hx 146 (hb hby at_145) rfl rfl ?_
            refine y_iconst X410 hx (1 : Int32) 147 (hb hby at_146) rfl rfl ?_
            refine y_iload X410 hx 149 (hb hby at_147) rfl rfl ?_
            refine st414 _ ?_
            show Sx p e below T414 m 150 #[xvi p0, xvi p1, xvi p2, xvi p3, xvi p4, xvi o180, xvi o184, xvi o187, xvi o190, xvi (p0 &&& (7 : Int32)), xun, xun, xun, xun] [xwr b372] _
            refine y_dup X414 hx 151 (hb hby at_150) rfl rfl ?_
            refine y_iconst X414 hx (2 : Int32) 152 (hb hby at_151) rfl rfl ?_
            refine y_iload X414 hx 154 (hb hby at_152) rfl rfl ?_
            refine st418 _ ?_
            show Sx p e below T418 m 155 #[xvi p0, xvi p1, xvi p2, xvi p3, xvi p4, xvi o180, xvi o184, xvi o187, xvi o190, xvi (p0 &&& (7 : Int32)), xun, xun, xun, xun] [xwr b372] _
            refine y_dup X418 hx 156 (hb hby at_155) rfl rfl ?_
            refine y_iconst X418 hx (3 : Int32) 157 (hb hby at_156) rfl rfl ?_
            refine y_iload X418 hx 159 (hb hby at_157) rfl rfl ?_
            refine st422 _ ?_
            show Sx p e below T422 m 160 #[xvi p0, xvi p1, xvi p2, xvi p3, xvi p4, xvi o180, xvi o184, xvi o187, xvi o190, xvi (p0 &&& (7 : Int32)), xun, xun, xun, xun] [xwr b372] _
            refine y_dup X422 hx 161 (hb hby at_160) rfl rfl ?_
            refine y_iconst X422 hx (4 : Int32) 162 (hb hby at_161) rfl rfl ?_
            refine y_iload X422 hx 164 (hb hby at_162) rfl rfl ?_
            refine st426 _ ?_
            show Sx p e below T426 m 165 #[xvi p0, xvi p1, xvi p2, xvi p3, xvi p4, xvi o180, xvi o184, xvi o187, xvi o190, xvi (p0 &&& (7 : Int32)), xun, xun, xun, xun] [xwr b372] _
            refine y_dup X426 hx 166 (hb hby at_165) rfl rfl ?_
            refine y_iconst X426 hx (5 : Int32) 167 (hb hby at_166) rfl rfl ?_
            refine y_iload X426 hx 169 (hb hby at_167) rfl rfl ?_
            refine st430 _ ?_
            show Sx p e below T430 m 170 #[xvi p0, xvi p1, xvi p2, xvi p3, xvi p4, xvi o180, xvi o184, xvi o187, xvi o190, xvi (p0 &&& (7 : Int32)), xun, xun, xun, xun] [xwr b372] _
            refine y_dup X430 hx 171 (hb hby at_170) rfl rfl ?_
            refine y_bipush X430 hx (6 : Int32) 173 (hb hby at_171) rfl rfl ?_
            refine y_iload X430 hx 175 (hb hby at_173) rfl rfl ?_
            refine st434 _ ?_
            show Sx p e below T434 m 176 #[xvi p0, xvi p1, xvi p2, xvi p3, xvi p4, xvi o180, xvi o184, xvi o187, xvi o190, xvi (p0 &&& (7 : Int32)), xun, xun, xun, xun] [xwr b372] _
            refine y_dup X434 hx 177 (hb hby at_176) rfl rfl ?_
            refine y_bipush X434 hx (7 : Int32) 179 (hb hby at_177) rfl rfl ?_
            refine y_iload X434 hx 181 (hb hby at_179) rfl rfl ?_
            refine st438 _ ?_
            show Sx p e below T438 m 182 #[xvi p0, xvi p1, xvi p2, xvi p3, xvi p4, xvi o180, xvi o184, xvi o187, xvi o190, xvi (p0 &&& (7 : Int32)), xun, xun, xun, xun] [xwr b372] _
            exact k
          obtain ⟨T408, h408, locs408, vm408, kk408, X408, e408, N408, K408, hZ408, hown408, hS408, hk408, CH408, p441, c408⟩ := j408
          have C442 := C373.trans CH408
          have j475 : ∃ (T' : State) (h' : Heap) (locs' : List Loc) (vm' : Vm) (k' : Nat) , Stand p l e room_1 (s.setVm vm') m #[(.int p0), (.int p1), (.int p2), (.int p3), (.int p4)] below meth c T' locs' 1 63 ∧ T'.heap = h' ∧ Fr n0 locs' ∧ Keep h408 h' [b372] ∧ Z.Warmed39 (s.setVm vm').vm ∧ (s.setVm vm').vm.findClass "com/example/arbiter/arbiter/store/SchemaNameOfPinLaw" = some m.cls ∧ s.Since vm' k' ∧ k' ≤ h'.size ∧ CHr Z EL vm408 h408 vm' h' ∧ Arv Z h' b372 k372 .char (63 : Int32) [(.int o180), (.int o184), (.int o187), (.int o190), (.int o184), (.int o187), (.int o190), (.int o184), (.int o187), (.int o190), (.int o184), (.int o187), (.int o190), (.int o184), (.int o187), (.int o190), (.int (0 : Int32)), (.int (0 : Int32)), (.int (0 : Int32)), (.int (0 : Int32)), (.int (0 : Int32)), (.int (0 : Int32)), (.int (0 : Int32)), (.int (0 : Int32)), (.int (0 : Int32)), (.int (0 : Int32)), (.int (0 : Int32)), (.int (0 : Int32)), (.int (0 : Int32)), (.int (0 : Int32)), (.int (0 : Int32)), (.int (0 : Int32)), (.int (0 : Int32)), (.int (0 : Int32)), (.int (0 : Int32)), (.int (0 : Int32)), (.int (0 : Int32)), (.int (0 : Int32)), (.int (0 : Int32)), (.int (0 : Int32)), (.int (0 : Int32)), (.int (0 : Int32)), (.int (0 : Int32)), (.int (0 : Int32)), (.int (0 : Int32)), (.int (0 : Int32)), (.int (0 : Int32)), (.int (0 : Int32)), (.int (0 : Int32)), (.int (0 : Int32)), (.int (0 : Int32)), (.int (0 : Int32)), (.int (0 : Int32)), (.int (0 : Int32)), (.int (0 : Int32)), (.int (0 : Int32)), (.int (0 : Int32)), (.int (0 : Int32)), (.int (0 : Int32)), (.int (0 : Int32)), (.int (0 : Int32)), (.int (0 : Int32)), (.int (0 : Int32))] (.int (0 : Int32)) ∧ ∀ t, Sx p e below T' m 230 #[xvi p0, xvi p1, xvi p2, xvi p3, xvi p4, xvi o180, xvi o184, xvi o187, xvi o190, xvi (p0 &&& (7 : Int32)), xun, xun, xun, xun] [xwr b372] t → TG t := by
            obtain ⟨cl476, Ar476, q476, S476, M476, H476, G476⟩ := id p441
            have in476 : ¬ ((8 : Int32) < 0 ∨ cl476.slots.size ≤ ((8 : Int32)).toNatClampNeg) := inb_of S476 ⟨by decide, by decide⟩
            obtain ⟨T477, h477, X477, e477, W477, st477⟩ := stC X408 hx hZ408 e408 Ar476 (j := (8 : Int32)) in476 (g := (mkF m 187 #[xvi p0, xvi p1, xvi p2, xvi p3, xvi p4, xvi o180, xvi o184, xvi o187, xvi o190, xvi (p0 &&& (7 : Int32)), xun, xun, xun, xun] [xwi o187, xwi (8 : Int32), xwr b372, xwr b372])) rfl rfl (hb hby at_187)
            have ch479 := CHr.wr W477 (Safe.arv hZ408.alike p441 (by decide)) C442.1
            have C478 := C442.trans ch479
            have V477 : Arv Z h477 b372 k372 .char (63 : Int32) [(.int o180), (.int o184), (.int o187), (.int o190), (.int o184), (.int o187), (.int o190), (.int o184), (.int o187), (.int (0 : Int32)), (.int (0 : Int32)), (.int (0 : Int32)), (.int (0 : Int32)), (.int (0 : Int32)), (.int (0 : Int32)), (.int (0 : Int32)), (.int (0 : Int32)), (.int (0 : Int32)), (.int (0 : Int32)), (.int (0 : Int32)), (.int (0 : Int32)), (.int (0 : Int32)), (.int (0 : Int32)), (.int (0 : Int32)), (.int (0 : Int32)), (.int (0 : Int32)), (.int (0 : Int32)), (.int (0 : Int32)), (.int (0 : Int32)), (.int (0 : Int32)), (.int (0 : Int32)), (.int (0 : Int32)), (.int (0 : Int32)), (.int (0 : Int32)), (.int (0 : Int32)), (.int (0 : Int32)), (.int (0 : Int32)), (.int (0 : Int32)), (.int (0 : Int32)), (.int (0 : Int32)), (.int (0 : Int32)), (.int (0 : Int32)), (.int (0 : Int32)), (.int (0 : Int32)), (.int (0 : Int32)), (.int (0 : Int32)), (.int (0 : Int32)), (.int (0 : Int32)), (.int (0 : Int32)), (.int (0 : Int32)), (.int (0 : Int32)), (.int (0 : Int32)), (.int (0 : Int32)), (.int (0 : Int32)), (.int (0 : Int32)), (.int (0 : Int32)), (.int (0 : Int32)), (.int (0 : Int32)), (.int (0 : Int32)), (.int (0 : Int32)), (.int (0 : Int32)), (.int (0 : Int32)), (.int (0 : Int32))] (.int (0 : Int32)) := by have q := Arv.set Ar476 q476 S476 M476 H476 G476 (fits_nar_char _) W477 8 rfl (Nat.le_of_ble_eq_true rfl); rw [own_narc p188.1] at q; exact q
            have N477 := Fr.snoc X477 N408 (Nat.le_trans Z0 (Nat.le_trans (Nat.le_refl _) (Nat.le_of_eq g372.symm)))
            obtain ⟨cl480, Ar480, q480, S480, M480, H480, G480⟩ := id V477
            have in480 : ¬ ((9 : Int32) < 0 ∨ cl480.slots.size ≤ ((9 : Int32)).toNatClampNeg) := inb_of S480 ⟨by decide, by decide⟩
            obtain ⟨T481, h481, X481, e481, W481, st481⟩ := stC X477 hx hZ408 e477 Ar480 (j := (9 : Int32)) in480 (g := (mkF m 193 #[xvi p0, xvi p1, xvi p2, xvi p3, xvi p4, xvi o180, xvi o184, xvi o187, xvi o190, xvi (p0 &&& (7 : Int32)), xun, xun, xun, xun] [xwi o190, xwi (9 : Int32), xwr b372, xwr b372])) rfl rfl (hb hby at_193)
            have ch483 := CHr.wr W481 (Safe.arv hZ408.alike V477 (by decide)) C478.1
            have C482 := C478.trans ch483
            have V481 : Arv Z h481 b372 k372 .char (63 : Int32) [(.int o180), (.int o184), (.int o187), (.int o190), (.int o184), (.int o187), (.int o190), (.int o184), (.int o187), (.int o190), (.int (0 : Int32)), (.int (0 : Int32)), (.int (0 : Int32)), (.int (0 : Int32)), (.int (0 : Int32)), (.int (0 : Int32)), (.int (0 : Int32)), (.int (0 : Int32)), (.int (0 : Int32)), (.int (0 : Int32)), (.int (0 : Int32)), (.int (0 : Int32)), (.int (0 : Int32)), (.int (0 : Int32)), (.int (0 : Int32)), (.int (0 : Int32)), (.int (0 : Int32)), (.int (0 : Int32)), (.int (0 : Int32)), (.int (0 : Int32)), (.int (0 : Int32)), (.int (0 : Int32)), (.int (0 : Int32)), (.int (0 : Int32)), (.int (0 : Int32)), (.int (0 : Int32)), (.int (0 : Int32)), (.int (0 : Int32)), (.int (0 : Int32)), (.int (0 : Int32)), (.int (0 : Int32)), (.int (0 : Int32)), (.int (0 : Int32)), (.int (0 : Int32)), (.int (0 : Int32)), (.int (0 : Int32)), (.int (0 : Int32)), (.int (0 : Int32)), (.int (0 : Int32)), (.int (0 : Int32)), (.int (0 : Int32)), (.int (0 : Int32)), (.int (0 : Int32)), (.int (0 : Int32)), (.int (0 : Int32)), (.int (0 : Int32)), (.int (0 : Int32)), (.int (0 : Int32)), (.int (0 : Int32)), (.int (0 : Int32)), (.int (0 : Int32)), (.int (0 : Int32)), (.int (0 : Int32))] (.int (0 : Int32)) := by have q := Arv.set Ar480 q480 S480 M480 H480 G480 (fits_nar_char _) W481 9 rfl (Nat.le_of_ble_eq_true rfl); rw [own_narc p191.1] at q; exact q
            have N481 := Fr.snoc X481 N477 (Nat.le_trans Z0 (Nat.le_trans (Nat.le_refl _) (Nat.le_of_eq g372.symm)))
            obtain ⟨cl484, Ar484, q484, S484, M484, H484, G484⟩ := id V481
            have in484 : ¬ ((10 : Int32) < 0 ∨ cl484.slots.size ≤ ((10 : Int32)).toNatClampNeg) := inb_of S484 ⟨by decide, by decide⟩
            obtain ⟨T485, h485, X485, e485, W485, st485⟩ := stC X481 hx hZ408 e481 Ar484 (j := (10 : Int32)) in484 (g := (mkF m 199 #[xvi p0, xvi p1, xvi p2, xvi p3, xvi p4, xvi o180, xvi o184, xvi o187, xvi o190, xvi (p0 &&& (7 : Int32)), xun, xun, xun, xun] [xwi o184, xwi (10 : Int32), xwr b372, xwr b372])) rfl rfl (hb hby at_199)
            have ch487 := CHr.wr W485 (Safe.arv hZ408.alike V481 (by decide)) C482.1
            have C486 := C482.trans ch487
            have V485 : Arv Z h485 b372 k372 .char (63 : Int32) [(.int o180), (.int o184), (.int o187), (.int o190), (.int o184), (.int o187), (.int o190), (.int o184), (.int o187), (.int o190), (.int o184), (.int (0 : Int32)), (.int (0 : Int32)), (.int (0 : Int32)), (.int (0 : Int32)), (.int (0 : Int32)), (.int (0 : Int32)), (.int (0 : Int32)), (.int (0 : Int32)), (.int (0 : Int32)), (.int (0 : Int32)), (.int (0 : Int32)), (.int (0 : Int32)), (.int (0 : Int32)), (.int (0 : Int32)), (.int (0 : Int32)), (.int (0 : Int32)), (.int (0 : Int32)), (.int (0 : Int32)), (.int (0 : Int32)), (.int (0 : Int32)), (.int (0 : Int32)), (.int (0 : Int32)), (.int (0 : Int32)), (.int (0 : Int32)), (.int (0 : Int32)), (.int (0 : Int32)), (.int (0 : Int32)), (.int (0 : Int32)), (.int (0 : Int32)), (.int (0 : Int32)), (.int (0 : Int32)), (.int (0 : Int32)), (.int (0 : Int32)), (.int (0 : Int32)), (.int (0 : Int32)), (.int (0 : Int32)), (.int (0 : Int32)), (.int (0 : Int32)), (.int (0 : Int32)), (.int (0 : Int32)), (.int (0 : Int32)), (.int (0 : Int32)), (.int (0 : Int32)), (.int (0 : Int32)), (.int (0 : Int32)), (.int (0 : Int32)), (.int (0 : Int32)), (.int (0 : Int32)), (.int (0 : Int32)), (.int (0 : Int32)), (.int (0 : Int32)), (.int (0 : Int32))] (.int (0 : Int32)) := by have q := Arv.set Ar484 q484 S484 M484 H484 G484 (fits_nar_char _) W485 10 rfl (Nat.le_of_ble_eq_true rfl); rw [own_narc p185.1] at q; exact q
            have N485 := Fr.snoc X485 N481 (Nat.le_trans Z0 (Nat.le_trans (Nat.le_refl _) (Nat.le_of_eq g372.symm)))
            obtain ⟨cl488, Ar488, q488, S488, M488, H488, G488⟩ := id V485
            have in488 : ¬ ((11 : Int32) < 0 ∨ cl488.slots.size ≤ ((11 : Int32)).toNatClampNeg) := inb_of S488 ⟨by decide, by decide⟩
            obtain ⟨T489, h489, X489, e489, W489, st489⟩ := stC X485 hx hZ408 e485 Ar488 (j := (11 : Int32)) in488 (g := (mkF m 205 #[xvi p0, xvi p1, xvi p2, xvi p3, xvi p4, xvi o180, xvi o184, xvi o187, xvi o190, xvi (p0 &&& (7 : Int32)), xun, xun, xun, xun] [xwi o187, xwi (11 : Int32), xwr b372, xwr b372])) rfl rfl (hb hby at_205)
            have ch491 := CHr.wr W489 (Safe.arv hZ408.alike V485 (by decide)) C486.1
            have C490 := C486.trans ch491
            have V489 : Arv Z h489 b372 k372 .char (63 : Int32) [(.int o180), (.int o184), (.int o187), (.int o190), (.int o184), (.int o187), (.int o190), (.int o184), (.int o187), (.int o190), (.int o184), (.int o187), (.int (0 : Int32)), (.int (0 : Int32)), (.int (0 : Int32)), (.int (0 : Int32)), (.int (0 : Int32)), (.int (0 : Int32)), (.int (0 : Int32)), (.int (0 : Int32)), (.int (0 : Int32)), (.int (0 : Int32)), (.int (0 : Int32)), (.int (0 : Int32)), (.int (0 : Int32)), (.int (0 : Int32)), (.int (0 : Int32)), (.int (0 : Int32)), (.int (0 : Int32)), (.int (0 : Int32)), (.int (0 : Int32)), (.int (0 : Int32)), (.int (0 : Int32)), (.int (0 : Int32)), (.int (0 : Int32)), (.int (0 : Int32)), (.int (0 : Int32)), (.int (0 : Int32)), (.int (0 : Int32)), (.int (0 : Int32)), (.int (0 : Int32)), (.int (0 : Int32)), (.int (0 : Int32)), (.int (0 : Int32)), (.int (0 : Int32)), (.int (0 : Int32)), (.int (0 : Int32)), (.int (0 : Int32)), (.int (0 : Int32)), (.int (0 : Int32)), (.int (0 : Int32)), (.int (0 : Int32)), (.int (0 : Int32)), (.int (0 : Int32)), (.int (0 : Int32)), (.int (0 : Int32)), (.int (0 : Int32)), (.int (0 : Int32)), (.int (0 : Int32)), (.int (0 : Int32)), (.int (0 : Int32)), (.int (0 : Int32)), (.int (0 : Int32))] (.int (0 : Int32)) := by have q := Arv.set Ar488 q488 S488 M488 H488 G488 (fits_nar_char _) W489 11 rfl (Nat.le_of_ble_eq_true rfl); rw [own_narc p188.1] at q; exact q
            have N489 := Fr.snoc X489 N485 (Nat.le_trans Z0 (Nat.le_trans (Nat.le_refl _) (Nat.le_of_eq g372.symm)))
            obtain ⟨cl492, Ar492, q492, S492, M492, H492, G492⟩ := id V489
            have in492 : ¬ ((12 : Int32) < 0 ∨ cl492.slots.size ≤ ((12 : Int32)).toNatClampNeg) := inb_of S492 ⟨by decide, by decide⟩
            obtain ⟨T493, h493, X493, e493, W493, st493⟩ := stC X489 hx hZ408 e489 Ar492 (j := (12 : Int32)) in492 (g := (mkF m 211 #[xvi p0, xvi p1, xvi p2, xvi p3, xvi p4, xvi o180, xvi o184, xvi o187, xvi o190, xvi (p0 &&& (7 : Int32)), xun, xun, xun, xun] [xwi o190, xwi (12 : Int32), xwr b372, xwr b372])) rfl rfl (hb hby at_211)
            have ch495 := CHr.wr W493 (Safe.arv hZ408.alike V489 (by decide)) C490.1
            have C494 := C490.trans ch495
            have V493 : Arv Z h493 b372 k372 .char (63 : Int32) [(.int o180), (.int o184), (.int o187), (.int o190), (.int o184), (.int o187), (.int o190), (.int o184), (.int o187), (.int o190), (.int o184), (.int o187), (.int o190), (.int (0 : Int32)), (.int (0 : Int32)), (.int (0 : Int32)), (.int (0 : Int32)), (.int (0 : Int32)), (.int (0 : Int32)), (.int (0 : Int32)), (.int (0 : Int32)), (.int (0 : Int32)), (.int (0 : Int32)), (.int (0 : Int32)), (.int (0 : Int32)), (.int (0 : Int32)), (.int (0 : Int32)), (.int (0 : Int32)), (.int (0 : Int32)), (.int (0 : Int32)), (.int (0 : Int32)), (.int (0 : Int32)), (.int (0 : Int32)), (.int (0 : Int32)), (.int (0 : Int32)), (.int (0 : Int32)), (.int (0 : Int32)), (.int (0 : Int32)), (.int (0 : Int32)), (.int (0 : Int32)), (.int (0 : Int32)), (.int (0 : Int32)), (.int (0 : Int32)), (.int (0 : Int32)), (.int (0 : Int32)), (.int (0 : Int32)), (.int (0 : Int32)), (.int (0 : Int32)), (.int (0 : Int32)), (.int (0 : Int32)), (.int (0 : Int32)), (.int (0 : Int32)), (.int (0 : Int32)), (.int (0 : Int32)), (.int (0 : Int32)), (.int (0 : Int32)), (.int (0 : Int32)), (.int (0 : Int32)), (.int (0 : Int32)), (.int (0 : Int32)), (.int (0 : Int32)), (.int (0 : Int32)), (.int (0 : Int32))] (.int (0 : Int32)) := by have q := Arv.set Ar492 q492 S492 M492 H492 G492 (fits_nar_char _) W493 12 rfl (Nat.le_of_ble_eq_true rfl); rw [own_narc p191.1] at q; exact q
            have N493 := Fr.snoc X493 N489 (Nat.le_trans Z0 (Nat.le_trans (Nat.le_refl _) (Nat.le_of_eq g372.symm)))
            obtain ⟨cl496, Ar496, q496, S496, M496, H496, G496⟩ := id V493
            have in496 : ¬ ((13 : Int32) < 0 ∨ cl496.slots.size ≤ ((13 : Int32)).toNatClampNeg) := inb_of S496 ⟨by decide, by decide⟩
            obtain ⟨T497, h497, X497, e497, W497, st497⟩ := stC X493 hx hZ408 e493 Ar496 (j := (13 : Int32)) in496 (g := (mkF m 217 #[xvi p0, xvi p1, xvi p2, xvi p3, xvi p4, xvi o180, xvi o184, xvi o187, xvi o190, xvi (p0 &&& (7 : Int32)), xun, xun, xun, xun] [xwi o184, xwi (13 : Int32), xwr b372, xwr b372])) rfl rfl (hb hby at_217)
            have ch499 := CHr.wr W497 (Safe.arv hZ408.alike V493 (by decide)) C494.1
            have C498 := C494.trans ch499
            have V497 : Arv Z h497 b372 k372 .char (63 : Int32) [(.int o180), (.int o184), (.int o187), (.int o190), (.int o184), (.int o187), (.int o190), (.int o184), (.int o187), (.int o190), (.int o184), (.int o187), (.int o190), (.int o184), (.int (0 : Int32)), (.int (0 : Int32)), (.int (0 : Int32)), (.int (0 : Int32)), (.int (0 : Int32)), (.int (0 : Int32)), (.int (0 : Int32)), (.int (0 : Int32)), (.int (0 : Int32)), (.int (0 : Int32)), (.int (0 : Int32)), (.int (0 : Int32)), (.int (0 : Int32)), (.int (0 : Int32)), (.int (0 : Int32)), (.int (0 : Int32)), (.int (0 : Int32)), (.int (0 : Int32)), (.int (0 : Int32)), (.int (0 : Int32)), (.int (0 : Int32)), (.int (0 : Int32)), (.int (0 : Int32)), (.int (0 : Int32)), (.int (0 : Int32)), (.int (0 : Int32)), (.int (0 : Int32)), (.int (0 : Int32)), (.int (0 : Int32)), (.int (0 : Int32)), (.int (0 : Int32)), (.int (0 : Int32)), (.int (0 : Int32)), (.int (0 : Int32)), (.int (0 : Int32)), (.int (0 : Int32)), (.int (0 : Int32)), (.int (0 : Int32)), (.int (0 : Int32)), (.int (0 : Int32)), (.int (0 : Int32)), (.int (0 : Int32)), (.int (0 : Int32)), (.int (0 : Int32)), (.int (0 : Int32)), (.int (0 : Int32)), (.int (0 : Int32)), (.int (0 : Int32)), (.int (0 : Int32))] (.int (0 : Int32)) := by have q := Arv.set Ar496 q496 S496 M496 H496 G496 (fits_nar_char _) W497 13 rfl (Nat.le_of_ble_eq_true rfl); rw [own_narc p185.1] at q; exact q
            have N497 := Fr.snoc X497 N493 (Nat.le_trans Z0 (Nat.le_trans (Nat.le_refl _) (Nat.le_of_eq g372.symm)))
            obtain ⟨cl500, Ar500, q500, S500, M500, H500, G500⟩ := id V497
            have in500 : ¬ ((14 : Int32) < 0 ∨ cl500.slots.size ≤ ((14 : Int32)).toNatClampNeg) := inb_of S500 ⟨by decide, by decide⟩
            obtain ⟨T501, h501, X501, e501, W501, st501⟩ := stC X497 hx hZ408 e497 Ar500 (j := (14 : Int32)) in500 (g := (mkF m 223 #[xvi p0, xvi p1, xvi p2, xvi p3, xvi p4, xvi o180, xvi o184, xvi o187, xvi o190, xvi (p0 &&& (7 : Int32)), xun, xun, xun, xun] [xwi o187, xwi (14 : Int32), xwr b372, xwr b372])) rfl rfl (hb hby at_223)
            have ch503 := CHr.wr W501 (Safe.arv hZ408.alike V497 (by decide)) C498.1
            have C502 := C498.trans ch503
            have V501 : Arv Z h501 b372 k372 .char (63 : Int32) [(.int o180), (.int o184), (.int o187), (.int o190), (.int o184), (.int o187), (.int o190), (.int o184), (.int o187), (.int o190), (.int o184), (.int o187), (.int o190), (.int o184), (.int o187), (.int (0 : Int32)), (.int (0 : Int32)), (.int (0 : Int32)), (.int (0 : Int32)), (.int (0 : Int32)), (.int (0 : Int32)), (.int (0 : Int32)), (.int (0 : Int32)), (.int (0 : Int32)), (.int (0 : Int32)), (.int (0 : Int32)), (.int (0 : Int32)), (.int (0 : Int32)), (.int (0 : Int32)), (.int (0 : Int32)), (.int (0 : Int32)), (.int (0 : Int32)), (.int (0 : Int32)), (.int (0 : Int32)), (.int (0 : Int32)), (.int (0 : Int32)), (.int (0 : Int32)), (.int (0 : Int32)), (.int (0 : Int32)), (.int (0 : Int32)), (.int (0 : Int32)), (.int (0 : Int32)), (.int (0 : Int32)), (.int (0 : Int32)), (.int (0 : Int32)), (.int (0 : Int32)), (.int (0 : Int32)), (.int (0 : Int32)), (.int (0 : Int32)), (.int (0 : Int32)), (.int (0 : Int32)), (.int (0 : Int32)), (.int (0 : Int32)), (.int (0 : Int32)), (.int (0 : Int32)), (.int (0 : Int32)), (.int (0 : Int32)), (.int (0 : Int32)), (.int (0 : Int32)), (.int (0 : Int32)), (.int (0 : Int32)), (.int (0 : Int32)), (.int (0 : Int32))] (.int (0 : Int32)) := by have q := Arv.set Ar500 q500 S500 M500 H500 G500 (fits_nar_char _) W501 14 rfl (Nat.le_of_ble_eq_true rfl); rw [own_narc p188.1] at q; exact q
            have N501 := Fr.snoc X501 N497 (Nat.le_trans Z0 (Nat.le_trans (Nat.le_refl _) (Nat.le_of_eq g372.symm)))
            obtain ⟨cl504, Ar504, q504, S504, M504, H504, G504⟩ := id V501
            have in504 : ¬ ((15 : Int32) < 0 ∨ cl504.slots.size ≤ ((15 : Int32)).toNatClampNeg) := inb_of S504 ⟨by decide, by decide⟩
            obtain ⟨T505, h505, X505, e505, W505, st505⟩ := stC X501 hx hZ408 e501 Ar504 (j := (15 : Int32)) in504 (g := (mkF m 229 #[xvi p0, xvi p1, xvi p2, xvi p3, xvi p4, xvi o180, xvi o184, xvi o187, xvi o190, xvi (p0 &&& (7 : Int32)), xun, xun, xun, xun] [xwi o190, xwi (15 : Int32), xwr b372, xwr b372])) rfl rfl (hb hby at_229)
            have ch507 := CHr.wr W505 (Safe.arv hZ408.alike V501 (by decide)) C502.1
            have C506 := C502.trans ch507
            have V505 : Arv Z h505 b372 k372 .char (63 : Int32) [(.int o180), (.int o184), (.int o187), (.int o190), (.int o184), (.int o187), (.int o190), (.int o184), (.int o187), (.int o190), (.int o184), (.int o187), (.int o190), (.int o184), (.int o187), (.int o190), (.int (0 : Int32)), (.int (0 : Int32)), (.int (0 : Int32)), (.int (0 : Int32)), (.int (0 : Int32)), (.int (0 : Int32)), (.int (0 : Int32)), (.int (0 : Int32)), (.int (0 : Int32)), (.int (0 : Int32)), (.int (0 : Int32)), (.int (0 : Int32)), (.int (0 : Int32)), (.int (0 : Int32)), (.int (0 : Int32)), (.int (0 : Int32)), (.int (0 : Int32)), (.int (0 : Int32)), (.int (0 : Int32)), (.int (0 : Int32)), (.int (0 : Int32)), (.int (0 : Int32)), (.int (0 : Int32)), (.int (0 : Int32)), (.int (0 : Int32)), (.int (0 : Int32)), (.int (0 : Int32)), (.int (0 : Int32)), (.int (0 : Int32)), (.int (0 : Int32)), (.int (0 : Int32)), (.int (0 : Int32)), (.int (0 : Int32)), (.int (0 : Int32)), (.int (0 : Int32)), (.int (0 : Int32)), (.int (0 : Int32)), (.int (0 : Int32)), (.int (0 : Int32)), (.int (0 : Int32)), (.int (0 : Int32)), (.int (0 : Int32)), (.int (0 : Int32)), (.int (0 : Int32)), (.int (0 : Int32)), (.int (0 : Int32)), (.int (0 : Int32))] (.int (0 : Int32)) := by have q := Arv.set Ar504 q504 S504 M504 H504 G504 (fits_nar_char _) W505 15 rfl (Nat.le_of_ble_eq_true rfl); rw [own_narc p191.1] at q; exact q
            have N505 := Fr.snoc X505 N501 (Nat.le_trans Z0 (Nat.le_trans (Nat.le_refl _) (Nat.le_of_eq g372.symm)))
            refine ⟨T505, h505, _, vm408, _, own_wid X505 (by decide : 1 ≤ 1) (by decide : 63 ≤ 63), e505, N505, (((((((((Keep.refl h408 [b372]).wr W477 (Or.inl (List.mem_of_getElem? (i := 0) rfl))).wr W481 (Or.inl (List.mem_of_getElem? (i := 0) rfl))).wr W485 (Or.inl (List.mem_of_getElem? (i := 0) rfl))).wr W489 (Or.inl (List.mem_of_getElem? (i := 0) rfl))).wr W493 (Or.inl (List.mem_of_getElem? (i := 0) rfl))).wr W497 (Or.inl (List.mem_of_getElem? (i := 0) rfl))).wr W501 (Or.inl (List.mem_of_getElem? (i := 0) rfl))).wr W505 (Or.inl (List.mem_of_getElem? (i := 0) rfl))), hZ408, hown408, hS408, (Nat.le_trans hk408 (Nat.le_trans (Nat.le_trans (Nat.le_trans (Nat.le_trans (Nat.le_trans (Nat.le_trans (Nat.le_trans (Nat.le_of_eq W477.size.symm) (Nat.le_of_eq W481.size.symm)) (Nat.le_of_eq W485.size.symm)) (Nat.le_of_eq W489.size.symm)) (Nat.le_of_eq W493.size.symm)) (Nat.le_of_eq W497.size.symm)) (Nat.le_of_eq W501.size.symm)) (Nat.le_of_eq W505.size.symm))), (((((((ch479.trans ch483).trans ch487).trans ch491).trans ch495).trans ch499).trans ch503).trans ch507), V505, fun t k => c408 t ?_⟩
            refine y_dup X408 hx 183 (hb hby at_182) rfl rfl ?_
            refine y_bipush X408 hx (8 : Int32) 185 (hb hby at_183) rfl rfl ?_
            refine y_iload X408 hx 187 (hb hby at_185) rfl rfl ?_
            refine st477 _ ?_
            show Sx p e below T477 m 188 #[xvi p0, xvi p1, xvi p2, xvi p3, xvi p4, xvi o180, xvi o184, xvi o187, xvi o190, xvi (p0 &&& (7 : Int32)), xun, xun, xun, xun] [xwr b372] _
            refine y_dup X477 hx 189 (hb hby at_188) rfl rfl ?_
            refine y_bipush X477 hx (9 : Int32) 191 (hb hby at_189) rfl rfl ?_
            refine y_iload X477 hx 193 (hb hby at_191) rfl rfl ?_
            refine st481 _ ?_
            show Sx p e below T481 m 194 #[xvi p0, xvi p1, xvi p2, xvi p3, xvi p4, xvi o180, xvi o184, xvi o187, xvi o190, xvi (p0 &&& (7 : Int32)), xun, xun, xun, xun] [xwr b372] _
            refine y_dup X481 hx 195 (hb hby at_194) rfl rfl ?_
            refine y_bipush X481 hx (10 : Int32) 197 (hb hby at_195) rfl rfl ?_
            refine y_iload X481 hx 199 (hb hby at_197) rfl rfl ?_
            refine st485 _ ?_
            show Sx p e below T485 m 200 #[xvi p0, xvi p1, xvi p2, xvi p3, xvi p4, xvi o180, xvi o184, xvi o187, xvi o190, xvi (p0 &&& (7 : Int32)), xun, xun, xun, xun] [xwr b372] _
            refine y_dup X485 hx 201 (hb hby at_200) rfl rfl ?_
            refine y_bipush X485 hx (11 : Int32) 203 (hb hby at_201) rfl rfl ?_
            refine y_iload X485 hx 205 (hb hby at_203) rfl rfl ?_
            refine st489 _ ?_
            show Sx p e below T489 m 206 #[xvi p0, xvi p1, xvi p2, xvi p3, xvi p4, xvi o180, xvi o184, xvi o187, xvi o190, xvi (p0 &&& (7 : Int32)), xun, xun, xun, xun] [xwr b372] _
            refine y_dup X489 hx 207 (hb hby at_206) rfl rfl ?_
            refine y_bipush X489 hx (12 : Int32) 209 (hb hby at_207) rfl rfl ?_
            refine y_iload X489 hx 211 (hb hby at_209) rfl rfl ?_
            refine st493 _ ?_
            show Sx p e below T493 m 212 #[xvi p0, xvi p1, xvi p2, xvi p3, xvi p4, xvi o180, xvi o184, xvi o187, xvi o190, xvi (p0 &&& (7 : Int32)), xun, xun, xun, xun] [xwr b372] _
            refine y_dup X493 hx 213 (hb hby at_212) rfl rfl ?_
            refine y_bipush X493 hx (13 : Int32) 215 (hb hby at_213) rfl rfl ?_
            refine y_iload X493 hx 217 (hb hby at_215) rfl rfl ?_
            refine st497 _ ?_
            show Sx p e below T497 m 218 #[xvi p0, xvi p1, xvi p2, xvi p3, xvi p4, xvi o180, xvi o184, xvi o187, xvi o190, xvi (p0 &&& (7 : Int32)), xun, xun, xun, xun] [xwr b372] _
            refine y_dup X497 hx 219 (hb hby at_218) rfl rfl ?_
            refine y_bipush X497 hx (14 : Int32) 221 (hb hby at_219) rfl rfl ?_
            refine y_iload X497 hx 223 (hb hby at_221) rfl rfl ?_
            refine st501 _ ?_
            show Sx p e below T501 m 224 #[xvi p0, xvi p1, xvi p2, xvi p3, xvi p4, xvi o180, xvi o184, xvi o187, xvi o190, xvi (p0 &&& (7 : Int32)), xun, xun, xun, xun] [xwr b372] _
            refine y_dup X501 hx 225 (hb hby at_224) rfl rfl ?_
            refine y_bipush X501 hx (15 : Int32) 227 (hb hby at_225) rfl rfl ?_
            refine y_iload X501 hx 229 (hb hby at_227) rfl rfl ?_
            refine st505 _ ?_
            show Sx p e below T505 m 230 #[xvi p0, xvi p1, xvi p2, xvi p3, xvi p4, xvi o180, xvi o184, xvi o187, xvi o190, xvi (p0 &&& (7 : Int32)), xun, xun, xun, xun] [xwr b372] _
            exact k
          obtain ⟨T475, h475, locs475, vm475, kk475, X475, e475, N475, K475, hZ475, hown475, hS475, hk475, CH475, p508, c475⟩ := j475
          have C509 := C442.trans CH475
          have j542 : ∃ (T' : State) (h' : Heap) (locs' : List Loc) (vm' : Vm) (k' : Nat) , Stand p l e room_1 (s.setVm vm') m #[(.int p0), (.int p1), (.int p2), (.int p3), (.int p4)] below meth c T' locs' 1 63 ∧ T'.heap = h' ∧ Fr n0 locs' ∧ Keep h475 h' [b372] ∧ Z.Warmed39 (s.setVm vm').vm ∧ (s.setVm vm').vm.findClass "com/example/arbiter/arbiter/store/SchemaNameOfPinLaw" = some m.cls ∧ s.Since vm' k' ∧ k' ≤ h'.size ∧ CHr Z EL vm475 h475 vm' h' ∧ Arv Z h' b372 k372 .char (63 : Int32) [(.int o180), (.int o184), (.int o187), (.int o190), (.int o184), (.int o187), (.int o190), (.int o184), (.int o187), (.int o190), (.int o184), (.int o187), (.int o190), (.int o184), (.int o187), (.int o190), (.int o184), (.int o187), (.int o190), (.int o184), (.int o187), (.int o190), (.int o184), (.int o187), (.int (0 : Int32)), (.int (0 : Int32)), (.int (0 : Int32)), (.int (0 : Int32)), (.int (0 : Int32)), (.int (0 : Int32)), (.int (0 : Int32)), (.int (0 : Int32)), (.int (0 : Int32)), (.int (0 : Int32)), (.int (0 : Int32)), (.int (0 : Int32)), (.int (0 : Int32)), (.int (0 : Int32)), (.int (0 : Int32)), (.int (0 : Int32)), (.int (0 : Int32)), (.int (0 : Int32)), (.int (0 : Int32)), (.int (0 : Int32)), (.int (0 : Int32)), (.int (0 : Int32)), (.int (0 : Int32)), (.int (0 : Int32)), (.int (0 : Int32)), (.int (0 : Int32)), (.int (0 : Int32)), (.int (0 : Int32)), (.int (0 : Int32)), (.int (0 : Int32)), (.int (0 : Int32)), (.int (0 : Int32)), (.int (0 : Int32)), (.int (0 : Int32)), (.int (0 : Int32)), (.int (0 : Int32)), (.int (0 : Int32)), (.int (0 : Int32)), (.int (0 : Int32))] (.int (0 : Int32)) ∧ ∀ t, Sx p e below T' m 278 #[xvi p0, xvi p1, xvi p2, xvi p3, xvi p4, xvi o180, xvi o184, xvi o187, xvi o190, xvi (p0 &&& (7 : Int32)), xun, xun, xun, xun] [xwr b372] t → TG t := by
            obtain ⟨cl543, Ar543, q543, S543, M543, H543, G543⟩ := id p508
            have in543 : ¬ ((16 : Int32) < 0 ∨ cl543.slots.size ≤ ((16 : Int32)).toNatClampNeg) := inb_of S543 ⟨by decide, by decide⟩
            obtain ⟨T544, h544, X544, e544, W544, st544⟩ := stC X475 hx hZ475 e475 Ar543 (j := (16 : Int32)) in543 (g := (mkF m 235 #[xvi p0, xvi p1, xvi p2, xvi p3, xvi p4, xvi o180, xvi o184, xvi o187, xvi o190, xvi (p0 &&& (7 : Int32)), xun, xun, xun, xun] [xwi o184, xwi (16 : Int32), xwr b372, xwr b372])) rfl rfl (hb hby at_235)
            have ch546 := CHr.wr W544 (Safe.arv hZ475.alike p508 (by decide)) C509.1
            have C545 := C509.trans ch546
            have V544 : Arv Z h544 b372 k372 .char (63 : Int32) [(.int o180), (.int o184), (.int o187), (.int o190), (.int o184), (.int o187), (.int o190), (.int o184), (.int o187), (.int o190), (.int o184), (.int o187), (.int o190), (.int o184), (.int o187), (.int o190), (.int o184), (.int (0 : Int32)), (.int (0 : Int32)), (.int (0 : Int32)), (.int (0 : Int32)), (.int (0 : Int32)), (.int (0 : Int32)), (.int (0 : Int32)), (.int (0 : Int32)), (.int (0 : Int32)), (.int (0 : Int32)), (.int (0 : Int32)), (.int (0 : Int32)), (.int (0 : Int32)), (.int (0 : Int32)), (.int (0 : Int32)), (.int (0 : Int32)), (.int (0 : Int32)), (.int (0 : Int32)), (.int (0 : Int32)), (.int (0 : Int32)), (.int (0 : Int32)), (.int (0 : Int32)), (.int (0 : Int32)), (.int (0 : Int32)), (.int (0 : Int32)), (.int (0 : Int32)), (.int (0 : Int32)), (.int (0 : Int32)), (.int (0 : Int32)), (.int (0 : Int32)), (.int (0 : Int32)), (.int (0 : Int32)), (.int (0 : Int32)), (.int (0 : Int32)), (.int (0 : Int32)), (.int (0 : Int32)), (.int (0 : Int32)), (.int (0 : Int32)), (.int (0 : Int32)), (.int (0 : Int32)), (.int (0 : Int32)), (.int (0 : Int32)), (.int (0 : Int32)), (.int (0 : Int32)), (.int (0 : Int32)), (.int (0 : Int32))] (.int (0 : Int32)) := by have q := Arv.set Ar543 q543 S543 M543 H543 G543 (fits_nar_char _) W544 16 rfl (Nat.le_of_ble_eq_true rfl); rw [own_narc p185.1] at q; exact q
            have N544 := Fr.snoc X544 N475 (Nat.le_trans Z0 (Nat.le_trans (Nat.le_refl _) (Nat.le_of_eq g372.symm)))
            obtain ⟨cl547, Ar547, q547, S547, M547, H547, G547⟩ := id V544
            have in547 : ¬ ((17 : Int32) < 0 ∨ cl547.slots.size ≤ ((17 : Int32)).toNatClampNeg) := inb_of S547 ⟨by decide, by decide⟩
            obtain ⟨T548, h548, X548, e548, W548, st548⟩ := stC X544 hx hZ475 e544 Ar547 (j := (17 : Int32)) in547 (g := (mkF m 241 #[xvi p0, xvi p1, xvi p2, xvi p3, xvi p4, xvi o180, xvi o184, xvi o187, xvi o190, xvi (p0 &&& (7 : Int32)), xun, xun, xun, xun] [xwi o187, xwi (17 : Int32), xwr b372, xwr b372])) rfl rfl (hb hby at_241)
            have ch550 := CHr.wr W548 (Safe.arv hZ475.alike V544 (by decide)) C545.1
            have C549 := C545.trans ch550
            have V548 : Arv Z h548 b372 k372 .char (63 : Int32) [(.int o180), (.int o184), (.int o187), (.int o190), (.int o184), (.int o187), (.int o190), (.int o184), (.int o187), (.int o190), (.int o184), (.int o187), (.int o190), (.int o184), (.int o187), (.int o190), (.int o184), (.int o187), (.int (0 : Int32)), (.int (0 : Int32)), (.int (0 : Int32)), (.int (0 : Int32)), (.int (0 : Int32)), (.int (0 : Int32)), (.int (0 : Int32)), (.int (0 : Int32)), (.int (0 : Int32)), (.int (0 : Int32)), (.int (0 : Int32)), (.int (0 : Int32)), (.int (0 : Int32)), (.int (0 : Int32)), (.int (0 : Int32)), (.int (0 : Int32)), (.int (0 : Int32)), (.int (0 : Int32)), (.int (0 : Int32)), (.int (0 : Int32)), (.int (0 : Int32)), (.int (0 : Int32)), (.int (0 : Int32)), (.int (0 : Int32)), (.int (0 : Int32)), (.int (0 : Int32)), (.int (0 : Int32)), (.int (0 : Int32)), (.int (0 : Int32)), (.int (0 : Int32)), (.int (0 : Int32)), (.int (0 : Int32)), (.int (0 : Int32)), (.int (0 : Int32)), (.int (0 : Int32)), (.int (0 : Int32)), (.int (0 : Int32)), (.int (0 : Int32)), (.int (0 : Int32)), (.int (0 : Int32)), (.int (0 : Int32)), (.int (0 : Int32)), (.int (0 : Int32)), (.int (0 : Int32)), (.int (0 : Int32))] (.int (0 : Int32)) := by have q := Arv.set Ar547 q547 S547 M547 H547 G547 (fits_nar_char _) W548 17 rfl (Nat.le_of_ble_eq_true rfl); rw [own_narc p188.1] at q; exact q
            have N548 := Fr.snoc X548 N544 (Nat.le_trans Z0 (Nat.le_trans (Nat.le_refl _) (Nat.le_of_eq g372.symm)))
            obtain ⟨cl551, Ar551, q551, S551, M551, H551, G551⟩ := id V548
            have in551 : ¬ ((18 : Int32) < 0 ∨ cl551.slots.size ≤ ((18 : Int32)).toNatClampNeg) := inb_of S551 ⟨by decide, by decide⟩
            obtain ⟨T552, h552, X552, e552, W552, st552⟩ := stC X548 hx hZ475 e548 Ar551 (j := (18 : Int32)) in551 (g := (mkF m 247 #[xvi p0, xvi p1, xvi p2, xvi p3, xvi p4, xvi o180, xvi o184, xvi o187, xvi o190, xvi (p0 &&& (7 : Int32)), xun, xun, xun, xun] [xwi o190, xwi (18 : Int32), xwr b372, xwr b372])) rfl rfl (hb hby at_247)
            have ch554 := CHr.wr W552 (Safe.arv hZ475.alike V548 (by decide)) C549.1
            have C553 := C549.trans ch554
            have V552 : Arv Z h552 b372 k372 .char (63 : Int32) [(.int o180), (.int o184), (.int o187), (.int o190), (.int o184), (.int o187), (.int o190), (.int o184), (.int o187), (.int o190), (.int o184), (.int o187), (.int o190), (.int o184), (.int o187), (.int o190), (.int o184), (.int o187), (.int o190), (.int (0 : Int32)), (.int (0 : Int32)), (.int (0 : Int32)), (.int (0 : Int32)), (.int (0 : Int32)), (.int (0 : Int32)), (.int (0 : Int32)), (.int (0 : Int32)), (.int (0 : Int32)), (.int (0 : Int32)), (.int (0 : Int32)), (.int (0 : Int32)), (.int (0 : Int32)), (.int (0 : Int32)), (.int (0 : Int32)), (.int (0 : Int32)), (.int (0 : Int32)), (.int (0 : Int32)), (.int (0 : Int32)), (.int (0 : Int32)), (.int (0 : Int32)), (.int (0 : Int32)), (.int (0 : Int32)), (.int (0 : Int32)), (.int (0 : Int32)), (.int (0 : Int32)), (.int (0 : Int32)), (.int (0 : Int32)), (.int (0 : Int32)), (.int (0 : Int32)), (.int (0 : Int32)), (.int (0 : Int32)), (.int (0 : Int32)), (.int (0 : Int32)), (.int (0 : Int32)), (.int (0 : Int32)), (.int (0 : Int32)), (.int (0 : Int32)), (.int (0 : Int32)), (.int (0 : Int32)), (.int (0 : Int32)), (.int (0 : Int32)), (.int (0 : Int32)), (.int (0 : Int32))] (.int (0 : Int32)) := by have q := Arv.set Ar551 q551 S551 M551 H551 G551 (fits_nar_char _) W552 18 rfl (Nat.le_of_ble_eq_true rfl); rw [own_narc p191.1] at q; exact q
            have N552 := Fr.snoc X552 N548 (Nat.le_trans Z0 (Nat.le_trans (Nat.le_refl _) (Nat.le_of_eq g372.symm)))
            obtain ⟨cl555, Ar555, q555, S555, M555, H555, G555⟩ := id V552
            have in555 : ¬ ((19 : Int32) < 0 ∨ cl555.slots.size ≤ ((19 : Int32)).toNatClampNeg) := inb_of S555 ⟨by decide, by decide⟩
            obtain ⟨T556, h556, X556, e556, W556, st556⟩ := stC X552 hx hZ475 e552 Ar555 (j := (19 : Int32)) in555 (g := (mkF m 253 #[xvi p0, xvi p1, xvi p2, xvi p3, xvi p4, xvi o180, xvi o184, xvi o187, xvi o190, xvi (p0 &&& (7 : Int32)), xun, xun, xun, xun] [xwi o184, xwi (19 : Int32), xwr b372, xwr b372])) rfl rfl (hb hby at_253)
            have ch558 := CHr.wr W556 (Safe.arv hZ475.alike V552 (by decide)) C553.1
            have C557 := C553.trans ch558
            have V556 : Arv Z h556 b372 k372 .char (63 : Int32) [(.int o180), (.int o184), (.int o187), (.int o190), (.int o184), (.int o187), (.int o190), (.int o184), (.int o187), (.int o190), (.int o184), (.int o187), (.int o190), (.int o184), (.int o187), (.int o190), (.int o184), (.int o187), (.int o190), (.int o184), (.int (0 : Int32)), (.int (0 : Int32)), (.int (0 : Int32)), (.int (0 : Int32)), (.int (0 : Int32)), (.int (0 : Int32)), (.int (0 : Int32)), (.int (0 : Int32)), (.int (0 : Int32)), (.int (0 : Int32)), (.int (0 : Int32)), (.int (0 : Int32)), (.int (0 : Int32)), (.int (0 : Int32)), (.int (0 : Int32)), (.int (0 : Int32)), (.int (0 : Int32)), (.int (0 : Int32)), (.int (0 : Int32)), (.int (0 : Int32)), (.int (0 : Int32)), (.int (0 : Int32)), (.int (0 : Int32)), (.int (0 : Int32)), (.int (0 : Int32)), (.int (0 : Int32)), (.int (0 : Int32)), (.int (0 : Int32)), (.int (0 : Int32)), (.int (0 : Int32)), (.int (0 : Int32)), (.int (0 : Int32)), (.int (0 : Int32)), (.int (0 : Int32)), (.int (0 : Int32)), (.int (0 : Int32)), (.int (0 : Int32)), (.int (0 : Int32)), (.int (0 : Int32)), (.int (0 : Int32)), (.int (0 : Int32)), (.int (0 : Int32)), (.int (0 : Int32))] (.int (0 : Int32)) := by have q := Arv.set Ar555 q555 S555 M555 H555 G555 (fits_nar_char _) W556 19 rfl (Nat.le_of_ble_eq_true rfl); rw [own_narc p185.1] at q; exact q
            have N556 := Fr.snoc X556 N552 (Nat.le_trans Z0 (Nat.le_trans (Nat.le_refl _) (Nat.le_of_eq g372.symm)))
            obtain ⟨cl559, Ar559, q559, S559, M559, H559, G559⟩ := id V556
            have in559 : ¬ ((20 : Int32) < 0 ∨ cl559.slots.size ≤ ((20 : Int32)).toNatClampNeg) := inb_of S559 ⟨by decide, by decide⟩
            obtain ⟨T560, h560, X560, e560, W560, st560⟩ := stC X556 hx hZ475 e556 Ar559 (j := (20 : Int32)) in559 (g := (mkF m 259 #[xvi p0, xvi p1, xvi p2, xvi p3, xvi p4, xvi o180, xvi o184, xvi o187, xvi o190, xvi (p0 &&& (7 : Int32)), xun, xun, xun, xun] [xwi o187, xwi (20 : Int32), xwr b372, xwr b372])) rfl rfl (hb hby at_259)
            have ch562 := CHr.wr W560 (Safe.arv hZ475.alike V556 (by decide)) C557.1
            have C561 := C557.trans ch562
            have V560 : Arv Z h560 b372 k372 .char (63 : Int32) [(.int o180), (.int o184), (.int o187), (.int o190), (.int o184), (.int o187), (.int o190), (.int o184), (.int o187), (.int o190), (.int o184), (.int o187), (.int o190), (.int o184), (.int o187), (.int o190), (.int o184), (.int o187), (.int o190), (.int o184), (.int o187), (.int (0 : Int32)), (.int (0 : Int32)), (.int (0 : Int32)), (.int (0 : Int32)), (.int (0 : Int32)), (.int (0 : Int32)), (.int (0 : Int32)), (.int (0 : Int32)), (.int (0 : Int32)), (.int (0 : Int32)), (.int (0 : Int32)), (.int (0 : Int32)), (.int (0 : Int32)), (.int (0 : Int32)), (.int (0 : Int32)), (.int (0 : Int32)), (.int (0 : Int32)), (.int (0 : Int32)), (.int (0 : Int32)), (.int (0 : Int32)), (.int (0 : Int32)), (.int (0 : Int32)), (.int (0 : Int32)), (.int (0 : Int32)), (.int (0 : Int32)), (.int (0 : Int32)), (.int (0 : Int32)), (.int (0 : Int32)), (.int (0 : Int32)), (.int (0 : Int32)), (.int (0 : Int32)), (.int (0 : Int32)), (.int (0 : Int32)), (.int (0 : Int32)), (.int (0 : Int32)), (.int (0 : Int32)), (.int (0 : Int32)), (.int (0 : Int32)), (.int (0 : Int32)), (.int (0 : Int32)), (.int (0 : Int32)), (.int (0 : Int32))] (.int (0 : Int32)) := by have q := Arv.set Ar559 q559 S559 M559 H559 G559 (fits_nar_char _) W560 20 rfl (Nat.le_of_ble_eq_true rfl); rw [own_narc p188.1] at q; exact q
            have N560 := Fr.snoc X560 N556 (Nat.le_trans Z0 (Nat.le_trans (Nat.le_refl _) (Nat.le_of_eq g372.symm)))
            obtain ⟨cl563, Ar563, q563, S563, M563, H563, G563⟩ := id V560
            have in563 : ¬ ((21 : Int32) < 0 ∨ cl563.slots.size ≤ ((21 : Int32)).toNatClampNeg) := inb_of S563 ⟨by decide, by decide⟩
            obtain ⟨T564, h564, X564, e564, W564, st564⟩ := stC X560 hx hZ475 e560 Ar563 (j := (21 : Int32)) in563 (g := (mkF m 265 #[xvi p0, xvi p1, xvi p2, xvi p3, xvi p4, xvi o180, xvi o184, xvi o187, xvi o190, xvi (p0 &&& (7 : Int32)), xun, xun, xun, xun] [xwi o190, xwi (21 : Int32), xwr b372, xwr b372])) rfl rfl (hb hby at_265)
            have ch566 := CHr.wr W564 (Safe.arv hZ475.alike V560 (by decide)) C561.1
            have C565 := C561.trans ch566
            have V564 : Arv Z h564 b372 k372 .char (63 : Int32) [(.int o180), (.int o184), (.int o187), (.int o190), (.int o184), (.int o187), (.int o190), (.int o184), (.int o187), (.int o190), (.int o184), (.int o187), (.int o190), (.int o184), (.int o187), (.int o190), (.int o184), (.int o187), (.int o190), (.int o184), (.int o187), (.int o190), (.int (0 : Int32)), (.int (0 : Int32)), (.int (0 : Int32)), (.int (0 : Int32)), (.int (0 : Int32)), (.int (0 : Int32)), (.int (0 : Int32)), (.int (0 : Int32)), (.int (0 : Int32)), (.int (0 : Int32)), (.int (0 : Int32)), (.int (0 : Int32)), (.int (0 : Int32)), (.int (0 : Int32)), (.int (0 : Int32)), (.int (0 : Int32)), (.int (0 : Int32)), (.int (0 : Int32)), (.int (0 : Int32)), (.int (0 : Int32)), (.int (0 : Int32)), (.int (0 : Int32)), (.int (0 : Int32)), (.int (0 : Int32)), (.int (0 : Int32)), (.int (0 : Int32)), (.int (0 : Int32)), (.int (0 : Int32)), (.int (0 : Int32)), (.int (0 : Int32)), (.int (0 : Int32)), (.int (0 : Int32)), (.int (0 : Int32)), (.int (0 : Int32)), (.int (0 : Int32)), (.int (0 : Int32)), (.int (0 : Int32)), (.int (0 : Int32)), (.int (0 : Int32)), (.int (0 : Int32)), (.int (0 : Int32))] (.int (0 : Int32)) := by have q := Arv.set Ar563 q563 S563 M563 H563 G563 (fits_nar_char _) W564 21 rfl (Nat.le_of_ble_eq_true rfl); rw [own_narc p191.1] at q; exact q
            have N564 := Fr.snoc X564 N560 (Nat.le_trans Z0 (Nat.le_trans (Nat.le_refl _) (Nat.le_of_eq g372.symm)))
            obtain ⟨cl567, Ar567, q567, S567, M567, H567, G567⟩ := id V564
            have in567 : ¬ ((22 : Int32) < 0 ∨ cl567.slots.size ≤ ((22 : Int32)).toNatClampNeg) := inb_of S567 ⟨by decide, by decide⟩
            obtain ⟨T568, h568, X568, e568, W568, st568⟩ := stC X564 hx hZ475 e564 Ar567 (j := (22 : Int32)) in567 (g := (mkF m 271 #[xvi p0, xvi p1, xvi p2, xvi p3, xvi p4, xvi o180, xvi o184, xvi o187, xvi o190, xvi (p0 &&& (7 : Int32)), xun, xun, xun, xun] [xwi o184, xwi (22 : Int32), xwr b372, xwr b372])) rfl rfl (hb hby at_271)
            have ch570 := CHr.wr W568 (Safe.arv hZ475.alike V564 (by decide)) C565.1
            have C569 := C565.trans ch570
            have V568 : Arv Z h568 b372 k372 .char (63 : Int32) [(.int o180), (.int o184), (.int o187), (.int o190), (.int o184), (.int o187), (.int o190), (.int o184), (.int o187), (.int o190), (.int o184), (.int o187), (.int o190), (.int o184), (.int o187), (.int o190), (.int o184), (.int o187), (.int o190), (.int o184), (.int o187), (.int o190), (.int o184), (.int (0 : Int32)), (.int (0 : Int32)), (.int (0 : Int32)), (.int (0 : Int32)), (.int (0 : Int32)), (.int (0 : Int32)), (.int (0 : Int32)), (.int (0 : Int32)), (.int (0 : Int32)), (.int (0 : Int32)), (.int (0 : Int32)), (.int (0 : Int32)), (.int (0 : Int32)), (.int (0 : Int32)), (.int (0 : Int32)), (.int (0 : Int32)), (.int (0 : Int32)), (.int (0 : Int32)), (.int (0 : Int32)), (.int (0 : Int32)), (.int (0 : Int32)), (.int (0 : Int32)), (.int (0 : Int32)), (.int (0 : Int32)), (.int (0 : Int32)), (.int (0 : Int32)), (.int (0 : Int32)), (.int (0 : Int32)), (.int (0 : Int32)), (.int (0 : Int32)), (.int (0 : Int32)), (.int (0 : Int32)), (.int (0 : Int32)), (.int (0 : Int32)), (.int (0 : Int32)), (.int (0 : Int32)), (.int (0 : Int32)), (.int (0 : Int32)), (.int (0 : Int32)), (.int (0 : Int32))] (.int (0 : Int32)) := by have q := Arv.set Ar567 q567 S567 M567 H567 G567 (fits_nar_char _) W568 22 rfl (Nat.le_of_ble_eq_true rfl); rw [own_narc p185.1] at q; exact q
            have N568 := Fr.snoc X568 N564 (Nat.le_trans Z0 (Nat.le_trans (Nat.le_refl _) (Nat.le_of_eq g372.symm)))
            obtain ⟨cl571, Ar571, q571, S571, M571, H571, G571⟩ := id V568
            have in571 : ¬ ((23 : Int32) < 0 ∨ cl571.slots.size ≤ ((23 : Int32)).toNatClampNeg) := inb_of S571 ⟨by decide, by decide⟩
            obtain ⟨T572, h572, X572, e572, W572, st572⟩ := stC X568 hx hZ475 e568 Ar571 (j := (23 : Int32)) in571 (g := (mkF m 277 #[xvi p0, xvi p1, xvi p2, xvi p3, xvi p4, xvi o180, xvi o184, xvi o187, xvi o190, xvi (p0 &&& (7 : Int32)), xun, xun, xun, xun] [xwi o187, xwi (23 : Int32), xwr b372, xwr b372])) rfl rfl (hb hby at_277)
            have ch574 := CHr.wr W572 (Safe.arv hZ475.alike V568 (by decide)) C569.1
            have C573 := C569.trans ch574
            have V572 : Arv Z h572 b372 k372 .char (63 : Int32) [(.int o180), (.int o184), (.int o187), (.int o190), (.int o184), (.int o187), (.int o190), (.int o184), (.int o187), (.int o190), (.int o184), (.int o187), (.int o190), (.int o184), (.int o187), (.int o190), (.int o184), (.int o187), (.int o190), (.int o184), (.int o187), (.int o190), (.int o184), (.int o187), (.int (0 : Int32)), (.int (0 : Int32)), (.int (0 : Int32)), (.int (0 : Int32)), (.int (0 : Int32)), (.int (0 : Int32)), (.int (0 : Int32)), (.int (0 : Int32)), (.int (0 : Int32)), (.int (0 : Int32)), (.int (0 : Int32)), (.int (0 : Int32)), (.int (0 : Int32)), (.int (0 : Int32)), (.int (0 : Int32)), (.int (0 : Int32)), (.int (0 : Int32)), (.int (0 : Int32)), (.int (0 : Int32)), (.int (0 : Int32)), (.int (0 : Int32)), (.int (0 : Int32)), (.int (0 : Int32)), (.int (0 : Int32)), (.int (0 : Int32)), (.int (0 : Int32)), (.int (0 : Int32)), (.int (0 : Int32)), (.int (0 : Int32)), (.int (0 : Int32)), (.int (0 : Int32)), (.int (0 : Int32)), (.int (0 : Int32)), (.int (0 : Int32)), (.int (0 : Int32)), (.int (0 : Int32)), (.int (0 : Int32)), (.int (0 : Int32)), (.int (0 : Int32))] (.int (0 : Int32)) := by have q := Arv.set Ar571 q571 S571 M571 H571 G571 (fits_nar_char _) W572 23 rfl (Nat.le_of_ble_eq_true rfl); rw [own_narc p188.1] at q; exact q
            have N572 := Fr.snoc X572 N568 (Nat.le_trans Z0 (Nat.le_trans (Nat.le_refl _) (Nat.le_of_eq g372.symm)))
            refine ⟨T572, h572, _, vm475, _, own_wid X572 (by decide : 1 ≤ 1) (by decide : 63 ≤ 63), e572, N572, (((((((((Keep.refl h475 [b372]).wr W544 (Or.inl (List.mem_of_getElem? (i := 0) rfl))).wr W548 (Or.inl (List.mem_of_getElem? (i := 0) rfl))).wr W552 (Or.inl (List.mem_of_getElem? (i := 0) rfl))).wr W556 (Or.inl (List.mem_of_getElem? (i := 0) rfl))).wr W560 (Or.inl (List.mem_of_getElem? (i := 0) rfl))).wr W564 (Or.inl (List.mem_of_getElem? (i := 0) rfl))).wr W568 (Or.inl (List.mem_of_getElem? (i := 0) rfl))).wr W572 (Or.inl (List.mem_of_getElem? (i := 0) rfl))), hZ475, hown475, hS475, (Nat.le_trans hk475 (Nat.le_trans (Nat.le_trans (Nat.le_trans (Nat.le_trans (Nat.le_trans (Nat.le_trans (Nat.le_trans (Nat.le_of_eq W544.size.symm) (Nat.le_of_eq W548.size.symm)) (Nat.le_of_eq W552.size.symm)) (Nat.le_of_eq W556.size.symm)) (Nat.le_of_eq W560.size.symm)) (Nat.le_of_eq W564.size.symm)) (Nat.le_of_eq W568.size.symm)) (Nat.le_of_eq W572.size.symm))), (((((((ch546.trans ch550).trans ch554).trans ch558).trans ch562).trans ch566).trans ch570).trans ch574), V572, fun t k => c475 t ?_⟩
            refine y_dup X475 hx 231 (hb hby at_230) rfl rfl ?_
            refine y_bipush X475 hx (16 : Int32) 233 (hb hby at_231) rfl rfl ?_
            refine y_iload X475 hx 235 (hb hby at_233) rfl rfl ?_
            refine st544 _ ?_
            show Sx p e below T544 m 236 #[xvi p0, xvi p1, xvi p2, xvi p3, xvi p4, xvi o180, xvi o184, xvi o187, xvi o190, xvi (p0 &&& (7 : Int32)), xun, xun, xun, xun] [xwr b372] _
            refine y_dup X544 hx 237 (hb hby at_236) rfl rfl ?_
            refine y_bipush X544 hx (17 : Int32) 239 (hb hby at_237) rfl rfl ?_
            refine y_iload X544 hx 241 (hb hby at_239) rfl rfl ?_
            refine st548 _ ?_
            show Sx p e below T548 m 242 #[xvi p0, xvi p1, xvi p2, xvi p3, xvi p4, xvi o180, xvi o184, xvi o187, xvi o190, xvi (p0 &&& (7 : Int32)), xun, xun, xun, xun] [xwr b372] _
            refine y_dup X548 hx 243 (hb hby at_242) rfl rfl ?_
            refine y_bipush X548 hx (18 : Int32) 245 (hb hby at_243) rfl rfl ?_
            refine y_iload X548 hx 247 (hb hby at_245) rfl rfl ?_
            refine st552 _ ?_
            show Sx p e below T552 m 248 #[xvi p0, xvi p1, xvi p2, xvi p3, xvi p4, xvi o180, xvi o184, xvi o187, xvi o190, xvi (p0 &&& (7 : Int32)), xun, xun, xun, xun] [xwr b372] _
            refine y_dup X552 hx 249 (hb hby at_248) rfl rfl ?_
            refine y_bipush X552 hx (19 : Int32) 251 (hb hby at_249) rfl rfl ?_
            refine y_iload X552 hx 253 (hb hby at_251) rfl rfl ?_
            refine st556 _ ?_
            show Sx p e below T556 m 254 #[xvi p0, xvi p1, xvi p2, xvi p3, xvi p4, xvi o180, xvi o184, xvi o187, xvi o190, xvi (p0 &&& (7 : Int32)), xun, xun, xun, xun] [xwr b372] _
            refine y_dup X556 hx 255 (hb hby at_254) rfl rfl ?_
            refine y_bipush X556 hx (20 : Int32) 257 (hb hby at_255) rfl rfl ?_
            refine y_iload X556 hx 259 (hb hby at_257) rfl rfl ?_
            refine st560 _ ?_
            show Sx p e below T560 m 260 #[xvi p0, xvi p1, xvi p2, xvi p3, xvi p4, xvi o180, xvi o184, xvi o187, xvi o190, xvi (p0 &&& (7 : Int32)), xun, xun, xun, xun] [xwr b372] _
            refine y_dup X560 hx 261 (hb hby at_260) rfl rfl ?_
            refine y_bipush X560 hx (21 : Int32) 263 (hb hby at_261) rfl rfl ?_
            refine y_iload X560 hx 265 (hb hby at_263) rfl rfl ?_
            refine st564 _ ?_
            show Sx p e below T564 m 266 #[xvi p0, xvi p1, xvi p2, xvi p3, xvi p4, xvi o180, xvi o184, xvi o187, xvi o190, xvi (p0 &&& (7 : Int32)), xun, xun, xun, xun] [xwr b372] _
            refine y_dup X564 hx 267 (hb hby at_266) rfl rfl ?_
            refine y_bipush X564 hx (22 : Int32) 269 (hb hby at_267) rfl rfl ?_
            refine y_iload X564 hx 271 (hb hby at_269) rfl rfl ?_
            refine st568 _ ?_
            show Sx p e below T568 m 272 #[xvi p0, xvi p1, xvi p2, xvi p3, xvi p4, xvi o180, xvi o184, xvi o187, xvi o190, xvi (p0 &&& (7 : Int32)), xun, xun, xun, xun] [xwr b372] _
            refine y_dup X568 hx 273 (hb hby at_272) rfl rfl ?_
            refine y_bipush X568 hx (23 : Int32) 275 (hb hby at_273) rfl rfl ?_
            refine y_iload X568 hx 277 (hb hby at_275) rfl rfl ?_
            refine st572 _ ?_
            show Sx p e below T572 m 278 #[xvi p0, xvi p1, xvi p2, xvi p3, xvi p4, xvi o180, xvi o184, xvi o187, xvi o190, xvi (p0 &&& (7 : Int32)), xun, xun, xun, xun] [xwr b372] _
            exact k
          obtain ⟨T542, h542, locs542, vm542, kk542, X542, e542, N542, K542, hZ542, hown542, hS542, hk542, CH542, p575, c542⟩ := j542
          have C576 := C509.trans CH542
          have j609 : ∃ (T' : State) (h' : Heap) (locs' : List Loc) (vm' : Vm) (k' : Nat) , Stand p l e room_1 (s.setVm vm') m #[(.int p0), (.int p1), (.int p2), (.int p3), (.int p4)] below meth c T' locs' 1 63 ∧ T'.heap = h' ∧ Fr n0 locs' ∧ Keep h542 h' [b372] ∧ Z.Warmed39 (s.setVm vm').vm ∧ (s.setVm vm').vm.findClass "com/example/arbiter/arbiter/store/SchemaNameOfPinLaw" = some m.cls ∧ s.Since vm' k' ∧ k' ≤ h'.size ∧ CHr Z EL vm542 h542 vm' h' ∧ Arv Z h' b372 k372 .char (63 : Int32) [(.int o180), (.int o184), (.int o187), (.int o190), (.int o184), (.int o187), (.int o190), (.int o184), (.int o187), (.int o190), (.int o184), (.int o187), (.int o190), (.int o184), (.int o187), (.int o190), (.int o184), (.int o187), (.int o190), (.int o184), (.int o187), (.int o190), (.int o184), (.int o187), (.int o190), (.int o184), (.int o187), (.int o190), (.int o184), (.int o187), (.int o190), (.int o184), (.int (0 : Int32)), (.int (0 : Int32)), (.int (0 : Int32)), (.int (0 : Int32)), (.int (0 : Int32)), (.int (0 : Int32)), (.int (0 : Int32)), (.int (0 : Int32)), (.int (0 : Int32)), (.int (0 : Int32)), (.int (0 : Int32)), (.int (0 : Int32)), (.int (0 : Int32)), (.int (0 : Int32)), (.int (0 : Int32)), (.int (0 : Int32)), (.int (0 : Int32)), (.int (0 : Int32)), (.int (0 : Int32)), (.int (0 : Int32)), (.int (0 : Int32)), (.int (0 : Int32)), (.int (0 : Int32)), (.int (0 : Int32)), (.int (0 : Int32)), (.int (0 : Int32)), (.int (0 : Int32)), (.int (0 : Int32)), (.int (0 : Int32)), (.int (0 : Int32)), (.int (0 : Int32))] (.int (0 : Int32)) ∧ ∀ t, Sx p e below T' m 326 #[xvi p0, xvi p1, xvi p2, xvi p3, xvi p4, xvi o180, xvi o184, xvi o187, xvi o190, xvi (p0 &&& (7 : Int32)), xun, xun, xun, xun] [xwr b372] t → TG t := by
            obtain ⟨cl610, Ar610, q610, S610, M610, H610, G610⟩ := id p575
            have in610 : ¬ ((24 : Int32) < 0 ∨ cl610.slots.size ≤ ((24 : Int32)).toNatClampNeg) := inb_of S610 ⟨by decide, by decide⟩
            obtain ⟨T611, h611, X611, e611, W611, st611⟩ := stC X542 hx hZ542 e542 Ar610 (j := (24 : Int32)) in610 (g := (mkF m 283 #[xvi p0, xvi p1, xvi p2, xvi p3, xvi p4, xvi o180, xvi o184, xvi o187, xvi o190, xvi (p0 &&& (7 : Int32)), xun, xun, xun, xun] [xwi o190, xwi (24 : Int32), xwr b372, xwr b372])) rfl rfl (hb hby at_283)
            have ch613 := CHr.wr W611 (Safe.arv hZ542.alike p575 (by decide)) C576.1
            have C612 := C576.trans ch613
            have V611 : Arv Z h611 b372 k372 .char (63 : Int32) [(.int o180), (.int o184), (.int o187), (.int o190), (.int o184), (.int o187), (.int o190), (.int o184), (.int o187), (.int o190), (.int o184), (.int o187), (.int o190), (.int o184), (.int o187), (.int o190), (.int o184), (.int o187), (.int o190), (.int o184), (.int o187), (.int o190), (.int o184), (.int o187), (.int o190), (.int (0 : Int32)), (.int (0 : Int32)), (.int (0 : Int32)), (.int (0 : Int32)), (.int (0 : Int32)), (.int (0 : Int32)), (.int (0 : Int32)), (.int (0 : Int32)), (.int (0 : Int32)), (.int (0 : Int32)), (.int (0 : Int32)), (.int (0 : Int32)), (.int (0 : Int32)), (.int (0 : Int32)), (.int (0 : Int32)), (.int (0 : Int32)), (.int (0 : Int32)), (.int (0 : Int32)), (.int (0 : Int32)), (.int (0 : Int32)), (.int (0 : Int32)), (.int (0 : Int32)), (.int (0 : Int32)), (.int (0 : Int32)), (.int (0 : Int32)), (.int (0 : Int32)), (.int (0 : Int32)), (.int (0 : Int32)), (.int (0 : Int32)), (.int (0 : Int32)), (.int (0 : Int32)), (.int (0 : Int32)), (.int (0 : Int32)), (.int (0 : Int32)), (.int (0 : Int32)), (.int (0 : Int32)), (.int (0 : Int32)), (.int (0 : Int32))] (.int (0 : Int32)) := by have q := Arv.set Ar610 q610 S610 M610 H610 G610 (fits_nar_char _) W611 24 rfl (Nat.le_of_ble_eq_true rfl); rw [own_narc p191.1] at q; exact q
            have N611 := Fr.snoc X611 N542 (Nat.le_trans Z0 (Nat.le_trans (Nat.le_refl _) (Nat.le_of_eq g372.symm)))
            obtain ⟨cl614, Ar614, q614, S614, M614, H614, G614⟩ := id V611
            have in614 : ¬ ((25 : Int32) < 0 ∨ cl614.slots.size ≤ ((25 : Int32)).toNatClampNeg) := inb_of S614 ⟨by decide, by decide⟩
            obtain ⟨T615, h615, X615, e615, W615, st615⟩ := stC X611 hx hZ542 e611 Ar614 (j := (25 : Int32)) in614 (g := (mkF m 289 #[xvi p0, xvi p1, xvi p2, xvi p3, xvi p4, xvi o180, xvi o184, xvi o187, xvi o190, xvi (p0 &&& (7 : Int32)), xun, xun, xun, xun] [xwi o184, xwi (25 : Int32), xwr b372, xwr b372])) rfl rfl (hb hby at_289)
            have ch617 := CHr.wr W615 (Safe.arv hZ542.alike V611 (by decide)) C612.1
            have C616 := C612.trans ch617
            have V615 : Arv Z h615 b372 k372 .char (63 : Int32) [(.int o180), (.int o184), (.int o187), (.int o190), (.int o184), (.int o187), (.int o190), (.int o184), (.int o187), (.int o190), (.int o184), (.int o187), (.int o190), (.int o184), (.int o187), (.int o190), (.int o184), (.int o187), (.int o190), (.int o184), (.int o187), (.int o190), (.int o184), (.int o187), (.int o190), (.int o184), (.int (0 : Int32)), (.int (0 : Int32)), (.int (0 : Int32)), (.int (0 : Int32)), (.int (0 : Int32)), (.int (0 : Int32)), (.int (0 : Int32)), (.int (0 : Int32)), (.int (0 : Int32)), (.int (0 : Int32)), (.int (0 : Int32)), (.int (0 : Int32)), (.int (0 : Int32)), (.int (0 : Int32)), (.int (0 : Int32)), (.int (0 : Int32)), (.int (0 : Int32)), (.int (0 : Int32)), (.int (0 : Int32)), (.int (0 : Int32)), (.int (0 : Int32)), (.int (0 : Int32)), (.int (0 : Int32)), (.int (0 : Int32)), (.int (0 : Int32)), (.int (0 : Int32)), (.int (0 : Int32)), (.int (0 : Int32)), (.int (0 : Int32)), (.int (0 : Int32)), (.int (0 : Int32)), (.int (0 : Int32)), (.int (0 : Int32)), (.int (0 : Int32)), (.int (0 : Int32)), (.int (0 : Int32)), (.int (0 : Int32))] (.int (0 : Int32)) := by have q := Arv.set Ar614 q614 S614 M614 H614 G614 (fits_nar_char _) W615 25 rfl (Nat.le_of_ble_eq_true rfl); rw [own_narc p185.1] at q; exact q
            have N615 := Fr.snoc X615 N611 (Nat.le_trans Z0 (Nat.le_trans (Nat.le_refl _) (Nat.le_of_eq g372.symm)))
            obtain ⟨cl618, Ar618, q618, S618, M618, H618, G618⟩ := id V615
            have in618 : ¬ ((26 : Int32) < 0 ∨ cl618.slots.size ≤ ((26 : Int32)).toNatClampNeg) := inb_of S618 ⟨by decide, by decide⟩
            obtain ⟨T619, h619, X619, e619, W619, st619⟩ := stC X615 hx hZ542 e615 Ar618 (j := (26 : Int32)) in618 (g := (mkF m 295 #[xvi p0, xvi p1, xvi p2, xvi p3, xvi p4, xvi o180, xvi o184, xvi o187, xvi o190, xvi (p0 &&& (7 : Int32)), xun, xun, xun, xun] [xwi o187, xwi (26 : Int32), xwr b372, xwr b372])) rfl rfl (hb hby at_295)
            have ch621 := CHr.wr W619 (Safe.arv hZ542.alike V615 (by decide)) C616.1
            have C620 := C616.trans ch621
            have V619 : Arv Z h619 b372 k372 .char (63 : Int32) [(.int o180), (.int o184), (.int o187), (.int o190), (.int o184), (.int o187), (.int o190), (.int o184), (.int o187), (.int o190), (.int o184), (.int o187), (.int o190), (.int o184), (.int o187), (.int o190), (.int o184), (.int o187), (.int o190), (.int o184), (.int o187), (.int o190), (.int o184), (.int o187), (.int o190), (.int o184), (.int o187), (.int (0 : Int32)), (.int (0 : Int32)), (.int (0 : Int32)), (.int (0 : Int32)), (.int (0 : Int32)), (.int (0 : Int32)), (.int (0 : Int32)), (.int (0 : Int32)), (.int (0 : Int32)), (.int (0 : Int32)), (.int (0 : Int32)), (.int (0 : Int32)), (.int (0 : Int32)), (.int (0 : Int32)), (.int (0 : Int32)), (.int (0 : Int32)), (.int (0 : Int32)), (.int (0 : Int32)), (.int (0 : Int32)), (.int (0 : Int32)), (.int (0 : Int32)), (.int (0 : Int32)), (.int (0 : Int32)), (.int (0 : Int32)), (.int (0 : Int32)), (.int (0 : Int32)), (.int (0 : Int32)), (.int (0 : Int32)), (.int (0 : Int32)), (.int (0 : Int32)), (.int (0 : Int32)), (.int (0 : Int32)), (.int (0 : Int32)), (.int (0 : Int32)), (.int (0 : Int32)), (.int (0 : Int32))] (.int (0 : Int32)) := by have q := Arv.set Ar618 q618 S618 M618 H618 G618 (fits_nar_char _) W619 26 rfl (Nat.le_of_ble_eq_true rfl); rw [own_narc p188.1] at q; exact q
            have N619 := Fr.snoc X619 N615 (Nat.le_trans Z0 (Nat.le_trans (Nat.le_refl _) (Nat.le_of_eq g372.symm)))
            obtain ⟨cl622, Ar622, q622, S622, M622, H622, G622⟩ := id V619
            have in622 : ¬ ((27 : Int32) < 0 ∨ cl622.slots.size ≤ ((27 : Int32)).toNatClampNeg) := inb_of S622 ⟨by decide, by decide⟩
            obtain ⟨T623, h623, X623, e623, W623, st623⟩ := stC X619 hx hZ542 e619 Ar622 (j := (27 : Int32)) in622 (g := (mkF m 301 #[xvi p0, xvi p1, xvi p2, xvi p3, xvi p4, xvi o180, xvi o184, xvi o187, xvi o190, xvi (p0 &&& (7 : Int32)), xun, xun, xun, xun] [xwi o190, xwi (27 : Int32), xwr b372, xwr b372])) rfl rfl (hb hby at_301)
            have ch625 := CHr.wr W623 (Safe.arv hZ542.alike V619 (by decide)) C620.1
            have C624 := C620.trans ch625
            have V623 : Arv Z h623 b372 k372 .char (63 : Int32) [(.int o180), (.int o184), (.int o187), (.int o190), (.int o184), (.int o187), (.int o190), (.int o184), (.int o187), (.int o190), (.int o184), (.int o187), (.int o190), (.int o184), (.int o187), (.int o190), (.int o184), (.int o187), (.int o190), (.int o184), (.int o187), (.int o190), (.int o184), (.int o187), (.int o190), (.int o184), (.int o187), (.int o190), (.int (0 : Int32)), (.int (0 : Int32)), (.int (0 : Int32)), (.int (0 : Int32)), (.int (0 : Int32)), (.int (0 : Int32)), (.int (0 : Int32)), (.int (0 : Int32)), (.int (0 : Int32)), (.int (0 : Int32)), (.int (0 : Int32)), (.int (0 : Int32)), (.int (0 : Int32)), (.int (0 : Int32)), (.int (0 : Int32)), (.int (0 : Int32)), (.int (0 : Int32)), (.int (0 : Int32)), (.int (0 : Int32)), (.int (0 : Int32)), (.int (0 : Int32)), (.int (0 : Int32)), (.int (0 : Int32)), (.int (0 : Int32)), (.int (0 : Int32)), (.int (0 : Int32)), (.int (0 : Int32)), (.int (0 : Int32)), (.int (0 : Int32)), (.int (0 : Int32)), (.int (0 : Int32)), (.int (0 : Int32)), (.int (0 : Int32)), (.int (0 : Int32)), (.int (0 : Int32))] (.int (0 : Int32)) := by have q := Arv.set Ar622 q622 S622 M622 H622 G622 (fits_nar_char _) W623 27 rfl (Nat.le_of_ble_eq_true rfl); rw [own_narc p191.1] at q; exact q
            have N623 := Fr.snoc X623 N619 (Nat.le_trans Z0 (Nat.le_trans (Nat.le_refl _) (Nat.le_of_eq g372.symm)))
            obtain ⟨cl626, Ar626, q626, S626, M626, H626, G626⟩ := id V623
            have in626 : ¬ ((28 : Int32) < 0 ∨ cl626.slots.size ≤ ((28 : Int32)).toNatClampNeg) := inb_of S626 ⟨by decide, by decide⟩
            obtain ⟨T627, h627, X627, e627, W627, st627⟩ := stC X623 hx hZ542 e623 Ar626 (j := (28 : Int32)) in626 (g := (mkF m 307 #[xvi p0, xvi p1, xvi p2, xvi p3, xvi p4, xvi o180, xvi o184, xvi o187, xvi o190, xvi (p0 &&& (7 : Int32)), xun, xun, xun, xun] [xwi o184, xwi (28 : Int32), xwr b372, xwr b372])) rfl rfl (hb hby at_307)
            have ch629 := CHr.wr W627 (Safe.arv hZ542.alike V623 (by decide)) C624.1
            have C628 := C624.trans ch629
            have V627 : Arv Z h627 b372 k372 .char (63 : Int32) [(.int o180), (.int o184), (.int o187), (.int o190), (.int o184), (.int o187), (.int o190), (.int o184), (.int o187), (.int o190), (.int o184), (.int o187), (.int o190), (.int o184), (.int o187), (.int o190), (.int o184), (.int o187), (.int o190), (.int o184), (.int o187), (.int o190), (.int o184), (.int o187), (.int o190), (.int o184), (.int o187), (.int o190), (.int o184), (.int (0 : Int32)), (.int (0 : Int32)), (.int (0 : Int32)), (.int (0 : Int32)), (.int (0 : Int32)), (.int (0 : Int32)), (.int (0 : Int32)), (.int (0 : Int32)), (.int (0 : Int32)), (.int (0 : Int32)), (.int (0 : Int32)), (.int (0 : Int32)), (.int (0 : Int32)), (.int (0 : Int32)), (.int (0 : Int32)), (.int (0 : Int32)), (.int (0 : Int32)), (.int (0 : Int32)), (.int (0 : Int32)), (.int (0 : Int32)), (.int (0 : Int32)), (.int (0 : Int32)), (.int (0 : Int32)), (.int (0 : Int32)), (.int (0 : Int32)), (.int (0 : Int32)), (.int (0 : Int32)), (.int (0 : Int32)), (.int (0 : Int32)), (.int (0 : Int32)), (.int (0 : Int32)), (.int (0 : Int32)), (.int (0 : Int32)), (.int (0 : Int32))] (.int (0 : Int32)) := by have q := Arv.set Ar626 q626 S626 M626 H626 G626 (fits_nar_char _) W627 28 rfl (Nat.le_of_ble_eq_true rfl); rw [own_narc p185.1] at q; exact q
            have N627 := Fr.snoc X627 N623 (Nat.le_trans Z0 (Nat.le_trans (Nat.le_refl _) (Nat.le_of_eq g372.symm)))
            obtain ⟨cl630, Ar630, q630, S630, M630, H630, G630⟩ := id V627
            have in630 : ¬ ((29 : Int32) < 0 ∨ cl630.slots.size ≤ ((29 : Int32)).toNatClampNeg) := inb_of S630 ⟨by decide, by decide⟩
            obtain ⟨T631, h631, X631, e631, W631, st631⟩ := stC X627 hx hZ542 e627 Ar630 (j := (29 : Int32)) in630 (g := (mkF m 313 #[xvi p0, xvi p1, xvi p2, xvi p3, xvi p4, xvi o180, xvi o184, xvi o187, xvi o190, xvi (p0 &&& (7 : Int32)), xun, xun, xun, xun] [xwi o187, xwi (29 : Int32), xwr b372, xwr b372])) rfl rfl (hb hby at_313)
            have ch633 := CHr.wr W631 (Safe.arv hZ542.alike V627 (by decide)) C628.1
            have C632 := C628.trans ch633
            have V631 : Arv Z h631 b372 k372 .char (63 : Int32) [(.int o180), (.int o184), (.int o187), (.int o190), (.int o184), (.int o187), (.int o190), (.int o184), (.int o187), (.int o190), (.int o184), (.int o187), (.int o190), (.int o184), (.int o187), (.int o190), (.int o184), (.int o187), (.int o190), (.int o184), (.int o187), (.int o190), (.int o184), (.int o187), (.int o190), (.int o184), (.int o187), (.int o190), (.int o184), (.int o187), (.int (0 : Int32)), (.int (0 : Int32)), (.int (0 : Int32)), (.int (0 : Int32)), (.int (0 : Int32)), (.int (0 : Int32)), (.int (0 : Int32)), (.int (0 : Int32)), (.int (0 : Int32)), (.int (0 : Int32)), (.int (0 : Int32)), (.int (0 : Int32)), (.int (0 : Int32)), (.int (0 : Int32)), (.int (0 : Int32)), (.int (0 : Int32)), (.int (0 : Int32)), (.int (0 : Int32)), (.int (0 : Int32)), (.int (0 : Int32)), (.int (0 : Int32)), (.int (0 : Int32)), (.int (0 : Int32)), (.int (0 : Int32)), (.int (0 : Int32)), (.int (0 : Int32)), (.int (0 : Int32)), (.int (0 : Int32)), (.int (0 : Int32)), (.int (0 : Int32)), (.int (0 : Int32)), (.int (0 : Int32)), (.int (0 : Int32))] (.int (0 : Int32)) := by have q := Arv.set Ar630 q630 S630 M630 H630 G630 (fits_nar_char _) W631 29 rfl (Nat.le_of_ble_eq_true rfl); rw [own_narc p188.1] at q; exact q
            have N631 := Fr.snoc X631 N627 (Nat.le_trans Z0 (Nat.le_trans (Nat.le_refl _) (Nat.le_of_eq g372.symm)))
            obtain ⟨cl634, Ar634, q634, S634, M634, H634, G634⟩ := id V631
            have in634 : ¬ ((30 : Int32) < 0 ∨ cl634.slots.size ≤ ((30 : Int32)).toNatClampNeg) := inb_of S634 ⟨by decide, by decide⟩
            obtain ⟨T635, h635, X635, e635, W635, st635⟩ := stC X631 hx hZ542 e631 Ar634 (j := (30 : Int32)) in634 (g := (mkF m 319 #[xvi p0, xvi p1, xvi p2, xvi p3, xvi p4, xvi o180, xvi o184, xvi o187, xvi o190, xvi (p0 &&& (7 : Int32)), xun, xun, xun, xun] [xwi o190, xwi (30 : Int32), xwr b372, xwr b372])) rfl rfl (hb hby at_319)
            have ch637 := CHr.wr W635 (Safe.arv hZ542.alike V631 (by decide)) C632.1
            have C636 := C632.trans ch637
            have V635 : Arv Z h635 b372 k372 .char (63 : Int32) [(.int o180), (.int o184), (.int o187), (.int o190), (.int o184), (.int o187), (.int o190), (.int o184), (.int o187), (.int o190), (.int o184), (.int o187), (.int o190), (.int o184), (.int o187), (.int o190), (.int o184), (.int o187), (.int o190), (.int o184), (.int o187), (.int o190), (.int o184), (.int o187), (.int o190), (.int o184), (.int o187), (.int o190), (.int o184), (.int o187), (.int o190), (.int (0 : Int32)), (.int (0 : Int32)), (.int (0 : Int32)), (.int (0 : Int32)), (.int (0 : Int32)), (.int (0 : Int32)), (.int (0 : Int32)), (.int (0 : Int32)), (.int (0 : Int32)), (.int (0 : Int32)), (.int (0 : Int32)), (.int (0 : Int32)), (.int (0 : Int32)), (.int (0 : Int32)), (.int (0 : Int32)), (.int (0 : Int32)), (.int (0 : Int32)), (.int (0 : Int32)), (.int (0 : Int32)), (.int (0 : Int32)), (.int (0 : Int32)), (.int (0 : Int32)), (.int (0 : Int32)), (.int (0 : Int32)), (.int (0 : Int32)), (.int (0 : Int32)), (.int (0 : Int32)), (.int (0 : Int32)), (.int (0 : Int32)), (.int (0 : Int32)), (.int (0 : Int32)), (.int (0 : Int32))] (.int (0 : Int32)) := by have q := Arv.set Ar634 q634 S634 M634 H634 G634 (fits_nar_char _) W635 30 rfl (Nat.le_of_ble_eq_true rfl); rw [own_narc p191.1] at q; exact q
            have N635 := Fr.snoc X635 N631 (Nat.le_trans Z0 (Nat.le_trans (Nat.le_refl _) (Nat.le_of_eq g372.symm)))
            obtain ⟨cl638, Ar638, q638, S638, M638, H638, G638⟩ := id V635
            have in638 : ¬ ((31 : Int32) < 0 ∨ cl638.slots.size ≤ ((31 : Int32)).toNatClampNeg) := inb_of S638 ⟨by decide, by decide⟩
            obtain ⟨T639, h639, X639, e639, W639, st639⟩ := stC X635 hx hZ542 e635 Ar638 (j := (31 : Int32)) in638 (g := (mkF m 325 #[xvi p0, xvi p1, xvi p2, xvi p3, xvi p4, xvi o180, xvi o184, xvi o187, xvi o190, xvi (p0 &&& (7 : Int32)), xun, xun, xun, xun] [xwi o184, xwi (31 : Int32), xwr b372, xwr b372])) rfl rfl (hb hby at_325)
            have ch641 := CHr.wr W639 (Safe.arv hZ542.alike V635 (by decide)) C636.1
            have C640 := C636.trans ch641
            have V639 : Arv Z h639 b372 k372 .char (63 : Int32) [(.int o180), (.int o184), (.int o187), (.int o190), (.int o184), (.int o187), (.int o190), (.int o184), (.int o187), (.int o190), (.int o184), (.int o187), (.int o190), (.int o184), (.int o187), (.int o190), (.int o184), (.int o187), (.int o190), (.int o184), (.int o187), (.int o190), (.int o184), (.int o187), (.int o190), (.int o184), (.int o187), (.int o190), (.int o184), (.int o187), (.int o190), (.int o184), (.int (0 : Int32)), (.int (0 : Int32)), (.int (0 : Int32)), (.int (0 : Int32)), (.int (0 : Int32)), (.int (0 : Int32)), (.int (0 : Int32)), (.int (0 : Int32)), (.int (0 : Int32)), (.int (0 : Int32)), (.int (0 : Int32)), (.int (0 : Int32)), (.int (0 : Int32)), (.int (0 : Int32)), (.int (0 : Int32)), (.int (0 : Int32)), (.int (0 : Int32)), (.int (0 : Int32)), (.int (0 : Int32)), (.int (0 : Int32)), (.int (0 : Int32)), (.int (0 : Int32)), (.int (0 : Int32)), (.int (0 : Int32)), (.int (0 : Int32)), (.int (0 : Int32)), (.int (0 : Int32)), (.int (0 : Int32)), (.int (0 : Int32)), (.int (0 : Int32)), (.int (0 : Int32))] (.int (0 : Int32)) := by have q := Arv.set Ar638 q638 S638 M638 H638 G638 (fits_nar_char _) W639 31 rfl (Nat.le_of_ble_eq_true rfl); rw [own_narc p185.1] at q; exact q
            have N639 := Fr.snoc X639 N635 (Nat.le_trans Z0 (Nat.le_trans (Nat.le_refl _) (Nat.le_of_eq g372.symm)))
            refine ⟨T639, h639, _, vm542, _, own_wid X639 (by decide : 1 ≤ 1) (by decide : 63 ≤ 63), e639, N639, (((((((((Keep.refl h542 [b372]).wr W611 (Or.inl (List.mem_of_getElem? (i := 0) rfl))).wr W615 (Or.inl (List.mem_of_getElem? (i := 0) rfl))).wr W619 (Or.inl (List.mem_of_getElem? (i := 0) rfl))).wr W623 (Or.inl (List.mem_of_getElem? (i := 0) rfl))).wr W627 (Or.inl (List.mem_of_getElem? (i := 0) rfl))).wr W631 (Or.inl (List.mem_of_getElem? (i := 0) rfl))).wr W635 (Or.inl (List.mem_of_getElem? (i := 0) rfl))).wr W639 (Or.inl (List.mem_of_getElem? (i := 0) rfl))), hZ542, hown542, hS542, (Nat.le_trans hk542 (Nat.le_trans (Nat.le_trans (Nat.le_trans (Nat.le_trans (Nat.le_trans (Nat.le_trans (Nat.le_trans (Nat.le_of_eq W611.size.symm) (Nat.le_of_eq W615.size.symm)) (Nat.le_of_eq W619.size.symm)) (Nat.le_of_eq W623.size.symm)) (Nat.le_of_eq W627.size.symm)) (Nat.le_of_eq W631.size.symm)) (Nat.le_of_eq W635.size.symm)) (Nat.le_of_eq W639.size.symm))), (((((((ch613.trans ch617).trans ch621).trans ch625).trans ch629).trans ch633).trans ch637).trans ch641), V639, fun t k => c542 t ?_⟩
            refine y_dup X542 hx 279 (hb hby at_278) rfl rfl ?_
            refine y_bipush X542 hx (24 : Int32) 281 (hb hby at_279) rfl rfl ?_
            refine y_iload X542 hx 283 (hb hby at_281) rfl rfl ?_
            refine st611 _ ?_
            show Sx p e below T611 m 284 #[xvi p0, xvi p1, xvi p2, xvi p3, xvi p4, xvi o180, xvi o184, xvi o187, xvi o190, xvi (p0 &&& (7 : Int32)), xun, xun, xun, xun] [xwr b372] _
            refine y_dup X611 hx 285 (hb hby at_284) rfl rfl ?_
            refine y_bipush X611 hx (25 : Int32) 287 (hb hby at_285) rfl rfl ?_
            refine y_iload X611 hx 289 (hb hby at_287) rfl rfl ?_
            refine st615 _ ?_
            show Sx p e below T615 m 290 #[xvi p0, xvi p1, xvi p2, xvi p3, xvi p4, xvi o180, xvi o184, xvi o187, xvi o190, xvi (p0 &&& (7 : Int32)), xun, xun, xun, xun] [xwr b372] _
            refine y_dup X615 hx 291 (hb hby at_290) rfl rfl ?_
            refine y_bipush X615 hx (26 : Int32) 293 (hb hby at_291) rfl rfl ?_
            refine y_iload X615 hx 295 (hb hby at_293) rfl rfl ?_
            refine st619 _ ?_
            show Sx p e below T619 m 296 #[xvi p0, xvi p1, xvi p2, xvi p3, xvi p4, xvi o180, xvi o184, xvi o187, xvi o190, xvi (p0 &&& (7 : Int32)), xun, xun, xun, xun] [xwr b372] _
            refine y_dup X619 hx 297 (hb hby at_296) rfl rfl ?_
            refine y_bipush X619 hx (27 : Int32) 299 (hb hby at_297) rfl rfl ?_
            refine y_iload X619 hx 301 (hb hby at_299) rfl rfl ?_
            refine st623 _ ?_
            show Sx p e below T623 m 302 #[xvi p0, xvi p1, xvi p2, xvi p3, xvi p4, xvi o180, xvi o184, xvi o187, xvi o190, xvi (p0 &&& (7 : Int32)), xun, xun, xun, xun] [xwr b372] _
            refine y_dup X623 hx 303 (hb hby at_302) rfl rfl ?_
            refine y_bipush X623 hx (28 : Int32) 305 (hb hby at_303) rfl rfl ?_
            refine y_iload X623 hx 307 (hb hby at_305) rfl rfl ?_
            refine st627 _ ?_
            show Sx p e below T627 m 308 #[xvi p0, xvi p1, xvi p2, xvi p3, xvi p4, xvi o180, xvi o184, xvi o187, xvi o190, xvi (p0 &&& (7 : Int32)), xun, xun, xun, xun] [xwr b372] _
            refine y_dup X627 hx 309 (hb hby at_308) rfl rfl ?_
            refine y_bipush X627 hx (29 : Int32) 311 (hb hby at_309) rfl rfl ?_
            refine y_iload X627 hx 313 (hb hby at_311) rfl rfl ?_
            refine st631 _ ?_
            show Sx p e below T631 m 314 #[xvi p0, xvi p1, xvi p2, xvi p3, xvi p4, xvi o180, xvi o184, xvi o187, xvi o190, xvi (p0 &&& (7 : Int32)), xun, xun, xun, xun] [xwr b372] _
            refine y_dup X631 hx 315 (hb hby at_314) rfl rfl ?_
            refine y_bipush X631 hx (30 : Int32) 317 (hb hby at_315) rfl rfl ?_
            refine y_iload X631 hx 319 (hb hby at_317) rfl rfl ?_
            refine st635 _ ?_
            show Sx p e below T635 m 320 #[xvi p0, xvi p1, xvi p2, xvi p3, xvi p4, xvi o180, xvi o184, xvi o187, xvi o190, xvi (p0 &&& (7 : Int32)), xun, xun, xun, xun] [xwr b372] _
            refine y_dup X635 hx 321 (hb hby at_320) rfl rfl ?_
            refine y_bipush X635 hx (31 : Int32) 323 (hb hby at_321) rfl rfl ?_
            refine y_iload X635 hx 325 (hb hby at_323) rfl rfl ?_
            refine st639 _ ?_
            show Sx p e below T639 m 326 #[xvi p0, xvi p1, xvi p2, xvi p3, xvi p4, xvi o180, xvi o184, xvi o187, xvi o190, xvi (p0 &&& (7 : Int32)), xun, xun, xun, xun] [xwr b372] _
            exact k
          obtain ⟨T609, h609, locs609, vm609, kk609, X609, e609, N609, K609, hZ609, hown609, hS609, hk609, CH609, p642, c609⟩ := j609
          have C643 := C576.trans CH609
          have j676 : ∃ (T' : State) (h' : Heap) (locs' : List Loc) (vm' : Vm) (k' : Nat) , Stand p l e room_1 (s.setVm vm') m #[(.int p0), (.int p1), (.int p2), (.int p3), (.int p4)] below meth c T' locs' 1 63 ∧ T'.heap = h' ∧ Fr n0 locs' ∧ Keep h609 h' [b372] ∧ Z.Warmed39 (s.setVm vm').vm ∧ (s.setVm vm').vm.findClass "com/example/arbiter/arbiter/store/SchemaNameOfPinLaw" = some m.cls ∧ s.Since vm' k' ∧ k' ≤ h'.size ∧ CHr Z EL vm609 h609 vm' h' ∧ Arv Z h' b372 k372 .char (63 : Int32) [(.int o180), (.int o184), (.int o187), (.int o190), (.int o184), (.int o187), (.int o190), (.int o184), (.int o187), (.int o190), (.int o184), (.int o187), (.int o190), (.int o184), (.int o187), (.int o190), (.int o184), (.int o187), (.int o190), (.int o184), (.int o187), (.int o190), (.int o184), (.int o187), (.int o190), (.int o184), (.int o187), (.int o190), (.int o184), (.int o187), (.int o190), (.int o184), (.int o187), (.int o190), (.int o184), (.int o187), (.int o190), (.int o184), (.int o187), (.int o190), (.int (0 : Int32)), (.int (0 : Int32)), (.int (0 : Int32)), (.int (0 : Int32)), (.int (0 : Int32)), (.int (0 : Int32)), (.int (0 : Int32)), (.int (0 : Int32)), (.int (0 : Int32)), (.int (0 : Int32)), (.int (0 : Int32)), (.int (0 : Int32)), (.int (0 : Int32)), (.int (0 : Int32)), (.int (0 : Int32)), (.int (0 : Int32)), (.int (0 : Int32)), (.int (0 : Int32)), (.int (0 : Int32)), (.int (0 : Int32)), (.int (0 : Int32)), (.int (0 : Int32)), (.int (0 : Int32))] (.int (0 : Int32)) ∧ ∀ t, Sx p e below T' m 374 #[xvi p0, xvi p1, xvi p2, xvi p3, xvi p4, xvi o180, xvi o184, xvi o187, xvi o190, xvi (p0 &&& (7 : Int32)), xun, xun, xun, xun] [xwr b372] t → TG t := by
            obtain ⟨cl677, Ar677, q677, S677, M677, H677, G677⟩ := id p642
            have in677 : ¬ ((32 : Int32) < 0 ∨ cl677.slots.size ≤ ((32 : Int32)).toNatClampNeg) := inb_of S677 ⟨by decide, by decide⟩
            obtain ⟨T678, h678, X678, e678, W678, st678⟩ := stC X609 hx hZ609 e609 Ar677 (j := (32 : Int32)) in677 (g := (mkF m 331 #[xvi p0, xvi p1, xvi p2, xvi p3, xvi p4, xvi o180, xvi o184, xvi o187, xvi o190, xvi (p0 &&& (7 : Int32)), xun, xun, xun, xun] [xwi o187, xwi (32 : Int32), xwr b372, xwr b372])) rfl rfl (hb hby at_331)
            have ch680 := CHr.wr W678 (Safe.arv hZ609.alike p642 (by decide)) C643.1
            have C679 := C643.trans ch680
            have V678 : Arv Z h678 b372 k372 .char (63 : Int32) [(.int o180), (.int o184), (.int o187), (.int o190), (.int o184), (.int o187), (.int o190), (.int o184), (.int o187), (.int o190), (.int o184), (.int o187), (.int o190), (.int o184), (.int o187), (.int o190), (.int o184), (.int o187), (.int o190), (.int o184), (.int o187), (.int o190), (.int o184), (.int o187), (.int o190), (.int o184), (.int o187), (.int o190), (.int o184), (.int o187), (.int o190), (.int o184), (.int o187), (.int (0 : Int32)), (.int (0 : Int32)), (.int (0 : Int32)), (.int (0 : Int32)), (.int (0 : Int32)), (.int (0 : Int32)), (.int (0 : Int32)), (.int (0 : Int32)), (.int (0 : Int32)), (.int (0 : Int32)), (.int (0 : Int32)), (.int (0 : Int32)), (.int (0 : Int32)), (.int (0 : Int32)), (.int (0 : Int32)), (.int (0 : Int32)), (.int (0 : Int32)), (.int (0 : Int32)), (.int (0 : Int32)), (.int (0 : Int32)), (.int (0 : Int32)), (.int (0 : Int32)), (.int (0 : Int32)), (.int (0 : Int32)), (.int (0 : Int32)), (.int (0 : Int32)), (.int (0 : Int32)), (.int (0 : Int32)), (.int (0 : Int32)), (.int (0 : Int32))] (.int (0 : Int32)) := by have q := Arv.set Ar677 q677 S677 M677 H677 G677 (fits_nar_char _) W678 32 rfl (Nat.le_of_ble_eq_true rfl); rw [own_narc p188.1] at q; exact q
            have N678 := Fr.snoc X678 N609 (Nat.le_trans Z0 (Nat.le_trans (Nat.le_refl _) (Nat.le_of_eq g372.symm)))
            obtain ⟨cl681, Ar681, q681, S681, M681, H681, G681⟩ := id V678
            have in681 : ¬ ((33 : Int32) < 0 ∨ cl681.slots.size ≤ ((33 : Int32)).toNatClampNeg) := inb_of S681 ⟨by decide, by decide⟩
            obtain ⟨T682, h682, X682, e682, W682, st682⟩ := stC X678 hx hZ609 e678 Ar681 (j := (33 : Int32)) in681 (g := (mkF m 337 #[xvi p0, xvi p1, xvi p2, xvi p3, xvi p4, xvi o180, xvi o184, xvi o187, xvi o190, xvi (p0 &&& (7 : Int32)), xun, xun, xun, xun] [xwi o190, xwi (33 : Int32), xwr b372, xwr b372])) rfl rfl (hb hby at_337)
            have ch684 := CHr.wr W682 (Safe.arv hZ609.alike V678 (by decide)) C679.1
            have C683 := C679.trans ch684
            have V682 : Arv Z h682 b372 k372 .char (63 : Int32) [(.int o180), (.int o184), (.int o187), (.int o190), (.int o184), (.int o187), (.int o190), (.int o184), (.int o187), (.int o190), (.int o184), (.int o187), (.int o190), (.int o184), (.int o187), (.int o190), (.int o184), (.int o187), (.int o190), (.int o184), (.int o187), (.int o190), (.int o184), (.int o187), (.int o190), (.int o184), (.int o187), (.int o190), (.int o184), (.int o187), (.int o190), (.int o184), (.int o187), (.int o190), (.int (0 : Int32)), (.int (0 : Int32)), (.int (0 : Int32)), (.int (0 : Int32)), (.int (0 : Int32)), (.int (0 : Int32)), (.int (0 : Int32)), (.int (0 : Int32)), (.int (0 : Int32)), (.int (0 : Int32)), (.int (0 : Int32)), (.int (0 : Int32)), (.int (0 : Int32)), (.int (0 : Int32)), (.int (0 : Int32)), (.int (0 : Int32)), (.int (0 : Int32)), (.int (0 : Int32)), (.int (0 : Int32)), (.int (0 : Int32)), (.int (0 : Int32)), (.int (0 : Int32)), (.int (0 : Int32)), (.int (0 : Int32)), (.int (0 : Int32)), (.int (0 : Int32)), (.int (0 : Int32)), (.int (0 : Int32)), (.int (0 : Int32))] (.int (0 : Int32)) := by have q := Arv.set Ar681 q681 S681 M681 H681 G681 (fits_nar_char _) W682 33 rfl (Nat.le_of_ble_eq_true rfl); rw [own_narc p191.1] at q; exact q
            have N682 := Fr.snoc X682 N678 (Nat.le_trans Z0 (Nat.le_trans (Nat.le_refl _) (Nat.le_of_eq g372.symm)))
            obtain ⟨cl685, Ar685, q685, S685, M685, H685, G685⟩ := id V682
            have in685 : ¬ ((34 : Int32) < 0 ∨ cl685.slots.size ≤ ((34 : Int32)).toNatClampNeg) := inb_of S685 ⟨by decide, by decide⟩
            obtain ⟨T686, h686, X686, e686, W686, st686⟩ := stC X682 hx hZ609 e682 Ar685 (j := (34 : Int32)) in685 (g := (mkF m 343 #[xvi p0, xvi p1, xvi p2, xvi p3, xvi p4, xvi o180, xvi o184, xvi o187, xvi o190, xvi (p0 &&& (7 : Int32)), xun, xun, xun, xun] [xwi o184, xwi (34 : Int32), xwr b372, xwr b372])) rfl rfl (hb hby at_343)
            have ch688 := CHr.wr W686 (Safe.arv hZ609.alike V682 (by decide)) C683.1
            have C687 := C683.trans ch688
            have V686 : Arv Z h686 b372 k372 .char (63 : Int32) [(.int o180), (.int o184), (.int o187), (.int o190), (.int o184), (.int o187), (.int o190), (.int o184), (.int o187), (.int o190), (.int o184), (.int o187), (.int o190), (.int o184), (.int o187), (.int o190), (.int o184), (.int o187), (.int o190), (.int o184), (.int o187), (.int o190), (.int o184), (.int o187), (.int o190), (.int o184), (.int o187), (.int o190), (.int o184), (.int o187), (.int o190), (.int o184), (.int o187), (.int o190), (.int o184), (.int (0 : Int32)), (.int (0 : Int32)), (.int (0 : Int32)), (.int (0 : Int32)), (.int (0 : Int32)), (.int (0 : Int32)), (.int (0 : Int32)), (.int (0 : Int32)), (.int (0 : Int32)), (.int (0 : Int32)), (.int (0 : Int32)), (.int (0 : Int32)), (.int (0 : Int32)), (.int (0 : Int32)), (.int (0 : Int32)), (.int (0 : Int32)), (.int (0 : Int32)), (.int (0 : Int32)), (.int (0 : Int32)), (.int (0 : Int32)), (.int (0 : Int32)), (.int (0 : Int32)), (.int (0 : Int32)), (.int (0 : Int32)), (.int (0 : Int32)), (.int (0 : Int32)), (.int (0 : Int32)), (.int (0 : Int32))] (.int (0 : Int32)) := by have q := Arv.set Ar685 q685 S685 M685 H685 G685 (fits_nar_char _) W686 34 rfl (Nat.le_of_ble_eq_true rfl); rw [own_narc p185.1] at q; exact q
            have N686 := Fr.snoc X686 N682 (Nat.le_trans Z0 (Nat.le_trans (Nat.le_refl _) (Nat.le_of_eq g372.symm)))
            obtain ⟨cl689, Ar689, q689, S689, M689, H689, G689⟩ := id V686
            have in689 : ¬ ((35 : Int32) < 0 ∨ cl689.slots.size ≤ ((35 : Int32)).toNatClampNeg) := inb_of S689 ⟨by decide, by decide⟩
            obtain ⟨T690, h690, X690, e690, W690, st690⟩ := stC X686 hx hZ609 e686 Ar689 (j := (35 : Int32)) in689 (g := (mkF m 349 #[xvi p0, xvi p1, xvi p2, xvi p3, xvi p4, xvi o180, xvi o184, xvi o187, xvi o190, xvi (p0 &&& (7 : Int32)), xun, xun, xun, xun] [xwi o187, xwi (35 : Int32), xwr b372, xwr b372])) rfl rfl (hb hby at_349)
            have ch692 := CHr.wr W690 (Safe.arv hZ609.alike V686 (by decide)) C687.1
            have C691 := C687.trans ch692
            have V690 : Arv Z h690 b372 k372 .char (63 : Int32) [(.int o180), (.int o184), (.int o187), (.int o190), (.int o184), (.int o187), (.int o190), (.int o184), (.int o187), (.int o190), (.int o184), (.int o187), (.int o190), (.int o184), (.int o187), (.int o190), (.int o184), (.int o187), (.int o190), (.int o184), (.int o187), (.int o190), (.int o184), (.int o187), (.int o190), (.int o184), (.int o187), (.int o190), (.int o184), (.int o187), (.int o190), (.int o184), (.int o187), (.int o190), (.int o184), (.int o187), (.int (0 : Int32)), (.int (0 : Int32)), (.int (0 : Int32)), (.int (0 : Int32)), (.int (0 : Int32)), (.int (0 : Int32)), (.int (0 : Int32)), (.int (0 : Int32)), (.int (0 : Int32)), (.int (0 : Int32)), (.int (0 : Int32)), (.int (0 : Int32)), (.int (0 : Int32)), (.int (0 : Int32)), (.int (0 : Int32)), (.int (0 : Int32)), (.int (0 : Int32)), (.int (0 : Int32)), (.int (0 : Int32)), (.int (0 : Int32)), (.int (0 : Int32)), (.int (0 : Int32)), (.int (0 : Int32)), (.int (0 : Int32)), (.int (0 : Int32)), (.int (0 : Int32)), (.int (0 : Int32))] (.int (0 : Int32)) := by have q := Arv.set Ar689 q689 S689 M689 H689 G689 (fits_nar_char _) W690 35 rfl (Nat.le_of_ble_eq_true rfl); rw [own_narc p188.1] at q; exact q
            have N690 := Fr.snoc X690 N686 (Nat.le_trans Z0 (Nat.le_trans (Nat.le_refl _) (Nat.le_of_eq g372.symm)))
            obtain ⟨cl693, Ar693, q693, S693, M693, H693, G693⟩ := id V690
            have in693 : ¬ ((36 : Int32) < 0 ∨ cl693.slots.size ≤ ((36 : Int32)).toNatClampNeg) := inb_of S693 ⟨by decide, by decide⟩
            obtain ⟨T694, h694, X694, e694, W694, st694⟩ := stC X690 hx hZ609 e690 Ar693 (j := (36 : Int32)) in693 (g := (mkF m 355 #[xvi p0, xvi p1, xvi p2, xvi p3, xvi p4, xvi o180, xvi o184, xvi o187, xvi o190, xvi (p0 &&& (7 : Int32)), xun, xun, xun, xun] [xwi o190, xwi (36 : Int32), xwr b372, xwr b372])) rfl rfl (hb hby at_355)
            have ch696 := CHr.wr W694 (Safe.arv hZ609.alike V690 (by decide)) C691.1
            have C695 := C691.trans ch696
            have V694 : Arv Z h694 b372 k372 .char (63 : Int32) [(.int o180), (.int o184), (.int o187), (.int o190), (.int o184), (.int o187), (.int o190), (.int o184), (.int o187), (.int o190), (.int o184), (.int o187), (.int o190), (.int o184), (.int o187), (.int o190), (.int o184), (.int o187), (.int o190), (.int o184), (.int o187), (.int o190), (.int o184), (.int o187), (.int o190), (.int o184), (.int o187), (.int o190), (.int o184), (.int o187), (.int o190), (.int o184), (.int o187), (.int o190), (.int o184), (.int o187), (.int o190), (.int (0 : Int32)), (.int (0 : Int32)), (.int (0 : Int32)), (.int (0 : Int32)), (.int (0 : Int32)), (.int (0 : Int32)), (.int (0 : Int32)), (.int (0 : Int32)), (.int (0 : Int32)), (.int (0 : Int32)), (.int (0 : Int32)), (.int (0 : Int32)), (.int (0 : Int32)), (.int (0 : Int32)), (.int (0 : Int32)), (.int (0 : Int32)), (.int (0 : Int32)), (.int (0 : Int32)), (.int (0 : Int32)), (.int (0 : Int32)), (.int (0 : Int32)), (.int (0 : Int32)), (.int (0 : Int32)), (.int (0 : Int32)), (.int (0 : Int32)), (.int (0 : Int32))] (.int (0 : Int32)) := by have q := Arv.set Ar693 q693 S693 M693 H693 G693 (fits_nar_char _) W694 36 rfl (Nat.le_of_ble_eq_true rfl); rw [own_narc p191.1] at q; exact q
            have N694 := Fr.snoc X694 N690 (Nat.le_trans Z0 (Nat.le_trans (Nat.le_refl _) (Nat.le_of_eq g372.symm)))
            obtain ⟨cl697, Ar697, q697, S697, M697, H697, G697⟩ := id V694
            have in697 : ¬ ((37 : Int32) < 0 ∨ cl697.slots.size ≤ ((37 : Int32)).toNatClampNeg) := inb_of S697 ⟨by decide, by decide⟩
            obtain ⟨T698, h698, X698, e698, W698, st698⟩ := stC X694 hx hZ609 e694 Ar697 (j := (37 : Int32)) in697 (g := (mkF m 361 #[xvi p0, xvi p1, xvi p2, xvi p3, xvi p4, xvi o180, xvi o184, xvi o187, xvi o190, xvi (p0 &&& (7 : Int32)), xun, xun, xun, xun] [xwi o184, xwi (37 : Int32), xwr b372, xwr b372])) rfl rfl (hb hby at_361)
            have ch700 := CHr.wr W698 (Safe.arv hZ609.alike V694 (by decide)) C695.1
            have C699 := C695.trans ch700
            have V698 : Arv Z h698 b372 k372 .char (63 : Int32) [(.int o180), (.int o184), (.int o187), (.int o190), (.int o184), (.int o187), (.int o190), (.int o184), (.int o187), (.int o190), (.int o184), (.int o187), (.int o190), (.int o184), (.int o187), (.int o190), (.int o184), (.int o187), (.int o190), (.int o184), (.int o187), (.int o190), (.int o184), (.int o187), (.int o190), (.int o184), (.int o187), (.int o190), (.int o184), (.int o187), (.int o190), (.int o184), (.int o187), (.int o190), (.int o184), (.int o187), (.int o190), (.int o184), (.int (0 : Int32)), (.int (0 : Int32)), (.int (0 : Int32)), (.int (0 : Int32)), (.int (0 : Int32)), (.int (0 : Int32)), (.int (0 : Int32)), (.int (0 : Int32)), (.int (0 : Int32)), (.int (0 : Int32)), (.int (0 : Int32)), (.int (0 : Int32)), (.int (0 : Int32)), (.int (0 : Int32)), (.int (0 : Int32)), (.int (0 : Int32)), (.int (0 : Int32)), (.int (0 : Int32)), (.int (0 : Int32)), (.int (0 : Int32)), (.int (0 : Int32)), (.int (0 : Int32)), (.int (0 : Int32)), (.int (0 : Int32)), (.int (0 : Int32))] (.int (0 : Int32)) := by have q := Arv.set Ar697 q697 S697 M697 H697 G697 (fits_nar_char _) W698 37 rfl (Nat.le_of_ble_eq_true rfl); rw [own_narc p185.1] at q; exact q
            have N698 := Fr.snoc X698 N694 (Nat.le_trans Z0 (Nat.le_trans (Nat.le_refl _) (Nat.le_of_eq g372.symm)))
            obtain ⟨cl701, Ar701, q701, S701, M701, H701, G701⟩ := id V698
            have in701 : ¬ ((38 : Int32) < 0 ∨ cl701.slots.size ≤ ((38 : Int32)).toNatClampNeg) := inb_of S701 ⟨by decide, by decide⟩
            obtain ⟨T702, h702, X702, e702, W702, st702⟩ := stC X698 hx hZ609 e698 Ar701 (j := (38 : Int32)) in701 (g := (mkF m 367 #[xvi p0, xvi p1, xvi p2, xvi p3, xvi p4, xvi o180, xvi o184, xvi o187, xvi o190, xvi (p0 &&& (7 : Int32)), xun, xun, xun, xun] [xwi o187, xwi (38 : Int32), xwr b372, xwr b372])) rfl rfl (hb hby at_367)
            have ch704 := CHr.wr W702 (Safe.arv hZ609.alike V698 (by decide)) C699.1
            have C703 := C699.trans ch704
            have V702 : Arv Z h702 b372 k372 .char (63 : Int32) [(.int o180), (.int o184), (.int o187), (.int o190), (.int o184), (.int o187), (.int o190), (.int o184), (.int o187), (.int o190), (.int o184), (.int o187), (.int o190), (.int o184), (.int o187), (.int o190), (.int o184), (.int o187), (.int o190), (.int o184), (.int o187), (.int o190), (.int o184), (.int o187), (.int o190), (.int o184), (.int o187), (.int o190), (.int o184), (.int o187), (.int o190), (.int o184), (.int o187), (.int o190), (.int o184), (.int o187), (.int o190), (.int o184), (.int o187), (.int (0 : Int32)), (.int (0 : Int32)), (.int (0 : Int32)), (.int (0 : Int32)), (.int (0 : Int32)), (.int (0 : Int32)), (.int (0 : Int32)), (.int (0 : Int32)), (.int (0 : Int32)), (.int (0 : Int32)), (.int (0 : Int32)), (.int (0 : Int32)), (.int (0 : Int32)), (.int (0 : Int32)), (.int (0 : Int32)), (.int (0 : Int32)), (.int (0 : Int32)), (.int (0 : Int32)), (.int (0 : Int32)), (.int (0 : Int32)), (.int (0 : Int32)), (.int (0 : Int32)), (.int (0 : Int32)), (.int (0 : Int32))] (.int (0 : Int32)) := by have q := Arv.set Ar701 q701 S701 M701 H701 G701 (fits_nar_char _) W702 38 rfl (Nat.le_of_ble_eq_true rfl); rw [own_narc p188.1] at q; exact q
            have N702 := Fr.snoc X702 N698 (Nat.le_trans Z0 (Nat.le_trans (Nat.le_refl _) (Nat.le_of_eq g372.symm)))
            obtain ⟨cl705, Ar705, q705, S705, M705, H705, G705⟩ := id V702
            have in705 : ¬ ((39 : Int32) < 0 ∨ cl705.slots.size ≤ ((39 : Int32)).toNatClampNeg) := inb_of S705 ⟨by decide, by decide⟩
            obtain ⟨T706, h706, X706, e706, W706, st706⟩ := stC X702 hx hZ609 e702 Ar705 (j := (39 : Int32)) in705 (g := (mkF m 373 #[xvi p0, xvi p1, xvi p2, xvi p3, xvi p4, xvi o180, xvi o184, xvi o187, xvi o190, xvi (p0 &&& (7 : Int32)), xun, xun, xun, xun] [xwi o190, xwi (39 : Int32), xwr b372, xwr b372])) rfl rfl (hb hby at_373)
            have ch708 := CHr.wr W706 (Safe.arv hZ609.alike V702 (by decide)) C703.1
            have C707 := C703.trans ch708
            have V706 : Arv Z h706 b372 k372 .char (63 : Int32) [(.int o180), (.int o184), (.int o187), (.int o190), (.int o184), (.int o187), (.int o190), (.int o184), (.int o187), (.int o190), (.int o184), (.int o187), (.int o190), (.int o184), (.int o187), (.int o190), (.int o184), (.int o187), (.int o190), (.int o184), (.int o187), (.int o190), (.int o184), (.int o187), (.int o190), (.int o184), (.int o187), (.int o190), (.int o184), (.int o187), (.int o190), (.int o184), (.int o187), (.int o190), (.int o184), (.int o187), (.int o190), (.int o184), (.int o187), (.int o190), (.int (0 : Int32)), (.int (0 : Int32)), (.int (0 : Int32)), (.int (0 : Int32)), (.int (0 : Int32)), (.int (0 : Int32)), (.int (0 : Int32)), (.int (0 : Int32)), (.int (0 : Int32)), (.int (0 : Int32)), (.int (0 : Int32)), (.int (0 : Int32)), (.int (0 : Int32)), (.int (0 : Int32)), (.int (0 : Int32)), (.int (0 : Int32)), (.int (0 : Int32)), (.int (0 : Int32)), (.int (0 : Int32)), (.int (0 : Int32)), (.int (0 : Int32)), (.int (0 : Int32)), (.int (0 : Int32))] (.int (0 : Int32)) := by have q := Arv.set Ar705 q705 S705 M705 H705 G705 (fits_nar_char _) W706 39 rfl (Nat.le_of_ble_eq_true rfl); rw [own_narc p191.1] at q; exact q
            have N706 := Fr.snoc X706 N702 (Nat.le_trans Z0 (Nat.le_trans (Nat.le_refl _) (Nat.le_of_eq g372.symm)))
            refine ⟨T706, h706, _, vm609, _, own_wid X706 (by decide : 1 ≤ 1) (by decide : 63 ≤ 63), e706, N706, (((((((((Keep.refl h609 [b372]).wr W678 (Or.inl (List.mem_of_getElem? (i := 0) rfl))).wr W682 (Or.inl (List.mem_of_getElem? (i := 0) rfl))).wr W686 (Or.inl (List.mem_of_getElem? (i := 0) rfl))).wr W690 (Or.inl (List.mem_of_getElem? (i := 0) rfl))).wr W694 (Or.inl (List.mem_of_getElem? (i := 0) rfl))).wr W698 (Or.inl (List.mem_of_getElem? (i := 0) rfl))).wr W702 (Or.inl (List.mem_of_getElem? (i := 0) rfl))).wr W706 (Or.inl (List.mem_of_getElem? (i := 0) rfl))), hZ609, hown609, hS609, (Nat.le_trans hk609 (Nat.le_trans (Nat.le_trans (Nat.le_trans (Nat.le_trans (Nat.le_trans (Nat.le_trans (Nat.le_trans (Nat.le_of_eq W678.size.symm) (Nat.le_of_eq W682.size.symm)) (Nat.le_of_eq W686.size.symm)) (Nat.le_of_eq W690.size.symm)) (Nat.le_of_eq W694.size.symm)) (Nat.le_of_eq W698.size.symm)) (Nat.le_of_eq W702.size.symm)) (Nat.le_of_eq W706.size.symm))), (((((((ch680.trans ch684).trans ch688).trans ch692).trans ch696).trans ch700).trans ch704).trans ch708), V706, fun t k => c609 t ?_⟩
            refine y_dup X609 hx 327 (hb hby at_326) rfl rfl ?_
            refine y_bipush X609 hx (32 : Int32) 329 (hb hby at_327) rfl rfl ?_
            refine y_iload X609 hx 331 (hb hby at_329) rfl rfl ?_
            refine st678 _ ?_
            show Sx p e below T678 m 332 #[xvi p0, xvi p1, xvi p2, xvi p3, xvi p4, xvi o180, xvi o184, xvi o187, xvi o190, xvi (p0 &&& (7 : Int32)), xun, xun, xun, xun] [xwr b372] _
            refine y_dup X678 hx 333 (hb hby at_332) rfl rfl ?_
            refine y_bipush X678 hx (33 : Int32) 335 (hb hby at_333) rfl rfl ?_
            refine y_iload X678 hx 337 (hb hby at_335) rfl rfl ?_
            refine st682 _ ?_
            show Sx p e below T682 m 338 #[xvi p0, xvi p1, xvi p2, xvi p3, xvi p4, xvi o180, xvi o184, xvi o187, xvi o190, xvi (p0 &&& (7 : Int32)), xun, xun, xun, xun] [xwr b372] _
            refine y_dup X682 hx 339 (hb hby at_338) rfl rfl ?_
            refine y_bipush X682 hx (34 : Int32) 341 (hb hby at_339) rfl rfl ?_
            refine y_iload X682 hx 343 (hb hby at_341) rfl rfl ?_
            refine st686 _ ?_
            show Sx p e below T686 m 344 #[xvi p0, xvi p1, xvi p2, xvi p3, xvi p4, xvi o180, xvi o184, xvi o187, xvi o190, xvi (p0 &&& (7 : Int32)), xun, xun, xun, xun] [xwr b372] _
            refine y_dup X686 hx 345 (hb hby at_344) rfl rfl ?_
            refine y_bipush X686 hx (35 : Int32) 347 (hb hby at_345) rfl rfl ?_
            refine y_iload X686 hx 349 (hb hby at_347) rfl rfl ?_
            refine st690 _ ?_
            show Sx p e below T690 m 350 #[xvi p0, xvi p1, xvi p2, xvi p3, xvi p4, xvi o180, xvi o184, xvi o187, xvi o190, xvi (p0 &&& (7 : Int32)), xun, xun, xun, xun] [xwr b372] _
            refine y_dup X690 hx 351 (hb hby at_350) rfl rfl ?_
            refine y_bipush X690 hx (36 : Int32) 353 (hb hby at_351) rfl rfl ?_
            refine y_iload X690 hx 355 (hb hby at_353) rfl rfl ?_
            refine st694 _ ?_
            show Sx p e below T694 m 356 #[xvi p0, xvi p1, xvi p2, xvi p3, xvi p4, xvi o180, xvi o184, xvi o187, xvi o190, xvi (p0 &&& (7 : Int32)), xun, xun, xun, xun] [xwr b372] _
            refine y_dup X694 hx 357 (hb hby at_356) rfl rfl ?_
            refine y_bipush X694 hx (37 : Int32) 359 (hb hby at_357) rfl rfl ?_
            refine y_iload X694 hx 361 (hb hby at_359) rfl rfl ?_
            refine st698 _ ?_
            show Sx p e below T698 m 362 #[xvi p0, xvi p1, xvi p2, xvi p3, xvi p4, xvi o180, xvi o184, xvi o187, xvi o190, xvi (p0 &&& (7 : Int32)), xun, xun, xun, xun] [xwr b372] _
            refine y_dup X698 hx 363 (hb hby at_362) rfl rfl ?_
            refine y_bipush X698 hx (38 : Int32) 365 (hb hby at_363) rfl rfl ?_
            refine y_iload X698 hx 367 (hb hby at_365) rfl rfl ?_
            refine st702 _ ?_
            show Sx p e below T702 m 368 #[xvi p0, xvi p1, xvi p2, xvi p3, xvi p4, xvi o180, xvi o184, xvi o187, xvi o190, xvi (p0 &&& (7 : Int32)), xun, xun, xun, xun] [xwr b372] _
            refine y_dup X702 hx 369 (hb hby at_368) rfl rfl ?_
            refine y_bipush X702 hx (39 : Int32) 371 (hb hby at_369) rfl rfl ?_
            refine y_iload X702 hx 373 (hb hby at_371) rfl rfl ?_
            refine st706 _ ?_
            show Sx p e below T706 m 374 #[xvi p0, xvi p1, xvi p2, xvi p3, xvi p4, xvi o180, xvi o184, xvi o187, xvi o190, xvi (p0 &&& (7 : Int32)), xun, xun, xun, xun] [xwr b372] _
            exact k
          obtain ⟨T676, h676, locs676, vm676, kk676, X676, e676, N676, K676, hZ676, hown676, hS676, hk676, CH676, p709, c676⟩ := j676
          have C710 := C643.trans CH676
          have j743 : ∃ (T' : State) (h' : Heap) (locs' : List Loc) (vm' : Vm) (k' : Nat) , Stand p l e room_1 (s.setVm vm') m #[(.int p0), (.int p1), (.int p2), (.int p3), (.int p4)] below meth c T' locs' 1 63 ∧ T'.heap = h' ∧ Fr n0 locs' ∧ Keep h676 h' [b372] ∧ Z.Warmed39 (s.setVm vm').vm ∧ (s.setVm vm').vm.findClass "com/example/arbiter/arbiter/store/SchemaNameOfPinLaw" = some m.cls ∧ s.Since vm' k' ∧ k' ≤ h'.size ∧ CHr Z EL vm676 h676 vm' h' ∧ Arv Z h' b372 k372 .char (63 : Int32) [(.int o180), (.int o184), (.int o187), (.int o190), (.int o184), (.int o187), (.int o190), (.int o184), (.int o187), (.int o190), (.int o184), (.int o187), (.int o190), (.int o184), (.int o187), (.int o190), (.int o184), (.int o187), (.int o190), (.int o184), (.int o187), (.int o190), (.int o184), (.int o187), (.int o190), (.int o184), (.int o187), (.int o190), (.int o184), (.int o187), (.int o190), (.int o184), (.int o187), (.int o190), (.int o184), (.int o187), (.int o190), (.int o184), (.int o187), (.int o190), (.int o184), (.int o187), (.int o190), (.int o184), (.int o187), (.int o190), (.int o184), (.int o187), (.int (0 : Int32)), (.int (0 : Int32)), (.int (0 : Int32)), (.int (0 : Int32)), (.int (0 : Int32)), (.int (0 : Int32)), (.int (0 : Int32)), (.int (0 : Int32)), (.int (0 : Int32)), (.int (0 : Int32)), (.int (0 : Int32)), (.int (0 : Int32)), (.int (0 : Int32)), (.int (0 : Int32)), (.int (0 : Int32))] (.int (0 : Int32)) ∧ ∀ t, Sx p e below T' m 422 #[xvi p0, xvi p1, xvi p2, xvi p3, xvi p4, xvi o180, xvi o184, xvi o187, xvi o190, xvi (p0 &&& (7 : Int32)), xun, xun, xun, xun] [xwr b372] t → TG t := by
            obtain ⟨cl744, Ar744, q744, S744, M744, H744, G744⟩ := id p709
            have in744 : ¬ ((40 : Int32) < 0 ∨ cl744.slots.size ≤ ((40 : Int32)).toNatClampNeg) := inb_of S744 ⟨by decide, by decide⟩
            obtain ⟨T745, h745, X745, e745, W745, st745⟩ := stC X676 hx hZ676 e676 Ar744 (j := (40 : Int32)) in744 (g := (mkF m 379 #[xvi p0, xvi p1, xvi p2, xvi p3, xvi p4, xvi o180, xvi o184, xvi o187, xvi o190, xvi (p0 &&& (7 : Int32)), xun, xun, xun, xun] [xwi o184, xwi (40 : Int32), xwr b372, xwr b372])) rfl rfl (hb hby at_379)
            have ch747 := CHr.wr W745 (Safe.arv hZ676.alike p709 (by decide)) C710.1
            have C746 := C710.trans ch747
            have V745 : Arv Z h745 b372 k372 .char (63 : Int32) [(.int o180), (.int o184), (.int o187), (.int o190), (.int o184), (.int o187), (.int o190), (.int o184), (.int o187), (.int o190), (.int o184), (.int o187), (.int o190), (.int o184), (.int o187), (.int o190), (.int o184), (.int o187), (.int o190), (.int o184), (.int o187), (.int o190), (.int o184), (.int o187), (.int o190), (.int o184), (.int o187), (.int o190), (.int o184), (.int o187), (.int o190), (.int o184), (.int o187), (.int o190), (.int o184), (.int o187), (.int o190), (.int o184), (.int o187), (.int o190), (.int o184), (.int (0 : Int32)), (.int (0 : Int32)), (.int (0 : Int32)), (.int (0 : Int32)), (.int (0 : Int32)), (.int (0 : Int32)), (.int (0 : Int32)), (.int (0 : Int32)), (.int (0 : Int32)), (.int (0 : Int32)), (.int (0 : Int32)), (.int (0 : Int32)), (.int (0 : Int32)), (.int (0 : Int32)), (.int (0 : Int32)), (.int (0 : Int32)), (.int (0 : Int32)), (.int (0 : Int32)), (.int (0 : Int32)), (.int (0 : Int32)), (.int (0 : Int32)), (.int (0 : Int32))] (.int (0 : Int32)) := by have q := Arv.set Ar744 q744 S744 M744 H744 G744 (fits_nar_char _) W745 40 rfl (Nat.le_of_ble_eq_true rfl); rw [own_narc p185.1] at q; exact q
            have N745 := Fr.snoc X745 N676 (Nat.le_trans Z0 (Nat.le_trans (Nat.le_refl _) (Nat.le_of_eq g372.symm)))
            obtain ⟨cl748, Ar748, q748, S748, M748, H748, G748⟩ := id V745
            have in748 : ¬ ((41 : Int32) < 0 ∨ cl748.slots.size ≤ ((41 : Int32)).toNatClampNeg) := inb_of S748 ⟨by decide, by decide⟩
            obtain ⟨T749, h749, X749, e749, W749, st749⟩ := stC X745 hx hZ676 e745 Ar748 (j := (41 : Int32)) in748 (g := (mkF m 385 #[xvi p0, xvi p1, xvi p2, xvi p3, xvi p4, xvi o180, xvi o184, xvi o187, xvi o190, xvi (p0 &&& (7 : Int32)), xun, xun, xun, xun] [xwi o187, xwi (41 : Int32), xwr b372, xwr b372])) rfl rfl (hb hby at_385)
            have ch751 := CHr.wr W749 (Safe.arv hZ676.alike V745 (by decide)) C746.1
            have C750 := C746.trans ch751
            have V749 : Arv Z h749 b372 k372 .char (63 : Int32) [(.int o180), (.int o184), (.int o187), (.int o190), (.int o184), (.int o187), (.int o190), (.int o184), (.int o187), (.int o190), (.int o184), (.int o187), (.int o190), (.int o184), (.int o187), (.int o190), (.int o184), (.int o187), (.int o190), (.int o184), (.int o187), (.int o190), (.int o184), (.int o187), (.int o190), (.int o184), (.int o187), (.int o190), (.int o184), (.int o187), (.int o190), (.int o184), (.int o187), (.int o190), (.int o184), (.int o187), (.int o190), (.int o184), (.int o187), (.int o190), (.int o184), (.int o187), (.int (0 : Int32)), (.int (0 : Int32)), (.int (0 : Int32)), (.int (0 : Int32)), (.int (0 : Int32)), (.int (0 : Int32)), (.int (0 : Int32)), (.int (0 : Int32)), (.int (0 : Int32)), (.int (0 : Int32)), (.int (0 : Int32)), (.int (0 : Int32)), (.int (0 : Int32)), (.int (0 : Int32)), (.int (0 : Int32)), (.int (0 : Int32)), (.int (0 : Int32)), (.int (0 : Int32)), (.int (0 : Int32)), (.int (0 : Int32)), (.int (0 : Int32))] (.int (0 : Int32)) := by have q := Arv.set Ar748 q748 S748 M748 H748 G748 (fits_nar_char _) W749 41 rfl (Nat.le_of_ble_eq_true rfl); rw [own_narc p188.1] at q; exact q
            have N749 := Fr.snoc X749 N745 (Nat.le_trans Z0 (Nat.le_trans (Nat.le_refl _) (Nat.le_of_eq g372.symm)))
            obtain ⟨cl752, Ar752, q752, S752, M752, H752, G752⟩ := id V749
            have in752 : ¬ ((42 : Int32) < 0 ∨ cl752.slots.size ≤ ((42 : Int32)).toNatClampNeg) := inb_of S752 ⟨by decide, by decide⟩
            obtain ⟨T753, h753, X753, e753, W753, st753⟩ := stC X749 hx hZ676 e749 Ar752 (j := (42 : Int32)) in752 (g := (mkF m 391 #[xvi p0, xvi p1, xvi p2, xvi p3, xvi p4, xvi o180, xvi o184, xvi o187, xvi o190, xvi (p0 &&& (7 : Int32)), xun, xun, xun, xun] [xwi o190, xwi (42 : Int32), xwr b372, xwr b372])) rfl rfl (hb hby at_391)
            have ch755 := CHr.wr W753 (Safe.arv hZ676.alike V749 (by decide)) C750.1
            have C754 := C750.trans ch755
            have V753 : Arv Z h753 b372 k372 .char (63 : Int32) [(.int o180), (.int o184), (.int o187), (.int o190), (.int o184), (.int o187), (.int o190), (.int o184), (.int o187), (.int o190), (.int o184), (.int o187), (.int o190), (.int o184), (.int o187), (.int o190), (.int o184), (.int o187), (.int o190), (.int o184), (.int o187), (.int o190), (.int o184), (.int o187), (.int o190), (.int o184), (.int o187), (.int o190), (.int o184), (.int o187), (.int o190), (.int o184), (.int o187), (.int o190), (.int o184), (.int o187), (.int o190), (.int o184), (.int o187), (.int o190), (.int o184), (.int o187), (.int o190), (.int (0 : Int32)), (.int (0 : Int32)), (.int (0 : Int32)), (.int (0 : Int32)), (.int (0 : Int32)), (.int (0 : Int32)), (.int (0 : Int32)), (.int (0 : Int32)), (.int (0 : Int32)), (.int (0 : Int32)), (.int (0 : Int32)), (.int (0 : Int32)), (.int (0 : Int32)), (.int (0 : Int32)), (.int (0 : Int32)), (.int (0 : Int32)), (.int (0 : Int32)), (.int (0 : Int32)), (.int (0 : Int32)), (.int (0 : Int32))] (.int (0 : Int32)) := by have q := Arv.set Ar752 q752 S752 M752 H752 G752 (fits_nar_char _) W753 42 rfl (Nat.le_of_ble_eq_true rfl); rw [own_narc p191.1] at q; exact q
            have N753 := Fr.snoc X753 N749 (Nat.le_trans Z0 (Nat.le_trans (Nat.le_refl _) (Nat.le_of_eq g372.symm)))
            obtain ⟨cl756, Ar756, q756, S756, M756, H756, G756⟩ := id V753
            have in756 : ¬ ((43 : Int32) < 0 ∨ cl756.slots.size ≤ ((43 : Int32)).toNatClampNeg) := inb_of S756 ⟨by decide, by decide⟩
            obtain ⟨T757, h757, X757, e757, W757, st757⟩ := stC X753 hx hZ676 e753 Ar756 (j := (43 : Int32)) in756 (g := (mkF m 397 #[xvi p0, xvi p1, xvi p2, xvi p3, xvi p4, xvi o180, xvi o184, xvi o187, xvi o190, xvi (p0 &&& (7 : Int32)), xun, xun, xun, xun] [xwi o184, xwi (43 : Int32), xwr b372, xwr b372])) rfl rfl (hb hby at_397)
            have ch759 := CHr.wr W757 (Safe.arv hZ676.alike V753 (by decide)) C754.1
            have C758 := C754.trans ch759
            have V757 : Arv Z h757 b372 k372 .char (63 : Int32) [(.int o180), (.int o184), (.int o187), (.int o190), (.int o184), (.int o187), (.int o190), (.int o184), (.int o187), (.int o190), (.int o184), (.int o187), (.int o190), (.int o184), (.int o187), (.int o190), (.int o184), (.int o187), (.int o190), (.int o184), (.int o187), (.int o190), (.int o184), (.int o187), (.int o190), (.int o184), (.int o187), (.int o190), (.int o184), (.int o187), (.int o190), (.int o184), (.int o187), (.int o190), (.int o184), (.int o187), (.int o190), (.int o184), (.int o187), (.int o190), (.int o184), (.int o187), (.int o190), (.int o184), (.int (0 : Int32)), (.int (0 : Int32)), (.int (0 : Int32)), (.int (0 : Int32)), (.int (0 : Int32)), (.int (0 : Int32)), (.int (0 : Int32)), (.int (0 : Int32)), (.int (0 : Int32)), (.int (0 : Int32)), (.int (0 : Int32)), (.int (0 : Int32)), (.int (0 : Int32)), (.int (0 : Int32)), (.int (0 : Int32)), (.int (0 : Int32)), (.int (0 : Int32)), (.int (0 : Int32)), (.int (0 : Int32))] (.int (0 : Int32)) := by have q := Arv.set Ar756 q756 S756 M756 H756 G756 (fits_nar_char _) W757 43 rfl (Nat.le_of_ble_eq_true rfl); rw [own_narc p185.1] at q; exact q
            have N757 := Fr.snoc X757 N753 (Nat.le_trans Z0 (Nat.le_trans (Nat.le_refl _) (Nat.le_of_eq g372.symm)))
            obtain ⟨cl760, Ar760, q760, S760, M760, H760, G760⟩ := id V757
            have in760 : ¬ ((44 : Int32) < 0 ∨ cl760.slots.size ≤ ((44 : Int32)).toNatClampNeg) := inb_of S760 ⟨by decide, by decide⟩
            obtain ⟨T761, h761, X761, e761, W761, st761⟩ := stC X757 hx hZ676 e757 Ar760 (j := (44 : Int32)) in760 (g := (mkF m 403 #[xvi p0, xvi p1, xvi p2, xvi p3, xvi p4, xvi o180, xvi o184, xvi o187, xvi o190, xvi (p0 &&& (7 : Int32)), xun, xun, xun, xun] [xwi o187, xwi (44 : Int32), xwr b372, xwr b372])) rfl rfl (hb hby at_403)
            have ch763 := CHr.wr W761 (Safe.arv hZ676.alike V757 (by decide)) C758.1
            have C762 := C758.trans ch763
            have V761 : Arv Z h761 b372 k372 .char (63 : Int32) [(.int o180), (.int o184), (.int o187), (.int o190), (.int o184), (.int o187), (.int o190), (.int o184), (.int o187), (.int o190), (.int o184), (.int o187), (.int o190), (.int o184), (.int o187), (.int o190), (.int o184), (.int o187), (.int o190), (.int o184), (.int o187), (.int o190), (.int o184), (.int o187), (.int o190), (.int o184), (.int o187), (.int o190), (.int o184), (.int o187), (.int o190), (.int o184), (.int o187), (.int o190), (.int o184), (.int o187), (.int o190), (.int o184), (.int o187), (.int o190), (.int o184), (.int o187), (.int o190), (.int o184), (.int o187), (.int (0 : Int32)), (.int (0 : Int32)), (.int (0 : Int32)), (.int (0 : Int32)), (.int (0 : Int32)), (.int (0 : Int32)), (.int (0 : Int32)), (.int (0 : Int32)), (.int (0 : Int32)), (.int (0 : Int32)), (.int (0 : Int32)), (.int (0 : Int32)), (.int (0 : Int32)), (.int (0 : Int32)), (.int (0 : Int32)), (.int (0 : Int32)), (.int (0 : Int32)), (.int (0 : Int32))] (.int (0 : Int32)) := by have q := Arv.set Ar760 q760 S760 M760 H760 G760 (fits_nar_char _) W761 44 rfl (Nat.le_of_ble_eq_true rfl); rw [own_narc p188.1] at q; exact q
            have N761 := Fr.snoc X761 N757 (Nat.le_trans Z0 (Nat.le_trans (Nat.le_refl _) (Nat.le_of_eq g372.symm)))
            obtain ⟨cl764, Ar764, q764, S764, M764, H764, G764⟩ := id V761
            have in764 : ¬ ((45 : Int32) < 0 ∨ cl764.slots.size ≤ ((45 : Int32)).toNatClampNeg) := inb_of S764 ⟨by decide, by decide⟩
            obtain ⟨T765, h765, X765, e765, W765, st765⟩ := stC X761 hx hZ676 e761 Ar764 (j := (45 : Int32)) in764 (g := (mkF m 409 #[xvi p0, xvi p1, xvi p2, xvi p3, xvi p4, xvi o180, xvi o184, xvi o187, xvi o190, xvi (p0 &&& (7 : Int32)), xun, xun, xun, xun] [xwi o190, xwi (45 : Int32), xwr b372, xwr b372])) rfl rfl (hb hby at_409)
            have ch767 := CHr.wr W765 (Safe.arv hZ676.alike V761 (by decide)) C762.1
            have C766 := C762.trans ch767
            have V765 : Arv Z h765 b372 k372 .char (63 : Int32) [(.int o180), (.int o184), (.int o187), (.int o190), (.int o184), (.int o187), (.int o190), (.int o184), (.int o187), (.int o190), (.int o184), (.int o187), (.int o190), (.int o184), (.int o187), (.int o190), (.int o184), (.int o187), (.int o190), (.int o184), (.int o187), (.int o190), (.int o184), (.int o187), (.int o190), (.int o184), (.int o187), (.int o190), (.int o184), (.int o187), (.int o190), (.int o184), (.int o187), (.int o190), (.int o184), (.int o187), (.int o190), (.int o184), (.int o187), (.int o190), (.int o184), (.int o187), (.int o190), (.int o184), (.int o187), (.int o190), (.int (0 : Int32)), (.int (0 : Int32)), (.int (0 : Int32)), (.int (0 : Int32)), (.int (0 : Int32)), (.int (0 : Int32)), (.int (0 : Int32)), (.int (0 : Int32)), (.int (0 : Int32)), (.int (0 : Int32)), (.int (0 : Int32)), (.int (0 : Int32)), (.int (0 : Int32)), (.int (0 : Int32)), (.int (0 : Int32)), (.int (0 : Int32)), (.int (0 : Int32))] (.int (0 : Int32)) := by have q := Arv.set Ar764 q764 S764 M764 H764 G764 (fits_nar_char _) W765 45 rfl (Nat.le_of_ble_eq_true rfl); rw [own_narc p191.1] at q; exact q
            have N765 := Fr.snoc X765 N761 (Nat.le_trans Z0 (Nat.le_trans (Nat.le_refl _) (Nat.le_of_eq g372.symm)))
            obtain ⟨cl768, Ar768, q768, S768, M768, H768, G768⟩ := id V765
            have in768 : ¬ ((46 : Int32) < 0 ∨ cl768.slots.size ≤ ((46 : Int32)).toNatClampNeg) := inb_of S768 ⟨by decide, by decide⟩
            obtain ⟨T769, h769, X769, e769, W769, st769⟩ := stC X765 hx hZ676 e765 Ar768 (j := (46 : Int32)) in768 (g := (mkF m 415 #[xvi p0, xvi p1, xvi p2, xvi p3, xvi p4, xvi o180, xvi o184, xvi o187, xvi o190, xvi (p0 &&& (7 : Int32)), xun, xun, xun, xun] [xwi o184, xwi (46 : Int32), xwr b372, xwr b372])) rfl rfl (hb hby at_415)
            have ch771 := CHr.wr W769 (Safe.arv hZ676.alike V765 (by decide)) C766.1
            have C770 := C766.trans ch771
            have V769 : Arv Z h769 b372 k372 .char (63 : Int32) [(.int o180), (.int o184), (.int o187), (.int o190), (.int o184), (.int o187), (.int o190), (.int o184), (.int o187), (.int o190), (.int o184), (.int o187), (.int o190), (.int o184), (.int o187), (.int o190), (.int o184), (.int o187), (.int o190), (.int o184), (.int o187), (.int o190), (.int o184), (.int o187), (.int o190), (.int o184), (.int o187), (.int o190), (.int o184), (.int o187), (.int o190), (.int o184), (.int o187), (.int o190), (.int o184), (.int o187), (.int o190), (.int o184), (.int o187), (.int o190), (.int o184), (.int o187), (.int o190), (.int o184), (.int o187), (.int o190), (.int o184), (.int (0 : Int32)), (.int (0 : Int32)), (.int (0 : Int32)), (.int (0 : Int32)), (.int (0 : Int32)), (.int (0 : Int32)), (.int (0 : Int32)), (.int (0 : Int32)), (.int (0 : Int32)), (.int (0 : Int32)), (.int (0 : Int32)), (.int (0 : Int32)), (.int (0 : Int32)), (.int (0 : Int32)), (.int (0 : Int32)), (.int (0 : Int32))] (.int (0 : Int32)) := by have q := Arv.set Ar768 q768 S768 M768 H768 G768 (fits_nar_char _) W769 46 rfl (Nat.le_of_ble_eq_true rfl); rw [own_narc p185.1] at q; exact q
            have N769 := Fr.snoc X769 N765 (Nat.le_trans Z0 (Nat.le_trans (Nat.le_refl _) (Nat.le_of_eq g372.symm)))
            obtain ⟨cl772, Ar772, q772, S772, M772, H772, G772⟩ := id V769
            have in772 : ¬ ((47 : Int32) < 0 ∨ cl772.slots.size ≤ ((47 : Int32)).toNatClampNeg) := inb_of S772 ⟨by decide, by decide⟩
            obtain ⟨T773, h773, X773, e773, W773, st773⟩ := stC X769 hx hZ676 e769 Ar772 (j := (47 : Int32)) in772 (g := (mkF m 421 #[xvi p0, xvi p1, xvi p2, xvi p3, xvi p4, xvi o180, xvi o184, xvi o187, xvi o190, xvi (p0 &&& (7 : Int32)), xun, xun, xun, xun] [xwi o187, xwi (47 : Int32), xwr b372, xwr b372])) rfl rfl (hb hby at_421)
            have ch775 := CHr.wr W773 (Safe.arv hZ676.alike V769 (by decide)) C770.1
            have C774 := C770.trans ch775
            have V773 : Arv Z h773 b372 k372 .char (63 : Int32) [(.int o180), (.int o184), (.int o187), (.int o190), (.int o184), (.int o187), (.int o190), (.int o184), (.int o187), (.int o190), (.int o184), (.int o187), (.int o190), (.int o184), (.int o187), (.int o190), (.int o184), (.int o187), (.int o190), (.int o184), (.int o187), (.int o190), (.int o184), (.int o187), (.int o190), (.int o184), (.int o187), (.int o190), (.int o184), (.int o187), (.int o190), (.int o184), (.int o187), (.int o190), (.int o184), (.int o187), (.int o190), (.int o184), (.int o187), (.int o190), (.int o184), (.int o187), (.int o190), (.int o184), (.int o187), (.int o190), (.int o184), (.int o187), (.int (0 : Int32)), (.int (0 : Int32)), (.int (0 : Int32)), (.int (0 : Int32)), (.int (0 : Int32)), (.int (0 : Int32)), (.int (0 : Int32)), (.int (0 : Int32)), (.int (0 : Int32)), (.int (0 : Int32)), (.int (0 : Int32)), (.int (0 : Int32)), (.int (0 : Int32)), (.int (0 : Int32)), (.int (0 : Int32))] (.int (0 : Int32)) := by have q := Arv.set Ar772 q772 S772 M772 H772 G772 (fits_nar_char _) W773 47 rfl (Nat.le_of_ble_eq_true rfl); rw [own_narc p188.1] at q; exact q
            have N773 := Fr.snoc X773 N769 (Nat.le_trans Z0 (Nat.le_trans (Nat.le_refl _) (Nat.le_of_eq g372.symm)))
            refine ⟨T773, h773, _, vm676, _, own_wid X773 (by decide : 1 ≤ 1) (by decide : 63 ≤ 63), e773, N773, (((((((((Keep.refl h676 [b372]).wr W745 (Or.inl (List.mem_of_getElem? (i := 0) rfl))).wr W749 (Or.inl (List.mem_of_getElem? (i := 0) rfl))).wr W753 (Or.inl (List.mem_of_getElem? (i := 0) rfl))).wr W757 (Or.inl (List.mem_of_getElem? (i := 0) rfl))).wr W761 (Or.inl (List.mem_of_getElem? (i := 0) rfl))).wr W765 (Or.inl (List.mem_of_getElem? (i := 0) rfl))).wr W769 (Or.inl (List.mem_of_getElem? (i := 0) rfl))).wr W773 (Or.inl (List.mem_of_getElem? (i := 0) rfl))), hZ676, hown676, hS676, (Nat.le_trans hk676 (Nat.le_trans (Nat.le_trans (Nat.le_trans (Nat.le_trans (Nat.le_trans (Nat.le_trans (Nat.le_trans (Nat.le_of_eq W745.size.symm) (Nat.le_of_eq W749.size.symm)) (Nat.le_of_eq W753.size.symm)) (Nat.le_of_eq W757.size.symm)) (Nat.le_of_eq W761.size.symm)) (Nat.le_of_eq W765.size.symm)) (Nat.le_of_eq W769.size.symm)) (Nat.le_of_eq W773.size.symm))), (((((((ch747.trans ch751).trans ch755).trans ch759).trans ch763).trans ch767).trans ch771).trans ch775), V773, fun t k => c676 t ?_⟩
            refine y_dup X676 hx 375 (hb hby at_374) rfl rfl ?_
            refine y_bipush X676 hx (40 : Int32) 377 (hb hby at_375) rfl rfl ?_
            refine y_iload X676 hx 379 (hb hby at_377) rfl rfl ?_
            refine st745 _ ?_
            show Sx p e below T745 m 380 #[xvi p0, xvi p1, xvi p2, xvi p3, xvi p4, xvi o180, xvi o184, xvi o187, xvi o190, xvi (p0 &&& (7 : Int32)), xun, xun, xun, xun] [xwr b372] _
            refine y_dup X745 hx 381 (hb hby at_380) rfl rfl ?_
            refine y_bipush X745 hx (41 : Int32) 383 (hb hby at_381) rfl rfl ?_
            refine y_iload X745 hx 385 (hb hby at_383) rfl rfl ?_
            refine st749 _ ?_
            show Sx p e below T749 m 386 #[xvi p0, xvi p1, xvi p2, xvi p3, xvi p4, xvi o180, xvi o184, xvi o187, xvi o190, xvi (p0 &&& (7 : Int32)), xun, xun, xun, xun] [xwr b372] _
            refine y_dup X749 hx 387 (hb hby at_386) rfl rfl ?_
            refine y_bipush X749 hx (42 : Int32) 389 (hb hby at_387) rfl rfl ?_
            refine y_iload X749 hx 391 (hb hby at_389) rfl rfl ?_
            refine st753 _ ?_
            show Sx p e below T753 m 392 #[xvi p0, xvi p1, xvi p2, xvi p3, xvi p4, xvi o180, xvi o184, xvi o187, xvi o190, xvi (p0 &&& (7 : Int32)), xun, xun, xun, xun] [xwr b372] _
            refine y_dup X753 hx 393 (hb hby at_392) rfl rfl ?_
            refine y_bipush X753 hx (43 : Int32) 395 (hb hby at_393) rfl rfl ?_
            refine y_iload X753 hx 397 (hb hby at_395) rfl rfl ?_
            refine st757 _ ?_
            show Sx p e below T757 m 398 #[xvi p0, xvi p1, xvi p2, xvi p3, xvi p4, xvi o180, xvi o184, xvi o187, xvi o190, xvi (p0 &&& (7 : Int32)), xun, xun, xun, xun] [xwr b372] _
            refine y_dup X757 hx 399 (hb hby at_398) rfl rfl ?_
            refine y_bipush X757 hx (44 : Int32) 401 (hb hby at_399) rfl rfl ?_
            refine y_iload X757 hx 403 (hb hby at_401) rfl rfl ?_
            refine st761 _ ?_
            show Sx p e below T761 m 404 #[xvi p0, xvi p1, xvi p2, xvi p3, xvi p4, xvi o180, xvi o184, xvi o187, xvi o190, xvi (p0 &&& (7 : Int32)), xun, xun, xun, xun] [xwr b372] _
            refine y_dup X761 hx 405 (hb hby at_404) rfl rfl ?_
            refine y_bipush X761 hx (45 : Int32) 407 (hb hby at_405) rfl rfl ?_
            refine y_iload X761 hx 409 (hb hby at_407) rfl rfl ?_
            refine st765 _ ?_
            show Sx p e below T765 m 410 #[xvi p0, xvi p1, xvi p2, xvi p3, xvi p4, xvi o180, xvi o184, xvi o187, xvi o190, xvi (p0 &&& (7 : Int32)), xun, xun, xun, xun] [xwr b372] _
            refine y_dup X765 hx 411 (hb hby at_410) rfl rfl ?_
            refine y_bipush X765 hx (46 : Int32) 413 (hb hby at_411) rfl rfl ?_
            refine y_iload X765 hx 415 (hb hby at_413) rfl rfl ?_
            refine st769 _ ?_
            show Sx p e below T769 m 416 #[xvi p0, xvi p1, xvi p2, xvi p3, xvi p4, xvi o180, xvi o184, xvi o187, xvi o190, xvi (p0 &&& (7 : Int32)), xun, xun, xun, xun] [xwr b372] _
            refine y_dup X769 hx 417 (hb hby at_416) rfl rfl ?_
            refine y_bipush X769 hx (47 : Int32) 419 (hb hby at_417) rfl rfl ?_
            refine y_iload X769 hx 421 (hb hby at_419) rfl rfl ?_
            refine st773 _ ?_
            show Sx p e below T773 m 422 #[xvi p0, xvi p1, xvi p2, xvi p3, xvi p4, xvi o180, xvi o184, xvi o187, xvi o190, xvi (p0 &&& (7 : Int32)), xun, xun, xun, xun] [xwr b372] _
            exact k
          obtain ⟨T743, h743, locs743, vm743, kk743, X743, e743, N743, K743, hZ743, hown743, hS743, hk743, CH743, p776, c743⟩ := j743
          have C777 := C710.trans CH743
          have j810 : ∃ (T' : State) (h' : Heap) (locs' : List Loc) (vm' : Vm) (k' : Nat) , Stand p l e room_1 (s.setVm vm') m #[(.int p0), (.int p1), (.int p2), (.int p3), (.int p4)] below meth c T' locs' 1 63 ∧ T'.heap = h' ∧ Fr n0 locs' ∧ Keep h743 h' [b372] ∧ Z.Warmed39 (s.setVm vm').vm ∧ (s.setVm vm').vm.findClass "com/example/arbiter/arbiter/store/SchemaNameOfPinLaw" = some m.cls ∧ s.Since vm' k' ∧ k' ≤ h'.size ∧ CHr Z EL vm743 h743 vm' h' ∧ Arv Z h' b372 k372 .char (63 : Int32) [(.int o180), (.int o184), (.int o187), (.int o190), (.int o184), (.int o187), (.int o190), (.int o184), (.int o187), (.int o190), (.int o184), (.int o187), (.int o190), (.int o184), (.int o187), (.int o190), (.int o184), (.int o187), (.int o190), (.int o184), (.int o187), (.int o190), (.int o184), (.int o187), (.int o190), (.int o184), (.int o187), (.int o190), (.int o184), (.int o187), (.int o190), (.int o184), (.int o187), (.int o190), (.int o184), (.int o187), (.int o190), (.int o184), (.int o187), (.int o190), (.int o184), (.int o187), (.int o190), (.int o184), (.int o187), (.int o190), (.int o184), (.int o187), (.int o190), (.int o184), (.int o187), (.int o190), (.int o184), (.int o187), (.int o190), (.int o184), (.int (0 : Int32)), (.int (0 : Int32)), (.int (0 : Int32)), (.int (0 : Int32)), (.int (0 : Int32)), (.int (0 : Int32)), (.int (0 : Int32))] (.int (0 : Int32)) ∧ ∀ t, Sx p e below T' m 470 #[xvi p0, xvi p1, xvi p2, xvi p3, xvi p4, xvi o180, xvi o184, xvi o187, xvi o190, xvi (p0 &&& (7 : Int32)), xun, xun, xun, xun] [xwr b372] t → TG t := by
            obtain ⟨cl811, Ar811, q811, S811, M811, H811, G811⟩ := id p776
            have in811 : ¬ ((48 : Int32) < 0 ∨ cl811.slots.size ≤ ((48 : Int32)).toNatClampNeg) := inb_of S811 ⟨by decide, by decide⟩
            obtain ⟨T812, h812, X812, e812, W812, st812⟩ := stC X743 hx hZ743 e743 Ar811 (j := (48 : Int32)) in811 (g := (mkF m 427 #[xvi p0, xvi p1, xvi p2, xvi p3, xvi p4, xvi o180, xvi o184, xvi o187, xvi o190, xvi (p0 &&& (7 : Int32)), xun, xun, xun, xun] [xwi o190, xwi (48 : Int32), xwr b372, xwr b372])) rfl rfl (hb hby at_427)
            have ch814 := CHr.wr W812 (Safe.arv hZ743.alike p776 (by decide)) C777.1
            have C813 := C777.trans ch814
            have V812 : Arv Z h812 b372 k372 .char (63 : Int32) [(.int o180), (.int o184), (.int o187), (.int o190), (.int o184), (.int o187), (.int o190), (.int o184), (.int o187), (.int o190), (.int o184), (.int o187), (.int o190), (.int o184), (.int o187), (.int o190), (.int o184), (.int o187), (.int o190), (.int o184), (.int o187), (.int o190), (.int o184), (.int o187), (.int o190), (.int o184), (.int o187), (.int o190), (.int o184), (.int o187), (.int o190), (.int o184), (.int o187), (.int o190), (.int o184), (.int o187), (.int o190), (.int o184), (.int o187), (.int o190), (.int o184), (.int o187), (.int o190), (.int o184), (.int o187), (.int o190), (.int o184), (.int o187), (.int o190), (.int (0 : Int32)), (.int (0 : Int32)), (.int (0 : Int32)), (.int (0 : Int32)), (.int (0 : Int32)), (.int (0 : Int32)), (.int (0 : Int32)), (.int (0 : Int32)), (.int (0 : Int32)), (.int (0 : Int32)), (.int (0 : Int32)), (.int (0 : Int32)), (.int (0 : Int32)), (.int (0 : Int32))] (.int (0 : Int32)) := by have q := Arv.set Ar811 q811 S811 M811 H811 G811 (fits_nar_char _) W812 48 rfl (Nat.le_of_ble_eq_true rfl); rw [own_narc p191.1] at q; exact q
            have N812 := Fr.snoc X812 N743 (Nat.le_trans Z0 (Nat.le_trans (Nat.le_refl _) (Nat.le_of_eq g372.symm)))
            obtain ⟨cl815, Ar815, q815, S815, M815, H815, G815⟩ := id V812
            have in815 : ¬ ((49 : Int32) < 0 ∨ cl815.slots.size ≤ ((49 : Int32)).toNatClampNeg) := inb_of S815 ⟨by decide, by decide⟩
            obtain ⟨T816, h816, X816, e816, W816, st816⟩ := stC X812 hx hZ743 e812 Ar815 (j := (49 : Int32)) in815 (g := (mkF m 433 #[xvi p0, xvi p1, xvi p2, xvi p3, xvi p4, xvi o180, xvi o184, xvi o187, xvi o190, xvi (p0 &&& (7 : Int32)), xun, xun, xun, xun] [xwi o184, xwi (49 : Int32), xwr b372, xwr b372])) rfl rfl (hb hby at_433)
            have ch818 := CHr.wr W816 (Safe.arv hZ743.alike V812 (by decide)) C813.1
            have C817 := C813.trans ch818
            have V816 : Arv Z h816 b372 k372 .char (63 : Int32) [(.int o180), (.int o184), (.int o187), (.int o190), (.int o184), (.int o187), (.int o190), (.int o184), (.int o187), (.int o190), (.int o184), (.int o187), (.int o190), (.int o184), (.int o187), (.int o190), (.int o184), (.int o187), (.int o190), (.int o184), (.int o187), (.int o190), (.int o184), (.int o187), (.int o190), (.int o184), (.int o187), (.int o190), (.int o184), (.int o187), (.int o190), (.int o184), (.int o187), (.int o190), (.int o184), (.int o187), (.int o190), (.int o184), (.int o187), (.int o190), (.int o184), (.int o187), (.int o190), (.int o184), (.int o187), (.int o190), (.int o184), (.int o187), (.int o190), (.int o184), (.int (0 : Int32)), (.int (0 : Int32)), (.int (0 : Int32)), (.int (0 : Int32)), (.int (0 : Int32)), (.int (0 : Int32)), (.int (0 : Int32)), (.int (0 : Int32)), (.int (0 : Int32)), (.int (0 : Int32)), (.int (0 : Int32)), (.int (0 : Int32)), (.int (0 : Int32))] (.int (0 : Int32)) := by have q := Arv.set Ar815 q815 S815 M815 H815 G815 (fits_nar_char _) W816 49 rfl (Nat.le_of_ble_eq_true rfl); rw [own_narc p185.1] at q; exact q
            have N816 := Fr.snoc X816 N812 (Nat.le_trans Z0 (Nat.le_trans (Nat.le_refl _) (Nat.le_of_eq g372.symm)))
            obtain ⟨cl819, Ar819, q819, S819, M819, H819, G819⟩ := id V816
            have in819 : ¬ ((50 : Int32) < 0 ∨ cl819.slots.size ≤ ((50 : Int32)).toNatClampNeg) := inb_of S819 ⟨by decide, by decide⟩
            obtain ⟨T820, h820, X820, e820, W820, st820⟩ := stC X816 hx hZ743 e816 Ar819 (j := (50 : Int32)) in819 (g := (mkF m 439 #[xvi p0, xvi p1, xvi p2, xvi p3, xvi p4, xvi o180, xvi o184, xvi o187, xvi o190, xvi (p0 &&& (7 : Int32)), xun, xun, xun, xun] [xwi o187, xwi (50 : Int32), xwr b372, xwr b372])) rfl rfl (hb hby at_439)
            have ch822 := CHr.wr W820 (Safe.arv hZ743.alike V816 (by decide)) C817.1
            have C821 := C817.trans ch822
            have V820 : Arv Z h820 b372 k372 .char (63 : Int32) [(.int o180), (.int o184), (.int o187), (.int o190), (.int o184), (.int o187), (.int o190), (.int o184), (.int o187), (.int o190), (.int o184), (.int o187), (.int o190), (.int o184), (.int o187), (.int o190), (.int o184), (.int o187), (.int o190), (.int o184), (.int o187), (.int o190), (.int o184), (.int o187), (.int o190), (.int o184), (.int o187), (.int o190), (.int o184), (.int o187), (.int o190), (.int o184), (.int o187), (.int o190), (.int o184), (.int o187), (.int o190), (.int o184), (.int o187), (.int o190), (.int o184), (.int o187), (.int o190), (.int o184), (.int o187), (.int o190), (.int o184), (.int o187), (.int o190), (.int o184), (.int o187), (.int (0 : Int32)), (.int (0 : Int32)), (.int (0 : Int32)), (.int (0 : Int32)), (.int (0 : Int32)), (.int (0 : Int32)), (.int (0 : Int32)), (.int (0 : Int32)), (.int (0 : Int32)), (.int (0 : Int32)), (.int (0 : Int32)), (.int (0 : Int32))] (.int (0 : Int32)) := by have q := Arv.set Ar819 q819 S819 M819 H819 G819 (fits_nar_char _) W820 50 rfl (Nat.le_of_ble_eq_true rfl); rw [own_narc p188.1] at q; exact q
            have N820 := Fr.snoc X820 N816 (Nat.le_trans Z0 (Nat.le_trans (Nat.le_refl _) (Nat.le_of_eq g372.symm)))
            obtain ⟨cl823, Ar823, q823, S823, M823, H823, G823⟩ := id V820
            have in823 : ¬ ((51 : Int32) < 0 ∨ cl823.slots.size ≤ ((51 : Int32)).toNatClampNeg) := inb_of S823 ⟨by decide, by decide⟩
            obtain ⟨T824, h824, X824, e824, W824, st824⟩ := stC X820 hx hZ743 e820 Ar823 (j := (51 : Int32)) in823 (g := (mkF m 445 #[xvi p0, xvi p1, xvi p2, xvi p3, xvi p4, xvi o180, xvi o184, xvi o187, xvi o190, xvi (p0 &&& (7 : Int32)), xun, xun, xun, xun] [xwi o190, xwi (51 : Int32), xwr b372, xwr b372])) rfl rfl (hb hby at_445)
            have ch826 := CHr.wr W824 (Safe.arv hZ743.alike V820 (by decide)) C821.1
            have C825 := C821.trans ch826
            have V824 : Arv Z h824 b372 k372 .char (63 : Int32) [(.int o180), (.int o184), (.int o187), (.int o190), (.int o184), (.int o187), (.int o190), (.int o184), (.int o187), (.int o190), (.int o184), (.int o187), (.int o190), (.int o184), (.int o187), (.int o190), (.int o184), (.int o187), (.int o190), (.int o184), (.int o187), (.int o190), (.int o184), (.int o187), (.int o190), (.int o184), (.int o187), (.int o190), (.int o184), (.int o187), (.int o190), (.int o184), (.int o187), (.int o190), (.int o184), (.int o187), (.int o190), (.int o184), (.int o187), (.int o190), (.int o184), (.int o187), (.int o190), (.int o184), (.int o187), (.int o190), (.int o184), (.int o187), (.int o190), (.int o184), (.int o187), (.int o190), (.int (0 : Int32)), (.int (0 : Int32)), (.int (0 : Int32)), (.int (0 : Int32)), (.int (0 : Int32)), (.int (0 : Int32)), (.int (0 : Int32)), (.int (0 : Int32)), (.int (0 : Int32)), (.int (0 : Int32)), (.int (0 : Int32))] (.int (0 : Int32)) := by have q := Arv.set Ar823 q823 S823 M823 H823 G823 (fits_nar_char _) W824 51 rfl (Nat.le_of_ble_eq_true rfl); rw [own_narc p191.1] at q; exact q
            have N824 := Fr.snoc X824 N820 (Nat.le_trans Z0 (Nat.le_trans (Nat.le_refl _) (Nat.le_of_eq g372.symm)))
            obtain ⟨cl827, Ar827, q827, S827, M827, H827, G827⟩ := id V824
            have in827 : ¬ ((52 : Int32) < 0 ∨ cl827.slots.size ≤ ((52 : Int32)).toNatClampNeg) := inb_of S827 ⟨by decide, by decide⟩
            obtain ⟨T828, h828, X828, e828, W828, st828⟩ := stC X824 hx hZ743 e824 Ar827 (j := (52 : Int32)) in827 (g := (mkF m 451 #[xvi p0, xvi p1, xvi p2, xvi p3, xvi p4, xvi o180, xvi o184, xvi o187, xvi o190, xvi (p0 &&& (7 : Int32)), xun, xun, xun, xun] [xwi o184, xwi (52 : Int32), xwr b372, xwr b372])) rfl rfl (hb hby at_451)
            have ch830 := CHr.wr W828 (Safe.arv hZ743.alike V824 (by decide)) C825.1
            have C829 := C825.trans ch830
            have V828 : Arv Z h828 b372 k372 .char (63 : Int32) [(.int o180), (.int o184), (.int o187), (.int o190), (.int o184), (.int o187), (.int o190), (.int o184), (.int o187), (.int o190), (.int o184), (.int o187), (.int o190), (.int o184), (.int o187), (.int o190), (.int o184), (.int o187), (.int o190), (.int o184), (.int o187), (.int o190), (.int o184), (.int o187), (.int o190), (.int o184), (.int o187), (.int o190), (.int o184), (.int o187), (.int o190), (.int o184), (.int o187), (.int o190), (.int o184), (.int o187), (.int o190), (.int o184), (.int o187), (.int o190), (.int o184), (.int o187), (.int o190), (.int o184), (.int o187), (.int o190), (.int o184), (.int o187), (.int o190), (.int o184), (.int o187), (.int o190), (.int o184), (.int (0 : Int32)), (.int (0 : Int32)), (.int (0 : Int32)), (.int (0 : Int32)), (.int (0 : Int32)), (.int (0 : Int32)), (.int (0 : Int32)), (.int (0 : Int32)), (.int (0 : Int32)), (.int (0 : Int32))] (.int (0 : Int32)) := by have q := Arv.set Ar827 q827 S827 M827 H827 G827 (fits_nar_char _) W828 52 rfl (Nat.le_of_ble_eq_true rfl); rw [own_narc p185.1] at q; exact q
            have N828 := Fr.snoc X828 N824 (Nat.le_trans Z0 (Nat.le_trans (Nat.le_refl _) (Nat.le_of_eq g372.symm)))
            obtain ⟨cl831, Ar831, q831, S831, M831, H831, G831⟩ := id V828
            have in831 : ¬ ((53 : Int32) < 0 ∨ cl831.slots.size ≤ ((53 : Int32)).toNatClampNeg) := inb_of S831 ⟨by decide, by decide⟩
            obtain ⟨T832, h832, X832, e832, W832, st832⟩ := stC X828 hx hZ743 e828 Ar831 (j := (53 : Int32)) in831 (g := (mkF m 457 #[xvi p0, xvi p1, xvi p2, xvi p3, xvi p4, xvi o180, xvi o184, xvi o187, xvi o190, xvi (p0 &&& (7 : Int32)), xun, xun, xun, xun] [xwi o187, xwi (53 : Int32), xwr b372, xwr b372])) rfl rfl (hb hby at_457)
            have ch834 := CHr.wr W832 (Safe.arv hZ743.alike V828 (by decide)) C829.1
            have C833 := C829.trans ch834
            have V832 : Arv Z h832 b372 k372 .char (63 : Int32) [(.int o180), (.int o184), (.int o187), (.int o190), (.int o184), (.int o187), (.int o190), (.int o184), (.int o187), (.int o190), (.int o184), (.int o187), (.int o190), (.int o184), (.int o187), (.int o190), (.int o184), (.int o187), (.int o190), (.int o184), (.int o187), (.int o190), (.int o184), (.int o187), (.int o190), (.int o184), (.int o187), (.int o190), (.int o184), (.int o187), (.int o190), (.int o184), (.int o187), (.int o190), (.int o184), (.int o187), (.int o190), (.int o184), (.int o187), (.int o190), (.int o184), (.int o187), (.int o190), (.int o184), (.int o187), (.int o190), (.int o184), (.int o187), (.int o190), (.int o184), (.int o187), (.int o190), (.int o184), (.int o187), (.int (0 : Int32)), (.int (0 : Int32)), (.int (0 : Int32)), (.int (0 : Int32)), (.int (0 : Int32)), (.int (0 : Int32)), (.int (0 : Int32)), (.int (0 : Int32)), (.int (0 : Int32))] (.int (0 : Int32)) := by have q := Arv.set Ar831 q831 S831 M831 H831 G831 (fits_nar_char _) W832 53 rfl (Nat.le_of_ble_eq_true rfl); rw [own_narc p188.1] at q; exact q
            have N832 := Fr.snoc X832 N828 (Nat.le_trans Z0 (Nat.le_trans (Nat.le_refl _) (Nat.le_of_eq g372.symm)))
            obtain ⟨cl835, Ar835, q835, S835, M835, H835, G835⟩ := id V832
            have in835 : ¬ ((54 : Int32) < 0 ∨ cl835.slots.size ≤ ((54 : Int32)).toNatClampNeg) := inb_of S835 ⟨by decide, by decide⟩
            obtain ⟨T836, h836, X836, e836, W836, st836⟩ := stC X832 hx hZ743 e832 Ar835 (j := (54 : Int32)) in835 (g := (mkF m 463 #[xvi p0, xvi p1, xvi p2, xvi p3, xvi p4, xvi o180, xvi o184, xvi o187, xvi o190, xvi (p0 &&& (7 : Int32)), xun, xun, xun, xun] [xwi o190, xwi (54 : Int32), xwr b372, xwr b372])) rfl rfl (hb hby at_463)
            have ch838 := CHr.wr W836 (Safe.arv hZ743.alike V832 (by decide)) C833.1
            have C837 := C833.trans ch838
            have V836 : Arv Z h836 b372 k372 .char (63 : Int32) [(.int o180), (.int o184), (.int o187), (.int o190), (.int o184), (.int o187), (.int o190), (.int o184), (.int o187), (.int o190), (.int o184), (.int o187), (.int o190), (.int o184), (.int o187), (.int o190), (.int o184), (.int o187), (.int o190), (.int o184), (.int o187), (.int o190), (.int o184), (.int o187), (.int o190), (.int o184), (.int o187), (.int o190), (.int o184), (.int o187), (.int o190), (.int o184), (.int o187), (.int o190), (.int o184), (.int o187), (.int o190), (.int o184), (.int o187), (.int o190), (.int o184), (.int o187), (.int o190), (.int o184), (.int o187), (.int o190), (.int o184), (.int o187), (.int o190), (.int o184), (.int o187), (.int o190), (.int o184), (.int o187), (.int o190), (.int (0 : Int32)), (.int (0 : Int32)), (.int (0 : Int32)), (.int (0 : Int32)), (.int (0 : Int32)), (.int (0 : Int32)), (.int (0 : Int32)), (.int (0 : Int32))] (.int (0 : Int32)) := by have q := Arv.set Ar835 q835 S835 M835 H835 G835 (fits_nar_char _) W836 54 rfl (Nat.le_of_ble_eq_true rfl); rw [own_narc p191.1] at q; exact q
            have N836 := Fr.snoc X836 N832 (Nat.le_trans Z0 (Nat.le_trans (Nat.le_refl _) (Nat.le_of_eq g372.symm)))
            obtain ⟨cl839, Ar839, q839, S839, M839, H839, G839⟩ := id V836
            have in839 : ¬ ((55 : Int32) < 0 ∨ cl839.slots.size ≤ ((55 : Int32)).toNatClampNeg) := inb_of S839 ⟨by decide, by decide⟩
            obtain ⟨T840, h840, X840, e840, W840, st840⟩ := stC X836 hx hZ743 e836 Ar839 (j := (55 : Int32)) in839 (g := (mkF m 469 #[xvi p0, xvi p1, xvi p2, xvi p3, xvi p4, xvi o180, xvi o184, xvi o187, xvi o190, xvi (p0 &&& (7 : Int32)), xun, xun, xun, xun] [xwi o184, xwi (55 : Int32), xwr b372, xwr b372])) rfl rfl (hb hby at_469)
            have ch842 := CHr.wr W840 (Safe.arv hZ743.alike V836 (by decide)) C837.1
            have C841 := C837.trans ch842
            have V840 : Arv Z h840 b372 k372 .char (63 : Int32) [(.int o180), (.int o184), (.int o187), (.int o190), (.int o184), (.int o187), (.int o190), (.int o184), (.int o187), (.int o190), (.int o184), (.int o187), (.int o190), (.int o184), (.int o187), (.int o190), (.int o184), (.int o187), (.int o190), (.int o184), (.int o187), (.int o190), (.int o184), (.int o187), (.int o190), (.int o184), (.int o187), (.int o190), (.int o184), (.int o187), (.int o190), (.int o184), (.int o187), (.int o190), (.int o184), (.int o187), (.int o190), (.int o184), (.int o187), (.int o190), (.int o184), (.int o187), (.int o190), (.int o184), (.int o187), (.int o190), (.int o184), (.int o187), (.int o190), (.int o184), (.int o187), (.int o190), (.int o184), (.int o187), (.int o190), (.int o184), (.int (0 : Int32)), (.int (0 : Int32)), (.int (0 : Int32)), (.int (0 : Int32)), (.int (0 : Int32)), (.int (0 : Int32)), (.int (0 : Int32))] (.int (0 : Int32)) := by have q := Arv.set Ar839 q839 S839 M839 H839 G839 (fits_nar_char _) W840 55 rfl (Nat.le_of_ble_eq_true rfl); rw [own_narc p185.1] at q; exact q
            have N840 := Fr.snoc X840 N836 (Nat.le_trans Z0 (Nat.le_trans (Nat.le_refl _) (Nat.le_of_eq g372.symm)))
            refine ⟨T840, h840, _, vm743, _, own_wid X840 (by decide : 1 ≤ 1) (by decide : 63 ≤ 63), e840, N840, (((((((((Keep.refl h743 [b372]).wr W812 (Or.inl (List.mem_of_getElem? (i := 0) rfl))).wr W816 (Or.inl (List.mem_of_getElem? (i := 0) rfl))).wr W820 (Or.inl (List.mem_of_getElem? (i := 0) rfl))).wr W824 (Or.inl (List.mem_of_getElem? (i := 0) rfl))).wr W828 (Or.inl (List.mem_of_getElem? (i := 0) rfl))).wr W832 (Or.inl (List.mem_of_getElem? (i := 0) rfl))).wr W836 (Or.inl (List.mem_of_getElem? (i := 0) rfl))).wr W840 (Or.inl (List.mem_of_getElem? (i := 0) rfl))), hZ743, hown743, hS743, (Nat.le_trans hk743 (Nat.le_trans (Nat.le_trans (Nat.le_trans (Nat.le_trans (Nat.le_trans (Nat.le_trans (Nat.le_trans (Nat.le_of_eq W812.size.symm) (Nat.le_of_eq W816.size.symm)) (Nat.le_of_eq W820.size.symm)) (Nat.le_of_eq W824.size.symm)) (Nat.le_of_eq W828.size.symm)) (Nat.le_of_eq W832.size.symm)) (Nat.le_of_eq W836.size.symm)) (Nat.le_of_eq W840.size.symm))), (((((((ch814.trans ch818).trans ch822).trans ch826).trans ch830).trans ch834).trans ch838).trans ch842), V840, fun t k => c743 t ?_⟩
            refine y_dup X743 hx 423 (hb hby at_422) rfl rfl ?_
            refine y_bipush X743 hx (48 : Int32) 425 (hb hby at_423) rfl rfl ?_
            refine y_iload X743 hx 427 (hb hby at_425) rfl rfl ?_
            refine st812 _ ?_
            show Sx p e below T812 m 428 #[xvi p0, xvi p1, xvi p2, xvi p3, xvi p4, xvi o180, xvi o184, xvi o187, xvi o190, xvi (p0 &&& (7 : Int32)), xun, xun, xun, xun] [xwr b372] _
            refine y_dup X812 hx 429 (hb hby at_428) rfl rfl ?_
            refine y_bipush X812 hx (49 : Int32) 431 (hb hby at_429) rfl rfl ?_
            refine y_iload X812 hx 433 (hb hby at_431) rfl rfl ?_
            refine st816 _ ?_
            show Sx p e below T816 m 434 #[xvi p0, xvi p1, xvi p2, xvi p3, xvi p4, xvi o180, xvi o184, xvi o187, xvi o190, xvi (p0 &&& (7 : Int32)), xun, xun, xun, xun] [xwr b372] _
            refine y_dup X816 hx 435 (hb hby at_434) rfl rfl ?_
            refine y_bipush X816 hx (50 : Int32) 437 (hb hby at_435) rfl rfl ?_
            refine y_iload X816 hx 439 (hb hby at_437) rfl rfl ?_
            refine st820 _ ?_
            show Sx p e below T820 m 440 #[xvi p0, xvi p1, xvi p2, xvi p3, xvi p4, xvi o180, xvi o184, xvi o187, xvi o190, xvi (p0 &&& (7 : Int32)), xun, xun, xun, xun] [xwr b372] _
            refine y_dup X820 hx 441 (hb hby at_440) rfl rfl ?_
            refine y_bipush X820 hx (51 : Int32) 443 (hb hby at_441) rfl rfl ?_
            refine y_iload X820 hx 445 (hb hby at_443) rfl rfl ?_
            refine st824 _ ?_
            show Sx p e below T824 m 446 #[xvi p0, xvi p1, xvi p2, xvi p3, xvi p4, xvi o180, xvi o184, xvi o187, xvi o190, xvi (p0 &&& (7 : Int32)), xun, xun, xun, xun] [xwr b372] _
            refine y_dup X824 hx 447 (hb hby at_446) rfl rfl ?_
            refine y_bipush X824 hx (52 : Int32) 449 (hb hby at_447) rfl rfl ?_
            refine y_iload X824 hx 451 (hb hby at_449) rfl rfl ?_
            refine st828 _ ?_
            show Sx p e below T828 m 452 #[xvi p0, xvi p1, xvi p2, xvi p3, xvi p4, xvi o180, xvi o184, xvi o187, xvi o190, xvi (p0 &&& (7 : Int32)), xun, xun, xun, xun] [xwr b372] _
            refine y_dup X828 hx 453 (hb hby at_452) rfl rfl ?_
            refine y_bipush X828 hx (53 : Int32) 455 (hb hby at_453) rfl rfl ?_
            refine y_iload X828 hx 457 (hb hby at_455) rfl rfl ?_
            refine st832 _ ?_
            show Sx p e below T832 m 458 #[xvi p0, xvi p1, xvi p2, xvi p3, xvi p4, xvi o180, xvi o184, xvi o187, xvi o190, xvi (p0 &&& (7 : Int32)), xun, xun, xun, xun] [xwr b372] _
            refine y_dup X832 hx 459 (hb hby at_458) rfl rfl ?_
            refine y_bipush X832 hx (54 : Int32) 461 (hb hby at_459) rfl rfl ?_
            refine y_iload X832 hx 463 (hb hby at_461) rfl rfl ?_
            refine st836 _ ?_
            show Sx p e below T836 m 464 #[xvi p0, xvi p1, xvi p2, xvi p3, xvi p4, xvi o180, xvi o184, xvi o187, xvi o190, xvi (p0 &&& (7 : Int32)), xun, xun, xun, xun] [xwr b372] _
            refine y_dup X836 hx 465 (hb hby at_464) rfl rfl ?_
            refine y_bipush X836 hx (55 : Int32) 467 (hb hby at_465) rfl rfl ?_
            refine y_iload X836 hx 469 (hb hby at_467) rfl rfl ?_
            refine st840 _ ?_
            show Sx p e below T840 m 470 #[xvi p0, xvi p1, xvi p2, xvi p3, xvi p4, xvi o180, xvi o184, xvi o187, xvi o190, xvi (p0 &&& (7 : Int32)), xun, xun, xun, xun] [xwr b372] _
            exact k
          obtain ⟨T810, h810, locs810, vm810, kk810, X810, e810, N810, K810, hZ810, hown810, hS810, hk810, CH810, p843, c810⟩ := j810
          have C844 := C777.trans CH810
          have j873 : ∃ (T' : State) (h' : Heap) (locs' : List Loc) (vm' : Vm) (k' : Nat) , Stand p l e room_1 (s.setVm vm') m #[(.int p0), (.int p1), (.int p2), (.int p3), (.int p4)] below meth c T' locs' 1 63 ∧ T'.heap = h' ∧ Fr n0 locs' ∧ Keep h810 h' [b372] ∧ Z.Warmed39 (s.setVm vm').vm ∧ (s.setVm vm').vm.findClass "com/example/arbiter/arbiter/store/SchemaNameOfPinLaw" = some m.cls ∧ s.Since vm' k' ∧ k' ≤ h'.size ∧ CHr Z EL vm810 h810 vm' h' ∧ Arv Z h' b372 k372 .char (63 : Int32) [(.int o180), (.int o184), (.int o187), (.int o190), (.int o184), (.int o187), (.int o190), (.int o184), (.int o187), (.int o190), (.int o184), (.int o187), (.int o190), (.int o184), (.int o187), (.int o190), (.int o184), (.int o187), (.int o190), (.int o184), (.int o187), (.int o190), (.int o184), (.int o187), (.int o190), (.int o184), (.int o187), (.int o190), (.int o184), (.int o187), (.int o190), (.int o184), (.int o187), (.int o190), (.int o184), (.int o187), (.int o190), (.int o184), (.int o187), (.int o190), (.int o184), (.int o187), (.int o190), (.int o184), (.int o187), (.int o190), (.int o184), (.int o187), (.int o190), (.int o184), (.int o187), (.int o190), (.int o184), (.int o187), (.int o190), (.int o184), (.int o187), (.int o190), (.int o184), (.int o187), (.int o190), (.int o184), (.int o187)] (.int (0 : Int32)) ∧ ∀ t, Sx p e below T' m 512 #[xvi p0, xvi p1, xvi p2, xvi p3, xvi p4, xvi o180, xvi o184, xvi o187, xvi o190, xvi (p0 &&& (7 : Int32)), xun, xun, xun, xun] [xwr b372] t → TG t := by
            obtain ⟨cl874, Ar874, q874, S874, M874, H874, G874⟩ := id p843
            have in874 : ¬ ((56 : Int32) < 0 ∨ cl874.slots.size ≤ ((56 : Int32)).toNatClampNeg) := inb_of S874 ⟨by decide, by decide⟩
            obtain ⟨T875, h875, X875, e875, W875, st875⟩ := stC X810 hx hZ810 e810 Ar874 (j := (56 : Int32)) in874 (g := (mkF m 475 #[xvi p0, xvi p1, xvi p2, xvi p3, xvi p4, xvi o180, xvi o184, xvi o187, xvi o190, xvi (p0 &&& (7 : Int32)), xun, xun, xun, xun] [xwi o187, xwi (56 : Int32), xwr b372, xwr b372])) rfl rfl (hb hby at_475)
            have ch877 := CHr.wr W875 (Safe.arv hZ810.alike p843 (by decide)) C844.1
            have C876 := C844.trans ch877
            have V875 : Arv Z h875 b372 k372 .char (63 : Int32) [(.int o180), (.int o184), (.int o187), (.int o190), (.int o184), (.int o187), (.int o190), (.int o184), (.int o187), (.int o190), (.int o184), (.int o187), (.int o190), (.int o184), (.int o187), (.int o190), (.int o184), (.int o187), (.int o190), (.int o184), (.int o187), (.int o190), (.int o184), (.int o187), (.int o190), (.int o184), (.int o187), (.int o190), (.int o184), (.int o187), (.int o190), (.int o184), (.int o187), (.int o190), (.int o184), (.int o187), (.int o190), (.int o184), (.int o187), (.int o190), (.int o184), (.int o187), (.int o190), (.int o184), (.int o187), (.int o190), (.int o184), (.int o187), (.int o190), (.int o184), (.int o187), (.int o190), (.int o184), (.int o187), (.int o190), (.int o184), (.int o187), (.int (0 : Int32)), (.int (0 : Int32)), (.int (0 : Int32)), (.int (0 : Int32)), (.int (0 : Int32)), (.int (0 : Int32))] (.int (0 : Int32)) := by have q := Arv.set Ar874 q874 S874 M874 H874 G874 (fits_nar_char _) W875 56 rfl (Nat.le_of_ble_eq_true rfl); rw [own_narc p188.1] at q; exact q
            have N875 := Fr.snoc X875 N810 (Nat.le_trans Z0 (Nat.le_trans (Nat.le_refl _) (Nat.le_of_eq g372.symm)))
            obtain ⟨cl878, Ar878, q878, S878, M878, H878, G878⟩ := id V875
            have in878 : ¬ ((57 : Int32) < 0 ∨ cl878.slots.size ≤ ((57 : Int32)).toNatClampNeg) := inb_of S878 ⟨by decide, by decide⟩
            obtain ⟨T879, h879, X879, e879, W879, st879⟩ := stC X875 hx hZ810 e875 Ar878 (j := (57 : Int32)) in878 (g := (mkF m 481 #[xvi p0, xvi p1, xvi p2, xvi p3, xvi p4, xvi o180, xvi o184, xvi o187, xvi o190, xvi (p0 &&& (7 : Int32)), xun, xun, xun, xun] [xwi o190, xwi (57 : Int32), xwr b372, xwr b372])) rfl rfl (hb hby at_481)
            have ch881 := CHr.wr W879 (Safe.arv hZ810.alike V875 (by decide)) C876.1
            have C880 := C876.trans ch881
            have V879 : Arv Z h879 b372 k372 .char (63 : Int32) [(.int o180), (.int o184), (.int o187), (.int o190), (.int o184), (.int o187), (.int o190), (.int o184), (.int o187), (.int o190), (.int o184), (.int o187), (.int o190), (.int o184), (.int o187), (.int o190), (.int o184), (.int o187), (.int o190), (.int o184), (.int o187), (.int o190), (.int o184), (.int o187), (.int o190), (.int o184), (.int o187), (.int o190), (.int o184), (.int o187), (.int o190), (.int o184), (.int o187), (.int o190), (.int o184), (.int o187), (.int o190), (.int o184), (.int o187), (.int o190), (.int o184), (.int o187), (.int o190), (.int o184), (.int o187), (.int o190), (.int o184), (.int o187), (.int o190), (.int o184), (.int o187), (.int o190), (.int o184), (.int o187), (.int o190), (.int o184), (.int o187), (.int o190), (.int (0 : Int32)), (.int (0 : Int32)), (.int (0 : Int32)), (.int (0 : Int32)), (.int (0 : Int32))] (.int (0 : Int32)) := by have q := Arv.set Ar878 q878 S878 M878 H878 G878 (fits_nar_char _) W879 57 rfl (Nat.le_of_ble_eq_true rfl); rw [own_narc p191.1] at q; exact q
            have N879 := Fr.snoc X879 N875 (Nat.le_trans Z0 (Nat.le_trans (Nat.le_refl _) (Nat.le_of_eq g372.symm)))
            obtain ⟨cl882, Ar882, q882, S882, M882, H882, G882⟩ := id V879
            have in882 : ¬ ((58 : Int32) < 0 ∨ cl882.slots.size ≤ ((58 : Int32)).toNatClampNeg) := inb_of S882 ⟨by decide, by decide⟩
            obtain ⟨T883, h883, X883, e883, W883, st883⟩ := stC X879 hx hZ810 e879 Ar882 (j := (58 : Int32)) in882 (g := (mkF m 487 #[xvi p0, xvi p1, xvi p2, xvi p3, xvi p4, xvi o180, xvi o184, xvi o187, xvi o190, xvi (p0 &&& (7 : Int32)), xun, xun, xun, xun] [xwi o184, xwi (58 : Int32), xwr b372, xwr b372])) rfl rfl (hb hby at_487)
            have ch885 := CHr.wr W883 (Safe.arv hZ810.alike V879 (by decide)) C880.1
            have C884 := C880.trans ch885
            have V883 : Arv Z h883 b372 k372 .char (63 : Int32) [(.int o180), (.int o184), (.int o187), (.int o190), (.int o184), (.int o187), (.int o190), (.int o184), (.int o187), (.int o190), (.int o184), (.int o187), (.int o190), (.int o184), (.int o187), (.int o190), (.int o184), (.int o187), (.int o190), (.int o184), (.int o187), (.int o190), (.int o184), (.int o187), (.int o190), (.int o184), (.int o187), (.int o190), (.int o184), (.int o187), (.int o190), (.int o184), (.int o187), (.int o190), (.int o184), (.int o187), (.int o190), (.int o184), (.int o187), (.int o190), (.int o184), (.int o187), (.int o190), (.int o184), (.int o187), (.int o190), (.int o184), (.int o187), (.int o190), (.int o184), (.int o187), (.int o190), (.int o184), (.int o187), (.int o190), (.int o184), (.int o187), (.int o190), (.int o184), (.int (0 : Int32)), (.int (0 : Int32)), (.int (0 : Int32)), (.int (0 : Int32))] (.int (0 : Int32)) := by have q := Arv.set Ar882 q882 S882 M882 H882 G882 (fits_nar_char _) W883 58 rfl (Nat.le_of_ble_eq_true rfl); rw [own_narc p185.1] at q; exact q
            have N883 := Fr.snoc X883 N879 (Nat.le_trans Z0 (Nat.le_trans (Nat.le_refl _) (Nat.le_of_eq g372.symm)))
            obtain ⟨cl886, Ar886, q886, S886, M886, H886, G886⟩ := id V883
            have in886 : ¬ ((59 : Int32) < 0 ∨ cl886.slots.size ≤ ((59 : Int32)).toNatClampNeg) := inb_of S886 ⟨by decide, by decide⟩
            obtain ⟨T887, h887, X887, e887, W887, st887⟩ := stC X883 hx hZ810 e883 Ar886 (j := (59 : Int32)) in886 (g := (mkF m 493 #[xvi p0, xvi p1, xvi p2, xvi p3, xvi p4, xvi o180, xvi o184, xvi o187, xvi o190, xvi (p0 &&& (7 : Int32)), xun, xun, xun, xun] [xwi o187, xwi (59 : Int32), xwr b372, xwr b372])) rfl rfl (hb hby at_493)
            have ch889 := CHr.wr W887 (Safe.arv hZ810.alike V883 (by decide)) C884.1
            have C888 := C884.trans ch889
            have V887 : Arv Z h887 b372 k372 .char (63 : Int32) [(.int o180), (.int o184), (.int o187), (.int o190), (.int o184), (.int o187), (.int o190), (.int o184), (.int o187), (.int o190), (.int o184), (.int o187), (.int o190), (.int o184), (.int o187), (.int o190), (.int o184), (.int o187), (.int o190), (.int o184), (.int o187), (.int o190), (.int o184), (.int o187), (.int o190), (.int o184), (.int o187), (.int o190), (.int o184), (.int o187), (.int o190), (.int o184), (.int o187), (.int o190), (.int o184), (.int o187), (.int o190), (.int o184), (.int o187), (.int o190), (.int o184), (.int o187), (.int o190), (.int o184), (.int o187), (.int o190), (.int o184), (.int o187), (.int o190), (.int o184), (.int o187), (.int o190), (.int o184), (.int o187), (.int o190), (.int o184), (.int o187), (.int o190), (.int o184), (.int o187), (.int (0 : Int32)), (.int (0 : Int32)), (.int (0 : Int32))] (.int (0 : Int32)) := by have q := Arv.set Ar886 q886 S886 M886 H886 G886 (fits_nar_char _) W887 59 rfl (Nat.le_of_ble_eq_true rfl); rw [own_narc p188.1] at q; exact q
            have N887 := Fr.snoc X887 N883 (Nat.le_trans Z0 (Nat.le_trans (Nat.le_refl _) (Nat.le_of_eq g372.symm)))
            obtain ⟨cl890, Ar890, q890, S890, M890, H890, G890⟩ := id V887
            have in890 : ¬ ((60 : Int32) < 0 ∨ cl890.slots.size ≤ ((60 : Int32)).toNatClampNeg) := inb_of S890 ⟨by decide, by decide⟩
            obtain ⟨T891, h891, X891, e891, W891, st891⟩ := stC X887 hx hZ810 e887 Ar890 (j := (60 : Int32)) in890 (g := (mkF m 499 #[xvi p0, xvi p1, xvi p2, xvi p3, xvi p4, xvi o180, xvi o184, xvi o187, xvi o190, xvi (p0 &&& (7 : Int32)), xun, xun, xun, xun] [xwi o190, xwi (60 : Int32), xwr b372, xwr b372])) rfl rfl (hb hby at_499)
            have ch893 := CHr.wr W891 (Safe.arv hZ810.alike V887 (by decide)) C888.1
            have C892 := C888.trans ch893
            have V891 : Arv Z h891 b372 k372 .char (63 : Int32) [(.int o180), (.int o184), (.int o187), (.int o190), (.int o184), (.int o187), (.int o190), (.int o184), (.int o187), (.int o190), (.int o184), (.int o187), (.int o190), (.int o184), (.int o187), (.int o190), (.int o184), (.int o187), (.int o190), (.int o184), (.int o187), (.int o190), (.int o184), (.int o187), (.int o190), (.int o184), (.int o187), (.int o190), (.int o184), (.int o187), (.int o190), (.int o184), (.int o187), (.int o190), (.int o184), (.int o187), (.int o190), (.int o184), (.int o187), (.int o190), (.int o184), (.int o187), (.int o190), (.int o184), (.int o187), (.int o190), (.int o184), (.int o187), (.int o190), (.int o184), (.int o187), (.int o190), (.int o184), (.int o187), (.int o190), (.int o184), (.int o187), (.int o190), (.int o184), (.int o187), (.int o190), (.int (0 : Int32)), (.int (0 : Int32))] (.int (0 : Int32)) := by have q := Arv.set Ar890 q890 S890 M890 H890 G890 (fits_nar_char _) W891 60 rfl (Nat.le_of_ble_eq_true rfl); rw [own_narc p191.1] at q; exact q
            have N891 := Fr.snoc X891 N887 (Nat.le_trans Z0 (Nat.le_trans (Nat.le_refl _) (Nat.le_of_eq g372.symm)))
            obtain ⟨cl894, Ar894, q894, S894, M894, H894, G894⟩ := id V891
            have in894 : ¬ ((61 : Int32) < 0 ∨ cl894.slots.size ≤ ((61 : Int32)).toNatClampNeg) := inb_of S894 ⟨by decide, by decide⟩
            obtain ⟨T895, h895, X895, e895, W895, st895⟩ := stC X891 hx hZ810 e891 Ar894 (j := (61 : Int32)) in894 (g := (mkF m 505 #[xvi p0, xvi p1, xvi p2, xvi p3, xvi p4, xvi o180, xvi o184, xvi o187, xvi o190, xvi (p0 &&& (7 : Int32)), xun, xun, xun, xun] [xwi o184, xwi (61 : Int32), xwr b372, xwr b372])) rfl rfl (hb hby at_505)
            have ch897 := CHr.wr W895 (Safe.arv hZ810.alike V891 (by decide)) C892.1
            have C896 := C892.trans ch897
            have V895 : Arv Z h895 b372 k372 .char (63 : Int32) [(.int o180), (.int o184), (.int o187), (.int o190), (.int o184), (.int o187), (.int o190), (.int o184), (.int o187), (.int o190), (.int o184), (.int o187), (.int o190), (.int o184), (.int o187), (.int o190), (.int o184), (.int o187), (.int o190), (.int o184), (.int o187), (.int o190), (.int o184), (.int o187), (.int o190), (.int o184), (.int o187), (.int o190), (.int o184), (.int o187), (.int o190), (.int o184), (.int o187), (.int o190), (.int o184), (.int o187), (.int o190), (.int o184), (.int o187), (.int o190), (.int o184), (.int o187), (.int o190), (.int o184), (.int o187), (.int o190), (.int o184), (.int o187), (.int o190), (.int o184), (.int o187), (.int o190), (.int o184), (.int o187), (.int o190), (.int o184), (.int o187), (.int o190), (.int o184), (.int o187), (.int o190), (.int o184), (.int (0 : Int32))] (.int (0 : Int32)) := by have q := Arv.set Ar894 q894 S894 M894 H894 G894 (fits_nar_char _) W895 61 rfl (Nat.le_of_ble_eq_true rfl); rw [own_narc p185.1] at q; exact q
            have N895 := Fr.snoc X895 N891 (Nat.le_trans Z0 (Nat.le_trans (Nat.le_refl _) (Nat.le_of_eq g372.symm)))
            obtain ⟨cl898, Ar898, q898, S898, M898, H898, G898⟩ := id V895
            have in898 : ¬ ((62 : Int32) < 0 ∨ cl898.slots.size ≤ ((62 : Int32)).toNatClampNeg) := inb_of S898 ⟨by decide, by decide⟩
            obtain ⟨T899, h899, X899, e899, W899, st899⟩ := stC X895 hx hZ810 e895 Ar898 (j := (62 : Int32)) in898 (g := (mkF m 511 #[xvi p0, xvi p1, xvi p2, xvi p3, xvi p4, xvi o180, xvi o184, xvi o187, xvi o190, xvi (p0 &&& (7 : Int32)), xun, xun, xun, xun] [xwi o187, xwi (62 : Int32), xwr b372, xwr b372])) rfl rfl (hb hby at_511)
            have ch901 := CHr.wr W899 (Safe.arv hZ810.alike V895 (by decide)) C896.1
            have C900 := C896.trans ch901
            have V899 : Arv Z h899 b372 k372 .char (63 : Int32) [(.int o180), (.int o184), (.int o187), (.int o190), (.int o184), (.int o187), (.int o190), (.int o184), (.int o187), (.int o190), (.int o184), (.int o187), (.int o190), (.int o184), (.int o187), (.int o190), (.int o184), (.int o187), (.int o190), (.int o184), (.int o187), (.int o190), (.int o184), (.int o187), (.int o190), (.int o184), (.int o187), (.int o190), (.int o184), (.int o187), (.int o190), (.int o184), (.int o187), (.int o190), (.int o184), (.int o187), (.int o190), (.int o184), (.int o187), (.int o190), (.int o184), (.int o187), (.int o190), (.int o184), (.int o187), (.int o190), (.int o184), (.int o187), (.int o190), (.int o184), (.int o187), (.int o190), (.int o184), (.int o187), (.int o190), (.int o184), (.int o187), (.int o190), (.int o184), (.int o187), (.int o190), (.int o184), (.int o187)] (.int (0 : Int32)) := by have q := Arv.set Ar898 q898 S898 M898 H898 G898 (fits_nar_char _) W899 62 rfl (Nat.le_of_ble_eq_true rfl); rw [own_narc p188.1] at q; exact q
            have N899 := Fr.snoc X899 N895 (Nat.le_trans Z0 (Nat.le_trans (Nat.le_refl _) (Nat.le_of_eq g372.symm)))
            refine ⟨T899, h899, _, vm810, _, own_wid X899 (by decide : 1 ≤ 1) (by decide : 63 ≤ 63), e899, N899, ((((((((Keep.refl h810 [b372]).wr W875 (Or.inl (List.mem_of_getElem? (i := 0) rfl))).wr W879 (Or.inl (List.mem_of_getElem? (i := 0) rfl))).wr W883 (Or.inl (List.mem_of_getElem? (i := 0) rfl))).wr W887 (Or.inl (List.mem_of_getElem? (i := 0) rfl))).wr W891 (Or.inl (List.mem_of_getElem? (i := 0) rfl))).wr W895 (Or.inl (List.mem_of_getElem? (i := 0) rfl))).wr W899 (Or.inl (List.mem_of_getElem? (i := 0) rfl))), hZ810, hown810, hS810, (Nat.le_trans hk810 (Nat.le_trans (Nat.le_trans (Nat.le_trans (Nat.le_trans (Nat.le_trans (Nat.le_trans (Nat.le_of_eq W875.size.symm) (Nat.le_of_eq W879.size.symm)) (Nat.le_of_eq W883.size.symm)) (Nat.le_of_eq W887.size.symm)) (Nat.le_of_eq W891.size.symm)) (Nat.le_of_eq W895.size.symm)) (Nat.le_of_eq W899.size.symm))), ((((((ch877.trans ch881).trans ch885).trans ch889).trans ch893).trans ch897).trans ch901), V899, fun t k => c810 t ?_⟩
            refine y_dup X810 hx 471 (hb hby at_470) rfl rfl ?_
            refine y_bipush X810 hx (56 : Int32) 473 (hb hby at_471) rfl rfl ?_
            refine y_iload X810 hx 475 (hb hby at_473) rfl rfl ?_
            refine st875 _ ?_
            show Sx p e below T875 m 476 #[xvi p0, xvi p1, xvi p2, xvi p3, xvi p4, xvi o180, xvi o184, xvi o187, xvi o190, xvi (p0 &&& (7 : Int32)), xun, xun, xun, xun] [xwr b372] _
            refine y_dup X875 hx 477 (hb hby at_476) rfl rfl ?_
            refine y_bipush X875 hx (57 : Int32) 479 (hb hby at_477) rfl rfl ?_
            refine y_iload X875 hx 481 (hb hby at_479) rfl rfl ?_
            refine st879 _ ?_
            show Sx p e below T879 m 482 #[xvi p0, xvi p1, xvi p2, xvi p3, xvi p4, xvi o180, xvi o184, xvi o187, xvi o190, xvi (p0 &&& (7 : Int32)), xun, xun, xun, xun] [xwr b372] _
            refine y_dup X879 hx 483 (hb hby at_482) rfl rfl ?_
            refine y_bipush X879 hx (58 : Int32) 485 (hb hby at_483) rfl rfl ?_
            refine y_iload X879 hx 487 (hb hby at_485) rfl rfl ?_
            refine st883 _ ?_
            show Sx p e below T883 m 488 #[xvi p0, xvi p1, xvi p2, xvi p3, xvi p4, xvi o180, xvi o184, xvi o187, xvi o190, xvi (p0 &&& (7 : Int32)), xun, xun, xun, xun] [xwr b372] _
            refine y_dup X883 hx 489 (hb hby at_488) rfl rfl ?_
            refine y_bipush X883 hx (59 : Int32) 491 (hb hby at_489) rfl rfl ?_
            refine y_iload X883 hx 493 (hb hby at_491) rfl rfl ?_
            refine st887 _ ?_
            show Sx p e below T887 m 494 #[xvi p0, xvi p1, xvi p2, xvi p3, xvi p4, xvi o180, xvi o184, xvi o187, xvi o190, xvi (p0 &&& (7 : Int32)), xun, xun, xun, xun] [xwr b372] _
            refine y_dup X887 hx 495 (hb hby at_494) rfl rfl ?_
            refine y_bipush X887 hx (60 : Int32) 497 (hb hby at_495) rfl rfl ?_
            refine y_iload X887 hx 499 (hb hby at_497) rfl rfl ?_
            refine st891 _ ?_
            show Sx p e below T891 m 500 #[xvi p0, xvi p1, xvi p2, xvi p3, xvi p4, xvi o180, xvi o184, xvi o187, xvi o190, xvi (p0 &&& (7 : Int32)), xun, xun, xun, xun] [xwr b372] _
            refine y_dup X891 hx 501 (hb hby at_500) rfl rfl ?_
            refine y_bipush X891 hx (61 : Int32) 503 (hb hby at_501) rfl rfl ?_
            refine y_iload X891 hx 505 (hb hby at_503) rfl rfl ?_
            refine st895 _ ?_
            show Sx p e below T895 m 506 #[xvi p0, xvi p1, xvi p2, xvi p3, xvi p4, xvi o180, xvi o184, xvi o187, xvi o190, xvi (p0 &&& (7 : Int32)), xun, xun, xun, xun] [xwr b372] _
            refine y_dup X895 hx 507 (hb hby at_506) rfl rfl ?_
            refine y_bipush X895 hx (62 : Int32) 509 (hb hby at_507) rfl rfl ?_
            refine y_iload X895 hx 511 (hb hby at_509) rfl rfl ?_
            refine st899 _ ?_
            show Sx p e below T899 m 512 #[xvi p0, xvi p1, xvi p2, xvi p3, xvi p4, xvi o180, xvi o184, xvi o187, xvi o190, xvi (p0 &&& (7 : Int32)), xun, xun, xun, xun] [xwr b372] _
            exact k
          obtain ⟨T873, h873, locs873, vm873, kk873, X873, e873, N873, K873, hZ873, hown873, hS873, hk873, CH873, p902, c873⟩ := j873
          have C903 := C844.trans CH873
          obtain ⟨T904, h904, X904, e904, E904, A904, D904, -, st904⟩ := newO X873 hx hZ873 hown873 (w_9 hw) (w_10 hw) (w_11 hw) e873 (g := (mkF m 514 #[xvi p0, xvi p1, xvi p2, xvi p3, xvi p4, xvi o180, xvi o184, xvi o187, xvi o190, xvi (p0 &&& (7 : Int32)), xvr b372, xun, xun, xun] [])) rfl (hb hby at_514) (by decide) (by decide)
          obtain ⟨b904, g904⟩ : ∃ z, z = h873.size := ⟨_, rfl⟩
          rw [← g904] at A904 D904 st904
          have ch906 := CHr.ext E904 C903.1
          have C905 := C903.trans ch906
          have Fb904_coder : Fld Z h904 b904 "java/lang/String" "coder" "B" (.int (0 : Int32)) := D904 (Or.inr (w_35 hw)) (ty := .byte) (by decide)
          have Fb904_value : Fld Z h904 b904 "java/lang/String" "value" "[B" .null := D904 (Or.inr (w_37 hw)) (ty := (.array .byte)) (by decide)
          have hp907 : ∀ c ∈ ([o180, o184, o187, o190, o184, o187, o190, o184, o187, o190, o184, o187, o190, o184, o187, o190, o184, o187, o190, o184, o187, o190, o184, o187, o190, o184, o187, o190, o184, o187, o190, o184, o187, o190, o184, o187, o190, o184, o187, o190, o184, o187, o190, o184, o187, o190, o184, o187, o190, o184, o187, o190, o184, o187, o190, o184, o187, o190, o184, o187, o190, o184, o187] : List Int32), ¬ c < 0 ∧ ¬ (255 : Int32) < c := (own_fc p181.1 (own_fc p185.1 (own_fc p188.1 (own_fc p191.1 (own_fc p185.1 (own_fc p188.1 (own_fc p191.1 (own_fc p185.1 (own_fc p188.1 (own_fc p191.1 (own_fc p185.1 (own_fc p188.1 (own_fc p191.1 (own_fc p185.1 (own_fc p188.1 (own_fc p191.1 (own_fc p185.1 (own_fc p188.1 (own_fc p191.1 (own_fc p185.1 (own_fc p188.1 (own_fc p191.1 (own_fc p185.1 (own_fc p188.1 (own_fc p191.1 (own_fc p185.1 (own_fc p188.1 (own_fc p191.1 (own_fc p185.1 (own_fc p188.1 (own_fc p191.1 (own_fc p185.1 (own_fc p188.1 (own_fc p191.1 (own_fc p185.1 (own_fc p188.1 (own_fc p191.1 (own_fc p185.1 (own_fc p188.1 (own_fc p191.1 (own_fc p185.1 (own_fc p188.1 (own_fc p191.1 (own_fc p185.1 (own_fc p188.1 (own_fc p191.1 (own_fc p185.1 (own_fc p188.1 (own_fc p191.1 (own_fc p185.1 (own_fc p188.1 (own_fc p191.1 (own_fc p185.1 (own_fc p188.1 (own_fc p191.1 (own_fc p185.1 (own_fc p188.1 (own_fc p191.1 (own_fc p185.1 (own_fc p188.1 (own_fc p191.1 (own_fc p185.1 (own_fc p188.1 own_fn)))))))))))))))))))))))))))))))))))))))))))))))))))))))))))))))
          have f908 := (p902.ext E904)
          have Ol909 : Old Z n0 h904 := ((((((((((X00.ext E372).keep K408 (allS (Nat.le_trans Z0 (Nat.le_trans (Nat.le_refl _) (Nat.le_of_eq g372.symm))) all0)).keep K475 (allS (Nat.le_trans Z0 (Nat.le_trans (Nat.le_refl _) (Nat.le_of_eq g372.symm))) all0)).keep K542 (allS (Nat.le_trans Z0 (Nat.le_trans (Nat.le_refl _) (Nat.le_of_eq g372.symm))) all0)).keep K609 (allS (Nat.le_trans Z0 (Nat.le_trans (Nat.le_refl _) (Nat.le_of_eq g372.symm))) all0)).keep K676 (allS (Nat.le_trans Z0 (Nat.le_trans (Nat.le_refl _) (Nat.le_of_eq g372.symm))) all0)).keep K743 (allS (Nat.le_trans Z0 (Nat.le_trans (Nat.le_refl _) (Nat.le_of_eq g372.symm))) all0)).keep K810 (allS (Nat.le_trans Z0 (Nat.le_trans (Nat.le_refl _) (Nat.le_of_eq g372.symm))) all0)).keep K873 (allS (Nat.le_trans Z0 (Nat.le_trans (Nat.le_refl _) (Nat.le_of_eq g372.symm))) all0)).ext E904)
          obtain ⟨_, _, ⟨T910, L910, k910, n910⟩, -, X910, ⟨Lc910, hQ910, l910, y910, z910⟩, st910⟩ := X904.specialBack hx (y := (⟨"java/lang/String", "<init>", "([C)V"⟩ : MethodName)) rfl hown873 (mvT hZ873 (w_12 hw)) (mvT hZ873 (w_13 hw)) (mvT hZ873 (w_14 hw)) (by decide) (StrChars.Road.backV (W := 1) hZ873 (own_wV hw) (kI := 4) (w_10 hw) (cs := ([o180, o184, o187, o190, o184, o187, o190, o184, o187, o190, o184, o187, o190, o184, o187, o190, o184, o187, o190, o184, o187, o190, o184, o187, o190, o184, o187, o190, o184, o187, o190, o184, o187, o190, o184, o187, o190, o184, o187, o190, o184, o187, o190, o184, o187, o190, o184, o187, o190, o184, o187, o190, o184, o187, o190, o184, o187, o190, o184, o187, o190, o184, o187] : List Int32)) (bs := (([o180, o184, o187, o190, o184, o187, o190, o184, o187, o190, o184, o187, o190, o184, o187, o190, o184, o187, o190, o184, o187, o190, o184, o187, o190, o184, o187, o190, o184, o187, o190, o184, o187, o190, o184, o187, o190, o184, o187, o190, o184, o187, o190, o184, o187, o190, o184, o187, o190, o184, o187, o190, o184, o187, o190, o184, o187, o190, o184, o187, o190, o184, o187] : List Int32).map (fun c => c.toInt8.toInt32))) (n := 63) (Nat.le_trans Z0 (Nat.le_trans (Nat.le_trans (Nat.le_trans (Nat.le_trans (Nat.le_trans (Nat.le_trans (Nat.le_trans (Nat.le_trans (Nat.le_trans E372.1 K408.1) K475.1) K542.1) K609.1) K676.1) K743.1) K810.1) K873.1) (Nat.le_of_eq g904.symm))) (Nat.le_trans Z0 (Nat.le_trans (Nat.le_trans (Nat.le_trans (Nat.le_trans (Nat.le_trans (Nat.le_trans (Nat.le_trans (Nat.le_trans (Nat.le_trans E372.1 K408.1) K475.1) K542.1) K609.1) K676.1) K743.1) K810.1) K873.1) E904.1)) A904 Fb904_value Fb904_coder f908 (ST.1.ext Ol909.2) ST.2.1 rfl rfl (by decide) (by decide) hp907 rfl (by decide) (by decide)) (g := (mkF m 520 #[xvi p0, xvi p1, xvi p2, xvi p3, xvi p4, xvi o180, xvi o184, xvi o187, xvi o190, xvi (p0 &&& (7 : Int32)), xvr b372, xun, xun, xun] [xwr b372, xwr b904, xwr b904])) rfl (by rw [hml]; rfl) (Steps.refl _) (a := b904) (argsL := [(.ref b372)]) (rest := [(.ref b904)]) (lenOf pd_11 rfl) rfl (by show 2 * 0 + _ ≤ _; exact Nat.le_of_eq rfl) (hb hby at_520) (fun _ _ => ⟨rfl, e904, (by decide : 2 + 1 ≤ _), (by decide : 67 + 63 ≤ _)⟩)
          dsimp only [Pt.U, Pt.locs, Pt.cells, Pt.slots] at X910 l910 y910 z910 st910 hQ910
          subst l910 y910 z910
          obtain ⟨hp910, e910⟩ : ∃ z, T910.heap = z := ⟨_, rfl⟩
          rw [e910] at hQ910
          obtain ⟨rfl, N910q, K910, E910, Fc910, t910, kb910, -, gt910, -, Fv910, V910⟩ := hQ910
          have N910 := Fr.app N873 N910q
          have sf913 := (Safe.ext E904 C903.1 (Safe.new (Nat.le_of_eq g904.symm)))
          have ch912 := CHr.keep K910 (sfS sf913 sf0) C905.1
          have C911 := C905.trans ch912
          have hok : ∀ c ∈ ([o180, o184, o187, o190, o184, o187, o190, o184, o187, o190, o184, o187, o190, o184, o187, o190, o184, o187, o190, o184, o187, o190, o184, o187, o190, o184, o187, o190, o184, o187, o190, o184, o187, o190, o184, o187, o190, o184, o187, o190, o184, o187, o190, o184, o187, o190, o184, o187, o190, o184, o187, o190, o184, o187, o190, o184, o187, o190, o184, o187, o190, o184, o187] : List Int32), own_ok c := (own_fc p181 (own_fc p185 (own_fc p188 (own_fc p191 (own_fc p185 (own_fc p188 (own_fc p191 (own_fc p185 (own_fc p188 (own_fc p191 (own_fc p185 (own_fc p188 (own_fc p191 (own_fc p185 (own_fc p188 (own_fc p191 (own_fc p185 (own_fc p188 (own_fc p191 (own_fc p185 (own_fc p188 (own_fc p191 (own_fc p185 (own_fc p188 (own_fc p191 (own_fc p185 (own_fc p188 (own_fc p191 (own_fc p185 (own_fc p188 (own_fc p191 (own_fc p185 (own_fc p188 (own_fc p191 (own_fc p185 (own_fc p188 (own_fc p191 (own_fc p185 (own_fc p188 (own_fc p191 (own_fc p185 (own_fc p188 (own_fc p191 (own_fc p185 (own_fc p188 (own_fc p191 (own_fc p185 (own_fc p188 (own_fc p191 (own_fc p185 (own_fc p188 (own_fc p191 (own_fc p185 (own_fc p188 (own_fc p191 (own_fc p185 (own_fc p188 (own_fc p191 (own_fc p185 (own_fc p188 (own_fc p191 (own_fc p185 (own_fc p188 own_fn)))))))))))))))))))))))))))))))))))))))))))))))))))))))))))))))
          have Ol914 : Old Z n0 hp910 := (Ol909.keep K910 (allS (Nat.le_trans Z0 (Nat.le_trans (Nat.le_trans (Nat.le_trans (Nat.le_trans (Nat.le_trans (Nat.le_trans (Nat.le_trans (Nat.le_trans (Nat.le_trans E372.1 K408.1) K475.1) K542.1) K609.1) K676.1) K743.1) K810.1) K873.1) (Nat.le_of_eq g904.symm))) all0))
          obtain ⟨_, _, ⟨T915, L915, k915, n915⟩, -, X915, hS915, g915, ⟨Lc915, hQ915, l915, y915, z915, CH915⟩, st915⟩ := callSS X910 hx (y := (⟨"com/example/arbiter/arbiter/store/SchemaName", "of", "(Ljava/lang/String;)Lcom/example/arbiter/arbiter/store/SchemaName;"⟩ : MethodName)) hown873 (mvT hZ873 (w_38 hw)) (mvT hZ873 (w_39 hw)) (mvT hZ873 (w_40 hw)) (mvT hZ873 (w_41 hw)) (by decide) (backOfSH (W := 0) (rmOf l Z a0 hw G ST [] b904 t910 kb910 ([o180, o184, o187, o190, o184, o187, o190, o184, o187, o190, o184, o187, o190, o184, o187, o190, o184, o187, o190, o184, o187, o190, o184, o187, o190, o184, o187, o190, o184, o187, o190, o184, o187, o190, o184, o187, o190, o184, o187, o190, o184, o187, o190, o184, o187, o190, o184, o187, o190, o184, o187, o190, o184, o187, o190, o184, o187, o190, o184, o187, o190, o184, o187] : List Int32) 63 hp910 n0 Ol914 E910 Fc910 Fv910 V910 rfl (by decide) (by decide) hok p182) hZ873 (w_41 hw) (w_40 hw) (by decide) (by decide) (own_EW hw) C911.1) (g := (mkF m 527 #[xvi p0, xvi p1, xvi p2, xvi p3, xvi p4, xvi o180, xvi o184, xvi o187, xvi o190, xvi (p0 &&& (7 : Int32)), xvr b372, xvr b904, xun, xun] [xwr b904])) rfl (by rw [hml]; rfl) (argsL := [(.ref b904)]) (rest := []) (lenOf pd_12 rfl) rfl (by show 2 * 0 + _ ≤ _; exact Nat.le_of_eq rfl) (hb hby at_527) (fun _ _ => ⟨rfl, e910, (by decide : 3 + 3 ≤ _), (by decide : 130 + 49 ≤ _)⟩)
          dsimp only [Pt.U, Pt.locs, Pt.cells, Pt.slots] at X915 l915 y915 z915 st915 hQ915 CH915 hS915 g915
          subst l915 y915 z915
          obtain ⟨hp915, e915⟩ : ∃ z, T915.heap = z := ⟨_, rfl⟩
          rw [e915] at hQ915 CH915 hS915 g915
          rw [e910] at g915
          obtain ⟨X915, hS915, hZ915, hown915⟩ := rebS hS873 (Nat.le_trans hk873 (Nat.le_trans E904.1 K910.1)) X915 hS915 g915 hZ873 hown873
          obtain ⟨o916, rfl, N915q, K915, p917, p918, p919⟩ := hQ915
          have N915 := Fr.app N910 N915q
          have C920 := C911.trans CH915
          have Ol921 : Old Z n0 hp915 := (Ol914.keep K915 all0)
          obtain ⟨cq923, kq923, q923a, q923b, q923c⟩ := isOf hZ915 e915 p918
          obtain ⟨_, _, ⟨T922, L922, k922, n922⟩, -, X922, ⟨Lc922, hQ922, l922, y922, z922⟩, st922⟩ := X915.virtualBack hx (y := (⟨"com/example/arbiter/arbiter/store/SchemaName", "name", "()Ljava/lang/String;"⟩ : MethodName)) (z := (⟨"com/example/arbiter/arbiter/store/SchemaName", "name", "()Ljava/lang/String;"⟩ : MethodName)) hown915 (mvT hZ915 (w_95 hw)) (mvT hZ915 (w_96 hw)) (notFace_of_selects (args := #[]) (mvT hZ915 (w_98 hw))) (mvT hZ915 (w_98 hw)) (mvT hZ915 (w_97 hw)) (by decide) (backOf (W := 0) (rmNa l Z a0 hw G ST [] o916 b904 hp915 n0 Ol921 p919) hZ915 (w_99 hw) (w_40 hw) (by decide) (by decide)) q923a q923c (g := (mkF m 534 #[xvi p0, xvi p1, xvi p2, xvi p3, xvi p4, xvi o180, xvi o184, xvi o187, xvi o190, xvi (p0 &&& (7 : Int32)), xvr b372, xvr b904, xvr o916, xun] [xwr o916])) rfl (by rw [hml]; rfl) (Steps.refl _) (argsL := []) (rest := []) (lenOf pd_13 rfl) rfl (by show 2 * 0 + _ ≤ _; exact Nat.le_of_eq rfl) (hb hby at_534) (fun _ _ => ⟨rfl, e915, (by decide : 6 + 0 ≤ _), (by decide : 179 + 0 ≤ _)⟩)
          dsimp only [Pt.U, Pt.locs, Pt.cells, Pt.slots] at X922 l922 y922 z922 st922 hQ922
          subst l922 y922 z922
          obtain ⟨rfl, N922q, e922⟩ := hQ922
          have N922 := Fr.app N915 N922q
          have f925 := (E910.keep K915)
          obtain ⟨cq926, kq926, q926a, q926b, q926c⟩ := isOf hZ915 e922 f925
          obtain ⟨_, _, ⟨T924, L924, k924, n924⟩, -, X924, ⟨Lc924, hQ924, l924, y924, z924⟩, st924⟩ := X922.virtualBack hx (y := (⟨"java/lang/String", "equals", "(Ljava/lang/Object;)Z"⟩ : MethodName)) (z := (⟨"java/lang/String", "equals", "(Ljava/lang/Object;)Z"⟩ : MethodName)) hown915 (mvT hZ915 (w_100 hw)) (mvT hZ915 (w_101 hw)) (notFace_of_selects (args := #[]) (mvT hZ915 (w_103 hw))) (mvT hZ915 (w_103 hw)) (mvT hZ915 (w_102 hw)) (by decide) (backOf (W := 0) (rmEqS l Z a0 hw G ST [] b904 hp915 n0 Ol921 ) hZ915 (w_104 hw) (w_11 hw) (by decide) (by decide)) q926a q926c (g := (mkF m 543 #[xvi p0, xvi p1, xvi p2, xvi p3, xvi p4, xvi o180, xvi o184, xvi o187, xvi o190, xvi (p0 &&& (7 : Int32)), xvr b372, xvr b904, xvr o916, xvr b904] [xwr b904, xwr b904])) rfl (by rw [hml]; rfl) (Steps.refl _) (argsL := [(.ref b904)]) (rest := []) (lenOf pd_14 rfl) rfl (by show 2 * 0 + _ ≤ _; exact Nat.le_of_eq rfl) (hb hby at_543) (fun _ _ => ⟨rfl, e922, (by decide : 6 + 0 ≤ _), (by decide : 179 + 0 ≤ _)⟩)
          dsimp only [Pt.U, Pt.locs, Pt.cells, Pt.slots] at X924 l924 y924 z924 st924 hQ924
          subst l924 y924 z924
          obtain ⟨rfl, N924q, e924⟩ := hQ924
          have N924 := Fr.app N922 N924q
          have f927 := (Fc910.keep K915 nin0)
          have f928 := (Fv910.keep K915 nin0)
          have f929 := (V910.keep K915 nin0)
          obtain ⟨cq931, kq931, q931a, q931b, q931c⟩ := isOf hZ915 e924 f925
          obtain ⟨_, _, ⟨T930, L930, k930, n930⟩, -, X930, ⟨Lc930, hQ930, l930, y930, z930⟩, st930⟩ := X924.virtualBack hx (y := (⟨"java/lang/String", "length", "()I"⟩ : MethodName)) (z := (⟨"java/lang/String", "length", "()I"⟩ : MethodName)) hown915 (mvT hZ915 (w_105 hw)) (mvT hZ915 (w_55 hw)) (notFace_of_selects (args := #[]) (mvT hZ915 (w_57 hw))) (mvT hZ915 (w_57 hw)) (mvT hZ915 (w_56 hw)) (by decide) (backOf (W := 0) (rmLen l Z a0 hw G ST [] b904 t910 kb910 (63 : Int32) (((([o180, o184, o187, o190, o184, o187, o190, o184, o187, o190, o184, o187, o190, o184, o187, o190, o184, o187, o190, o184, o187, o190, o184, o187, o190, o184, o187, o190, o184, o187, o190, o184, o187, o190, o184, o187, o190, o184, o187, o190, o184, o187, o190, o184, o187, o190, o184, o187, o190, o184, o187, o190, o184, o187, o190, o184, o187, o190, o184, o187, o190, o184, o187] : List Int32).map (fun c => c.toInt8.toInt32)).map Value.int) : List Value) (.int (0 : Int32)) hp915 n0 Ol921 f925 f927 f928 f929) hZ915 (w_58 hw) (w_11 hw) (by decide) (by decide)) q931a q931c (g := (mkF m 551 #[xvi p0, xvi p1, xvi p2, xvi p3, xvi p4, xvi o180, xvi o184, xvi o187, xvi o190, xvi (p0 &&& (7 : Int32)), xvr b372, xvr b904, xvr o916, xvr b904] [xwr b904])) rfl (by rw [hml]; rfl) (Steps.refl _) (argsL := []) (rest := []) (lenOf pd_6 rfl) rfl (by show 2 * 0 + _ ≤ _; exact Nat.le_of_eq rfl) (hb hby at_551) (fun _ _ => ⟨rfl, e924, (by decide : 6 + 0 ≤ _), (by decide : 179 + 0 ≤ _)⟩)
          dsimp only [Pt.U, Pt.locs, Pt.cells, Pt.slots] at X930 l930 y930 z930 st930 hQ930
          subst l930 y930 z930
          obtain ⟨rfl, N930q, e930⟩ := hQ930
          have N930 := Fr.app N924 N930q
          have f932 := ((f908.keep K910 (ninS (Nat.ne_of_lt (Nat.lt_of_lt_of_le (Nat.lt_of_lt_of_le V372.lt (Nat.le_trans (Nat.le_trans (Nat.le_trans (Nat.le_trans (Nat.le_trans (Nat.le_trans (Nat.le_trans K408.1 K475.1) K542.1) K609.1) K676.1) K743.1) K810.1) K873.1)) (Nat.le_of_eq g904.symm))) nin0)).keep K915 nin0)
          obtain ⟨cl933, Ar933, q933, S933, M933, H933, G933⟩ := id f932
          obtain ⟨fs, hr, hrun, hended, hE⟩ := X930.leaveW hS915 (by rw [e930]; exact (Nat.le_refl _)) (v := some (.int (1 : Int32))) (fun h => by rw [Bd.returns] at h; cases h)
          refine ⟨_, _, hTG _ (c873 _ ?_), hrun, hended, _, _, rfl, ?_, ?_, hE.1, hE.2.1, hE.2.2.1, hE.2.2.2.mono (by decide) (by decide)⟩
          · refine XS.astore X873.here hx rfl (hb hby at_512) rfl rfl (l' := #[xvi p0, xvi p1, xvi p2, xvi p3, xvi p4, xvi o180, xvi o184, xvi o187, xvi o190, xvi (p0 &&& (7 : Int32)), xvr b372, xun, xun, xun]) rfl ?_
            show Sx p e below T873 m 514 #[xvi p0, xvi p1, xvi p2, xvi p3, xvi p4, xvi o180, xvi o184, xvi o187, xvi o190, xvi (p0 &&& (7 : Int32)), xvr b372, xun, xun, xun] [] _
            refine st904 _ ?_
            show Sx p e below T904 m 517 #[xvi p0, xvi p1, xvi p2, xvi p3, xvi p4, xvi o180, xvi o184, xvi o187, xvi o190, xvi (p0 &&& (7 : Int32)), xvr b372, xun, xun, xun] [xwr b904] _
            refine y_dup X904 hx 518 (hb hby at_517) rfl rfl ?_
            refine y_aload X904 hx 520 (hb hby at_518) rfl rfl rfl ?_
            refine st910.trans ?_
            show Sx p e below T910 m 523 #[xvi p0, xvi p1, xvi p2, xvi p3, xvi p4, xvi o180, xvi o184, xvi o187, xvi o190, xvi (p0 &&& (7 : Int32)), xvr b372, xun, xun, xun] [xwr b904] _
            refine XS.astore X910.here hx rfl (hb hby at_523) rfl rfl (l' := #[xvi p0, xvi p1, xvi p2, xvi p3, xvi p4, xvi o180, xvi o184, xvi o187, xvi o190, xvi (p0 &&& (7 : Int32)), xvr b372, xvr b904, xun, xun]) rfl ?_
            show Sx p e below T910 m 525 #[xvi p0, xvi p1, xvi p2, xvi p3, xvi p4, xvi o180, xvi o184, xvi o187, xvi o190, xvi (p0 &&& (7 : Int32)), xvr b372, xvr b904, xun, xun] [] _
            refine y_aload X910 hx 527 (hb hby at_525) rfl rfl rfl ?_
            refine st915.trans ?_
            show Sx p e below T915 m 530 #[xvi p0, xvi p1, xvi p2, xvi p3, xvi p4, xvi o180, xvi o184, xvi o187, xvi o190, xvi (p0 &&& (7 : Int32)), xvr b372, xvr b904, xun, xun] [xwr o916] _
            refine XS.astore X915.here hx rfl (hb hby at_530) rfl rfl (l' := #[xvi p0, xvi p1, xvi p2, xvi p3, xvi p4, xvi o180, xvi o184, xvi o187, xvi o190, xvi (p0 &&& (7 : Int32)), xvr b372, xvr b904, xvr o916, xun]) rfl ?_
            show Sx p e below T915 m 532 #[xvi p0, xvi p1, xvi p2, xvi p3, xvi p4, xvi o180, xvi o184, xvi o187, xvi o190, xvi (p0 &&& (7 : Int32)), xvr b372, xvr b904, xvr o916, xun] [] _
            refine y_aload X915 hx 534 (hb hby at_532) rfl rfl rfl ?_
            refine st922.trans ?_
            show Sx p e below T922 m 537 #[xvi p0, xvi p1, xvi p2, xvi p3, xvi p4, xvi o180, xvi o184, xvi o187, xvi o190, xvi (p0 &&& (7 : Int32)), xvr b372, xvr b904, xvr o916, xun] [xwr b904] _
            refine XS.astore X922.here hx rfl (hb hby at_537) rfl rfl (l' := #[xvi p0, xvi p1, xvi p2, xvi p3, xvi p4, xvi o180, xvi o184, xvi o187, xvi o190, xvi (p0 &&& (7 : Int32)), xvr b372, xvr b904, xvr o916, xvr b904]) rfl ?_
            show Sx p e below T922 m 539 #[xvi p0, xvi p1, xvi p2, xvi p3, xvi p4, xvi o180, xvi o184, xvi o187, xvi o190, xvi (p0 &&& (7 : Int32)), xvr b372, xvr b904, xvr o916, xvr b904] [] _
            refine y_aload X922 hx 541 (hb hby at_539) rfl rfl rfl ?_
            refine y_aload X922 hx 543 (hb hby at_541) rfl rfl rfl ?_
            refine st924.trans ?_
            show Sx p e below T924 m 546 #[xvi p0, xvi p1, xvi p2, xvi p3, xvi p4, xvi o180, xvi o184, xvi o187, xvi o190, xvi (p0 &&& (7 : Int32)), xvr b372, xvr b904, xvr o916, xvr b904] [xwi (1 : Int32)] _
            refine y_ifNo X924 hx 549 (hb hby at_546) (XT.i0_eq_f (by decide)) rfl ?_
            refine y_aload X924 hx 551 (hb hby at_549) rfl rfl rfl ?_
            refine st930.trans ?_
            show Sx p e below T930 m 554 #[xvi p0, xvi p1, xvi p2, xvi p3, xvi p4, xvi o180, xvi o184, xvi o187, xvi o190, xvi (p0 &&& (7 : Int32)), xvr b372, xvr b904, xvr o916, xvr b904] [xwi (63 : Int32)] _
            refine y_aload X930 hx 556 (hb hby at_554) rfl rfl rfl ?_
            refine X930.arraylength hx (by rw [e930]; exact Ar933.1) (State.isArrayOf_alike hZ915.alike Ar933.2.1) (g := (mkF m 556 #[xvi p0, xvi p1, xvi p2, xvi p3, xvi p4, xvi o180, xvi o184, xvi o187, xvi o190, xvi (p0 &&& (7 : Int32)), xvr b372, xvr b904, xvr o916, xvr b904] [xwr b372, xwi (63 : Int32)])) rfl rfl (hb hby at_556) _ ?_
            rw [len_of S933 M933]
            show Sx p e below T930 m 557 #[xvi p0, xvi p1, xvi p2, xvi p3, xvi p4, xvi o180, xvi o184, xvi o187, xvi o190, xvi (p0 &&& (7 : Int32)), xvr b372, xvr b904, xvr o916, xvr b904] [xwi (63 : Int32), xwi (63 : Int32)] _
            refine y_icmpNo X930 hx 560 (hb hby at_557) (XT.ii_ne_f (by decide)) rfl ?_
            refine y_iconst X930 hx (1 : Int32) 561 (hb hby at_560) rfl rfl ?_
            refine y_goto X930 hx 565 (hb hby at_561) (by decide) (by decide) ?_
            show Sx p e below T930 m 565 #[xvi p0, xvi p1, xvi p2, xvi p3, xvi p4, xvi o180, xvi o184, xvi o187, xvi o190, xvi (p0 &&& (7 : Int32)), xvr b372, xvr b904, xvr o916, xvr b904] [xwi (1 : Int32)] _
            exact retN X930 hx (t := .boolean) Bd.returns (by simp) (hb hby at_565) (hr)
          · show Qrm0 Z G p0 p1 p2 p3 p4 h0 n0 _ T930.heap _
            rw [e930]
            exact ⟨rfl, N930, (((((((((((((Keep.refl h0 []).ext E372).trans K408 (allS (Or.inr (Nat.le_trans (Nat.le_refl _) (Nat.le_of_eq g372.symm))) all0)).trans K475 (allS (Or.inr (Nat.le_trans (Nat.le_refl _) (Nat.le_of_eq g372.symm))) all0)).trans K542 (allS (Or.inr (Nat.le_trans (Nat.le_refl _) (Nat.le_of_eq g372.symm))) all0)).trans K609 (allS (Or.inr (Nat.le_trans (Nat.le_refl _) (Nat.le_of_eq g372.symm))) all0)).trans K676 (allS (Or.inr (Nat.le_trans (Nat.le_refl _) (Nat.le_of_eq g372.symm))) all0)).trans K743 (allS (Or.inr (Nat.le_trans (Nat.le_refl _) (Nat.le_of_eq g372.symm))) all0)).trans K810 (allS (Or.inr (Nat.le_trans (Nat.le_refl _) (Nat.le_of_eq g372.symm))) all0)).trans K873 (allS (Or.inr (Nat.le_trans (Nat.le_refl _) (Nat.le_of_eq g372.symm))) all0)).ext E904).trans K910 (allS (Or.inr (Nat.le_trans (Nat.le_trans (Nat.le_trans (Nat.le_trans (Nat.le_trans (Nat.le_trans (Nat.le_trans (Nat.le_trans (Nat.le_trans E372.1 K408.1) K475.1) K542.1) K609.1) K676.1) K743.1) K810.1) K873.1) (Nat.le_of_eq g904.symm))) all0)).trans K915 all0)⟩
          · rw [hh]; show CHr Z EL s.vm h0 T930.vm T930.heap; rw [e930]; exact C920.trans (CHv.at X930 hZ915 (own_EW hw) C920.1)
set_option maxRecDepth 65536 in
set_option maxHeartbeats 40000000 in
theorem comes_1 {Post : Tables → Env → Array Value → State → Outcome → State → Prop} (hpost : ∀ tb e args s v u, (limb_1_1.after args s (.returned v) u = true ∧ limb_1_2.after args s (.returned v) u = true ∧ True) → ReturnedEndW s (.returned v) u (Jvm.fieldLocs frame_1_writes args s ++ Jvm.arrayLocs frame_1_arrays args s ++ Jvm.staticLocs frame_1_statics s) 24 1408 → Post tb e args s (.returned v) u) :
    ArmFor flags0 classFile x code maxLocals ret World_1 tables_1 room_1 Calls_1 rest_1 Pre_1 Post := by
  intro l hfl _ _ p e ha hc hk s m args below hf hA hF happ hP
  obtain ⟨hcalls, hrest, hpre⟩ := hP
  obtain ⟨-, -, -, hnamed, -, -, -, hat⟩ := (Spec.applies_iff hf).mp happ
  obtain ⟨hg, hn⟩ := and_e (Cond.before_iff.mp (show (Jvm.Cond.and given_1 narrow_1).before args s = true from hpre))
  obtain ⟨hcnt, hg⟩ := and_e hg
  obtain ⟨w0, w1, w2, w3, w4, rfl⟩ : ∃ w0 w1 w2 w3 w4 : Value, args = #[w0, w1, w2, w3, w4] := by
    have hs : args.size = 5 := by simpa [Cond.value, given_1] using hcnt
    obtain ⟨L⟩ := args
    match L, hs with
    | [w0, w1, w2, w3, w4], _ => exact ⟨w0, w1, w2, w3, w4, rfl⟩
  have hw := fun d (hd : d ∈ tables_1) => atoms_spec (ws := Jvm.Cond.code x code maxLocals ret :: tables_1) hat d (List.mem_cons_of_mem _ hd)
  have hfit : Fit s := fun {y c} hc i hi => by
    obtain ⟨ha, rfl⟩ := Array.getElem?_eq_some_iff.mp hc
    have q := List.all_eq_true.mp ((Array.all_eq_true_iff_forall_mem.mp hF) _ (Array.getElem_mem ha)) i (List.mem_range.mpr hi)
    simpa [Array.getElem?_eq_getElem hi] using q
  obtain ⟨hsets, hown0⟩ := atoms_of _ (rest_1_c_eq ▸ (show rest_1_c.before _ s = true from hrest))
  obtain ⟨ga0, gb0⟩ := and_e hg
  obtain ⟨i0, ei0⟩ := is_v ga0
  obtain rfl : w0 = (.int i0) := Option.some.inj ei0
  obtain ⟨ga1, gb1⟩ := and_e gb0
  obtain ⟨i1, ei1⟩ := is_v ga1
  obtain rfl : w1 = (.int i1) := Option.some.inj ei1
  obtain ⟨ga2, gb2⟩ := and_e gb1
  obtain ⟨i2, ei2⟩ := is_v ga2
  obtain rfl : w2 = (.int i2) := Option.some.inj ei2
  obtain ⟨ga3, gb3⟩ := and_e gb2
  obtain ⟨i3, ei3⟩ := is_v ga3
  obtain rfl : w3 = (.int i3) := Option.some.inj ei3
  obtain ⟨i4, ei4⟩ := is_v gb3
  obtain rfl : w4 = (.int i4) := Option.some.inj ei4
  obtain ⟨z1, ez1⟩ := is_v (Cond.before_iff.mp (hsets _ (List.mem_of_getElem? (i := 1) rfl)))
  have O1 : Sta s s.heap "java/lang/String" "COMPACT_STRINGS" "Z" (.int z1) := Sta.start ez1 (Or.inl (hsets _ (List.mem_of_getElem? (i := 0) rfl)))
  have P1 : ¬ z1 = (0 : Int32) := gotF (Cond.eq_ints ez1 (Term.int_eval (0))) (not_v (Cond.before_iff.mp (hsets _ (List.mem_of_getElem? (i := 2) rfl))))
  obtain ⟨v2, ev2, rv2⟩ := isR_v (Cond.before_iff.mp (hsets _ (List.mem_of_getElem? (i := 8) rfl)))
  have O2 : Sta s s.heap "jdk/internal/util/Preconditions" "SIOOBE_FORMATTER" "Ljava/util/function/BiFunction;" v2 := Sta.start ev2 (Or.inl (hsets _ (List.mem_of_getElem? (i := 7) rfl)))
  obtain ⟨G0, eG⟩ : ∃ g : Gs, g = (z1, v2) := ⟨_, rfl⟩
  have ST0 : StartF s G0 := by rw [eG]; exact ⟨O1, P1, O2, rv2⟩
  have HC : CHv s EL s.vm s.heap := fun p hp => by cases hp
  obtain ⟨n, o, h1, h2, h3, _, L, rfl, ⟨rfl, N, -⟩, -, hq⟩ := rm0 l s _ hw G0 ST0 tables_1 i0 i1 i2 i3 i4 s.heap s.heap.size (Old.start s) p e ha hc hk s m _ below hf ((Spec.applies_iff_loose hf).mp happ).1 ⟨rfl, State.Warmed39.refl s, rfl, HC⟩ trivial
  refine ⟨n, _, h1, h2, h3, hpost _ _ _ _ _ _ ⟨Cond.after_iff.mpr rfl, Cond.after_iff.mpr (eq_i res_at (Term.int_eval (1)) rfl), trivial⟩ ⟨hq.1, hq.2.1, hq.2.2.1, (hq.2.2.2.sift fun y hy => Or.inr (N y hy)).mono (by decide) (by decide)⟩⟩
theorem main_1_1 : Claimed_1_1 := comes_1 fun _ _ _ _ _ _ h hF => ⟨h.1, hF⟩
theorem main_1_2 : Claimed_1_2 := comes_1 fun _ _ _ _ _ _ h hF => ⟨h.2.1, hF⟩
end Jvm.Pilot.@@N@@
namespace Jvm.Pilot.@@N@@
open Jvm Jvm.ClassFile Sem Op Lib Jvm.Free Jvm.Stand Jvm.Pilot.@@N@@.Jvm.D
/-! MADE BY PROGRAM (witnessworld.py) out of the Statement's table words and the real class files: 21 classes; the members and pool entries that the words name. The judged class is class 1, her method 3. -/
namespace start1
open Jvm.ClassFile
def u (s : String) : CpInfo := .utf8 (stringToUtf16 s)
/-- a pool by its gaps: so many unusable entries, then the entry; so many at the end -/
def gap : Nat → List CpInfo → List CpInfo
  | 0, r => r
  | n + 1, r => .unusable :: gap n r
def poolList (es : List (Nat × CpInfo)) (last : Nat) : List CpInfo := es.foldr (fun e r => gap e.1 (e.2 :: r)) (gap last [])
def pool (es : List (Nat × CpInfo)) (last : Nat) : Array CpInfo := ⟨poolList es last⟩
def fileOf (pool : Array CpInfo) (this : Nat) (attrs : Array Attribute := #[]) (ms : Array MethodInfo := #[]) (fl : Nat := 33) (sup : Nat := 0) (ifs : Array Nat := #[]) (fds : Array FieldInfo := #[]) : ClassFile where
  minorVersion := 0
  majorVersion := 65
  constantPool := pool
  accessFlags := fl
  thisClass := this
  superClass := sup
  interfaces := ifs
  fields := fds
  methods := ms
  attributes := attrs
def plain (name : String) (sup : Option ClassId) : Class where
  name := name
  kind := .ordinary
  loader := none
  accessFlags := 33
  super := sup
  interfaces := #[]
  cf := none
  fields := #[]
  methods := #[]
  instanceTypes := #[]
  staticTypes := #[]
  resolved := #[]
  callSites := []
  init := .initialized
  statics := none
  mirror := none

def pool0 : Array CpInfo := pool [(5, u "<init>"), (0, u "()V"), (1, .class_ 10), (1, u "java/lang/Object")] 113

def k0c0 : Code := { maxStack := 0, maxLocals := 1, code := object_method_1_code, exceptionTable := #[], attributes := #[] }
def k0m0 : Method := { name := "<init>", desc := "()V", sig := { parameters := [], returnType := none }, accessFlags := 1, code := some k0c0 }
/-- java/lang/Object -/
def k0 : Class := { plain "java/lang/Object" none with
  accessFlags := 33
  interfaces := #[]
  cf := some (fileOf pool0 8 #[] #[{ accessFlags := 1, nameIndex := 5, descriptorIndex := 6, attributes := #[] }] 33 0 #[] #[])
  fields := #[]
  methods := #[k0m0]
  instanceTypes := #[]
  staticTypes := #[]
  resolved := Array.replicate 124 none
  statics := none }

def pool1 : Array CpInfo := pool [(2, .class_ 4), (1, u "java/lang/Object"), (0, u "<init>"), (0, u "()V"), (0, .integer 2147483647), (0, .methodref 9 10), (0, .class_ 11), (0, .nameAndType 12 13), (0, u "com/example/arbiter/arbiter/store/SchemaNameOfPinLaw"), (0, u "first"), (0, u "(I)C"), (0, .methodref 9 15), (0, .nameAndType 16 13), (0, u "rest"), (0, .class_ 18), (0, u "java/lang/String"), (0, .methodref 17 20), (0, .nameAndType 5 21), (0, u "([C)V"), (0, .methodref 23 24), (0, .class_ 25), (0, .nameAndType 26 27), (0, u "com/example/arbiter/arbiter/store/SchemaName"), (0, u "of"), (0, u "(Ljava/lang/String;)Lcom/example/arbiter/arbiter/store/SchemaName;"), (0, .methodref 23 29), (0, .nameAndType 30 31), (0, u "name"), (0, u "()Ljava/lang/String;"), (0, .methodref 17 33), (0, .nameAndType 34 35), (0, u "equals"), (0, u "(Ljava/lang/Object;)Z"), (0, .methodref 17 37), (0, .nameAndType 38 39), (0, u "length"), (0, u "()I"), (3, u "law"), (0, u "(IIIII)Z")] 4

def k1m0 : Method := { name := "<init>", desc := "()V", sig := { parameters := [], returnType := none }, accessFlags := 2, code := none }
def k1c1 : Code := { maxStack := 3, maxLocals := 2, code := method_2_code, exceptionTable := #[], attributes := #[] }
def k1m1 : Method := { name := "first", desc := "(I)C", sig := { parameters := [.int], returnType := some .char }, accessFlags := 10, code := some k1c1 }
def k1c2 : Code := { maxStack := 3, maxLocals := 2, code := method_3_code, exceptionTable := #[], attributes := #[] }
def k1m2 : Method := { name := "rest", desc := "(I)C", sig := { parameters := [.int], returnType := some .char }, accessFlags := 10, code := some k1c2 }
def k1c3 : Code := { maxStack := 4, maxLocals := 14, code := code, exceptionTable := #[], attributes := #[] }
def k1m3 : Method := { name := "law", desc := "(IIIII)Z", sig := { parameters := [.int, .int, .int, .int, .int], returnType := some .boolean }, accessFlags := 9, code := some k1c3 }
/-- com/example/arbiter/arbiter/store/SchemaNameOfPinLaw -/
def k1 : Class := { plain "com/example/arbiter/arbiter/store/SchemaNameOfPinLaw" (some 0) with
  accessFlags := 49
  interfaces := #[]
  cf := some (fileOf pool1 9 #[] #[{ accessFlags := 2, nameIndex := 5, descriptorIndex := 6, attributes := #[] }, { accessFlags := 10, nameIndex := 12, descriptorIndex := 13, attributes := #[] }, { accessFlags := 10, nameIndex := 16, descriptorIndex := 13, attributes := #[] }, { accessFlags := 9, nameIndex := 43, descriptorIndex := 44, attributes := #[] }] 49 2 #[] #[])
  fields := #[]
  methods := #[k1m0, k1m1, k1m2, k1m3]
  instanceTypes := #[]
  staticTypes := #[]
  resolved := Array.replicate 49 none
  statics := none }

def pool2 : Array CpInfo := pool [(1, .class_ 2), (0, u "java/io/Serializable"), (0, .class_ 4), (0, u "java/lang/Object")] 2

/-- java/io/Serializable -/
def k2 : Class := { plain "java/io/Serializable" (some 0) with
  accessFlags := 1537
  interfaces := #[]
  cf := some (fileOf pool2 1 #[] #[] 1537 3 #[] #[])
  fields := #[]
  methods := #[]
  instanceTypes := #[]
  staticTypes := #[]
  resolved := Array.replicate 7 none
  statics := none }

def pool3 : Array CpInfo := pool [(1, .class_ 2), (0, u "java/lang/Comparable"), (0, .class_ 4), (0, u "java/lang/Object")] 7

/-- java/lang/Comparable -/
def k3 : Class := { plain "java/lang/Comparable" (some 0) with
  accessFlags := 1537
  interfaces := #[]
  cf := some (fileOf pool3 1 #[] #[] 1537 3 #[] #[])
  fields := #[]
  methods := #[]
  instanceTypes := #[]
  staticTypes := #[]
  resolved := Array.replicate 12 none
  statics := none }

def pool4 : Array CpInfo := pool [(2, .class_ 4), (1, u "java/lang/CharSequence"), (42, .class_ 48), (0, u "java/lang/CharSequence$1CodePointIterator"), (10, .class_ 60), (0, u "java/lang/CharSequence$1CharIterator"), (5, .class_ 67), (0, u "java/lang/Object")] 63

/-- java/lang/CharSequence -/
def k4 : Class := { plain "java/lang/CharSequence" (some 0) with
  accessFlags := 1537
  interfaces := #[]
  cf := some (fileOf pool4 2 #[.nestMembers #[47, 59]] #[] 1537 66 #[] #[])
  fields := #[]
  methods := #[]
  instanceTypes := #[]
  staticTypes := #[]
  resolved := Array.replicate 131 none
  statics := none }

def pool5 : Array CpInfo := pool [(1, .class_ 2), (0, u "java/lang/constant/Constable"), (0, .class_ 4), (0, u "java/lang/Object")] 6

/-- java/lang/constant/Constable -/
def k5 : Class := { plain "java/lang/constant/Constable" (some 0) with
  accessFlags := 1537
  interfaces := #[]
  cf := some (fileOf pool5 1 #[] #[] 1537 3 #[] #[])
  fields := #[]
  methods := #[]
  instanceTypes := #[]
  staticTypes := #[]
  resolved := Array.replicate 11 none
  statics := none }

def pool6 : Array CpInfo := pool [(1, .class_ 2), (0, u "java/lang/constant/ConstantDesc"), (0, .class_ 4), (0, u "java/lang/Object")] 32

/-- java/lang/constant/ConstantDesc -/
def k6 : Class := { plain "java/lang/constant/ConstantDesc" (some 0) with
  accessFlags := 1537
  interfaces := #[]
  cf := some (fileOf pool6 1 #[] #[] 1537 3 #[] #[])
  fields := #[]
  methods := #[]
  instanceTypes := #[]
  staticTypes := #[]
  resolved := Array.replicate 37 none
  statics := none }

def pool7 : Array CpInfo := pool [(1, .methodref 2 3), (0, .class_ 4), (0, .nameAndType 5 6), (0, u "java/lang/Object"), (0, u "<init>"), (0, u "()V"), (2, .fieldref 10 11), (0, .class_ 12), (0, .nameAndType 13 14), (0, u "java/lang/String"), (0, u "value"), (0, u "[B"), (0, .fieldref 10 16), (0, .nameAndType 17 18), (0, u "coder"), (0, u "B"), (2, u "hash"), (0, u "I"), (2, u "hashIsZero"), (0, u "Z"), (0, .methodref 10 28), (0, .nameAndType 5 29), (0, u "([CIILjava/lang/Void;)V"), (8, .fieldref 10 39), (0, .nameAndType 40 26), (0, u "COMPACT_STRINGS"), (1, .class_ 44), (1, u "java/lang/StringUTF16"), (0, u "compress"), (1, .methodref 42 48), (0, .nameAndType 49 50), (0, u "coderFromArrayLen"), (0, u "([BI)B"), (56, .class_ 109), (1, u "java/lang/StringLatin1"), (32, u "()Z"), (34, .methodref 42 178), (0, .nameAndType 45 179), (0, u "([CII)[B"), (154, u "()I"), (0, .methodref 10 336), (0, .nameAndType 17 337), (0, u "()B"), (25, u "([BI)C"), (27, u "(II)V"), (35, u "(I)C"), (64, .methodref 10 493), (0, .nameAndType 494 142), (0, u "isLatin1"), (0, .methodref 107 496), (0, .nameAndType 497 363), (0, u "charAt"), (3, u "checkIndex"), (5, u "length"), (35, u "equals"), (29, u "(Ljava/lang/Object;)Z"), (1, .class_ 576), (0, u "java/lang/CharSequence"), (22, u "CASE_INSENSITIVE_ORDER"), (0, u "Ljava/util/Comparator;"), (409, u "([C)V"), (42, .fieldref 1054 1055), (0, .class_ 1056), (0, .nameAndType 1057 1058), (0, u "jdk/internal/util/Preconditions"), (0, u "SIOOBE_FORMATTER"), (0, u "Ljava/util/function/BiFunction;"), (0, .methodref 1054 1060), (0, .nameAndType 501 1061), (0, u "(IILjava/util/function/BiFunction;)I"), (39, u "serialPersistentFields"), (0, u "[Ljava/io/ObjectStreamField;"), (0, .class_ 1104), (0, u "java/lang/String$CaseInsensitiveComparator"), (1, .class_ 1107), (0, u "java/io/Serializable"), (0, .class_ 1109), (0, u "java/lang/Comparable"), (0, .class_ 1111), (0, u "java/lang/constant/Constable"), (0, .class_ 1113), (0, u "java/lang/constant/ConstantDesc"), (2, u "serialVersionUID"), (0, u "J"), (3, u "REPL"), (0, u "C"), (2, u "LATIN1"), (1, u "UTF16")] 323

def k7m0 : Method := { name := "<init>", desc := "()V", sig := { parameters := [], returnType := none }, accessFlags := 1, code := none }
def k7c1 : Code := { maxStack := 5, maxLocals := 2, code := jdk_42_method_3_code, exceptionTable := #[], attributes := #[] }
def k7m1 : Method := { name := "<init>", desc := "([C)V", sig := { parameters := [(.array .char)], returnType := none }, accessFlags := 1, code := some k7c1 }
def k7c2 : Code := { maxStack := 2, maxLocals := 1, code := jdk_42_method_54_code, exceptionTable := #[], attributes := #[] }
def k7m2 : Method := { name := "length", desc := "()I", sig := { parameters := [], returnType := some .int }, accessFlags := 1, code := some k7c2 }
def k7c3 : Code := { maxStack := 2, maxLocals := 2, code := jdk_42_method_56_code, exceptionTable := #[], attributes := #[] }
def k7m3 : Method := { name := "charAt", desc := "(I)C", sig := { parameters := [.int], returnType := some .char }, accessFlags := 1, code := some k7c3 }
def k7c4 : Code := { maxStack := 2, maxLocals := 3, code := jdk_42_method_66_code, exceptionTable := #[], attributes := #[] }
def k7m4 : Method := { name := "equals", desc := "(Ljava/lang/Object;)Z", sig := { parameters := [(.object "java/lang/Object")], returnType := some .boolean }, accessFlags := 1, code := some k7c4 }
def k7c5 : Code := { maxStack := 4, maxLocals := 6, code := jdk_42_method_149_code, exceptionTable := #[], attributes := #[] }
def k7m5 : Method := { name := "<init>", desc := "([CIILjava/lang/Void;)V", sig := { parameters := [(.array .char), .int, .int, (.object "java/lang/Void")], returnType := none }, accessFlags := 2, code := some k7c5 }
def k7c6 : Code := { maxStack := 1, maxLocals := 1, code := jdk_42_method_152_code, exceptionTable := #[], attributes := #[] }
def k7m6 : Method := { name := "coder", desc := "()B", sig := { parameters := [], returnType := some .byte }, accessFlags := 0, code := some k7c6 }
def k7c7 : Code := { maxStack := 1, maxLocals := 1, code := jdk_42_method_154_code, exceptionTable := #[], attributes := #[] }
def k7m7 : Method := { name := "isLatin1", desc := "()Z", sig := { parameters := [], returnType := some .boolean }, accessFlags := 0, code := some k7c7 }
def k7c8 : Code := { maxStack := 3, maxLocals := 2, code := jdk_42_method_155_code, exceptionTable := #[], attributes := #[] }
def k7m8 : Method := { name := "checkIndex", desc := "(II)V", sig := { parameters := [.int, .int], returnType := none }, accessFlags := 8, code := some k7c8 }
/-- java/lang/String -/
def k7 : Class := { plain "java/lang/String" (some 0) with
  accessFlags := 49
  interfaces := #[2, 3, 4, 5, 6]
  cf := some (fileOf pool7 10 #[.nestMembers #[1103]] #[{ accessFlags := 1, nameIndex := 5, descriptorIndex := 6, attributes := #[] }, { accessFlags := 1, nameIndex := 5, descriptorIndex := 1010, attributes := #[] }, { accessFlags := 1, nameIndex := 507, descriptorIndex := 334, attributes := #[] }, { accessFlags := 1, nameIndex := 497, descriptorIndex := 427, attributes := #[] }, { accessFlags := 1, nameIndex := 543, descriptorIndex := 573, attributes := #[] }, { accessFlags := 2, nameIndex := 5, descriptorIndex := 29, attributes := #[] }, { accessFlags := 0, nameIndex := 17, descriptorIndex := 337, attributes := #[] }, { accessFlags := 0, nameIndex := 494, descriptorIndex := 142, attributes := #[] }, { accessFlags := 8, nameIndex := 501, descriptorIndex := 391, attributes := #[] }] 49 2 #[1106, 1108, 575, 1110, 1112] #[{ accessFlags := 18, nameIndex := 13, descriptorIndex := 14, attributes := #[] }, { accessFlags := 18, nameIndex := 17, descriptorIndex := 18, attributes := #[] }, { accessFlags := 2, nameIndex := 21, descriptorIndex := 22, attributes := #[] }, { accessFlags := 2, nameIndex := 25, descriptorIndex := 26, attributes := #[] }, { accessFlags := 26, nameIndex := 1116, descriptorIndex := 1117, attributes := #[] }, { accessFlags := 24, nameIndex := 40, descriptorIndex := 26, attributes := #[] }, { accessFlags := 26, nameIndex := 1101, descriptorIndex := 1102, attributes := #[] }, { accessFlags := 26, nameIndex := 1121, descriptorIndex := 1122, attributes := #[] }, { accessFlags := 25, nameIndex := 599, descriptorIndex := 600, attributes := #[] }, { accessFlags := 24, nameIndex := 1125, descriptorIndex := 18, attributes := #[] }, { accessFlags := 24, nameIndex := 1127, descriptorIndex := 18, attributes := #[] }])
  fields := #[{ name := "value", type := (.array .byte), accessFlags := 18, slot := 0, constantValue := 0 }, { name := "coder", type := .byte, accessFlags := 18, slot := 1, constantValue := 0 }, { name := "hash", type := .int, accessFlags := 2, slot := 2, constantValue := 0 }, { name := "hashIsZero", type := .boolean, accessFlags := 2, slot := 3, constantValue := 0 }, { name := "serialVersionUID", type := .long, accessFlags := 26, slot := 0, constantValue := 0 }, { name := "COMPACT_STRINGS", type := .boolean, accessFlags := 24, slot := 1, constantValue := 0 }, { name := "serialPersistentFields", type := (.array (.object "java/io/ObjectStreamField")), accessFlags := 26, slot := 2, constantValue := 0 }, { name := "REPL", type := .char, accessFlags := 26, slot := 3, constantValue := 0 }, { name := "CASE_INSENSITIVE_ORDER", type := (.object "java/util/Comparator"), accessFlags := 25, slot := 4, constantValue := 0 }, { name := "LATIN1", type := .byte, accessFlags := 24, slot := 5, constantValue := 0 }, { name := "UTF16", type := .byte, accessFlags := 24, slot := 6, constantValue := 0 }]
  methods := #[k7m0, k7m1, k7m2, k7m3, k7m4, k7m5, k7m6, k7m7, k7m8]
  instanceTypes := #[(.array .byte), .byte, .int, .boolean]
  staticTypes := #[.long, .boolean, (.array (.object "java/io/ObjectStreamField")), .char, (.object "java/util/Comparator"), .byte, .byte]
  resolved := Array.replicate 1451 none
  statics := some 0 }

def pool8 : Array CpInfo := pool [(6, .class_ 8), (1, u "java/lang/Object"), (0, u "<init>"), (0, u "()V"), (1, .class_ 14), (1, u "java/lang/StringUTF16"), (31, u "$assertionsDisabled"), (0, u "Z"), (13, u "HI_BYTE_SHIFT"), (0, u "I"), (2, u "LO_BYTE_SHIFT"), (49, .methodref 12 116), (0, .nameAndType 117 118), (0, u "compress"), (0, u "([CI[BII)I"), (3, u "([CII)[B"), (138, u "coderFromArrayLen"), (0, u "([BI)B"), (106, .class_ 371), (1, u "java/lang/StringUTF16$LinesSpliterator"), (58, u "MAX_LENGTH"), (196, .class_ 628), (0, u "java/lang/StringUTF16$CodePointsSpliterator"), (0, .class_ 630), (0, u "java/lang/StringUTF16$CharsSpliterator")] 4

def k8m0 : Method := { name := "<init>", desc := "()V", sig := { parameters := [], returnType := none }, accessFlags := 0, code := none }
def k8c1 : Code := { maxStack := 2, maxLocals := 2, code := jdk_52_method_15_code, exceptionTable := #[], attributes := #[] }
def k8m1 : Method := { name := "coderFromArrayLen", desc := "([BI)B", sig := { parameters := [(.array .byte), .int], returnType := some .byte }, accessFlags := 8, code := some k8c1 }
def k8c2 : Code := { maxStack := 5, maxLocals := 6, code := jdk_52_method_16_code, exceptionTable := #[], attributes := #[] }
def k8m2 : Method := { name := "compress", desc := "([CII)[B", sig := { parameters := [(.array .char), .int, .int], returnType := some (.array .byte) }, accessFlags := 9, code := some k8c2 }
def k8c3 : Code := { maxStack := 3, maxLocals := 7, code := jdk_52_method_21_code, exceptionTable := #[], attributes := #[] }
def k8m3 : Method := { name := "compress", desc := "([CI[BII)I", sig := { parameters := [(.array .char), .int, (.array .byte), .int, .int], returnType := some .int }, accessFlags := 9, code := some k8c3 }
/-- java/lang/StringUTF16 -/
def k8 : Class := { plain "java/lang/StringUTF16" (some 0) with
  accessFlags := 48
  interfaces := #[]
  cf := some (fileOf pool8 12 #[.nestMembers #[627, 629, 369]] #[{ accessFlags := 0, nameIndex := 9, descriptorIndex := 10, attributes := #[] }, { accessFlags := 8, nameIndex := 261, descriptorIndex := 262, attributes := #[] }, { accessFlags := 9, nameIndex := 117, descriptorIndex := 122, attributes := #[] }, { accessFlags := 9, nameIndex := 117, descriptorIndex := 118, attributes := #[] }] 48 6 #[] #[{ accessFlags := 26, nameIndex := 61, descriptorIndex := 62, attributes := #[] }, { accessFlags := 26, nameIndex := 65, descriptorIndex := 62, attributes := #[] }, { accessFlags := 24, nameIndex := 430, descriptorIndex := 62, attributes := #[] }, { accessFlags := 4120, nameIndex := 46, descriptorIndex := 47, attributes := #[] }])
  fields := #[{ name := "HI_BYTE_SHIFT", type := .int, accessFlags := 26, slot := 0, constantValue := 0 }, { name := "LO_BYTE_SHIFT", type := .int, accessFlags := 26, slot := 1, constantValue := 0 }, { name := "MAX_LENGTH", type := .int, accessFlags := 24, slot := 2, constantValue := 0 }, { name := "$assertionsDisabled", type := .boolean, accessFlags := 4120, slot := 3, constantValue := 0 }]
  methods := #[k8m0, k8m1, k8m2, k8m3]
  instanceTypes := #[]
  staticTypes := #[.int, .int, .int, .boolean]
  resolved := Array.replicate 635 none
  statics := none }

def pool9 : Array CpInfo := pool [(1, .methodref 2 3), (0, .class_ 4), (0, .nameAndType 5 6), (0, u "java/lang/Object"), (0, u "<init>"), (0, u "()V"), (0, .fieldref 8 9), (0, .class_ 10), (0, .nameAndType 11 12), (0, u "com/example/arbiter/arbiter/store/SchemaName"), (0, u "name"), (0, u "Ljava/lang/String;"), (0, .string 14), (0, u "schema name"), (0, .methodref 8 16), (0, .nameAndType 17 18), (0, u "checkIdentifier"), (0, u "(Ljava/lang/String;Ljava/lang/String;)Ljava/lang/String;"), (0, .methodref 8 20), (0, .nameAndType 5 21), (0, u "(Ljava/lang/String;)V"), (9, u "()Ljava/lang/String;"), (3, .methodref 36 37), (0, .class_ 38), (0, .nameAndType 39 40), (0, u "java/util/Objects"), (0, u "requireNonNull"), (0, u "(Ljava/lang/Object;Ljava/lang/String;)Ljava/lang/Object;"), (0, .methodref 42 43), (0, .class_ 44), (0, .nameAndType 45 46), (0, u "java/lang/String"), (0, u "length"), (0, u "()I"), (0, .methodref 42 48), (0, .nameAndType 49 50), (0, u "charAt"), (0, u "(I)C"), (0, .methodref 8 52), (0, .nameAndType 53 54), (0, u "isAsciiLetter"), (0, u "(C)Z"), (21, u "DEFAULT"), (0, u "Lcom/example/arbiter/arbiter/store/SchemaName;"), (0, u "MAX_LENGTH"), (0, u "I"), (4, u "of"), (0, u "(Ljava/lang/String;)Lcom/example/arbiter/arbiter/store/SchemaName;")] 22

def k9c0 : Code := { maxStack := 2, maxLocals := 2, code := prog_36_method_1_code, exceptionTable := #[], attributes := #[] }
def k9m0 : Method := { name := "<init>", desc := "(Ljava/lang/String;)V", sig := { parameters := [(.object "java/lang/String")], returnType := none }, accessFlags := 2, code := some k9c0 }
def k9c1 : Code := { maxStack := 4, maxLocals := 1, code := prog_36_method_2_code, exceptionTable := #[], attributes := #[] }
def k9m1 : Method := { name := "of", desc := "(Ljava/lang/String;)Lcom/example/arbiter/arbiter/store/SchemaName;", sig := { parameters := [(.object "java/lang/String")], returnType := some (.object "com/example/arbiter/arbiter/store/SchemaName") }, accessFlags := 9, code := some k9c1 }
def k9c2 : Code := { maxStack := 1, maxLocals := 1, code := prog_36_method_3_code, exceptionTable := #[], attributes := #[] }
def k9m2 : Method := { name := "name", desc := "()Ljava/lang/String;", sig := { parameters := [], returnType := some (.object "java/lang/String") }, accessFlags := 1, code := some k9c2 }
def k9c3 : Code := { maxStack := 7, maxLocals := 6, code := prog_36_method_6_code, exceptionTable := #[], attributes := #[] }
def k9m3 : Method := { name := "checkIdentifier", desc := "(Ljava/lang/String;Ljava/lang/String;)Ljava/lang/String;", sig := { parameters := [(.object "java/lang/String"), (.object "java/lang/String")], returnType := some (.object "java/lang/String") }, accessFlags := 10, code := some k9c3 }
def k9c4 : Code := { maxStack := 2, maxLocals := 1, code := prog_36_method_7_code, exceptionTable := #[], attributes := #[] }
def k9m4 : Method := { name := "isAsciiLetter", desc := "(C)Z", sig := { parameters := [.char], returnType := some .boolean }, accessFlags := 10, code := some k9c4 }
/-- com/example/arbiter/arbiter/store/SchemaName -/
def k9 : Class := { plain "com/example/arbiter/arbiter/store/SchemaName" (some 0) with
  accessFlags := 49
  interfaces := #[]
  cf := some (fileOf pool9 8 #[] #[{ accessFlags := 2, nameIndex := 5, descriptorIndex := 21, attributes := #[] }, { accessFlags := 9, nameIndex := 84, descriptorIndex := 85, attributes := #[] }, { accessFlags := 1, nameIndex := 11, descriptorIndex := 31, attributes := #[] }, { accessFlags := 10, nameIndex := 17, descriptorIndex := 18, attributes := #[] }, { accessFlags := 10, nameIndex := 53, descriptorIndex := 54, attributes := #[] }] 49 2 #[] #[{ accessFlags := 25, nameIndex := 76, descriptorIndex := 77, attributes := #[] }, { accessFlags := 26, nameIndex := 78, descriptorIndex := 79, attributes := #[] }, { accessFlags := 18, nameIndex := 11, descriptorIndex := 12, attributes := #[] }])
  fields := #[{ name := "DEFAULT", type := (.object "com/example/arbiter/arbiter/store/SchemaName"), accessFlags := 25, slot := 0, constantValue := 0 }, { name := "MAX_LENGTH", type := .int, accessFlags := 26, slot := 1, constantValue := 0 }, { name := "name", type := (.object "java/lang/String"), accessFlags := 18, slot := 0, constantValue := 0 }]
  methods := #[k9m0, k9m1, k9m2, k9m3, k9m4]
  instanceTypes := #[(.object "java/lang/String")]
  staticTypes := #[(.object "com/example/arbiter/arbiter/store/SchemaName"), .int]
  resolved := Array.replicate 108 none
  statics := none }

def pool10 : Array CpInfo := pool [(2, .class_ 4), (1, u "java/lang/Object"), (0, u "<init>"), (0, u "()V"), (35, .class_ 44), (1, u "java/util/Objects"), (0, u "requireNonNull"), (48, u "(Ljava/lang/Object;Ljava/lang/String;)Ljava/lang/Object;")] 89

def k10m0 : Method := { name := "<init>", desc := "()V", sig := { parameters := [], returnType := none }, accessFlags := 2, code := none }
def k10c1 : Code := { maxStack := 3, maxLocals := 2, code := jdk_31_method_11_code, exceptionTable := #[], attributes := #[] }
def k10m1 : Method := { name := "requireNonNull", desc := "(Ljava/lang/Object;Ljava/lang/String;)Ljava/lang/Object;", sig := { parameters := [(.object "java/lang/Object"), (.object "java/lang/String")], returnType := some (.object "java/lang/Object") }, accessFlags := 9, code := some k10c1 }
/-- java/util/Objects -/
def k10 : Class := { plain "java/util/Objects" (some 0) with
  accessFlags := 49
  interfaces := #[]
  cf := some (fileOf pool10 42 #[] #[{ accessFlags := 2, nameIndex := 5, descriptorIndex := 6, attributes := #[] }, { accessFlags := 9, nameIndex := 45, descriptorIndex := 94, attributes := #[] }] 49 2 #[] #[])
  fields := #[]
  methods := #[k10m0, k10m1]
  instanceTypes := #[]
  staticTypes := #[]
  resolved := Array.replicate 184 none
  statics := none }

def pool11 : Array CpInfo := pool [(1, .class_ 2), (0, u "java/lang/String"), (1, .class_ 6), (1, u "java/lang/Object"), (0, u "<init>"), (0, u "()V"), (0, .methodref 1 10), (0, .nameAndType 11 12), (0, u "checkIndex"), (0, u "(II)V"), (1, .class_ 16), (1, u "java/lang/StringLatin1"), (36, u "([BI)C"), (67, u "$assertionsDisabled"), (0, u "Z"), (98, .class_ 223), (1, u "java/lang/StringLatin1$LinesSpliterator"), (28, u "charAt"), (137, .class_ 391), (0, u "java/lang/StringLatin1$CharsSpliterator")] 3

def k11m0 : Method := { name := "<init>", desc := "()V", sig := { parameters := [], returnType := none }, accessFlags := 0, code := none }
def k11c1 : Code := { maxStack := 2, maxLocals := 2, code := jdk_43_method_2_code, exceptionTable := #[], attributes := #[] }
def k11m1 : Method := { name := "charAt", desc := "([BI)C", sig := { parameters := [(.array .byte), .int], returnType := some .char }, accessFlags := 9, code := some k11c1 }
/-- java/lang/StringLatin1 -/
def k11 : Class := { plain "java/lang/StringLatin1" (some 0) with
  accessFlags := 48
  interfaces := #[]
  cf := some (fileOf pool11 14 #[.nestMembers #[390, 221]] #[{ accessFlags := 0, nameIndex := 7, descriptorIndex := 8, attributes := #[] }, { accessFlags := 9, nameIndex := 252, descriptorIndex := 53, attributes := #[] }] 48 4 #[] #[{ accessFlags := 4120, nameIndex := 121, descriptorIndex := 122, attributes := #[] }])
  fields := #[{ name := "$assertionsDisabled", type := .boolean, accessFlags := 4120, slot := 0, constantValue := 0 }]
  methods := #[k11m0, k11m1]
  instanceTypes := #[]
  staticTypes := #[.boolean]
  resolved := Array.replicate 395 none
  statics := none }

def pool12 : Array CpInfo := pool [(2, .class_ 4), (1, u "java/lang/Object"), (0, u "<init>"), (0, u "()V"), (17, .class_ 26), (1, u "jdk/internal/util/Preconditions"), (6, u "checkIndex"), (21, .class_ 56), (0, u "jdk/internal/util/Preconditions$4"), (57, .class_ 115), (0, u "jdk/internal/util/Preconditions$1"), (7, u "SIOOBE_FORMATTER"), (0, u "Ljava/util/function/BiFunction;"), (0, .class_ 126), (0, u "jdk/internal/util/Preconditions$2"), (3, u "AIOOBE_FORMATTER"), (0, .class_ 132), (0, u "jdk/internal/util/Preconditions$3"), (3, u "IOOBE_FORMATTER"), (41, u "(IILjava/util/function/BiFunction;)I")] 15

def k12m0 : Method := { name := "<init>", desc := "()V", sig := { parameters := [], returnType := none }, accessFlags := 1, code := none }
def k12c1 : Code := { maxStack := 3, maxLocals := 3, code := jdk_41_method_11_code, exceptionTable := #[], attributes := #[] }
def k12m1 : Method := { name := "checkIndex", desc := "(IILjava/util/function/BiFunction;)I", sig := { parameters := [.int, .int, (.object "java/util/function/BiFunction")], returnType := some .int }, accessFlags := 9, code := some k12c1 }
/-- jdk/internal/util/Preconditions -/
def k12 : Class := { plain "jdk/internal/util/Preconditions" (some 0) with
  accessFlags := 33
  interfaces := #[]
  cf := some (fileOf pool12 24 #[.nestMembers #[55, 131, 125, 114]] #[{ accessFlags := 1, nameIndex := 5, descriptorIndex := 6, attributes := #[] }, { accessFlags := 9, nameIndex := 33, descriptorIndex := 178, attributes := #[] }] 33 2 #[] #[{ accessFlags := 25, nameIndex := 123, descriptorIndex := 124, attributes := #[] }, { accessFlags := 25, nameIndex := 130, descriptorIndex := 124, attributes := #[] }, { accessFlags := 25, nameIndex := 136, descriptorIndex := 124, attributes := #[] }])
  fields := #[{ name := "SIOOBE_FORMATTER", type := (.object "java/util/function/BiFunction"), accessFlags := 25, slot := 0, constantValue := 0 }, { name := "AIOOBE_FORMATTER", type := (.object "java/util/function/BiFunction"), accessFlags := 25, slot := 1, constantValue := 0 }, { name := "IOOBE_FORMATTER", type := (.object "java/util/function/BiFunction"), accessFlags := 25, slot := 2, constantValue := 0 }]
  methods := #[k12m0, k12m1]
  instanceTypes := #[]
  staticTypes := #[(.object "java/util/function/BiFunction"), (.object "java/util/function/BiFunction"), (.object "java/util/function/BiFunction")]
  resolved := Array.replicate 194 none
  statics := some 1 }

def pool13 : Array CpInfo := pool [(9, u "<init>"), (6, .class_ 18), (1, u "java/lang/Object"), (0, u "()V"), (1, .class_ 23), (1, u "jdk/internal/util/ArraysSupport"), (0, u "LOG2_ARRAY_LONG_INDEX_SCALE"), (0, u "I"), (2, u "U"), (0, u "Ljdk/internal/misc/Unsafe;"), (8, u "BIG_ENDIAN"), (0, u "Z"), (8, u "LOG2_BYTE_BIT_SIZE"), (4, u "LOG2_ARRAY_INT_INDEX_SCALE"), (54, u "JLA"), (0, u "Ljdk/internal/access/JavaLangAccess;"), (11, u "LOG2_ARRAY_BOOLEAN_INDEX_SCALE"), (9, u "LOG2_ARRAY_BYTE_INDEX_SCALE"), (5, u "LOG2_ARRAY_CHAR_INDEX_SCALE"), (5, u "LOG2_ARRAY_SHORT_INDEX_SCALE"), (18, u "LOG2_ARRAY_FLOAT_INDEX_SCALE"), (24, u "LOG2_ARRAY_DOUBLE_INDEX_SCALE"), (89, u "T_BOOLEAN"), (2, u "T_CHAR"), (1, u "T_FLOAT"), (1, u "T_DOUBLE"), (1, u "T_BYTE"), (1, u "T_SHORT"), (1, u "T_INT"), (1, u "T_LONG"), (1, u "SOFT_MAX_ARRAY_LENGTH")] 83

def k13m0 : Method := { name := "<init>", desc := "()V", sig := { parameters := [], returnType := none }, accessFlags := 2, code := none }
/-- jdk/internal/util/ArraysSupport -/
def k13 : Class := { plain "jdk/internal/util/ArraysSupport" (some 0) with
  accessFlags := 33
  interfaces := #[]
  cf := some (fileOf pool13 21 #[] #[{ accessFlags := 2, nameIndex := 9, descriptorIndex := 19, attributes := #[] }] 33 16 #[] #[{ accessFlags := 24, nameIndex := 28, descriptorIndex := 29, attributes := #[] }, { accessFlags := 26, nameIndex := 38, descriptorIndex := 39, attributes := #[] }, { accessFlags := 25, nameIndex := 121, descriptorIndex := 25, attributes := #[] }, { accessFlags := 25, nameIndex := 131, descriptorIndex := 25, attributes := #[] }, { accessFlags := 25, nameIndex := 137, descriptorIndex := 25, attributes := #[] }, { accessFlags := 25, nameIndex := 143, descriptorIndex := 25, attributes := #[] }, { accessFlags := 25, nameIndex := 53, descriptorIndex := 25, attributes := #[] }, { accessFlags := 25, nameIndex := 24, descriptorIndex := 25, attributes := #[] }, { accessFlags := 25, nameIndex := 162, descriptorIndex := 25, attributes := #[] }, { accessFlags := 25, nameIndex := 187, descriptorIndex := 25, attributes := #[] }, { accessFlags := 26, nameIndex := 48, descriptorIndex := 25, attributes := #[] }, { accessFlags := 25, nameIndex := 277, descriptorIndex := 25, attributes := #[] }, { accessFlags := 25, nameIndex := 280, descriptorIndex := 25, attributes := #[] }, { accessFlags := 25, nameIndex := 282, descriptorIndex := 25, attributes := #[] }, { accessFlags := 25, nameIndex := 284, descriptorIndex := 25, attributes := #[] }, { accessFlags := 25, nameIndex := 286, descriptorIndex := 25, attributes := #[] }, { accessFlags := 25, nameIndex := 288, descriptorIndex := 25, attributes := #[] }, { accessFlags := 25, nameIndex := 290, descriptorIndex := 25, attributes := #[] }, { accessFlags := 25, nameIndex := 292, descriptorIndex := 25, attributes := #[] }, { accessFlags := 26, nameIndex := 108, descriptorIndex := 109, attributes := #[] }, { accessFlags := 25, nameIndex := 294, descriptorIndex := 25, attributes := #[] }])
  fields := #[{ name := "U", type := (.object "jdk/internal/misc/Unsafe"), accessFlags := 24, slot := 0, constantValue := 0 }, { name := "BIG_ENDIAN", type := .boolean, accessFlags := 26, slot := 1, constantValue := 0 }, { name := "LOG2_ARRAY_BOOLEAN_INDEX_SCALE", type := .int, accessFlags := 25, slot := 2, constantValue := 0 }, { name := "LOG2_ARRAY_BYTE_INDEX_SCALE", type := .int, accessFlags := 25, slot := 3, constantValue := 0 }, { name := "LOG2_ARRAY_CHAR_INDEX_SCALE", type := .int, accessFlags := 25, slot := 4, constantValue := 0 }, { name := "LOG2_ARRAY_SHORT_INDEX_SCALE", type := .int, accessFlags := 25, slot := 5, constantValue := 0 }, { name := "LOG2_ARRAY_INT_INDEX_SCALE", type := .int, accessFlags := 25, slot := 6, constantValue := 0 }, { name := "LOG2_ARRAY_LONG_INDEX_SCALE", type := .int, accessFlags := 25, slot := 7, constantValue := 0 }, { name := "LOG2_ARRAY_FLOAT_INDEX_SCALE", type := .int, accessFlags := 25, slot := 8, constantValue := 0 }, { name := "LOG2_ARRAY_DOUBLE_INDEX_SCALE", type := .int, accessFlags := 25, slot := 9, constantValue := 0 }, { name := "LOG2_BYTE_BIT_SIZE", type := .int, accessFlags := 26, slot := 10, constantValue := 0 }, { name := "T_BOOLEAN", type := .int, accessFlags := 25, slot := 11, constantValue := 0 }, { name := "T_CHAR", type := .int, accessFlags := 25, slot := 12, constantValue := 0 }, { name := "T_FLOAT", type := .int, accessFlags := 25, slot := 13, constantValue := 0 }, { name := "T_DOUBLE", type := .int, accessFlags := 25, slot := 14, constantValue := 0 }, { name := "T_BYTE", type := .int, accessFlags := 25, slot := 15, constantValue := 0 }, { name := "T_SHORT", type := .int, accessFlags := 25, slot := 16, constantValue := 0 }, { name := "T_INT", type := .int, accessFlags := 25, slot := 17, constantValue := 0 }, { name := "T_LONG", type := .int, accessFlags := 25, slot := 18, constantValue := 0 }, { name := "JLA", type := (.object "jdk/internal/access/JavaLangAccess"), accessFlags := 26, slot := 19, constantValue := 0 }, { name := "SOFT_MAX_ARRAY_LENGTH", type := .int, accessFlags := 25, slot := 20, constantValue := 0 }]
  methods := #[k13m0]
  instanceTypes := #[]
  staticTypes := #[(.object "jdk/internal/misc/Unsafe"), .boolean, .int, .int, .int, .int, .int, .int, .int, .int, .int, .int, .int, .int, .int, .int, .int, .int, .int, (.object "jdk/internal/access/JavaLangAccess"), .int]
  resolved := Array.replicate 378 none
  statics := none }

def pool14 : Array CpInfo := pool [(1, u "java/lang/Cloneable"), (0, .class_ 1), (0, u "java/lang/Object"), (0, .class_ 3)] 3

/-- java/lang/Cloneable -/
def k14 : Class := { plain "java/lang/Cloneable" (some 0) with
  accessFlags := 1537
  interfaces := #[]
  cf := some (fileOf pool14 2 #[] #[] 1537 4 #[] #[])
  fields := #[]
  methods := #[]
  instanceTypes := #[]
  staticTypes := #[]
  resolved := Array.replicate 8 none
  statics := none }

/-- the primitive byte -/
def k15 : Class := { plain "byte" none with kind := .primitive 'B', accessFlags := 0x411 }
/-- [B -/
def k16 : Class := { plain "[B" (some 0) with kind := .array 15 .byte, interfaces := #[14, 2], accessFlags := 1041 }

/-- the primitive char -/
def k17 : Class := { plain "char" none with kind := .primitive 'C', accessFlags := 0x411 }
/-- [C -/
def k18 : Class := { plain "[C" (some 0) with kind := .array 17 .char, interfaces := #[14, 2], accessFlags := 1041 }

/-- the primitive int -/
def k19 : Class := { plain "int" none with kind := .primitive 'I', accessFlags := 0x411 }
/-- [I -/
def k20 : Class := { plain "[I" (some 0) with kind := .array 19 .int, interfaces := #[14, 2], accessFlags := 1041 }

def heap : Heap := #[{ cls := 7, slots := #[.long 0, .int 1, .null, .int 0, .null, .int 0, .int 0], vm := .statics 7 },
  { cls := 12, slots := #[.null, .null, .null], vm := .statics 12 }]
def classes : Array Class := #[k0, k1, k2, k3, k4, k5, k6, k7, k8, k9, k10, k11, k12, k13, k14, k15, k16, k17, k18, k19, k20]
def interned : List (Array UInt16 × Addr) := []
def slotsUsed : Nat := 10
def theMethod : MethodId := ⟨1, 3⟩
def args0 : Array Value := #[.int 5, .int 5, .int 5, .int 5, .int 5]
def aboutOver (below : List Frame) : State where
  vm := { classes := classes, interned := interned.toArray }
  heap := heap
  slotsUsed := slotsUsed
  threads := #[{ frames := .invoking theMethod args0 :: below }]
def below0 : List Frame := [.native { method := ⟨0, 0⟩, args := #[] }]
def about1 : State := aboutOver below0
def p0 : Program := .bare "" "" ""
def e0 : Env := launch0.env 0 0 0
theorem w_frames : about1.frames = Frame.invoking theMethod args0 :: below0 := rfl
set_option maxRecDepth 65536 in
theorem w_args : argsFit about1.vm theMethod args0 = true := by decide +kernel
set_option maxRecDepth 65536 in
theorem w_heap : heapFits about1 = true := by decide +kernel
set_option maxRecDepth 65536 in
theorem w_runnable : about1.curStatus? = some .runnable := by decide +kernel
set_option maxRecDepth 65536 in
theorem w_alone : about1.alone = true := by decide +kernel
set_option maxRecDepth 65536 in
theorem w_named : about1.methodNamed? x = some theMethod := by decide +kernel
set_option maxRecDepth 65536 in
theorem w_hears : about1.hears theMethod below0 = true := by decide +kernel
set_option maxRecDepth 65536 in
theorem w_ripe : about1.ripe theMethod args0 below0 = true := by decide +kernel
theorem w_running : about1.status = .running := rfl
set_option maxRecDepth 65536 in
theorem w_room : about1.hasRoom e0.platform room_1 = true :=
  launch0.hasRoom_least _ room_1 (by decide +kernel) (by decide +kernel) (by decide +kernel) (by decide +kernel) (by decide +kernel) (by decide +kernel)
theorem allAtoms_all (ts : List Jvm.Cond) (a : Array Jvm.Value) (st : Jvm.State) : (allAtoms ts).before a st = ts.all (fun c => c.before a st) := by
  induction ts with
  | nil => rfl
  | cons c t ih =>
    show (Jvm.Cond.and c (allAtoms t)).before a st = _
    rw [Jvm.Cond.before_and, ih, List.all_cons]
def words1 : List Jvm.Cond := Jvm.Cond.code x code maxLocals ret :: tables_1
/-- a 'code' word, met by the world's own term for the bytes: nothing is compared byte by byte -/
theorem code_word {y : MethodName} {bytes : ByteArray} {mx : Nat} {rt : Option FieldType} {a : Array Value} {s : State} {m : MethodId} {meth : Method} {c : Code} (h1 : s.methodNamed? y = some m) (h2 : s.vm.method? m = some meth) (h3 : meth.code = some c) (h4 : c.code = bytes)
    (h5 : (c.maxLocals == mx && c.exceptionTable.isEmpty && decide (c.maxStack ≤ mostOperands) && decide (meth.sig.returnType = rt) && !meth.locks && decide (parseMethodDescriptor y.desc = some meth.sig)) = true) : (Jvm.Cond.code y bytes mx rt).before a s = true := by
  simp only [Bool.and_eq_true, beq_iff_eq, Bool.not_eq_true', decide_eq_true_eq] at h5
  obtain ⟨⟨⟨⟨⟨g1, g2⟩, g3⟩, g4⟩, g5⟩, g6⟩ := h5
  simp [Cond.before, Cond.holds, Cond.value, h1, h2, h3, h4, g1, g2, g3, g4, g5, g6]
def isCode : Jvm.Cond → Bool
  | .code _ _ _ _ => true
  | _ => false
theorem all_split {L : List Jvm.Cond} {P : Jvm.Cond → Bool} (h1 : L.all (fun c => isCode c || P c) = true) (h2 : ∀ c ∈ L.filter isCode, P c = true) : L.all P = true := by
  refine List.all_eq_true.mpr fun c hc => ?_
  have h := List.all_eq_true.mp h1 c hc
  rcases Bool.eq_false_or_eq_true (isCode c) with hi | hi
  · exact h2 c (List.mem_filter.mpr ⟨hc, hi⟩)
  · simpa [hi] using h
set_option maxRecDepth 65536 in
theorem w_c0 : (Jvm.Cond.code x code maxLocals ret).before args0 about1 = true := code_word (m := ⟨1, 3⟩) (meth := k1m3) (c := k1c3) (by decide +kernel) rfl rfl rfl (by decide +kernel)
set_option maxRecDepth 65536 in
theorem w_c1 : (Jvm.Cond.code ({ cls := "com/example/arbiter/arbiter/store/SchemaNameOfPinLaw", name := "first", desc := "(I)C" } : Jvm.MethodName) method_2_code (2 : Nat) (Option.some Jvm.ClassFile.FieldType.char)).before args0 about1 = true := code_word (m := ⟨1, 1⟩) (meth := k1m1) (c := k1c1) (by decide +kernel) rfl rfl rfl (by decide +kernel)
set_option maxRecDepth 65536 in
theorem w_c2 : (Jvm.Cond.code ({ cls := "com/example/arbiter/arbiter/store/SchemaNameOfPinLaw", name := "rest", desc := "(I)C" } : Jvm.MethodName) method_3_code (2 : Nat) (Option.some Jvm.ClassFile.FieldType.char)).before args0 about1 = true := code_word (m := ⟨1, 2⟩) (meth := k1m2) (c := k1c2) (by decide +kernel) rfl rfl rfl (by decide +kernel)
set_option maxRecDepth 65536 in
theorem w_c3 : (Jvm.Cond.code ({ cls := "java/lang/String", name := "<init>", desc := "([C)V" } : Jvm.MethodName) jdk_42_method_3_code (2 : Nat) (Option.none : Option Jvm.ClassFile.FieldType)).before args0 about1 = true := code_word (m := ⟨7, 1⟩) (meth := k7m1) (c := k7c1) (by decide +kernel) rfl rfl rfl (by decide +kernel)
set_option maxRecDepth 65536 in
theorem w_c4 : (Jvm.Cond.code ({ cls := "java/lang/String", name := "<init>", desc := "([CIILjava/lang/Void;)V" } : Jvm.MethodName) jdk_42_method_149_code (6 : Nat) (Option.none : Option Jvm.ClassFile.FieldType)).before args0 about1 = true := code_word (m := ⟨7, 5⟩) (meth := k7m5) (c := k7c5) (by decide +kernel) rfl rfl rfl (by decide +kernel)
set_option maxRecDepth 65536 in
theorem w_c5 : (Jvm.Cond.code ({ cls := "java/lang/Object", name := "<init>", desc := "()V" } : Jvm.MethodName) object_method_1_code (1 : Nat) (Option.none : Option Jvm.ClassFile.FieldType)).before args0 about1 = true := code_word (m := ⟨0, 0⟩) (meth := k0m0) (c := k0c0) (by decide +kernel) rfl rfl rfl (by decide +kernel)
set_option maxRecDepth 65536 in
theorem w_c6 : (Jvm.Cond.code ({ cls := "java/lang/StringUTF16", name := "compress", desc := "([CII)[B" } : Jvm.MethodName) jdk_52_method_16_code (6 : Nat) (Option.some (Jvm.ClassFile.FieldType.array Jvm.ClassFile.FieldType.byte))).before args0 about1 = true := code_word (m := ⟨8, 2⟩) (meth := k8m2) (c := k8c2) (by decide +kernel) rfl rfl rfl (by decide +kernel)
set_option maxRecDepth 65536 in
theorem w_c7 : (Jvm.Cond.code ({ cls := "java/lang/StringUTF16", name := "compress", desc := "([CI[BII)I" } : Jvm.MethodName) jdk_52_method_21_code (7 : Nat) (Option.some Jvm.ClassFile.FieldType.int)).before args0 about1 = true := code_word (m := ⟨8, 3⟩) (meth := k8m3) (c := k8c3) (by decide +kernel) rfl rfl rfl (by decide +kernel)
set_option maxRecDepth 65536 in
theorem w_c8 : (Jvm.Cond.code ({ cls := "java/lang/StringUTF16", name := "coderFromArrayLen", desc := "([BI)B" } : Jvm.MethodName) jdk_52_method_15_code (2 : Nat) (Option.some Jvm.ClassFile.FieldType.byte)).before args0 about1 = true := code_word (m := ⟨8, 1⟩) (meth := k8m1) (c := k8c1) (by decide +kernel) rfl rfl rfl (by decide +kernel)
set_option maxRecDepth 65536 in
theorem w_c9 : (Jvm.Cond.code ({ cls := "com/example/arbiter/arbiter/store/SchemaName", name := "of", desc := "(Ljava/lang/String;)Lcom/example/arbiter/arbiter/store/SchemaName;" } : Jvm.MethodName) prog_36_method_2_code (1 : Nat) (Option.some (Jvm.ClassFile.FieldType.object "com/example/arbiter/arbiter/store/SchemaName"))).before args0 about1 = true := code_word (m := ⟨9, 1⟩) (meth := k9m1) (c := k9c1) (by decide +kernel) rfl rfl rfl (by decide +kernel)
set_option maxRecDepth 65536 in
theorem w_c10 : (Jvm.Cond.code ({ cls := "com/example/arbiter/arbiter/store/SchemaName", name := "checkIdentifier", desc := "(Ljava/lang/String;Ljava/lang/String;)Ljava/lang/String;" } : Jvm.MethodName) prog_36_method_6_code (6 : Nat) (Option.some (Jvm.ClassFile.FieldType.object "java/lang/String"))).before args0 about1 = true := code_word (m := ⟨9, 3⟩) (meth := k9m3) (c := k9c3) (by decide +kernel) rfl rfl rfl (by decide +kernel)
set_option maxRecDepth 65536 in
theorem w_c11 : (Jvm.Cond.code ({ cls := "java/util/Objects", name := "requireNonNull", desc := "(Ljava/lang/Object;Ljava/lang/String;)Ljava/lang/Object;" } : Jvm.MethodName) jdk_31_method_11_code (2 : Nat) (Option.some (Jvm.ClassFile.FieldType.object "java/lang/Object"))).before args0 about1 = true := code_word (m := ⟨10, 1⟩) (meth := k10m1) (c := k10c1) (by decide +kernel) rfl rfl rfl (by decide +kernel)
set_option maxRecDepth 65536 in
theorem w_c12 : (Jvm.Cond.code ({ cls := "java/lang/String", name := "length", desc := "()I" } : Jvm.MethodName) jdk_42_method_54_code (1 : Nat) (Option.some Jvm.ClassFile.FieldType.int)).before args0 about1 = true := code_word (m := ⟨7, 2⟩) (meth := k7m2) (c := k7c2) (by decide +kernel) rfl rfl rfl (by decide +kernel)
set_option maxRecDepth 65536 in
theorem w_c13 : (Jvm.Cond.code ({ cls := "java/lang/String", name := "coder", desc := "()B" } : Jvm.MethodName) jdk_42_method_152_code (1 : Nat) (Option.some Jvm.ClassFile.FieldType.byte)).before args0 about1 = true := code_word (m := ⟨7, 6⟩) (meth := k7m6) (c := k7c6) (by decide +kernel) rfl rfl rfl (by decide +kernel)
set_option maxRecDepth 65536 in
theorem w_c14 : (Jvm.Cond.code ({ cls := "java/lang/String", name := "charAt", desc := "(I)C" } : Jvm.MethodName) jdk_42_method_56_code (2 : Nat) (Option.some Jvm.ClassFile.FieldType.char)).before args0 about1 = true := code_word (m := ⟨7, 3⟩) (meth := k7m3) (c := k7c3) (by decide +kernel) rfl rfl rfl (by decide +kernel)
set_option maxRecDepth 65536 in
theorem w_c15 : (Jvm.Cond.code ({ cls := "java/lang/String", name := "isLatin1", desc := "()Z" } : Jvm.MethodName) jdk_42_method_154_code (1 : Nat) (Option.some Jvm.ClassFile.FieldType.boolean)).before args0 about1 = true := code_word (m := ⟨7, 7⟩) (meth := k7m7) (c := k7c7) (by decide +kernel) rfl rfl rfl (by decide +kernel)
set_option maxRecDepth 65536 in
theorem w_c16 : (Jvm.Cond.code ({ cls := "java/lang/StringLatin1", name := "charAt", desc := "([BI)C" } : Jvm.MethodName) jdk_43_method_2_code (2 : Nat) (Option.some Jvm.ClassFile.FieldType.char)).before args0 about1 = true := code_word (m := ⟨11, 1⟩) (meth := k11m1) (c := k11c1) (by decide +kernel) rfl rfl rfl (by decide +kernel)
set_option maxRecDepth 65536 in
theorem w_c17 : (Jvm.Cond.code ({ cls := "java/lang/String", name := "checkIndex", desc := "(II)V" } : Jvm.MethodName) jdk_42_method_155_code (2 : Nat) (Option.none : Option Jvm.ClassFile.FieldType)).before args0 about1 = true := code_word (m := ⟨7, 8⟩) (meth := k7m8) (c := k7c8) (by decide +kernel) rfl rfl rfl (by decide +kernel)
set_option maxRecDepth 65536 in
theorem w_c18 : (Jvm.Cond.code ({ cls := "jdk/internal/util/Preconditions", name := "checkIndex", desc := "(IILjava/util/function/BiFunction;)I" } : Jvm.MethodName) jdk_41_method_11_code (3 : Nat) (Option.some Jvm.ClassFile.FieldType.int)).before args0 about1 = true := code_word (m := ⟨12, 1⟩) (meth := k12m1) (c := k12c1) (by decide +kernel) rfl rfl rfl (by decide +kernel)
set_option maxRecDepth 65536 in
theorem w_c19 : (Jvm.Cond.code ({ cls := "com/example/arbiter/arbiter/store/SchemaName", name := "isAsciiLetter", desc := "(C)Z" } : Jvm.MethodName) prog_36_method_7_code (1 : Nat) (Option.some Jvm.ClassFile.FieldType.boolean)).before args0 about1 = true := code_word (m := ⟨9, 4⟩) (meth := k9m4) (c := k9c4) (by decide +kernel) rfl rfl rfl (by decide +kernel)
set_option maxRecDepth 65536 in
theorem w_c20 : (Jvm.Cond.code ({ cls := "com/example/arbiter/arbiter/store/SchemaName", name := "<init>", desc := "(Ljava/lang/String;)V" } : Jvm.MethodName) prog_36_method_1_code (2 : Nat) (Option.none : Option Jvm.ClassFile.FieldType)).before args0 about1 = true := code_word (m := ⟨9, 0⟩) (meth := k9m0) (c := k9c0) (by decide +kernel) rfl rfl rfl (by decide +kernel)
set_option maxRecDepth 65536 in
theorem w_c21 : (Jvm.Cond.code ({ cls := "com/example/arbiter/arbiter/store/SchemaName", name := "name", desc := "()Ljava/lang/String;" } : Jvm.MethodName) prog_36_method_3_code (1 : Nat) (Option.some (Jvm.ClassFile.FieldType.object "java/lang/String"))).before args0 about1 = true := code_word (m := ⟨9, 2⟩) (meth := k9m2) (c := k9c2) (by decide +kernel) rfl rfl rfl (by decide +kernel)
set_option maxRecDepth 65536 in
theorem w_c22 : (Jvm.Cond.code ({ cls := "java/lang/String", name := "equals", desc := "(Ljava/lang/Object;)Z" } : Jvm.MethodName) jdk_42_method_66_code (3 : Nat) (Option.some Jvm.ClassFile.FieldType.boolean)).before args0 about1 = true := code_word (m := ⟨7, 4⟩) (meth := k7m4) (c := k7c4) (by decide +kernel) rfl rfl rfl (by decide +kernel)
def codes1 : List Jvm.Cond := [Jvm.Cond.code x code maxLocals ret, Jvm.Cond.code ({ cls := "com/example/arbiter/arbiter/store/SchemaNameOfPinLaw", name := "first", desc := "(I)C" } : Jvm.MethodName) method_2_code (2 : Nat) (Option.some Jvm.ClassFile.FieldType.char), Jvm.Cond.code ({ cls := "com/example/arbiter/arbiter/store/SchemaNameOfPinLaw", name := "rest", desc := "(I)C" } : Jvm.MethodName) method_3_code (2 : Nat) (Option.some Jvm.ClassFile.FieldType.char), Jvm.Cond.code ({ cls := "java/lang/String", name := "<init>", desc := "([C)V" } : Jvm.MethodName) jdk_42_method_3_code (2 : Nat) (Option.none : Option Jvm.ClassFile.FieldType), Jvm.Cond.code ({ cls := "java/lang/String", name := "<init>", desc := "([CIILjava/lang/Void;)V" } : Jvm.MethodName) jdk_42_method_149_code (6 : Nat) (Option.none : Option Jvm.ClassFile.FieldType), Jvm.Cond.code ({ cls := "java/lang/Object", name := "<init>", desc := "()V" } : Jvm.MethodName) object_method_1_code (1 : Nat) (Option.none : Option Jvm.ClassFile.FieldType), Jvm.Cond.code ({ cls := "java/lang/StringUTF16", name := "compress", desc := "([CII)[B" } : Jvm.MethodName) jdk_52_method_16_code (6 : Nat) (Option.some (Jvm.ClassFile.FieldType.array Jvm.ClassFile.FieldType.byte)), Jvm.Cond.code ({ cls := "java/lang/StringUTF16", name := "compress", desc := "([CI[BII)I" } : Jvm.MethodName) jdk_52_method_21_code (7 : Nat) (Option.some Jvm.ClassFile.FieldType.int), Jvm.Cond.code ({ cls := "java/lang/StringUTF16", name := "coderFromArrayLen", desc := "([BI)B" } : Jvm.MethodName) jdk_52_method_15_code (2 : Nat) (Option.some Jvm.ClassFile.FieldType.byte), Jvm.Cond.code ({ cls := "com/example/arbiter/arbiter/store/SchemaName", name := "of", desc := "(Ljava/lang/String;)Lcom/example/arbiter/arbiter/store/SchemaName;" } : Jvm.MethodName) prog_36_method_2_code (1 : Nat) (Option.some (Jvm.ClassFile.FieldType.object "com/example/arbiter/arbiter/store/SchemaName")), Jvm.Cond.code ({ cls := "com/example/arbiter/arbiter/store/SchemaName", name := "checkIdentifier", desc := "(Ljava/lang/String;Ljava/lang/String;)Ljava/lang/String;" } : Jvm.MethodName) prog_36_method_6_code (6 : Nat) (Option.some (Jvm.ClassFile.FieldType.object "java/lang/String")), Jvm.Cond.code ({ cls := "java/util/Objects", name := "requireNonNull", desc := "(Ljava/lang/Object;Ljava/lang/String;)Ljava/lang/Object;" } : Jvm.MethodName) jdk_31_method_11_code (2 : Nat) (Option.some (Jvm.ClassFile.FieldType.object "java/lang/Object")), Jvm.Cond.code ({ cls := "java/lang/String", name := "length", desc := "()I" } : Jvm.MethodName) jdk_42_method_54_code (1 : Nat) (Option.some Jvm.ClassFile.FieldType.int), Jvm.Cond.code ({ cls := "java/lang/String", name := "coder", desc := "()B" } : Jvm.MethodName) jdk_42_method_152_code (1 : Nat) (Option.some Jvm.ClassFile.FieldType.byte), Jvm.Cond.code ({ cls := "java/lang/String", name := "charAt", desc := "(I)C" } : Jvm.MethodName) jdk_42_method_56_code (2 : Nat) (Option.some Jvm.ClassFile.FieldType.char), Jvm.Cond.code ({ cls := "java/lang/String", name := "isLatin1", desc := "()Z" } : Jvm.MethodName) jdk_42_method_154_code (1 : Nat) (Option.some Jvm.ClassFile.FieldType.boolean), Jvm.Cond.code ({ cls := "java/lang/StringLatin1", name := "charAt", desc := "([BI)C" } : Jvm.MethodName) jdk_43_method_2_code (2 : Nat) (Option.some Jvm.ClassFile.FieldType.char), Jvm.Cond.code ({ cls := "java/lang/String", name := "checkIndex", desc := "(II)V" } : Jvm.MethodName) jdk_42_method_155_code (2 : Nat) (Option.none : Option Jvm.ClassFile.FieldType), Jvm.Cond.code ({ cls := "jdk/internal/util/Preconditions", name := "checkIndex", desc := "(IILjava/util/function/BiFunction;)I" } : Jvm.MethodName) jdk_41_method_11_code (3 : Nat) (Option.some Jvm.ClassFile.FieldType.int), Jvm.Cond.code ({ cls := "com/example/arbiter/arbiter/store/SchemaName", name := "isAsciiLetter", desc := "(C)Z" } : Jvm.MethodName) prog_36_method_7_code (1 : Nat) (Option.some Jvm.ClassFile.FieldType.boolean), Jvm.Cond.code ({ cls := "com/example/arbiter/arbiter/store/SchemaName", name := "<init>", desc := "(Ljava/lang/String;)V" } : Jvm.MethodName) prog_36_method_1_code (2 : Nat) (Option.none : Option Jvm.ClassFile.FieldType), Jvm.Cond.code ({ cls := "com/example/arbiter/arbiter/store/SchemaName", name := "name", desc := "()Ljava/lang/String;" } : Jvm.MethodName) prog_36_method_3_code (1 : Nat) (Option.some (Jvm.ClassFile.FieldType.object "java/lang/String")), Jvm.Cond.code ({ cls := "java/lang/String", name := "equals", desc := "(Ljava/lang/Object;)Z" } : Jvm.MethodName) jdk_42_method_66_code (3 : Nat) (Option.some Jvm.ClassFile.FieldType.boolean)]
set_option maxRecDepth 65536 in
theorem codes_eq : words1.filter isCode = codes1 := rfl
theorem w_codes : ∀ c ∈ words1.filter isCode, c.before args0 about1 = true := by
  rw [codes_eq]
  intro c hc
  simp only [codes1, List.mem_cons, List.not_mem_nil, or_false] at hc
  rcases hc with rfl | rfl | rfl | rfl | rfl | rfl | rfl | rfl | rfl | rfl | rfl | rfl | rfl | rfl | rfl | rfl | rfl | rfl | rfl | rfl | rfl | rfl | rfl
  · exact w_c0
  · exact w_c1
  · exact w_c2
  · exact w_c3
  · exact w_c4
  · exact w_c5
  · exact w_c6
  · exact w_c7
  · exact w_c8
  · exact w_c9
  · exact w_c10
  · exact w_c11
  · exact w_c12
  · exact w_c13
  · exact w_c14
  · exact w_c15
  · exact w_c16
  · exact w_c17
  · exact w_c18
  · exact w_c19
  · exact w_c20
  · exact w_c21
  · exact w_c22
set_option maxRecDepth 65536 in
theorem w_t1 : (words1.take 24).all (fun c => isCode c || c.before args0 about1) = true := by decide +kernel
set_option maxRecDepth 65536 in
theorem w_t2 : ((words1.drop 24).take 24).all (fun c => isCode c || c.before args0 about1) = true := by decide +kernel
set_option maxRecDepth 65536 in
theorem w_t3 : (((words1.drop 24).drop 24).take 24).all (fun c => isCode c || c.before args0 about1) = true := by decide +kernel
set_option maxRecDepth 65536 in
theorem w_t4 : ((((words1.drop 24).drop 24).drop 24).take 24).all (fun c => isCode c || c.before args0 about1) = true := by decide +kernel
set_option maxRecDepth 65536 in
theorem w_t5 : ((((words1.drop 24).drop 24).drop 24).drop 24).all (fun c => isCode c || c.before args0 about1) = true := by decide +kernel
theorem w_tables : (allAtoms (Jvm.Cond.code x code maxLocals ret :: tables_1)).before args0 about1 = true := by
  rw [allAtoms_all]
  show words1.all (fun c => c.before args0 about1) = true
  refine all_split ?_ w_codes
  rw [← List.take_append_drop 24 words1, List.all_append, w_t1, ← List.take_append_drop 24 (words1.drop 24), List.all_append, w_t2, ← List.take_append_drop 24 ((words1.drop 24).drop 24), List.all_append, w_t3, ← List.take_append_drop 24 (((words1.drop 24).drop 24).drop 24), List.all_append, w_t4, w_t5]
  rfl
set_option maxRecDepth 65536 in
theorem w_rest : rest_1_c.before args0 about1 = true := by decide +kernel
set_option maxRecDepth 65536 in
theorem w_case : (Jvm.Cond.and given_1 narrow_1).before args0 about1 = true := by decide +kernel
theorem w_applies : (headSpec (Jvm.Cond.code x code maxLocals ret :: tables_1) room_1).applies x e0.platform about1 = true :=
  (Spec.applies_iff w_frames).mpr ⟨w_running, w_runnable, w_alone, w_named, w_hears, w_ripe, w_room, w_tables⟩
theorem atStart : AtStart classFile x code maxLocals ret World_1 tables_1 room_1 Calls_1 rest_1 Pre_1 launch0 p0 e0 about1 theMethod args0 below0 :=
  ⟨lists_1, trivial, launch0.admits_env _ _ _, launch0.least_env, fairChoices_fair.cas, fairChoices_fair.clock, w_frames, w_args, w_heap, w_applies, trivial, w_rest, w_case⟩
end start1
theorem witness_1 : WitnessClaimed_1 := ⟨start1.p0, start1.e0, start1.about1, start1.theMethod, start1.args0, start1.below0, start1.atStart⟩
end Jvm.Pilot.@@N@@
