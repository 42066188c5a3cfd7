import JvmDerived
import JvmDerived.Pilot.@@N@@Statement
import JvmDerived.Pilot.@@N@@Code
set_option linter.unusedVariables false
set_option linter.unusedSimpArgs false
/- laws to paste: Road.backV (cut by pick.py; bodies as the Statement names them) -/
namespace Jvm.Pilot.@@N@@
namespace StrChars
open Jvm Sem ClassFile Op Lib Jvm.Stand Jvm.Free.XT Jvm.Free.ALB Jvm.Free.JM Jvm.Free
open Jvm.Lib.Cold (StaticIs)
/-- a char array whose places are chars -/
def Ch (a : Addr) (A : Cell) (U : State) : Prop := Arr .char a A U ∧ Typed .char A
theorem Ch.mv {a : Addr} {A : Cell} {U U' : State} (h : Ch a A U) (hal : U.vm.Alike U'.vm) (hh : U'.heap = U.heap) : Ch a A U' := ⟨h.1.mv hal hh, h.2⟩
theorem Ch.keep {a : Addr} {A : Cell} {U U' : State} (h : Ch a A U) (hal : U.vm.Alike U'.vm) (hk : U'.heap[a]? = some A) : Ch a A U' := ⟨h.1.keep hal hk, h.2⟩
/-- what place i of a char[]'s cell holds -/
def cv (A : Cell) (i : Nat) : Int32 := match A.slots[i]? with | some (.int x) => x | _ => 0
theorem Ch.get {a : Addr} {A : Cell} {U : State} (h : Ch a A U) {i : Nat} (hi : i < A.slots.size) : A.slots[i]? = some (.int (cv A i)) := by
  have e := Array.getElem?_eq_getElem hi
  have f := h.2 i _ e
  unfold cv; rw [e]
  generalize A.slots[i] = v at f
  cases v <;> simp [fits] at f ⊢
/-- the byte that i2b leaves of a char -/
def lo8 (x : Int32) : Int32 := x.toInt8.toInt32
theorem fits_lo8 (y : Int32) : fits .byte (.int (lo8 y)) = true := by
  have h1 := y.toInt8.le_toInt
  have h2 := y.toInt8.toInt_lt
  simp only [lo8, fits, Bool.and_eq_true, decide_eq_true_eq, Int32.le_iff_toInt_le, Int8.toInt_toInt32, show (-128 : Int32).toInt = -128 from by decide, show (127 : Int32).toInt = 127 from by decide]
  omega
/-- A' is A but that each place j of lo .. hi - 1 holds f j -/
def Laid (A A' : Cell) (lo hi : Nat) (f : Nat → Value) : Prop := A'.cls = A.cls ∧ A'.vm = A.vm ∧ A'.slots.size = A.slots.size ∧ ∀ i, A'.slots[i]? = if lo ≤ i ∧ i < hi then some (f i) else A.slots[i]?
theorem Laid.zero (A : Cell) (lo : Nat) (f : Nat → Value) : Laid A A lo (lo + 0) f := ⟨rfl, rfl, rfl, fun i => by rw [if_neg (by omega)]⟩
theorem Laid.step {A Ak : Cell} {lo k : Nat} {f : Nat → Value} {v : Value} (h : Laid A Ak lo k f) (hlo : lo ≤ k) (hk : k < Ak.slots.size) (hv : v = f k) : Laid A (Ak.setSlot k v) lo (k + 1) f := by
  refine ⟨h.1, h.2.1, by simpa [Cell.setSlot] using h.2.2.1, fun i => ?_⟩
  by_cases e : k = i
  · subst e; rw [Cell.slots_setSlot_self v hk, if_pos (by omega), hv]
  · rw [Cell.slots_setSlot_ne v e, h.2.2.2 i]
    by_cases q : lo ≤ i ∧ i < k
    · rw [if_pos q, if_pos (by omega)]
    · rw [if_neg q, if_neg (by omega)]
def U16 : String := "java/lang/StringUTF16"
namespace Cmp5
def yN : MethodName := ⟨"java/lang/StringUTF16", "compress", "([CI[BII)I"⟩
abbrev yB : ByteArray := jdk_52_method_21_code
theorem d0 : decode yB 0 = .ok (.iconst 0, 1) := by decide +kernel
theorem d1 : decode yB 1 = .ok (.istore 5, 2) := by decide +kernel
theorem d3 : decode yB 3 = .ok (.iload 5, 2) := by decide +kernel
theorem d5 : decode yB 5 = .ok (.iload 4, 2) := by decide +kernel
theorem d7 : decode yB 7 = .ok (.if_icmp (.ge) 37, 3) := by decide +kernel
theorem d10 : decode yB 10 = .ok (.aload_n 0, 1) := by decide +kernel
theorem d11 : decode yB 11 = .ok (.iload_n 1, 1) := by decide +kernel
theorem d12 : decode yB 12 = .ok (.caload, 1) := by decide +kernel
theorem d13 : decode yB 13 = .ok (.istore 6, 2) := by decide +kernel
theorem d15 : decode yB 15 = .ok (.iload 6, 2) := by decide +kernel
theorem d17 : decode yB 17 = .ok (.sipush 255, 3) := by decide +kernel
theorem d20 : decode yB 20 = .ok (.if_icmp (.le) 6, 3) := by decide +kernel
theorem d26 : decode yB 26 = .ok (.aload_n 2, 1) := by decide +kernel
theorem d27 : decode yB 27 = .ok (.iload_n 3, 1) := by decide +kernel
theorem d28 : decode yB 28 = .ok (.iload 6, 2) := by decide +kernel
theorem d30 : decode yB 30 = .ok (.i2b, 1) := by decide +kernel
theorem d31 : decode yB 31 = .ok (.bastore, 1) := by decide +kernel
theorem d32 : decode yB 32 = .ok (.iinc 1 1, 3) := by decide +kernel
theorem d35 : decode yB 35 = .ok (.iinc 3 1, 3) := by decide +kernel
theorem d38 : decode yB 38 = .ok (.iinc 5 1, 3) := by decide +kernel
theorem d41 : decode yB 41 = .ok (.goto (-38), 3) := by decide +kernel
theorem d44 : decode yB 44 = .ok (.iload 4, 2) := by decide +kernel
theorem d46 : decode yB 46 = .ok (.ireturn, 1) := by decide +kernel
def site : List Cond := []
def tab : Cond := tabOf yN yB 7 (some .int) site
def P (b : Addr) (A : Cell) (d : Addr) (B : Cell) (o q len : Nat) (args : Array Value) (s : State) : Prop := args = #[.ref b, .int (Int32.ofNat o), .ref d, .int (Int32.ofNat q), .int (Int32.ofNat len)] ∧ Ch b A s ∧ Arr .byte d B s ∧ b ≠ d ∧ o + len ≤ A.slots.size ∧ q + len ≤ B.slots.size ∧ ∀ i, i < len → ¬ 255 < cv A (o + i)
def E (b : Addr) (A : Cell) (d : Addr) (B : Cell) (o q len : Nat) (r : Option Value) (s u : State) : Prop := r = some (.int (Int32.ofNat len)) ∧ ∃ B', Put d B' s u ∧ Laid B B' q (q + len) (fun j => Value.int (lo8 (cv A (o + (j - q)))))
/-- no char of the range above 255: len; the places written hold each char's low byte -/
theorem law (l : Launch) (b : Addr) (A : Cell) (d : Addr) (B : Cell) (o q len : Nat) : Law l yN 5 5 0 0 yB 7 (some .int) site (P b A d B o q len) (E b A d B o q len) (copyLocs d q len) 0 0 := by
  refine Law.of_walk (plainFor_of_name (by decide +kernel)) (by decide +kernel) (by decide +kernel) (by decide) (fun _ _ h => by rw [h.1]; rfl) (fun _ U U' hal hh h => ⟨h.1, h.2.1.mv hal hh, h.2.2.1.mv hal hh, h.2.2.2⟩) (fun r U U' V V' h1 hal h2 h => ⟨h.1, h.2.elim fun B' q => ⟨B', q.1.mv h1 h2, q.2⟩⟩) ?_
  intro p e s m args below meth c s₁ X0 hexec hbytes hml hret hlk hnm hown hh0 W hP
  obtain ⟨rfl, hA, hB, hne, l1, l2, hp⟩ := hP
  have c1 : Steps p.tables e below (s₁.setTop (entryFrame m #[.ref b, .int (Int32.ofNat o), .ref d, .int (Int32.ofNat q), .int (Int32.ofNat len)] 7)) (s₁.setTop (mkF m 0 #[.val (.ref b), .val (.int (Int32.ofNat o)), .val (.ref d), .val (.int (Int32.ofNat q)), .val (.int (Int32.ofNat len)), .unset, .unset] [])) := entry rfl
  have hA0 := hA.1.mv X0.warmed.alike hh0
  have hB0 := hB.mv X0.warmed.alike hh0
  have a31 := hA.1.2.2.2
  have c2 : Steps p.tables e below (s₁.setTop (entryFrame m #[.ref b, .int (Int32.ofNat o), .ref d, .int (Int32.ofNat q), .int (Int32.ofNat len)] 7)) (s₁.setTop (mkF m 3 #[.val (.ref b), .val (.int (Int32.ofNat o)), .val (.ref d), .val (.int (Int32.ofNat q)), .val (.int (Int32.ofNat len)), .val (.int 0), .unset] [])) := c1.trans (by
    refine iconstV X0.here hexec rfl 0 (hb hbytes d0) (by decide) ?_
    refine XS.istore X0.here hexec rfl (hb hbytes d1) rfl rfl ?_
    exact Steps.refl _)
  have loop : ∀ (r i : Nat), i + r = len → ∀ (z : Slot), (z = .unset ∨ ∃ w, z = .val w ∧ w.category = 1) → ∀ (Tl : State) (Bk : Cell), Stand p l e { frames := 0, locals := 0, cells := 0, slots := 0 } s m #[.ref b, .int (Int32.ofNat o), .ref d, .int (Int32.ofNat q), .int (Int32.ofNat len)] below meth c Tl ([] ++ copyLocs d q i) 0 0 → Put d Bk s₁ Tl → Laid B Bk q (q + i) (fun j => Value.int (lo8 (cv A (o + (j - q))))) →
      Steps p.tables e below (s₁.setTop (entryFrame m #[.ref b, .int (Int32.ofNat o), .ref d, .int (Int32.ofNat q), .int (Int32.ofNat len)] 7)) (Tl.setTop (mkF m 3 #[.val (.ref b), .val (.int (Int32.ofNat (o + i))), .val (.ref d), .val (.int (Int32.ofNat (q + i))), .val (.int (Int32.ofNat len)), .val (.int (Int32.ofNat i)), z] [])) → ∃ (T' : State) (B' : Cell) (z' : Slot), Stand p l e { frames := 0, locals := 0, cells := 0, slots := 0 } s m #[.ref b, .int (Int32.ofNat o), .ref d, .int (Int32.ofNat q), .int (Int32.ofNat len)] below meth c T' ([] ++ copyLocs d q len) 0 0 ∧ Put d B' s₁ T' ∧ Laid B B' q (q + len) (fun j => Value.int (lo8 (cv A (o + (j - q))))) ∧
      Steps p.tables e below (s₁.setTop (entryFrame m #[.ref b, .int (Int32.ofNat o), .ref d, .int (Int32.ofNat q), .int (Int32.ofNat len)] 7)) (T'.setTop (mkF m 3 #[.val (.ref b), .val (.int (Int32.ofNat (o + len))), .val (.ref d), .val (.int (Int32.ofNat (q + len))), .val (.int (Int32.ofNat len)), .val (.int (Int32.ofNat len)), z'] [])) := by
    intro r
    induction r with
    | zero =>
      intro i hi z hz Tl Bk Xl pl fl cl
      have hil : i = len := by omega
      rw [hil] at Xl fl cl
      exact ⟨Tl, Bk, z, Xl, pl, fl, cl⟩
    | succ r ih =>
      intro i hi z hz Tl Bk Xl pl fl cl
      have all := X0.warmed.alike.symm.trans Xl.warmed.alike
      have hAl := hA0.keep all (pl.other hne hA0.1)
      have hBk := hB0.like all pl.1 fl.1 fl.2.1 fl.2.2.1
      have hlt : q + i < Bk.slots.size := by rw [fl.2.2.1]; omega
      have c3 : Steps p.tables e below (s₁.setTop (entryFrame m #[.ref b, .int (Int32.ofNat o), .ref d, .int (Int32.ofNat q), .int (Int32.ofNat len)] 7)) (Tl.setTop (mkF m 12 #[.val (.ref b), .val (.int (Int32.ofNat (o + i))), .val (.ref d), .val (.int (Int32.ofNat (q + i))), .val (.int (Int32.ofNat len)), .val (.int (Int32.ofNat i)), z] [.int (Int32.ofNat (o + i)), .ref b])) := cl.trans (by
        refine XS.iload Xl.here hexec rfl (hb hbytes d3) rfl ?_
        refine XS.iload Xl.here hexec rfl (hb hbytes d5) rfl ?_
        refine XS.icmpNo Xl.here hexec rfl (hb hbytes d7) rfl (ii_ge_f (lt32 (by omega) (by omega))) ?_
        refine XS.aloadN Xl.here hexec rfl (hb hbytes d10) rfl rfl ?_
        refine XS.iloadN Xl.here hexec rfl (hb hbytes d11) rfl ?_
        exact Steps.refl _)
      have c4 : Steps p.tables e below (s₁.setTop (entryFrame m #[.ref b, .int (Int32.ofNat o), .ref d, .int (Int32.ofNat q), .int (Int32.ofNat len)] 7)) (Tl.setTop (mkF m 13 #[.val (.ref b), .val (.int (Int32.ofNat (o + i))), .val (.ref d), .val (.int (Int32.ofNat (q + i))), .val (.int (Int32.ofNat len)), .val (.int (Int32.ofNat i)), z] [.int (cv A (o + i))])) := c3.trans (by
        refine Xl.aget hexec hAl rfl (hA.get (i := o + i) (by omega)) rfl rfl (hb hbytes d12) ?_
        exact Steps.refl _)
      have c5 : Steps p.tables e below (s₁.setTop (entryFrame m #[.ref b, .int (Int32.ofNat o), .ref d, .int (Int32.ofNat q), .int (Int32.ofNat len)] 7)) (Tl.setTop (mkF m 15 #[.val (.ref b), .val (.int (Int32.ofNat (o + i))), .val (.ref d), .val (.int (Int32.ofNat (q + i))), .val (.int (Int32.ofNat len)), .val (.int (Int32.ofNat i)), .val (.int (cv A (o + i)))] [])) := c4.trans (by
        refine XS.istoreS Xl.here hexec rfl (hb hbytes d13) rfl rfl hz ?_
        exact Steps.refl _)
      have c6 : Steps p.tables e below (s₁.setTop (entryFrame m #[.ref b, .int (Int32.ofNat o), .ref d, .int (Int32.ofNat q), .int (Int32.ofNat len)] 7)) (Tl.setTop (mkF m 31 #[.val (.ref b), .val (.int (Int32.ofNat (o + i))), .val (.ref d), .val (.int (Int32.ofNat (q + i))), .val (.int (Int32.ofNat len)), .val (.int (Int32.ofNat i)), .val (.int (cv A (o + i)))] [.int (lo8 (cv A (o + i))), .int (Int32.ofNat (q + i)), .ref d])) := c5.trans (by
        refine XS.iload Xl.here hexec rfl (hb hbytes d15) rfl ?_
        refine sipushV Xl.here hexec rfl 255 (hb hbytes d17) (by decide) ?_
        refine XS.icmpYes Xl.here hexec rfl (pc0 := 20) rfl (hb hbytes d20) rfl (ii_le_t (hp i (by omega))) (by decide) rfl ?_
        refine XS.aloadN Xl.here hexec rfl (hb hbytes d26) rfl rfl ?_
        refine XS.iloadN Xl.here hexec rfl (hb hbytes d27) rfl ?_
        refine XS.iload Xl.here hexec rfl (hb hbytes d28) rfl ?_
        refine i2b Xl.here hexec rfl (hb hbytes d30) rfl ?_
        exact Steps.refl _)
      obtain ⟨T7, X7, p7, st7⟩ := Xl.aput hexec hBk rfl hlt rfl (fits_lo8 (cv A (o + i))) (g := (mkF m 31 #[.val (.ref b), .val (.int (Int32.ofNat (o + i))), .val (.ref d), .val (.int (Int32.ofNat (q + i))), .val (.int (Int32.ofNat len)), .val (.int (Int32.ofNat i)), .val (.int (cv A (o + i)))] [.int (lo8 (cv A (o + i))), .int (Int32.ofNat (q + i)), .ref d])) rfl (rest := []) rfl (hb hbytes d31)
      have c8 : Steps p.tables e below (s₁.setTop (entryFrame m #[.ref b, .int (Int32.ofNat o), .ref d, .int (Int32.ofNat q), .int (Int32.ofNat len)] 7)) (T7.setTop (mkF m 32 #[.val (.ref b), .val (.int (Int32.ofNat (o + i))), .val (.ref d), .val (.int (Int32.ofNat (q + i))), .val (.int (Int32.ofNat len)), .val (.int (Int32.ofNat i)), .val (.int (cv A (o + i)))] [])) := c6.trans (st7 _ (Steps.refl _))
      have c9 : Steps p.tables e below (s₁.setTop (entryFrame m #[.ref b, .int (Int32.ofNat o), .ref d, .int (Int32.ofNat q), .int (Int32.ofNat len)] 7)) (T7.setTop (mkF m 3 #[.val (.ref b), .val (.int (Int32.ofNat (o + i) + 1)), .val (.ref d), .val (.int (Int32.ofNat (q + i) + 1)), .val (.int (Int32.ofNat len)), .val (.int (Int32.ofNat i + 1)), .val (.int (cv A (o + i)))] [])) := c8.trans (by
        refine iincV X7.here hexec rfl 1 (hb hbytes d32) (by decide) rfl rfl ?_
        refine iincV X7.here hexec rfl 1 (hb hbytes d35) (by decide) rfl rfl ?_
        refine iincV X7.here hexec rfl 1 (hb hbytes d38) (by decide) rfl rfl ?_
        refine XS.goto X7.here hexec rfl (pc0 := 41) rfl (hb hbytes d41) (by decide) rfl ?_
        exact Steps.refl _)
      have c10 : Steps p.tables e below (s₁.setTop (entryFrame m #[.ref b, .int (Int32.ofNat o), .ref d, .int (Int32.ofNat q), .int (Int32.ofNat len)] 7)) (T7.setTop (mkF m 3 #[.val (.ref b), .val (.int (Int32.ofNat (o + (i + 1)))), .val (.ref d), .val (.int (Int32.ofNat (q + (i + 1)))), .val (.int (Int32.ofNat len)), .val (.int (Int32.ofNat (i + 1))), .val (.int (cv A (o + i)))] [])) := by
        have := c9
        rw [succ32, succ32, succ32] at this
        exact this
      exact ih (i + 1) (by omega) _ (Or.inr ⟨_, rfl, rfl⟩) T7 _ (by rw [copyLocs_step, ← List.append_assoc]; exact X7) (pl.trans p7) (fl.step (by omega) hlt (by simp)) c10
  obtain ⟨T9, B9, z9, X9, p9, f9, g9⟩ := loop len 0 (by omega) .unset (Or.inl rfl) s₁ B (by simpa [copyLocs] using X0) ⟨hB0.1, fun _ _ => rfl, rfl⟩ (Laid.zero _ _ _) c2
  have c11 : Steps p.tables e below (s₁.setTop (entryFrame m #[.ref b, .int (Int32.ofNat o), .ref d, .int (Int32.ofNat q), .int (Int32.ofNat len)] 7)) (T9.setTop (mkF m 46 #[.val (.ref b), .val (.int (Int32.ofNat (o + len))), .val (.ref d), .val (.int (Int32.ofNat (q + len))), .val (.int (Int32.ofNat len)), .val (.int (Int32.ofNat len)), z9] [.int (Int32.ofNat len)])) := g9.trans (by
    refine XS.iload X9.here hexec rfl (hb hbytes d3) rfl ?_
    refine XS.iload X9.here hexec rfl (hb hbytes d5) rfl ?_
    refine XS.icmpYes X9.here hexec rfl (pc0 := 7) rfl (hb hbytes d7) rfl (ii_ge_t (nlt32 (by omega) (Nat.le_refl _))) (by decide) rfl ?_
    refine XS.iload X9.here hexec rfl (hb hbytes d44) rfl ?_
    exact Steps.refl _)
  exact ⟨T9, some (.int (Int32.ofNat len)), _, _, _, X9, by simp, rfl, rfl, (fun h => by cases h), ⟨rfl, B9, p9.from hh0, f9⟩, fun fs hl => c11.trans (X9.ireturnOut hexec hret rfl (Or.inl rfl) (hb hbytes d46) hl)⟩
end Cmp5
namespace Cmp3
def yN : MethodName := ⟨"java/lang/StringUTF16", "compress", "([CII)[B"⟩
abbrev yB : ByteArray := jdk_52_method_16_code
theorem d0 : decode yB 0 = .ok (.iload_n 2, 1) := by decide +kernel
theorem d1 : decode yB 1 = .ok (.newarray .byte, 2) := by decide +kernel
theorem d3 : decode yB 3 = .ok (.astore_n 3, 1) := by decide +kernel
theorem d4 : decode yB 4 = .ok (.aload_n 0, 1) := by decide +kernel
theorem d5 : decode yB 5 = .ok (.iload_n 1, 1) := by decide +kernel
theorem d6 : decode yB 6 = .ok (.aload_n 3, 1) := by decide +kernel
theorem d7 : decode yB 7 = .ok (.iconst 0, 1) := by decide +kernel
theorem d8 : decode yB 8 = .ok (.iload_n 2, 1) := by decide +kernel
theorem d9 : decode yB 9 = .ok (.invokestatic 115, 3) := by decide +kernel
theorem d12 : decode yB 12 = .ok (.istore 4, 2) := by decide +kernel
theorem d14 : decode yB 14 = .ok (.iload 4, 2) := by decide +kernel
theorem d16 : decode yB 16 = .ok (.iload_n 2, 1) := by decide +kernel
theorem d17 : decode yB 17 = .ok (.if_icmp (.eq) 40, 3) := by decide +kernel
theorem d57 : decode yB 57 = .ok (.aload_n 3, 1) := by decide +kernel
theorem d58 : decode yB 58 = .ok (.areturn, 1) := by decide +kernel
def site : List Cond := [.arrayClass .byte, Cmp5.tab] ++ staticW U16 115 Cmp5.yN
def tab : Cond := tabOf yN yB 6 (some (.array .byte)) site
def P (b : Addr) (A : Cell) (o len : Nat) (args : Array Value) (s : State) : Prop := args = #[.ref b, .int (Int32.ofNat o), .int (Int32.ofNat len)] ∧ Ch b A s ∧ o + len ≤ A.slots.size ∧ len ≤ 536870912 ∧ ∀ i, i < len → ¬ 255 < cv A (o + i)
def E (b : Addr) (A : Cell) (o len : Nat) (r : Option Value) (s u : State) : Prop := NewArr .byte "[B" len (fun j => .int (lo8 (cv A (o + j)))) r s u ∧ u.heap.size = s.heap.size + 1
/-- no char of the range above 255: a new byte[] of their low bytes -/
theorem law (l : Launch) (b : Addr) (A : Cell) (o len : Nat) : Law l yN 3 3 1 18 yB 6 (some (.array .byte)) site (P b A o len) (E b A o len) [] 1 len := by
  refine Law.of_walk (plainFor_of_name (by decide +kernel)) (by decide +kernel) (by decide +kernel) (by decide) (fun _ _ h => by rw [h.1]; rfl) (fun _ U U' hal hh h => ⟨h.1, h.2.1.mv hal hh, h.2.2⟩) (fun r U U' V V' h1 hal h2 h => ⟨NewArr.mv r U U' V V' h1 hal h2 h.1, by rw [h1, h2]; exact h.2⟩) ?_
  intro p e s m args below meth c s₁ X0 hexec hbytes hml hret hlk hnm hown hh0 W hP
  obtain ⟨rfl, hA, l1, l2, hp⟩ := hP
  have a31 := hA.1.2.2.2
  have c1 : Steps p.tables e below (s₁.setTop (entryFrame m #[.ref b, .int (Int32.ofNat o), .int (Int32.ofNat len)] 6)) (s₁.setTop (mkF m 0 #[.val (.ref b), .val (.int (Int32.ofNat o)), .val (.int (Int32.ofNat len)), .unset, .unset, .unset] [])) := entry rfl
  have c2 : Steps p.tables e below (s₁.setTop (entryFrame m #[.ref b, .int (Int32.ofNat o), .int (Int32.ofNat len)] 6)) (s₁.setTop (mkF m 1 #[.val (.ref b), .val (.int (Int32.ofNat o)), .val (.int (Int32.ofNat len)), .unset, .unset, .unset] [.int (Int32.ofNat len)])) := c1.trans (by
    refine XS.iloadN X0.here hexec rfl (hb hbytes d0) rfl ?_
    exact Steps.refl _)
  obtain ⟨T3, B3, X3, ba3, bs3, bv3, bh3, bf3, st3⟩ := X0.anew hexec (atype := .byte) (wk W (.arrayClass .byte)) rfl (by show len * 1 ≤ _; omega) (by omega) (g := (mkF m 1 #[.val (.ref b), .val (.int (Int32.ofNat o)), .val (.int (Int32.ofNat len)), .unset, .unset, .unset] [.int (Int32.ofNat len)])) rfl (hb hbytes d1) (rest := []) rfl (Nat.le_refl _) (by show 0 + len ≤ len; omega)
  rw [hh0] at ba3 st3
  have kp3 : XT.Kept s T3 := (XT.Kept.of_eq hh0).push bh3
  have hA3 := hA.keep X3.warmed.alike (kp3 _ _ hA.1.1)
  have hne : b ≠ s.heap.size := hA.1.ne
  have c4 : Steps p.tables e below (s₁.setTop (entryFrame m #[.ref b, .int (Int32.ofNat o), .int (Int32.ofNat len)] 6)) (T3.setTop (mkF m 3 #[.val (.ref b), .val (.int (Int32.ofNat o)), .val (.int (Int32.ofNat len)), .unset, .unset, .unset] [.ref s.heap.size])) := c2.trans (st3 _ (Steps.refl _))
  have c5 : Steps p.tables e below (s₁.setTop (entryFrame m #[.ref b, .int (Int32.ofNat o), .int (Int32.ofNat len)] 6)) (T3.setTop (mkF m 9 #[.val (.ref b), .val (.int (Int32.ofNat o)), .val (.int (Int32.ofNat len)), .val (.ref s.heap.size), .unset, .unset] [.int (Int32.ofNat len), .int 0, .ref s.heap.size, .int (Int32.ofNat o), .ref b])) := c4.trans (by
    refine XS.astoreN X3.here hexec rfl (hb hbytes d3) rfl rfl rfl ?_
    refine XS.aloadN X3.here hexec rfl (hb hbytes d4) rfl rfl ?_
    refine XS.iloadN X3.here hexec rfl (hb hbytes d5) rfl ?_
    refine XS.aloadN X3.here hexec rfl (hb hbytes d6) rfl rfl ?_
    refine iconstV X3.here hexec rfl 0 (hb hbytes d7) (by decide) ?_
    refine XS.iloadN X3.here hexec rfl (hb hbytes d8) rfl ?_
    exact Steps.refl _)
  obtain ⟨v6, T6, X6, E6, g6⟩ := X3.callS hexec (Cmp5.law l b A s.heap.size B3 o 0 len) hown (wks W (staticW U16 115 Cmp5.yN)) (wk W Cmp5.tab) (W := 0) (Nat.le_of_ble_eq_true rfl) (Nat.le_of_ble_eq_true rfl) (Nat.le_refl _) (by show 0 + len + 0 ≤ len; omega) (g := (mkF m 9 #[.val (.ref b), .val (.int (Int32.ofNat o)), .val (.int (Int32.ofNat len)), .val (.ref s.heap.size), .unset, .unset] [.int (Int32.ofNat len), .int (Int32.ofNat 0), .ref s.heap.size, .int (Int32.ofNat o), .ref b])) rfl (by rw [hml]; rfl) c5 (argsL := [.ref b, .int (Int32.ofNat o), .ref s.heap.size, .int (Int32.ofNat 0), .int (Int32.ofNat len)]) (rest := []) rfl rfl (by show 2 * 0 + 0 ≤ _; decide) (hb hbytes d9) (⟨rfl, hA3, ba3, hne, l1, by rw [bs3]; simp, hp⟩)
  obtain ⟨rfl, B6, p6, f6⟩ := E6
  have c7 : Steps p.tables e below (s₁.setTop (entryFrame m #[.ref b, .int (Int32.ofNat o), .int (Int32.ofNat len)] 6)) (T6.setTop (mkF m 12 #[.val (.ref b), .val (.int (Int32.ofNat o)), .val (.int (Int32.ofNat len)), .val (.ref s.heap.size), .unset, .unset] [.int (Int32.ofNat len)])) := g6
  have c8 : Steps p.tables e below (s₁.setTop (entryFrame m #[.ref b, .int (Int32.ofNat o), .int (Int32.ofNat len)] 6)) (T6.setTop (mkF m 58 #[.val (.ref b), .val (.int (Int32.ofNat o)), .val (.int (Int32.ofNat len)), .val (.ref s.heap.size), .val (.int (Int32.ofNat len)), .unset] [.ref s.heap.size])) := c7.trans (by
    refine XS.istore X6.here hexec rfl (hb hbytes d12) rfl rfl ?_
    refine XS.iload X6.here hexec rfl (hb hbytes d14) rfl ?_
    refine XS.iloadN X6.here hexec rfl (hb hbytes d16) rfl ?_
    refine XS.icmpYes X6.here hexec rfl (pc0 := 17) rfl (hb hbytes d17) rfl (ii_eq_t rfl) (by decide) rfl ?_
    refine XS.aloadN X6.here hexec rfl (hb hbytes d57) rfl rfl ?_
    exact Steps.refl _)
  have X8 := X6.wide (L' := []) (cells' := 1) (slots' := len) (fun x hx hlt => by
    simp only [List.nil_append, copyLocs, List.mem_map, List.mem_range] at hx
    obtain ⟨i, -, rfl⟩ := hx
    exact absurd hlt (Nat.lt_irrefl _)) (Nat.le_refl _) (by omega)
  exact ⟨T6, some (.ref s.heap.size), _, _, _, X8, rfl, rfl, rfl, (fun h => by cases h), ⟨⟨rfl, B6, ba3.like (X3.warmed.alike.symm.trans X6.warmed.alike) p6.1 f6.1 f6.2.1 f6.2.2.1, f6.2.1.trans bv3, by rw [X6.warmed.alike.findClass, f6.1]; exact bf3, by rw [f6.2.2.1, bs3]; simp, fun j hj => by rw [f6.2.2.2 j, if_pos (by omega)]; rfl, kp3.put p6 (Nat.le_refl _)⟩, by rw [p6.2.2, bh3, hh0]; simp⟩, fun fs hl => c8.trans (X8.areturnOut hexec rfl hret rfl (hb hbytes d58) hl)⟩
end Cmp3
namespace CodL
def yN : MethodName := ⟨"java/lang/StringUTF16", "coderFromArrayLen", "([BI)B"⟩
abbrev yB : ByteArray := jdk_52_method_15_code
theorem d0 : decode yB 0 = .ok (.iload_n 1, 1) := by decide +kernel
theorem d1 : decode yB 1 = .ok (.aload_n 0, 1) := by decide +kernel
theorem d2 : decode yB 2 = .ok (.arraylength, 1) := by decide +kernel
theorem d3 : decode yB 3 = .ok (.isub, 1) := by decide +kernel
theorem d4 : decode yB 4 = .ok (.bipush 31, 2) := by decide +kernel
theorem d6 : decode yB 6 = .ok (.iushr, 1) := by decide +kernel
theorem d7 : decode yB 7 = .ok (.i2b, 1) := by decide +kernel
theorem d8 : decode yB 8 = .ok (.ireturn, 1) := by decide +kernel
def site : List Cond := []
def tab : Cond := tabOf yN yB 2 (some .byte) site
def P (d : Addr) (B : Cell) (args : Array Value) (s : State) : Prop := args = #[.ref d, .int (Int32.ofNat B.slots.size)] ∧ Arr .byte d B s
def E (r : Option Value) (s u : State) : Prop := XT.PureE (some (.int 0)) r s u
/-- an array as long as the number of chars: LATIN1 -/
theorem law (l : Launch) (d : Addr) (B : Cell) : Law l yN 2 2 0 0 yB 2 (some .byte) site (P d B) E [] 0 0 := by
  refine Law.of_walk (plainFor_of_name (by decide +kernel)) (by decide +kernel) (by decide +kernel) (by decide) (fun _ _ h => by rw [h.1]; rfl) (fun _ U U' hal hh h => ⟨h.1, h.2.mv hal hh⟩) (fun r U U' V V' h1 hal h2 h => XT.PureE.mv r U U' V V' h1 hal h2 h) ?_
  intro p e s m args below meth c s₁ X0 hexec hbytes hml hret hlk hnm hown hh0 W hP
  obtain ⟨rfl, hB⟩ := hP
  have hB0 := hB.mv X0.warmed.alike hh0
  have c1 : Steps p.tables e below (s₁.setTop (entryFrame m #[.ref d, .int (Int32.ofNat B.slots.size)] 2)) (s₁.setTop (mkF m 0 #[.val (.ref d), .val (.int (Int32.ofNat B.slots.size))] [])) := entry rfl
  have c2 : Steps p.tables e below (s₁.setTop (entryFrame m #[.ref d, .int (Int32.ofNat B.slots.size)] 2)) (s₁.setTop (mkF m 2 #[.val (.ref d), .val (.int (Int32.ofNat B.slots.size))] [.ref d, .int (Int32.ofNat B.slots.size)])) := c1.trans (by
    refine XS.iloadN X0.here hexec rfl (hb hbytes d0) rfl ?_
    refine XS.aloadN X0.here hexec rfl (hb hbytes d1) rfl rfl ?_
    exact Steps.refl _)
  have c3 : Steps p.tables e below (s₁.setTop (entryFrame m #[.ref d, .int (Int32.ofNat B.slots.size)] 2)) (s₁.setTop (mkF m 8 #[.val (.ref d), .val (.int (Int32.ofNat B.slots.size))] [.int (lo8 (ushr (Int32.ofNat B.slots.size - Int32.ofNat B.slots.size) 31))])) := c2.trans (by
    refine X0.alen hexec hB0 rfl rfl (hb hbytes d2) ?_
    refine XS.isub X0.here hexec rfl (hb hbytes d3) rfl ?_
    refine bipushV X0.here hexec rfl 31 (hb hbytes d4) (by decide) ?_
    refine iushr X0.here hexec rfl (hb hbytes d6) rfl ?_
    refine i2b X0.here hexec rfl (hb hbytes d7) rfl ?_
    exact Steps.refl _)
  have e0 : lo8 (ushr (Int32.ofNat B.slots.size - Int32.ofNat B.slots.size) 31) = 0 := by rw [Int32.sub_self]; decide
  rw [e0] at c3
  exact ⟨s₁, some (.int 0), _, _, _, X0, rfl, rfl, rfl, (fun h => by cases h), ⟨rfl, hh0⟩, fun fs hl => c3.trans (X0.ireturnOut hexec hret rfl (Or.inr (Or.inr (Or.inl rfl))) (hb hbytes d8) hl)⟩
end CodL
/-- the String at a is Latin-1 over a new byte[] (the heap's one new cell): the low bytes of the len chars of A from o on; every cell but a is kept -/
def Got (a : Addr) (D : Cell) (fV fC : Field) (A : Cell) (o len : Nat) (r : Option Value) (s u : State) : Prop := r = none ∧ ∃ D' V : Cell, Blank "java/lang/String" a D' u ∧ Same D D' [fV.slot, fC.slot] ∧ D'.slots[fV.slot]? = some (.ref s.heap.size) ∧ D'.slots[fC.slot]? = some (.int 0) ∧ Arr .byte s.heap.size V u ∧ V.vm = .none ∧ u.vm.findClass "[B" = some V.cls ∧ V.slots.size = len ∧ (∀ j, j < len → V.slots[j]? = some (.int (lo8 (cv A (o + j))))) ∧ (∀ (y : Addr) (c : Cell), y ≠ a → s.heap[y]? = some c → u.heap[y]? = some c) ∧ u.heap.size = s.heap.size + 1
theorem Got.mv {a : Addr} {D A : Cell} {fV fC : Field} {o len : Nat} : ∀ r (U U' V V' : State), U'.heap = U.heap → V.vm.Alike V'.vm → V'.heap = V.heap → Got a D fV fC A o len r U V → Got a D fV fC A o len r U' V' :=
  fun r U U' V V' h1 hal h2 ⟨e0, D', X, a1, a2, a3, a4, a5, a6, a7, a8, a9, a10, a11⟩ => ⟨e0, D', X, a1.mv hal h2, a2, by rw [h1]; exact a3, a4, by rw [h1]; exact a5.mv hal h2, a6, by rw [hal.findClass]; exact a7, a8, a9, by rw [h1, h2]; exact a10, by rw [h1, h2]; exact a11⟩
namespace New4
def yN : MethodName := ⟨"java/lang/String", "<init>", "([CIILjava/lang/Void;)V"⟩
abbrev yB : ByteArray := jdk_42_method_149_code
theorem d0 : decode yB 0 = .ok (.aload_n 0, 1) := by decide +kernel
theorem d1 : decode yB 1 = .ok (.invokespecial 1, 3) := by decide +kernel
theorem d4 : decode yB 4 = .ok (.iload_n 3, 1) := by decide +kernel
theorem d5 : decode yB 5 = .ok (.ifCond (.ne) 22, 3) := by decide +kernel
theorem d27 : decode yB 27 = .ok (.getstatic 38, 3) := by decide +kernel
theorem d30 : decode yB 30 = .ok (.ifCond (.eq) 28, 3) := by decide +kernel
theorem d33 : decode yB 33 = .ok (.aload_n 1, 1) := by decide +kernel
theorem d34 : decode yB 34 = .ok (.iload_n 2, 1) := by decide +kernel
theorem d35 : decode yB 35 = .ok (.iload_n 3, 1) := by decide +kernel
theorem d36 : decode yB 36 = .ok (.invokestatic 177, 3) := by decide +kernel
theorem d39 : decode yB 39 = .ok (.astore 5, 2) := by decide +kernel
theorem d41 : decode yB 41 = .ok (.aload_n 0, 1) := by decide +kernel
theorem d42 : decode yB 42 = .ok (.aload 5, 2) := by decide +kernel
theorem d44 : decode yB 44 = .ok (.iload_n 3, 1) := by decide +kernel
theorem d45 : decode yB 45 = .ok (.invokestatic 47, 3) := by decide +kernel
theorem d48 : decode yB 48 = .ok (.putfield 15, 3) := by decide +kernel
theorem d51 : decode yB 51 = .ok (.aload_n 0, 1) := by decide +kernel
theorem d52 : decode yB 52 = .ok (.aload 5, 2) := by decide +kernel
theorem d54 : decode yB 54 = .ok (.putfield 9, 3) := by decide +kernel
theorem d57 : decode yB 57 = .ok (.return_, 1) := by decide +kernel
def site : List Cond := [.fieldLink "java/lang/String" 38 "java/lang/String" "COMPACT_STRINGS" "Z", Cmp3.tab, CodL.tab, .laysFinal "java/lang/String" "java/lang/String" "value" "[B", .fieldLink "java/lang/String" 9 "java/lang/String" "value" "[B", .laysFinal "java/lang/String" "java/lang/String" "coder" "B", .fieldLink "java/lang/String" 15 "java/lang/String" "coder" "B"] ++ objW "java/lang/String" 1 ++ staticW "java/lang/String" 177 Cmp3.yN ++ staticW "java/lang/String" 47 CodL.yN
def tab : Cond := tabOf yN yB 6 none site
def P (a : Addr) (D : Cell) (fV fC : Field) (b : Addr) (A : Cell) (z : Int32) (o len : Nat) (args : Array Value) (s : State) : Prop := args = #[.ref a, .ref b, .int (Int32.ofNat o), .int (Int32.ofNat len), .null] ∧ Blank "java/lang/String" a D s ∧ Found "java/lang/String" "value" "[B" fV s ∧ Found "java/lang/String" "coder" "B" fC s ∧ Ch b A s ∧ StaticIs s "java/lang/String" "COMPACT_STRINGS" "Z" (.int z) ∧ ¬ z = 0 ∧ 0 < len ∧ o + len ≤ A.slots.size ∧ len ≤ 536870912 ∧ ∀ i, i < len → ¬ 255 < cv A (o + i)
def E (a : Addr) (D : Cell) (fV fC : Field) (A : Cell) (o len : Nat) (r : Option Value) (s u : State) : Prop := Got a D fV fC A o len r s u
/-- len > 0, no char of the range above 255: a Latin-1 String of their low bytes -/
theorem law (l : Launch) (a : Addr) (D : Cell) (fV fC : Field) (b : Addr) (A : Cell) (z : Int32) (o len : Nat) : Law l yN 5 4 2 35 yB 6 none site (P a D fV fC b A z o len) (E a D fV fC A o len) [⟨a, fC.slot⟩, ⟨a, fV.slot⟩] 1 len := by
  refine Law.of_walk (plainFor_of_name (by decide +kernel)) (by decide +kernel) (by decide +kernel) (by decide) (fun _ _ h => by rw [h.1]; rfl) (fun _ U U' hal hh h => ⟨h.1, h.2.1.mv hal hh, h.2.2.1.al hal, h.2.2.2.1.al hal, h.2.2.2.2.1.mv hal hh, h.2.2.2.2.2.1.there hal hh, h.2.2.2.2.2.2⟩) (fun r U U' V V' h1 hal h2 h => Got.mv r U U' V V' h1 hal h2 h) ?_
  intro p e s m args below meth c s₁ X0 hexec hbytes hml hret hlk hnm hown hh0 W hP
  obtain ⟨rfl, hB, f1, f2, hA, s1, hz, l0, l1, l2, hp⟩ := hP
  have a31 := hA.1.2.2.2
  have c1 : Steps p.tables e below (s₁.setTop (entryFrame m #[.ref a, .ref b, .int (Int32.ofNat o), .int (Int32.ofNat len), .null] 6)) (s₁.setTop (mkF m 0 #[.val (.ref a), .val (.ref b), .val (.int (Int32.ofNat o)), .val (.int (Int32.ofNat len)), .val .null, .unset] [])) := entry rfl
  have c2 : Steps p.tables e below (s₁.setTop (entryFrame m #[.ref a, .ref b, .int (Int32.ofNat o), .int (Int32.ofNat len), .null] 6)) (s₁.setTop (mkF m 1 #[.val (.ref a), .val (.ref b), .val (.int (Int32.ofNat o)), .val (.int (Int32.ofNat len)), .val .null, .unset] [.ref a])) := c1.trans (by
    refine XS.aloadN X0.here hexec rfl (hb hbytes d0) rfl rfl ?_
    exact Steps.refl _)
  obtain ⟨T3, X3, q3, st3⟩ := X0.oinit hexec hown (wks W (objW "java/lang/String" 1)) (g := (mkF m 1 #[.val (.ref a), .val (.ref b), .val (.int (Int32.ofNat o)), .val (.int (Int32.ofNat len)), .val .null, .unset] [.ref a])) rfl (by rw [hml]; rfl) (rest := []) rfl (hb hbytes d1) (W := 0) (by show 2 * 0 + 0 ≤ _; decide) (Nat.le_of_ble_eq_true rfl) (Nat.le_of_ble_eq_true rfl)
  have hh3 := q3.trans hh0
  have c4 : Steps p.tables e below (s₁.setTop (entryFrame m #[.ref a, .ref b, .int (Int32.ofNat o), .int (Int32.ofNat len), .null] 6)) (T3.setTop (mkF m 27 #[.val (.ref a), .val (.ref b), .val (.int (Int32.ofNat o)), .val (.int (Int32.ofNat len)), .val .null, .unset] [])) := (c2.trans (st3 _ (Steps.refl _))).trans (by
    refine XS.iloadN X3.here hexec rfl (hb hbytes d4) rfl ?_
    refine XS.ifYes X3.here hexec rfl (pc0 := 5) rfl (hb hbytes d5) rfl (i0_ne_t (nz32 (by omega) l0)) (by decide) rfl ?_
    exact Steps.refl _)
  obtain ⟨T5, X5, q5, st5⟩ := X3.sget hexec hown (wk W (.fieldLink "java/lang/String" 38 "java/lang/String" "COMPACT_STRINGS" "Z")) s1 (fun _ _ h => by rw [hh3]; exact h) (g := (mkF m 27 #[.val (.ref a), .val (.ref b), .val (.int (Int32.ofNat o)), .val (.int (Int32.ofNat len)), .val .null, .unset] [])) rfl (hb hbytes d27)
  have hh5 := q5.trans hh3
  have c6 : Steps p.tables e below (s₁.setTop (entryFrame m #[.ref a, .ref b, .int (Int32.ofNat o), .int (Int32.ofNat len), .null] 6)) (T5.setTop (mkF m 30 #[.val (.ref a), .val (.ref b), .val (.int (Int32.ofNat o)), .val (.int (Int32.ofNat len)), .val .null, .unset] [.int z])) := c4.trans (st5 _ (Steps.refl _))
  have c7 : Steps p.tables e below (s₁.setTop (entryFrame m #[.ref a, .ref b, .int (Int32.ofNat o), .int (Int32.ofNat len), .null] 6)) (T5.setTop (mkF m 36 #[.val (.ref a), .val (.ref b), .val (.int (Int32.ofNat o)), .val (.int (Int32.ofNat len)), .val .null, .unset] [.int (Int32.ofNat len), .int (Int32.ofNat o), .ref b])) := c6.trans (by
    refine XS.ifNo X5.here hexec rfl (hb hbytes d30) rfl (i0_eq_f hz) ?_
    refine XS.aloadN X5.here hexec rfl (hb hbytes d33) rfl rfl ?_
    refine XS.iloadN X5.here hexec rfl (hb hbytes d34) rfl ?_
    refine XS.iloadN X5.here hexec rfl (hb hbytes d35) rfl ?_
    exact Steps.refl _)
  obtain ⟨v8, T8, X8, E8, g8⟩ := X5.callS hexec (Cmp3.law l b A o len) hown (wks W (staticW "java/lang/String" 177 Cmp3.yN)) (wk W Cmp3.tab) (W := 0) (Nat.le_of_ble_eq_true rfl) (Nat.le_of_ble_eq_true rfl) (Nat.le_refl _) (by show 0 + len ≤ len; omega) (g := (mkF m 36 #[.val (.ref a), .val (.ref b), .val (.int (Int32.ofNat o)), .val (.int (Int32.ofNat len)), .val .null, .unset] [.int (Int32.ofNat len), .int (Int32.ofNat o), .ref b])) rfl (by rw [hml]; rfl) c7 (argsL := [.ref b, .int (Int32.ofNat o), .int (Int32.ofNat len)]) (rest := []) rfl rfl (by show 2 * 0 + 0 ≤ _; decide) (hb hbytes d36) (⟨rfl, hA.mv X5.warmed.alike hh5, l1, l2, hp⟩)
  obtain ⟨e8, z8⟩ := E8
  obtain ⟨rfl, N, n1, n2, n3, n4, n5, n6⟩ := NewArr.mv _ T5 s _ _ hh5.symm (Vm.Alike.refl _) rfl e8
  rw [hh5] at z8
  have hB1 := hB.keep X8.warmed.alike (n6 _ _ hB.1)
  have hne : s.heap.size ≠ a := (Nat.ne_of_lt (Array.getElem?_eq_some_iff.mp hB.1).1).symm
  have c9 : Steps p.tables e below (s₁.setTop (entryFrame m #[.ref a, .ref b, .int (Int32.ofNat o), .int (Int32.ofNat len), .null] 6)) (T8.setTop (mkF m 39 #[.val (.ref a), .val (.ref b), .val (.int (Int32.ofNat o)), .val (.int (Int32.ofNat len)), .val .null, .unset] [.ref s.heap.size])) := g8
  have c10 : Steps p.tables e below (s₁.setTop (entryFrame m #[.ref a, .ref b, .int (Int32.ofNat o), .int (Int32.ofNat len), .null] 6)) (T8.setTop (mkF m 45 #[.val (.ref a), .val (.ref b), .val (.int (Int32.ofNat o)), .val (.int (Int32.ofNat len)), .val .null, .val (.ref s.heap.size)] [.int (Int32.ofNat N.slots.size), .ref s.heap.size, .ref a])) := by
    have hc : Steps p.tables e below (s₁.setTop (entryFrame m #[.ref a, .ref b, .int (Int32.ofNat o), .int (Int32.ofNat len), .null] 6)) (T8.setTop (mkF m 45 #[.val (.ref a), .val (.ref b), .val (.int (Int32.ofNat o)), .val (.int (Int32.ofNat len)), .val .null, .val (.ref s.heap.size)] [.int (Int32.ofNat len), .ref s.heap.size, .ref a])) := c9.trans (by
      refine XS.astore X8.here hexec rfl (hb hbytes d39) rfl rfl rfl ?_
      refine XS.aloadN X8.here hexec rfl (hb hbytes d41) rfl rfl ?_
      refine XS.aload X8.here hexec rfl (hb hbytes d42) rfl rfl ?_
      refine XS.iloadN X8.here hexec rfl (hb hbytes d44) rfl ?_
      exact Steps.refl _)
    rw [n4]; exact hc
  obtain ⟨v11, T11, X11, E11, g11⟩ := X8.callS hexec (CodL.law l s.heap.size N) hown (wks W (staticW "java/lang/String" 47 CodL.yN)) (wk W CodL.tab) (W := 1) (Nat.le_of_ble_eq_true rfl) (Nat.le_of_ble_eq_true rfl) (Nat.le_refl _) (by show 0 + len + 0 ≤ len; omega) (g := (mkF m 45 #[.val (.ref a), .val (.ref b), .val (.int (Int32.ofNat o)), .val (.int (Int32.ofNat len)), .val .null, .val (.ref s.heap.size)] [.int (Int32.ofNat N.slots.size), .ref s.heap.size, .ref a])) rfl (by rw [hml]; rfl) c10 (argsL := [.ref s.heap.size, .int (Int32.ofNat N.slots.size)]) (rest := [.ref a]) rfl rfl (by show 2 * 0 + (1 + 0) ≤ _; decide) (hb hbytes d45) (⟨rfl, n1⟩)
  obtain ⟨rfl, q11⟩ := E11
  have hB11 := hB1.mv (X8.warmed.alike.symm.trans X11.warmed.alike) q11
  have c12 : Steps p.tables e below (s₁.setTop (entryFrame m #[.ref a, .ref b, .int (Int32.ofNat o), .int (Int32.ofNat len), .null] 6)) (T11.setTop (mkF m 48 #[.val (.ref a), .val (.ref b), .val (.int (Int32.ofNat o)), .val (.int (Int32.ofNat len)), .val .null, .val (.ref s.heap.size)] [.int 0, .ref a])) := g11
  obtain ⟨T13, X13, p13, bl13, sl13, st13⟩ := X11.finit hexec hown (wk W (.fieldLink "java/lang/String" 15 "java/lang/String" "coder" "B")) (Or.inr ⟨_, (wk W (.laysFinal "java/lang/String" "java/lang/String" "coder" "B"))⟩) (Or.inl ⟨rfl, hnm⟩) f2 (Or.inl rfl) hB11 (t := .byte) (by decide +kernel) rfl (g := (mkF m 48 #[.val (.ref a), .val (.ref b), .val (.int (Int32.ofNat o)), .val (.int (Int32.ofNat len)), .val .null, .val (.ref s.heap.size)] [.int 0, .ref a])) rfl (rest := []) rfl (hb hbytes d48)
  have c14 : Steps p.tables e below (s₁.setTop (entryFrame m #[.ref a, .ref b, .int (Int32.ofNat o), .int (Int32.ofNat len), .null] 6)) (T13.setTop (mkF m 54 #[.val (.ref a), .val (.ref b), .val (.int (Int32.ofNat o)), .val (.int (Int32.ofNat len)), .val .null, .val (.ref s.heap.size)] [.ref s.heap.size, .ref a])) := (c12.trans (st13 _ (Steps.refl _))).trans (by
    refine XS.aloadN X13.here hexec rfl (hb hbytes d51) rfl rfl ?_
    refine XS.aload X13.here hexec rfl (hb hbytes d52) rfl rfl ?_
    exact Steps.refl _)
  obtain ⟨T15, X15, p15, bl15, sl15, st15⟩ := X13.finit hexec hown (wk W (.fieldLink "java/lang/String" 9 "java/lang/String" "value" "[B")) (Or.inr ⟨_, (wk W (.laysFinal "java/lang/String" "java/lang/String" "value" "[B"))⟩) (Or.inl ⟨rfl, hnm⟩) f1 (Or.inl rfl) bl13 (t := (.array .byte)) (by decide +kernel) rfl (g := (mkF m 54 #[.val (.ref a), .val (.ref b), .val (.int (Int32.ofNat o)), .val (.int (Int32.ofNat len)), .val .null, .val (.ref s.heap.size)] [.ref s.heap.size, .ref a])) rfl (rest := []) rfl (hb hbytes d54)
  have c16 : Steps p.tables e below (s₁.setTop (entryFrame m #[.ref a, .ref b, .int (Int32.ofNat o), .int (Int32.ofNat len), .null] 6)) (T15.setTop (mkF m 57 #[.val (.ref a), .val (.ref b), .val (.int (Int32.ofNat o)), .val (.int (Int32.ofNat len)), .val .null, .val (.ref s.heap.size)] [])) := c14.trans (st15 _ (Steps.refl _))
  have ap := apart (Or.inr ⟨_, (wk W (.laysFinal "java/lang/String" "java/lang/String" "value" "[B"))⟩) (Or.inr ⟨_, (wk W (.laysFinal "java/lang/String" "java/lang/String" "coder" "B"))⟩) f1 f2 (t₁ := .array .byte) (t₂ := .byte) (by decide +kernel) (by decide +kernel) (by decide)
  have al := X8.warmed.alike.symm.trans X15.warmed.alike
  have n7 : T11.heap[s.heap.size]? = some N := by rw [q11]; exact n1.1
  exact ⟨T15, none, _, _, _, X15, by simp, rfl, by omega, (fun _ => rfl), ⟨rfl, _, N, bl15, ((Same.refl D _).set _ (by simp)).set _ (by simp), sl15, (Cell.slots_setSlot_ne _ ap).trans sl13, n1.keep al (p15.other hne (p13.other hne n7)), n2, by rw [al.findClass]; exact n3, n4, n5, fun y c h1 h2 => p15.other h1 (p13.other h1 (by rw [q11]; exact n6 y c h2)), by rw [p15.2.2, p13.2.2, q11]; exact z8⟩, fun fs hl => c16.trans (X15.returnOut hexec hret (hb hbytes d57) hl)⟩
end New4
namespace New1
def yN : MethodName := ⟨"java/lang/String", "<init>", "([C)V"⟩
abbrev yB : ByteArray := jdk_42_method_3_code
theorem d0 : decode yB 0 = .ok (.aload_n 0, 1) := by decide +kernel
theorem d1 : decode yB 1 = .ok (.aload_n 1, 1) := by decide +kernel
theorem d2 : decode yB 2 = .ok (.iconst 0, 1) := by decide +kernel
theorem d3 : decode yB 3 = .ok (.aload_n 1, 1) := by decide +kernel
theorem d4 : decode yB 4 = .ok (.arraylength, 1) := by decide +kernel
theorem d5 : decode yB 5 = .ok (.aconst_null, 1) := by decide +kernel
theorem d6 : decode yB 6 = .ok (.invokespecial 27, 3) := by decide +kernel
theorem d9 : decode yB 9 = .ok (.return_, 1) := by decide +kernel
def site : List Cond := [New4.tab] ++ initW "java/lang/String" 27 New4.yN
def tab : Cond := tabOf yN yB 2 none site
def P (a : Addr) (D : Cell) (fV fC : Field) (b : Addr) (A : Cell) (z : Int32) (args : Array Value) (s : State) : Prop := args = #[.ref a, .ref b] ∧ Blank "java/lang/String" a D s ∧ Found "java/lang/String" "value" "[B" fV s ∧ Found "java/lang/String" "coder" "B" fC s ∧ Ch b A s ∧ StaticIs s "java/lang/String" "COMPACT_STRINGS" "Z" (.int z) ∧ ¬ z = 0 ∧ 0 < A.slots.size ∧ A.slots.size ≤ 536870912 ∧ ∀ i, i < A.slots.size → ¬ 255 < cv A i
def E (a : Addr) (D : Cell) (fV fC : Field) (A : Cell) (r : Option Value) (s u : State) : Prop := Got a D fV fC A 0 A.slots.size r s u
/-- new String(chars), not empty, no char above 255: a Latin-1 String of their low bytes -/
theorem law (l : Launch) (a : Addr) (D : Cell) (fV fC : Field) (b : Addr) (A : Cell) (z : Int32) : Law l yN 2 1 3 52 yB 2 none site (P a D fV fC b A z) (E a D fV fC A) [⟨a, fC.slot⟩, ⟨a, fV.slot⟩] 1 A.slots.size := by
  refine Law.of_walk (plainFor_of_name (by decide +kernel)) (by decide +kernel) (by decide +kernel) (by decide) (fun _ _ h => by rw [h.1]; rfl) (fun _ U U' hal hh h => ⟨h.1, h.2.1.mv hal hh, h.2.2.1.al hal, h.2.2.2.1.al hal, h.2.2.2.2.1.mv hal hh, h.2.2.2.2.2.1.there hal hh, h.2.2.2.2.2.2⟩) (fun r U U' V V' h1 hal h2 h => Got.mv r U U' V V' h1 hal h2 h) ?_
  intro p e s m args below meth c s₁ X0 hexec hbytes hml hret hlk hnm hown hh0 W hP
  obtain ⟨rfl, hB, f1, f2, hA, s1, hz, l0, l2, hp⟩ := hP
  have c1 : Steps p.tables e below (s₁.setTop (entryFrame m #[.ref a, .ref b] 2)) (s₁.setTop (mkF m 0 #[.val (.ref a), .val (.ref b)] [])) := entry rfl
  have c2 : Steps p.tables e below (s₁.setTop (entryFrame m #[.ref a, .ref b] 2)) (s₁.setTop (mkF m 6 #[.val (.ref a), .val (.ref b)] [.null, .int (Int32.ofNat A.slots.size), .int 0, .ref b, .ref a])) := c1.trans (by
    refine XS.aloadN X0.here hexec rfl (hb hbytes d0) rfl rfl ?_
    refine XS.aloadN X0.here hexec rfl (hb hbytes d1) rfl rfl ?_
    refine iconstV X0.here hexec rfl 0 (hb hbytes d2) (by decide) ?_
    refine XS.aloadN X0.here hexec rfl (hb hbytes d3) rfl rfl ?_
    refine X0.alen hexec (hA.1.mv X0.warmed.alike hh0) rfl rfl (hb hbytes d4) ?_
    refine XS.aconstNull X0.here hexec rfl (hb hbytes d5) ?_
    exact Steps.refl _)
  obtain ⟨v3, T3, X3, E3, g3⟩ := X0.callN hexec (New4.law l a D fV fC b A z 0 A.slots.size) rfl hown (wks W (initW "java/lang/String" 27 New4.yN)) (W New4.tab (by simp only [site, List.mem_cons, List.mem_append, true_or, or_true])) (W := 0) (Nat.le_of_ble_eq_true rfl) (Nat.le_of_ble_eq_true rfl) (Nat.le_refl _) (by show 0 + A.slots.size ≤ A.slots.size; omega) (g := (mkF m 6 #[.val (.ref a), .val (.ref b)] [.null, .int (Int32.ofNat A.slots.size), .int (Int32.ofNat 0), .ref b, .ref a])) rfl (by rw [hml]; rfl) c2 (argsL := [.ref b, .int (Int32.ofNat 0), .int (Int32.ofNat A.slots.size), .null]) (rest := []) rfl rfl (by show 2 * 0 + 0 ≤ _; decide) (hb hbytes d6) (⟨rfl, hB.mv X0.warmed.alike hh0, f1.al X0.warmed.alike, f2.al X0.warmed.alike, hA.mv X0.warmed.alike hh0, s1.there X0.warmed.alike hh0, hz, l0, by omega, l2, fun i hi => by rw [Nat.zero_add]; exact hp i hi⟩)
  have e0 := Got.mv _ s₁ s _ _ hh0.symm (Vm.Alike.refl _) rfl E3
  obtain rfl := e0.1
  have c4 : Steps p.tables e below (s₁.setTop (entryFrame m #[.ref a, .ref b] 2)) (T3.setTop (mkF m 9 #[.val (.ref a), .val (.ref b)] [])) := g3
  exact ⟨T3, none, _, _, _, X3, by simp, rfl, by omega, (fun _ => rfl), e0, fun fs hl => c4.trans (X3.returnOut hexec hret (hb hbytes d9) hl)⟩
theorem pays {l : Launch} {R : Room} {p : Program} {e : Env} {below : List Frame} {s : State} {sargs : Array Value} {len W : Nat} (a : Addr) (D : Cell) (fV fC : Field) (b : Addr) (A : Cell) (z : Int32) (htab : tab.before sargs s = true) (hfr : 4 ≤ R.frames) (hlo : W + 65 ≤ R.locals) :
    Back l R p e below s sargs yN len W (fun A₁ a₁ => A₁.cells + 1 ≤ R.cells ∧ A₁.slots + A.slots.size ≤ R.slots ∧ P a D fV fC b A z a₁ A₁.U) (fun A₁ _ v₁ B₁ => E a D fV fC A v₁ A₁.U B₁.U ∧ B₁.locs = A₁.locs ++ [⟨a, fC.slot⟩, ⟨a, fV.slot⟩] ∧ B₁.cells = A₁.cells + 1 ∧ B₁.slots = A₁.slots + A.slots.size) :=
  (law l a D fV fC b A z).pays htab hfr (by omega)
end New1
end StrChars
namespace StrChars.Road
open Jvm Sem ClassFile Op Lib Jvm.Stand Jvm.Free Jvm.Free.XT
open Jvm.Lib.Cold (StaticIs)
abbrev ST : String := "java/lang/String"
/-- every table word that New1's law asks, flat -/
abbrev words : List Jvm.Cond := [.code New1.yN New1.yB 2 none, .initialized ST, .methodLink ST 27 New4.yN, .instanceMethod New4.yN,
  .code New4.yN New4.yB 6 none, .fieldLink ST 38 ST "COMPACT_STRINGS" "Z", .laysFinal ST ST "value" "[B", .fieldLink ST 9 ST "value" "[B", .laysFinal ST ST "coder" "B", .fieldLink ST 15 ST "coder" "B",
  .methodLink ST 1 Lib.objectInit, .instanceMethod Lib.objectInit, .code Lib.objectInit ⟨#[0xb1]⟩ 1 none, .methodLink ST 177 Cmp3.yN, .static Cmp3.yN, .methodLink ST 47 CodL.yN, .static CodL.yN,
  .code Cmp3.yN Cmp3.yB 6 (some (.array .byte)), .initialized U16, .arrayClass .byte, .methodLink U16 115 Cmp5.yN, .static Cmp5.yN, .code Cmp5.yN Cmp5.yB 7 (some .int), .code CodL.yN CodL.yB 2 (some .byte)]
theorem tab_of {a : Array Value} {s : State} (h : ∀ w ∈ words, w.before a s = true) : New1.tab.before a s = true := by
  have h5 : Cmp5.tab.before a s = true := unparts (wk h (.code Cmp5.yN Cmp5.yB 7 (some .int))) (wks h (.initialized Cmp5.yN.cls :: Cmp5.site))
  have hc : CodL.tab.before a s = true := unparts (wk h (.code CodL.yN CodL.yB 2 (some .byte))) (wks h (.initialized CodL.yN.cls :: CodL.site))
  have q5 : ∀ w ∈ Cmp5.tab :: words, w.before a s = true := fun w hw => (List.mem_cons.mp hw).elim (fun e => e ▸ h5) (h w)
  have h3 : Cmp3.tab.before a s = true := unparts (wk q5 (.code Cmp3.yN Cmp3.yB 6 (some (.array .byte)))) (wks q5 (.initialized Cmp3.yN.cls :: Cmp3.site))
  have q3 : ∀ w ∈ Cmp3.tab :: CodL.tab :: words, w.before a s = true := fun w hw => (List.mem_cons.mp hw).elim (fun e => e ▸ h3) fun hw => (List.mem_cons.mp hw).elim (fun e => e ▸ hc) (h w)
  have h4 : New4.tab.before a s = true := unparts (wk q3 (.code New4.yN New4.yB 6 none)) (wks q3 (.initialized New4.yN.cls :: New4.site))
  have q4 : ∀ w ∈ New4.tab :: words, w.before a s = true := fun w hw => (List.mem_cons.mp hw).elim (fun e => e ▸ h4) (h w)
  exact unparts (wk q4 (.code New1.yN New1.yB 2 none)) (wks q4 (.initialized New1.yN.cls :: New1.site))
/-- the words ride from the start Z to the walk's own state -/
theorem moved {Z s : State} {a0 args : Array Value} (hZ : Z.Warmed39 s.vm) (hw : ∀ d ∈ words, d.before a0 Z = true) : ∀ d ∈ words, d.before args s = true := fun d hd => by
  have q := hw d hd
  have t : ∀ d ∈ words, d = .arrayClass .byte ∨ (d.onTables && d.keepsFace) = true := by decide +kernel
  rcases t d hd with rfl | t
  · exact RoadKit.mvA hZ q
  · exact RoadKit.mv hZ q t
/-- WHAT COMES BACK, over the tables of the start Z: h the heap at the call, h' behind it -/
def Q (Z : State) (x : Addr) (A : Cell) (h : Heap) (v : Option Value) (h' : Heap) (L : List Loc) : Prop := v = none ∧ (∀ y ∈ L, y.base = x) ∧ RoadKit.Keep h h' [x] ∧ h'.size = h.size + 1 ∧ RoadKit.Exa Z h' x ST ∧ RoadKit.Fld Z h' x ST "value" "[B" (.ref h.size) ∧ RoadKit.Fld Z h' x ST "coder" "B" (.int 0) ∧
  (∃ V : Cell, RoadKit.Arr Z h' h.size V .byte ∧ V.vm = .none ∧ Z.vm.findClass "[B" = some V.cls ∧ V.slots.size = A.slots.size ∧ ∀ j, j < A.slots.size → V.slots[j]? = some (.int (lo8 (cv A j)))) ∧
  ∀ (O n d : String) (w : Value), RoadKit.Fld Z h x O n d w → RoadKit.slotOf Z O n d ≠ RoadKit.slotOf Z ST "value" "[B" → RoadKit.slotOf Z O n d ≠ RoadKit.slotOf Z ST "coder" "B" → RoadKit.Fld Z h' x O n d w
/-- **new String(chars) AT A CALL, IN THE ROAD'S FORM**: for specialBack behind newO: x the fresh String, b the char[] with the cell A -/
theorem back {p : Program} {l : Launch} {e : Env} {R : Room} {s : State} {args : Array Value} {below : List Frame} {len W : Nat} {Z : State} {a0 : Array Value} {h : Heap} (hZ : Z.Warmed39 s.vm) (hw : ∀ d ∈ words, d.before a0 Z = true) {kI : Nat} (wi : (Jvm.Cond.instantiable ST kI).before a0 Z = true)
    {x b : Addr} {A : Cell} {z : Int32} {v0 c0 : Value} (E : RoadKit.Exa Z h x ST) (V : RoadKit.Fld Z h x ST "value" "[B" v0) (C : RoadKit.Fld Z h x ST "coder" "B" c0) (K : RoadKit.Arr Z h b A .char) (hty : Typed .char A) (S : RoadKit.Sta Z h ST "COMPACT_STRINGS" "Z" (.int z)) (hz : ¬ z = 0)
    (l0 : 0 < A.slots.size) (l2 : A.slots.size ≤ 536870912) (hp : ∀ i, i < A.slots.size → ¬ 255 < cv A i) (hfr : 4 ≤ R.frames) (hlo : W + 65 ≤ R.locals) :
    Back l R p e below s args New1.yN len W (fun P a => a = #[.ref x, .ref b] ∧ P.U.heap = h ∧ P.cells + 1 ≤ R.cells ∧ P.slots + A.slots.size ≤ R.slots)
      (fun P _ v B => ∃ L, Q Z x A h v B.U.heap L ∧ B.locs = P.locs ++ L ∧ B.cells = P.cells + 1 ∧ B.slots = P.slots + A.slots.size) := by
  intro m meth c P g ig mk a X hg hsize hdg hW hn hp'
  obtain ⟨rfl, rfl, r1, r2⟩ := hp'
  have al : Z.vm.Alike P.U.vm := hZ.alike.trans X.warmed.alike
  obtain ⟨D, cfV, kV, iV, fV, hD, gV, stV, knV, obV, asV, slV⟩ := id V
  obtain ⟨D', cfC, kC, iC, fC, hD', gC, stC, -, -, asC, slC⟩ := id C
  cases hD.symm.trans hD'
  obtain ⟨D2, kD, e1, e2, e3, e4, e5⟩ := id E
  cases hD.symm.trans e1
  obtain ⟨c2, k2, i1, i2, i3, -⟩ := Cond.instantiable_spec wi
  cases e2.symm.trans i1
  cases e3.symm.trans i2
  obtain ⟨kU, u1, u2⟩ := al.2.2 _ _ e3
  have hB : Blank ST x D P.U := ⟨hD, ⟨knV, fun q hq => by rw [hq] at obV; cases obV⟩, by rw [al.findClass]; exact e2, kU, u1, by rw [u2]; exact i3, by rw [u2]; exact e5 i3⟩
  have F1 : Found ST "value" "[B" fV P.U := ⟨SBG.found_only al ⟨cfV, kV, iV, gV⟩, stV⟩
  have F2 : Found ST "coder" "B" fC P.U := ⟨SBG.found_only al ⟨cfC, kC, iC, gC⟩, stC⟩
  have hA : Ch b A P.U := ⟨⟨K.1, State.isArrayOf_alike al K.2.1, K.2.2, by omega⟩, hty⟩
  have hS : StaticIs P.U ST "COMPACT_STRINGS" "Z" (.int z) := by
    obtain ⟨cfS, iS, kS, fS, st, cS, t1, t2, t3, t4, t5, t6, t7⟩ := S
    exact StaticIs.there (s := { Z with heap := P.U.heap }) ⟨cfS, iS, kS, fS, st, cS, t1, t2, t3, t4, t5, (fun q => by rw [q] at t6; cases t6), t7⟩ al rfl
  obtain ⟨v, B, X', ⟨⟨hv, E', V', q1, q2, q3, q4, q5, q6, q7, q8, q9, q10, q11⟩, hl, hc, hs⟩, st⟩ := New1.pays x D fV fC b A z (tab_of (moved hZ hw)) hfr hlo m meth c P g ig mk _ X hg hsize hdg hW hn ⟨r1, r2, rfl, hB, F1, F2, hA, hS, hz, l0, l2, hp⟩
  have al' : Z.vm.Alike B.U.vm := hZ.alike.trans X'.warmed.alike
  have hsz : E'.slots.size = D.slots.size := by
    obtain ⟨-, -, -, kB, w1, w2, w3⟩ := q1
    obtain ⟨kB', y1, y2⟩ := al'.2.2 _ _ e3
    rw [q2.2.1] at w1
    cases w1.symm.trans y1
    rw [w3, e5 i3, y2]
  refine ⟨v, B, X', ⟨_, ⟨hv, ?_, ⟨by omega, fun y cy hy hn' => q10 y cy (by simpa using hn') hy, fun y cy hy => ?_⟩, q11, ⟨E', _, q1.1, by rw [q2.2.1]; exact e2, by rw [q2.2.1]; exact e3, by rw [q2.1]; exact obV, fun _ => by rw [hsz]; exact e5 i3⟩,
    ⟨E', cfV, kV, iV, fV, q1.1, gV, stV, by rw [q2.1]; exact knV, by rw [q2.1]; exact obV, by rw [q2.2.1]; exact asV, q3⟩, ⟨E', cfC, kC, iC, fC, q1.1, gC, stC, by rw [q2.1]; exact knV, by rw [q2.1]; exact obV, by rw [q2.2.1]; exact asC, q4⟩,
    ⟨V', ⟨q5.1, State.isArrayOf_alike al'.symm q5.2.1, q5.2.2.1⟩, q6, by rw [← al'.findClass]; exact q7, q8, fun j hj => by have := q9 j hj; rwa [Nat.zero_add] at this⟩, fun O n d w F n1 n2 => ?_⟩, hl, hc, hs⟩, st⟩
  · intro y hy
    simp only [List.mem_cons, List.not_mem_nil, or_false] at hy
    rcases hy with rfl | rfl <;> rfl
  · by_cases q : y = x
    · subst q
      cases hD.symm.trans hy
      exact ⟨E', q1.1, q2.2.1, q2.1, hsz⟩
    · exact ⟨cy, q10 y cy q hy, rfl, rfl, rfl⟩
  · obtain ⟨D3, cf, k, i, f, g1, g2, g3, g4, g5, g6, g7⟩ := F
    cases hD.symm.trans g1
    simp only [RoadKit.slotOf, g2, gV, gC, Option.map_some, Option.getD_some] at n1 n2
    exact ⟨E', cf, k, i, f, q1.1, g2, g3, by rw [q2.1]; exact g4, by rw [q2.1]; exact g5, by rw [q2.2.1]; exact g6, by rw [q2.2.2 f.slot (by simp [n1, n2])]; exact g7⟩
end StrChars.Road
namespace StrChars.Road
open Jvm Sem ClassFile Op Lib Jvm.Stand Jvm.Free Jvm.Free.XT
/-- WHAT COMES BACK, the byte[] as a list of values -/
def QA (Z : State) (x : Addr) (zn : Int32) (cs : List Int32) (h : Heap) (v : Option Value) (h' : Heap) (L : List Loc) : Prop := v = none ∧ (∀ y ∈ L, y.base = x) ∧ RoadKit.Keep h h' [x] ∧ h'.size = h.size + 1 ∧ RoadKit.Exa Z h' x ST ∧ RoadKit.Fld Z h' x ST "value" "[B" (.ref h.size) ∧ RoadKit.Fld Z h' x ST "coder" "B" (.int 0) ∧
  (∃ kb, Z.vm.findClass "[B" = some kb ∧ RoadKit.Arv Z h' h.size kb .byte zn (cs.map fun c => .int (lo8 c)) (.int 0)) ∧
  ∀ (O n d : String) (w : Value), RoadKit.Fld Z h x O n d w → RoadKit.slotOf Z O n d ≠ RoadKit.slotOf Z ST "value" "[B" → RoadKit.slotOf Z O n d ≠ RoadKit.slotOf Z ST "coder" "B" → RoadKit.Fld Z h' x O n d w
/-- **new String(chars) AT A CALL, THE ARRAYS AS LISTS**: the char[] at b holds cs, not empty, no char above 255 -/
theorem backArv {p : Program} {l : Launch} {e : Env} {R : Room} {s : State} {args : Array Value} {below : List Frame} {len W : Nat} {Z : State} {a0 : Array Value} {h : Heap} (hZ : Z.Warmed39 s.vm) (hw : ∀ d ∈ words, d.before a0 Z = true) {kI : Nat} (wi : (Jvm.Cond.instantiable ST kI).before a0 Z = true)
    {x b : Addr} {k : ClassId} {zn z : Int32} {cs : List Int32} {dv v0 c0 : Value} (E : RoadKit.Exa Z h x ST) (V : RoadKit.Fld Z h x ST "value" "[B" v0) (C : RoadKit.Fld Z h x ST "coder" "B" c0) (K : RoadKit.Arv Z h b k .char zn (cs.map Value.int) dv) (S : RoadKit.Sta Z h ST "COMPACT_STRINGS" "Z" (.int z)) (hz : ¬ z = 0)
    (hlen : zn.toNatClampNeg = cs.length) (h0 : 0 < cs.length) (hbig : cs.length ≤ 536870912) (hall : ∀ c ∈ cs, ¬ 255 < c) (hfr : 4 ≤ R.frames) (hlo : W + 65 ≤ R.locals) :
    Back l R p e below s args New1.yN len W (fun P a => a = #[.ref x, .ref b] ∧ P.U.heap = h ∧ P.cells + 1 ≤ R.cells ∧ P.slots + cs.length ≤ R.slots)
      (fun P _ v B => ∃ L, QA Z x zn cs h v B.U.heap L ∧ B.locs = P.locs ++ L ∧ B.cells = P.cells + 1 ∧ B.slots = P.slots + cs.length) := by
  obtain ⟨A, K1, K2, K3, K4, K5, K6⟩ := K
  have e : A.slots.size = cs.length := K3.trans hlen
  have hat : ∀ (i : Nat) (hi : i < cs.length), A.slots[i]? = some (.int cs[i]) := fun i hi => by rw [K5 i (by omega)]; simp [List.getD_eq_getElem?_getD, hi]
  have hcv : ∀ (i : Nat) (hi : i < cs.length), cv A i = cs[i] := fun i hi => by unfold cv; rw [hat i hi]
  have hty : Typed .char A := fun i v hv => by
    have hi : i < A.slots.size := (Array.getElem?_eq_some_iff.mp hv).1
    have q := K5 i hi
    rw [hv] at q
    rw [Option.some.inj q]
    exact K6 i hi
  refine Back.mono (back hZ hw wi E V C K1 hty S hz (by omega) (by omega) (fun i hi => by rw [hcv i (by omega)]; exact hall _ (List.getElem_mem _)) hfr hlo) (fun P a hp => ⟨hp.1, hp.2.1, hp.2.2.1, by rw [e]; exact hp.2.2.2⟩) (fun P a v B hp hq => ?_)
  obtain ⟨L, ⟨q1, q2, q3, q4, q5, q6, q7, ⟨V', v1, v2, v3, v4, v5⟩, q9⟩, hl, hc, hs⟩ := hq
  refine ⟨L, ⟨q1, q2, q3, q4, q5, q6, q7, ⟨V'.cls, v3, V', v1, rfl, by rw [v4, e, hlen], K4, fun i hi => ?_, fun i hi => ?_⟩, q9⟩, hl, hc, by rw [hs, e]⟩
  · have hi' : i < cs.length := by omega
    rw [v5 i (by omega), hcv i hi']; simp [List.getD_eq_getElem?_getD, hi']
  · have hi' : i < cs.length := by omega
    simp only [List.getD_eq_getElem?_getD, List.getElem?_map, List.getElem?_eq_getElem hi', Option.map_some, Option.getD_some]
    exact fits_lo8 _
end StrChars.Road
namespace StrChars.Road
open Jvm Sem ClassFile Op Lib Jvm.Stand Jvm.Free Jvm.Free.XT
/-- WHAT COMES BACK, in the writer's own shape -/
def QV (Z : State) (x : Addr) (N : Int32) (bs : List Int32) (h : Heap) (n0 : Nat) (v : Option Value) (h' : Heap) (L : List Loc) : Prop := v = none ∧ RoadKit.Fr n0 L ∧ RoadKit.Keep h h' [x] ∧ RoadKit.Exa Z h' x ST ∧ RoadKit.Fld Z h' x ST "coder" "B" (.int 0) ∧
  ∃ (t : Addr) (kb : ClassId), n0 ≤ t ∧ h.size ≤ t ∧ ¬ t = x ∧ RoadKit.Fld Z h' x ST "value" "[B" (.ref t) ∧ RoadKit.Arv Z h' t kb .byte N (bs.map Value.int) (.int 0)
/-- **new String(chars) AT A CALL, FOR THE WRITER**: a char[] of n known ints, each 0 to 255 -/
theorem backV {p : Program} {l : Launch} {e : Env} {R : Room} {s : State} {args : Array Value} {below : List Frame} {len W : Nat} {Z : State} {a0 : Array Value} {h : Heap} (hZ : Z.Warmed39 s.vm) (hw : ∀ d ∈ words, d.before a0 Z = true) {kI : Nat} (wi : (Jvm.Cond.instantiable ST kI).before a0 Z = true)
    {x b : Addr} {kC : ClassId} {cs bs : List Int32} {d v0 c0 : Value} {z N : Int32} {n n0 : Nat} (hx0 : n0 ≤ x) (hh0 : n0 ≤ h.size) (E : RoadKit.Exa Z h x ST) (V : RoadKit.Fld Z h x ST "value" "[B" v0) (C : RoadKit.Fld Z h x ST "coder" "B" c0) (K : RoadKit.Arv Z h b kC .char N (cs.map Value.int) d) (S : RoadKit.Sta Z h ST "COMPACT_STRINGS" "Z" (.int z)) (hz : ¬ z = 0)
    (hn : cs.length = n) (hN : N = Int32.ofNat n) (l0 : 0 < n) (l2 : n ≤ 4000) (hp : ∀ c ∈ cs, ¬ c < 0 ∧ ¬ (255 : Int32) < c) (hb : bs = cs.map (fun c => c.toInt8.toInt32)) (hfr : 4 ≤ R.frames) (hlo : W + 65 ≤ R.locals) :
    Back l R p e below s args (⟨"java/lang/String", "<init>", "([C)V"⟩ : MethodName) len W (fun P a => a = #[.ref x, .ref b] ∧ P.U.heap = h ∧ P.cells + 1 ≤ R.cells ∧ P.slots + n ≤ R.slots)
      (fun P _ v B => ∃ L, QV Z x N bs h n0 v B.U.heap L ∧ B.locs = P.locs ++ L ∧ B.cells = P.cells + 1 ∧ B.slots = P.slots + n) := by
  subst hn hN hb
  refine Back.mono (backArv hZ hw wi E V C K S hz (n32 (by omega)) l0 (by omega) (fun c hc => (hp c hc).2) hfr hlo) (fun P a hp => hp) (fun P a v B hp hq => ?_)
  obtain ⟨L, ⟨q1, q2, q3, q4, q5, q6, q7, ⟨kb, v1, v2⟩, q9⟩, hl, hc, hs⟩ := hq
  exact ⟨L, ⟨q1, fun y hy => by rw [q2 y hy]; exact hx0, q3, q5, q7, h.size, kb, hh0, Nat.le_refl _, Nat.ne_of_gt E.lt, q6, by rw [List.map_map]; exact v2⟩, hl, hc, hs⟩
end StrChars.Road
end Jvm.Pilot.@@N@@

namespace Jvm.Pilot.@@N@@
open Jvm Jvm.ClassFile Sem Op Lib Jvm.Free Jvm.Stand Jvm.LawKit Jvm.RoadKit Bundle Jvm.Pilot.@@N@@.Jvm.D
theorem own_wid {p : Program} {l : Launch} {e : Env} {R : Room} {s : State} {m : MethodId} {args : Array Value} {below : List Frame} {meth : Method} {c : Code} {T : State} {locs : List Loc} {cells slots c' s' : Nat} (X : Stand p l e R s m args below meth c T locs cells slots) (h1 : cells ≤ c') (h2 : slots ≤ s') : Stand p l e R s m args below meth c T locs c' s' :=
  ⟨X.admits, X.cas, X.clock, X.frames, X.room, X.hears, X.method, X.code, X.here, X.tail, X.warmed, X.limits, X.bytes, X.same.mono h1 h2⟩
abbrev Sx (p : Program) (e : Env) (b : List Frame) (T : State) (m : MethodId) (pc : Nat) (L : Array Slot) (S : List Value) (t : State) : Prop := Steps p.tables e b (T.setTop (mkF m pc L S)) t
abbrev xvi (x : Int32) : Slot := .val (.int x)
abbrev xvj (x : Int64) : Slot := .val (.long x)
abbrev xvr (x : Addr) : Slot := .val (.ref x)
abbrev xwi (x : Int32) : Value := .int x
abbrev xwj (x : Int64) : Value := .long x
abbrev xwr (x : Addr) : Value := .ref x
abbrev xun : Slot := .unset
abbrev xse : Slot := .second
theorem own_selp {Z : State} {a0 : Array Value} {y : MethodName} {n : Nat} (wi : (Cond.instantiable y.cls n).before a0 Z = true) (wp : (Cond.privateMethod y).before a0 Z = true) (wn : (Cond.instanceMethod y).before a0 Z = true) (hy : y.cls ≠ "java/lang/invoke/MethodHandle" ∧ y.cls ≠ "java/lang/invoke/VarHandle") : (Cond.selects y.cls y y).before a0 Z = true := by
  obtain ⟨c, k, h1, h2, -, h4, -⟩ := Cond.instantiable_spec wi
  exact Jvm.Stand.selects_self_of_private h1 h2 (Bool.or_eq_false_iff.mp h4).1 (Cond.privateMethod_at wp) wn hy
theorem y_iload {p : Program} {l : Launch} {e : Env} {R : Room} {s : State} {m : MethodId} {args : Array Value} {below : List Frame} {meth : Method} {c : Code} {T : State} {locs : List Loc} {cells slots : Nat} {t : State} {L : Array Slot} {S : List Value} {pc : Nat} (X : Stand p l e R s m args below meth c T locs cells slots) (hx : p.tables.exec = Jvm.exec) {k : Nat} {v : Int32} (q : Nat) (hd : decode c.code pc = .ok (.iload k, 2)) (hl : L[k]? = some (.val (.int v))) (hq : pc + 2 = q) (hr : Sx p e below T m q L (.int v :: S) t) : Sx p e below T m pc L S t := by subst hq; exact XS.iload X.here hx rfl hd hl hr
theorem y_iloadN {p : Program} {l : Launch} {e : Env} {R : Room} {s : State} {m : MethodId} {args : Array Value} {below : List Frame} {meth : Method} {c : Code} {T : State} {locs : List Loc} {cells slots : Nat} {t : State} {L : Array Slot} {S : List Value} {pc : Nat} (X : Stand p l e R s m args below meth c T locs cells slots) (hx : p.tables.exec = Jvm.exec) {k : Fin 4} {v : Int32} (q : Nat) (hd : decode c.code pc = .ok (.iload_n k, 1)) (hl : L[k.val]? = some (.val (.int v))) (hq : pc + 1 = q) (hr : Sx p e below T m q L (.int v :: S) t) : Sx p e below T m pc L S t := by subst hq; exact XS.iloadN X.here hx rfl hd hl hr
theorem y_lload {p : Program} {l : Launch} {e : Env} {R : Room} {s : State} {m : MethodId} {args : Array Value} {below : List Frame} {meth : Method} {c : Code} {T : State} {locs : List Loc} {cells slots : Nat} {t : State} {L : Array Slot} {S : List Value} {pc : Nat} (X : Stand p l e R s m args below meth c T locs cells slots) (hx : p.tables.exec = Jvm.exec) {k : Nat} {v : Int64} (q : Nat) (hd : decode c.code pc = .ok (.lload k, 2)) (hl : L[k]? = some (.val (.long v))) (hq : pc + 2 = q) (hr : Sx p e below T m q L (.long v :: S) t) : Sx p e below T m pc L S t := by subst hq; exact XS.lload X.here hx rfl hd hl hr
theorem y_lloadN {p : Program} {l : Launch} {e : Env} {R : Room} {s : State} {m : MethodId} {args : Array Value} {below : List Frame} {meth : Method} {c : Code} {T : State} {locs : List Loc} {cells slots : Nat} {t : State} {L : Array Slot} {S : List Value} {pc : Nat} (X : Stand p l e R s m args below meth c T locs cells slots) (hx : p.tables.exec = Jvm.exec) {k : Fin 4} {v : Int64} (q : Nat) (hd : decode c.code pc = .ok (.lload_n k, 1)) (hl : L[k.val]? = some (.val (.long v))) (hq : pc + 1 = q) (hr : Sx p e below T m q L (.long v :: S) t) : Sx p e below T m pc L S t := by subst hq; exact XS.lloadN X.here hx rfl hd hl hr
theorem y_aload {p : Program} {l : Launch} {e : Env} {R : Room} {s : State} {m : MethodId} {args : Array Value} {below : List Frame} {meth : Method} {c : Code} {T : State} {locs : List Loc} {cells slots : Nat} {t : State} {L : Array Slot} {S : List Value} {pc : Nat} (X : Stand p l e R s m args below meth c T locs cells slots) (hx : p.tables.exec = Jvm.exec) {k : Nat} {v : Value} (q : Nat) (hd : decode c.code pc = .ok (.aload k, 2)) (hl : L[k]? = some (.val v)) (hv : v.isRef = true) (hq : pc + 2 = q) (hr : Sx p e below T m q L (v :: S) t) : Sx p e below T m pc L S t := by subst hq; exact XS.aload X.here hx rfl hd hl hv hr
theorem y_aloadN {p : Program} {l : Launch} {e : Env} {R : Room} {s : State} {m : MethodId} {args : Array Value} {below : List Frame} {meth : Method} {c : Code} {T : State} {locs : List Loc} {cells slots : Nat} {t : State} {L : Array Slot} {S : List Value} {pc : Nat} (X : Stand p l e R s m args below meth c T locs cells slots) (hx : p.tables.exec = Jvm.exec) {k : Fin 4} {v : Value} (q : Nat) (hd : decode c.code pc = .ok (.aload_n k, 1)) (hl : L[k.val]? = some (.val v)) (hv : v.isRef = true) (hq : pc + 1 = q) (hr : Sx p e below T m q L (v :: S) t) : Sx p e below T m pc L S t := by subst hq; exact XS.aloadN X.here hx rfl hd hl hv hr
theorem y_iconst {p : Program} {l : Launch} {e : Env} {R : Room} {s : State} {m : MethodId} {args : Array Value} {below : List Frame} {meth : Method} {c : Code} {T : State} {locs : List Loc} {cells slots : Nat} {t : State} {L : Array Slot} {S : List Value} {pc : Nat} (X : Stand p l e R s m args below meth c T locs cells slots) (hx : p.tables.exec = Jvm.exec) {i : Int} (z : Int32) (q : Nat) (hd : decode c.code pc = .ok (.iconst i, 1)) (hz : Int32.ofInt i = z) (hq : pc + 1 = q) (hr : Sx p e below T m q L (.int z :: S) t) : Sx p e below T m pc L S t := by subst hq; exact XS.iconst X.here hx rfl hd (by rw [hz]; exact hr)
theorem y_bipush {p : Program} {l : Launch} {e : Env} {R : Room} {s : State} {m : MethodId} {args : Array Value} {below : List Frame} {meth : Method} {c : Code} {T : State} {locs : List Loc} {cells slots : Nat} {t : State} {L : Array Slot} {S : List Value} {pc : Nat} (X : Stand p l e R s m args below meth c T locs cells slots) (hx : p.tables.exec = Jvm.exec) {i : Int} (z : Int32) (q : Nat) (hd : decode c.code pc = .ok (.bipush i, 2)) (hz : (Int8.ofInt i).toInt32 = z) (hq : pc + 2 = q) (hr : Sx p e below T m q L (.int z :: S) t) : Sx p e below T m pc L S t := by subst hq; exact XS.bipush X.here hx rfl hd (by rw [hz]; exact hr)
theorem y_sipush {p : Program} {l : Launch} {e : Env} {R : Room} {s : State} {m : MethodId} {args : Array Value} {below : List Frame} {meth : Method} {c : Code} {T : State} {locs : List Loc} {cells slots : Nat} {t : State} {L : Array Slot} {S : List Value} {pc : Nat} (X : Stand p l e R s m args below meth c T locs cells slots) (hx : p.tables.exec = Jvm.exec) {i : Int} (z : Int32) (q : Nat) (hd : decode c.code pc = .ok (.sipush i, 3)) (hz : (Int16.ofInt i).toInt32 = z) (hq : pc + 3 = q) (hr : Sx p e below T m q L (.int z :: S) t) : Sx p e below T m pc L S t := by subst hq; exact XS.sipush X.here hx rfl hd (by rw [hz]; exact hr)
theorem y_aconst_null {p : Program} {l : Launch} {e : Env} {R : Room} {s : State} {m : MethodId} {args : Array Value} {below : List Frame} {meth : Method} {c : Code} {T : State} {locs : List Loc} {cells slots : Nat} {t : State} {L : Array Slot} {S : List Value} {pc : Nat} (X : Stand p l e R s m args below meth c T locs cells slots) (hx : p.tables.exec = Jvm.exec) (q : Nat) (hd : decode c.code pc = .ok (.aconst_null, 1)) (hq : pc + 1 = q) (hr : Sx p e below T m q L (.null :: S) t) : Sx p e below T m pc L S t := by subst hq; exact XS.aconstNull X.here hx rfl hd hr
theorem y_iadd {p : Program} {l : Launch} {e : Env} {R : Room} {s : State} {m : MethodId} {args : Array Value} {below : List Frame} {meth : Method} {c : Code} {T : State} {locs : List Loc} {cells slots : Nat} {t : State} {L : Array Slot} {S : List Value} {pc : Nat} (X : Stand p l e R s m args below meth c T locs cells slots) (hx : p.tables.exec = Jvm.exec) {x y : Int32} (q : Nat) (hd : decode c.code pc = .ok (.iadd, 1)) (hq : pc + 1 = q) (hr : Sx p e below T m q L (.int (x + y) :: S) t) : Sx p e below T m pc L (.int y :: .int x :: S) t := by subst hq; exact XS.iadd X.here hx rfl hd rfl hr
theorem y_ladd {p : Program} {l : Launch} {e : Env} {R : Room} {s : State} {m : MethodId} {args : Array Value} {below : List Frame} {meth : Method} {c : Code} {T : State} {locs : List Loc} {cells slots : Nat} {t : State} {L : Array Slot} {S : List Value} {pc : Nat} (X : Stand p l e R s m args below meth c T locs cells slots) (hx : p.tables.exec = Jvm.exec) {x y : Int64} (q : Nat) (hd : decode c.code pc = .ok (.ladd, 1)) (hq : pc + 1 = q) (hr : Sx p e below T m q L (.long (x + y) :: S) t) : Sx p e below T m pc L (.long y :: .long x :: S) t := by subst hq; exact XS.ladd X.here hx rfl hd rfl hr
theorem y_isub {p : Program} {l : Launch} {e : Env} {R : Room} {s : State} {m : MethodId} {args : Array Value} {below : List Frame} {meth : Method} {c : Code} {T : State} {locs : List Loc} {cells slots : Nat} {t : State} {L : Array Slot} {S : List Value} {pc : Nat} (X : Stand p l e R s m args below meth c T locs cells slots) (hx : p.tables.exec = Jvm.exec) {x y : Int32} (q : Nat) (hd : decode c.code pc = .ok (.isub, 1)) (hq : pc + 1 = q) (hr : Sx p e below T m q L (.int (x - y) :: S) t) : Sx p e below T m pc L (.int y :: .int x :: S) t := by subst hq; exact XS.isub X.here hx rfl hd rfl hr
theorem y_lsub {p : Program} {l : Launch} {e : Env} {R : Room} {s : State} {m : MethodId} {args : Array Value} {below : List Frame} {meth : Method} {c : Code} {T : State} {locs : List Loc} {cells slots : Nat} {t : State} {L : Array Slot} {S : List Value} {pc : Nat} (X : Stand p l e R s m args below meth c T locs cells slots) (hx : p.tables.exec = Jvm.exec) {x y : Int64} (q : Nat) (hd : decode c.code pc = .ok (.lsub, 1)) (hq : pc + 1 = q) (hr : Sx p e below T m q L (.long (x - y) :: S) t) : Sx p e below T m pc L (.long y :: .long x :: S) t := by subst hq; exact XS.lsub X.here hx rfl hd rfl hr
theorem y_imul {p : Program} {l : Launch} {e : Env} {R : Room} {s : State} {m : MethodId} {args : Array Value} {below : List Frame} {meth : Method} {c : Code} {T : State} {locs : List Loc} {cells slots : Nat} {t : State} {L : Array Slot} {S : List Value} {pc : Nat} (X : Stand p l e R s m args below meth c T locs cells slots) (hx : p.tables.exec = Jvm.exec) {x y : Int32} (q : Nat) (hd : decode c.code pc = .ok (.imul, 1)) (hq : pc + 1 = q) (hr : Sx p e below T m q L (.int (x * y) :: S) t) : Sx p e below T m pc L (.int y :: .int x :: S) t := by subst hq; exact XS.imul X.here hx rfl hd rfl hr
theorem y_lmul {p : Program} {l : Launch} {e : Env} {R : Room} {s : State} {m : MethodId} {args : Array Value} {below : List Frame} {meth : Method} {c : Code} {T : State} {locs : List Loc} {cells slots : Nat} {t : State} {L : Array Slot} {S : List Value} {pc : Nat} (X : Stand p l e R s m args below meth c T locs cells slots) (hx : p.tables.exec = Jvm.exec) {x y : Int64} (q : Nat) (hd : decode c.code pc = .ok (.lmul, 1)) (hq : pc + 1 = q) (hr : Sx p e below T m q L (.long (x * y) :: S) t) : Sx p e below T m pc L (.long y :: .long x :: S) t := by subst hq; exact XS.lmul X.here hx rfl hd rfl hr
theorem y_iand {p : Program} {l : Launch} {e : Env} {R : Room} {s : State} {m : MethodId} {args : Array Value} {below : List Frame} {meth : Method} {c : Code} {T : State} {locs : List Loc} {cells slots : Nat} {t : State} {L : Array Slot} {S : List Value} {pc : Nat} (X : Stand p l e R s m args below meth c T locs cells slots) (hx : p.tables.exec = Jvm.exec) {x y : Int32} (q : Nat) (hd : decode c.code pc = .ok (.iand, 1)) (hq : pc + 1 = q) (hr : Sx p e below T m q L (.int (x &&& y) :: S) t) : Sx p e below T m pc L (.int y :: .int x :: S) t := by subst hq; exact XS.iand X.here hx rfl hd rfl hr
theorem y_land {p : Program} {l : Launch} {e : Env} {R : Room} {s : State} {m : MethodId} {args : Array Value} {below : List Frame} {meth : Method} {c : Code} {T : State} {locs : List Loc} {cells slots : Nat} {t : State} {L : Array Slot} {S : List Value} {pc : Nat} (X : Stand p l e R s m args below meth c T locs cells slots) (hx : p.tables.exec = Jvm.exec) {x y : Int64} (q : Nat) (hd : decode c.code pc = .ok (.land, 1)) (hq : pc + 1 = q) (hr : Sx p e below T m q L (.long (x &&& y) :: S) t) : Sx p e below T m pc L (.long y :: .long x :: S) t := by subst hq; exact XS.land X.here hx rfl hd rfl hr
theorem y_ior {p : Program} {l : Launch} {e : Env} {R : Room} {s : State} {m : MethodId} {args : Array Value} {below : List Frame} {meth : Method} {c : Code} {T : State} {locs : List Loc} {cells slots : Nat} {t : State} {L : Array Slot} {S : List Value} {pc : Nat} (X : Stand p l e R s m args below meth c T locs cells slots) (hx : p.tables.exec = Jvm.exec) {x y : Int32} (q : Nat) (hd : decode c.code pc = .ok (.ior, 1)) (hq : pc + 1 = q) (hr : Sx p e below T m q L (.int (x ||| y) :: S) t) : Sx p e below T m pc L (.int y :: .int x :: S) t := by subst hq; exact XS.ior X.here hx rfl hd rfl hr
theorem y_lor {p : Program} {l : Launch} {e : Env} {R : Room} {s : State} {m : MethodId} {args : Array Value} {below : List Frame} {meth : Method} {c : Code} {T : State} {locs : List Loc} {cells slots : Nat} {t : State} {L : Array Slot} {S : List Value} {pc : Nat} (X : Stand p l e R s m args below meth c T locs cells slots) (hx : p.tables.exec = Jvm.exec) {x y : Int64} (q : Nat) (hd : decode c.code pc = .ok (.lor, 1)) (hq : pc + 1 = q) (hr : Sx p e below T m q L (.long (x ||| y) :: S) t) : Sx p e below T m pc L (.long y :: .long x :: S) t := by subst hq; exact XS.lor X.here hx rfl hd rfl hr
theorem y_ixor {p : Program} {l : Launch} {e : Env} {R : Room} {s : State} {m : MethodId} {args : Array Value} {below : List Frame} {meth : Method} {c : Code} {T : State} {locs : List Loc} {cells slots : Nat} {t : State} {L : Array Slot} {S : List Value} {pc : Nat} (X : Stand p l e R s m args below meth c T locs cells slots) (hx : p.tables.exec = Jvm.exec) {x y : Int32} (q : Nat) (hd : decode c.code pc = .ok (.ixor, 1)) (hq : pc + 1 = q) (hr : Sx p e below T m q L (.int (x ^^^ y) :: S) t) : Sx p e below T m pc L (.int y :: .int x :: S) t := by subst hq; exact XS.ixor X.here hx rfl hd rfl hr
theorem y_lxor {p : Program} {l : Launch} {e : Env} {R : Room} {s : State} {m : MethodId} {args : Array Value} {below : List Frame} {meth : Method} {c : Code} {T : State} {locs : List Loc} {cells slots : Nat} {t : State} {L : Array Slot} {S : List Value} {pc : Nat} (X : Stand p l e R s m args below meth c T locs cells slots) (hx : p.tables.exec = Jvm.exec) {x y : Int64} (q : Nat) (hd : decode c.code pc = .ok (.lxor, 1)) (hq : pc + 1 = q) (hr : Sx p e below T m q L (.long (x ^^^ y) :: S) t) : Sx p e below T m pc L (.long y :: .long x :: S) t := by subst hq; exact XS.lxor X.here hx rfl hd rfl hr
theorem y_goto {p : Program} {l : Launch} {e : Env} {R : Room} {s : State} {m : MethodId} {args : Array Value} {below : List Frame} {meth : Method} {c : Code} {T : State} {locs : List Loc} {cells slots : Nat} {t : State} {L : Array Slot} {S : List Value} {pc : Nat} (X : Stand p l e R s m args below meth c T locs cells slots) (hx : p.tables.exec = Jvm.exec) {o : Int} (q : Nat) (hd : decode c.code pc = .ok (.goto o, 3)) (ho : 0 ≤ (pc : Int) + o) (hq : ((pc : Int) + o).toNat = q) (hr : Sx p e below T m q L S t) : Sx p e below T m pc L S t := by subst hq; exact XS.goto X.here hx rfl rfl hd ho rfl hr
theorem y_ifYes {p : Program} {l : Launch} {e : Env} {R : Room} {s : State} {m : MethodId} {args : Array Value} {below : List Frame} {meth : Method} {c : Code} {T : State} {locs : List Loc} {cells slots : Nat} {t : State} {L : Array Slot} {S : List Value} {pc : Nat} (X : Stand p l e R s m args below meth c T locs cells slots) (hx : p.tables.exec = Jvm.exec) {cd : ClassFile.Cond} {x : Int32} {o : Int} (q : Nat) (hd : decode c.code pc = .ok (.ifCond cd o, 3)) (hc : ifCond.holds cd x = true) (ho : 0 ≤ (pc : Int) + o) (hq : ((pc : Int) + o).toNat = q) (hr : Sx p e below T m q L S t) : Sx p e below T m pc L (.int x :: S) t := by subst hq; exact XS.ifYes X.here hx rfl rfl hd rfl hc ho rfl hr
theorem y_ifNo {p : Program} {l : Launch} {e : Env} {R : Room} {s : State} {m : MethodId} {args : Array Value} {below : List Frame} {meth : Method} {c : Code} {T : State} {locs : List Loc} {cells slots : Nat} {t : State} {L : Array Slot} {S : List Value} {pc : Nat} (X : Stand p l e R s m args below meth c T locs cells slots) (hx : p.tables.exec = Jvm.exec) {cd : ClassFile.Cond} {x : Int32} {o : Int} (q : Nat) (hd : decode c.code pc = .ok (.ifCond cd o, 3)) (hc : ifCond.holds cd x = false) (hq : pc + 3 = q) (hr : Sx p e below T m q L S t) : Sx p e below T m pc L (.int x :: S) t := by subst hq; exact XS.ifNo X.here hx rfl hd rfl hc hr
theorem y_icmpYes {p : Program} {l : Launch} {e : Env} {R : Room} {s : State} {m : MethodId} {args : Array Value} {below : List Frame} {meth : Method} {c : Code} {T : State} {locs : List Loc} {cells slots : Nat} {t : State} {L : Array Slot} {S : List Value} {pc : Nat} (X : Stand p l e R s m args below meth c T locs cells slots) (hx : p.tables.exec = Jvm.exec) {cd : ClassFile.Cond} {x y : Int32} {o : Int} (q : Nat) (hd : decode c.code pc = .ok (.if_icmp cd o, 3)) (hc : if_icmp.holds cd x y = true) (ho : 0 ≤ (pc : Int) + o) (hq : ((pc : Int) + o).toNat = q) (hr : Sx p e below T m q L S t) : Sx p e below T m pc L (.int y :: .int x :: S) t := by subst hq; exact XS.icmpYes X.here hx rfl rfl hd rfl hc ho rfl hr
theorem y_icmpNo {p : Program} {l : Launch} {e : Env} {R : Room} {s : State} {m : MethodId} {args : Array Value} {below : List Frame} {meth : Method} {c : Code} {T : State} {locs : List Loc} {cells slots : Nat} {t : State} {L : Array Slot} {S : List Value} {pc : Nat} (X : Stand p l e R s m args below meth c T locs cells slots) (hx : p.tables.exec = Jvm.exec) {cd : ClassFile.Cond} {x y : Int32} {o : Int} (q : Nat) (hd : decode c.code pc = .ok (.if_icmp cd o, 3)) (hc : if_icmp.holds cd x y = false) (hq : pc + 3 = q) (hr : Sx p e below T m q L S t) : Sx p e below T m pc L (.int y :: .int x :: S) t := by subst hq; exact XS.icmpNo X.here hx rfl hd rfl hc hr
theorem y_dup {p : Program} {l : Launch} {e : Env} {R : Room} {s : State} {m : MethodId} {args : Array Value} {below : List Frame} {meth : Method} {c : Code} {T : State} {locs : List Loc} {cells slots : Nat} {t : State} {L : Array Slot} {S : List Value} {pc : Nat} (X : Stand p l e R s m args below meth c T locs cells slots) (hx : p.tables.exec = Jvm.exec) {v : Value} (q : Nat) (hd : decode c.code pc = .ok (.dup, 1)) (hc : v.category = 1) (hq : pc + 1 = q) (hr : Sx p e below T m q L (v :: v :: S) t) : Sx p e below T m pc L (v :: S) t := by subst hq; exact XS.dup X.here hx rfl hd rfl hc hr
theorem y_pop {p : Program} {l : Launch} {e : Env} {R : Room} {s : State} {m : MethodId} {args : Array Value} {below : List Frame} {meth : Method} {c : Code} {T : State} {locs : List Loc} {cells slots : Nat} {t : State} {L : Array Slot} {S : List Value} {pc : Nat} (X : Stand p l e R s m args below meth c T locs cells slots) (hx : p.tables.exec = Jvm.exec) {v : Value} (q : Nat) (hd : decode c.code pc = .ok (.pop, 1)) (hc : v.category = 1) (hq : pc + 1 = q) (hr : Sx p e below T m q L S t) : Sx p e below T m pc L (v :: S) t := by subst hq; exact XS.pop X.here hx rfl hd rfl hc hr
theorem own_nar {v : Value} {t : FieldType} (h : v.isRef = true) (ht : t.isReference = true) : narrow t v = v := by
  rcases XT.refc h with rfl | ⟨r, rfl⟩ <;> cases t <;> first | rfl | cases ht
theorem own_fit {v : Value} {t : FieldType} (h : v.isRef = true) (ht : t.isReference = true) : fits t v = true := by
  rcases XT.refc h with rfl | ⟨r, rfl⟩ <;> cases t <;> first | rfl | cases ht
abbrev HW (a0 : Array Value) (Z : State) : Prop := ∀ d ∈ tables_1, d.before a0 Z = true
theorem w_at {a0 : Array Value} {Z : State} (hw : HW a0 Z) {d : Jvm.Cond} (i : Nat) (h : tables_1[i]? = some d) : d.before a0 Z = true := hw _ (List.mem_of_getElem? h)
theorem w_0 {a0 : Array Value} {Z : State} (hw : HW a0 Z) : (Cond.methodLink "com/example/nishana/nishana/ResponseIsRedirectPinLaw" 17 ⟨"com/example/nishana/nishana/ResponseIsRedirectPinLaw", "pickStatus", "(II)I"⟩).before a0 Z = true := w_at hw 0 rfl
theorem w_1 {a0 : Array Value} {Z : State} (hw : HW a0 Z) : (Cond.static ⟨"com/example/nishana/nishana/ResponseIsRedirectPinLaw", "pickStatus", "(II)I"⟩).before a0 Z = true := w_at hw 1 rfl
theorem w_2 {a0 : Array Value} {Z : State} (hw : HW a0 Z) : (Cond.initialized "com/example/nishana/nishana/ResponseIsRedirectPinLaw").before a0 Z = true := w_at hw 2 rfl
theorem w_3 {a0 : Array Value} {Z : State} (hw : HW a0 Z) : (Cond.code ⟨"com/example/nishana/nishana/ResponseIsRedirectPinLaw", "pickStatus", "(II)I"⟩ method_2_code 3 (Option.some FieldType.int)).before a0 Z = true := w_at hw 3 rfl
theorem w_4 {a0 : Array Value} {Z : State} (hw : HW a0 Z) : (Cond.methodLink "com/example/nishana/nishana/ResponseIsRedirectPinLaw" 23 ⟨"com/example/nishana/nishana/ResponseIsRedirectPinLaw", "pickLocation", "(I)Ljava/lang/String;"⟩).before a0 Z = true := w_at hw 4 rfl
theorem w_5 {a0 : Array Value} {Z : State} (hw : HW a0 Z) : (Cond.static ⟨"com/example/nishana/nishana/ResponseIsRedirectPinLaw", "pickLocation", "(I)Ljava/lang/String;"⟩).before a0 Z = true := w_at hw 5 rfl
theorem w_6 {a0 : Array Value} {Z : State} (hw : HW a0 Z) : (Cond.code ⟨"com/example/nishana/nishana/ResponseIsRedirectPinLaw", "pickLocation", "(I)Ljava/lang/String;"⟩ method_3_code 5 (Option.some (FieldType.object "java/lang/String"))).before a0 Z = true := w_at hw 6 rfl
theorem w_7 {a0 : Array Value} {Z : State} (hw : HW a0 Z) : (Cond.methodLink "com/example/nishana/nishana/ResponseIsRedirectPinLaw" 13 ⟨"java/lang/String", "valueOf", "(C)Ljava/lang/String;"⟩).before a0 Z = true := w_at hw 7 rfl
theorem w_8 {a0 : Array Value} {Z : State} (hw : HW a0 Z) : (Cond.static ⟨"java/lang/String", "valueOf", "(C)Ljava/lang/String;"⟩).before a0 Z = true := w_at hw 8 rfl
theorem w_9 {a0 : Array Value} {Z : State} (hw : HW a0 Z) : (Cond.initialized "java/lang/String").before a0 Z = true := w_at hw 9 rfl
theorem w_10 {a0 : Array Value} {Z : State} (hw : HW a0 Z) : (Cond.code ⟨"java/lang/String", "valueOf", "(C)Ljava/lang/String;"⟩ jdk_42_method_139_code 1 (Option.some (FieldType.object "java/lang/String"))).before a0 Z = true := w_at hw 10 rfl
theorem w_11 {a0 : Array Value} {Z : State} (hw : HW a0 Z) : (Cond.fieldLink "java/lang/String" 38 "java/lang/String" "COMPACT_STRINGS" "Z").before a0 Z = true := w_at hw 11 rfl
theorem w_12 {a0 : Array Value} {Z : State} (hw : HW a0 Z) : (Cond.methodLink "java/lang/String" 1015 ⟨"java/lang/StringLatin1", "canEncode", "(C)Z"⟩).before a0 Z = true := w_at hw 12 rfl
theorem w_13 {a0 : Array Value} {Z : State} (hw : HW a0 Z) : (Cond.static ⟨"java/lang/StringLatin1", "canEncode", "(C)Z"⟩).before a0 Z = true := w_at hw 13 rfl
theorem w_14 {a0 : Array Value} {Z : State} (hw : HW a0 Z) : (Cond.initialized "java/lang/StringLatin1").before a0 Z = true := w_at hw 14 rfl
theorem w_15 {a0 : Array Value} {Z : State} (hw : HW a0 Z) : (Cond.code ⟨"java/lang/StringLatin1", "canEncode", "(C)Z"⟩ jdk_43_method_3_code 1 (Option.some FieldType.boolean)).before a0 Z = true := w_at hw 15 rfl
theorem w_16 {a0 : Array Value} {Z : State} (hw : HW a0 Z) : (Cond.classLink "java/lang/String" 10 "java/lang/String").before a0 Z = true := w_at hw 16 rfl
theorem w_17 {a0 : Array Value} {Z : State} (hw : HW a0 Z) : (Cond.instantiable "java/lang/String" 4).before a0 Z = true := w_at hw 17 rfl
theorem w_18 {a0 : Array Value} {Z : State} (hw : HW a0 Z) : (Cond.methodLink "java/lang/String" 1018 ⟨"java/lang/StringLatin1", "toBytes", "(C)[B"⟩).before a0 Z = true := w_at hw 18 rfl
theorem w_19 {a0 : Array Value} {Z : State} (hw : HW a0 Z) : (Cond.static ⟨"java/lang/StringLatin1", "toBytes", "(C)[B"⟩).before a0 Z = true := w_at hw 19 rfl
theorem w_20 {a0 : Array Value} {Z : State} (hw : HW a0 Z) : (Cond.code ⟨"java/lang/StringLatin1", "toBytes", "(C)[B"⟩ jdk_43_method_46_code 1 (Option.some (FieldType.array FieldType.byte))).before a0 Z = true := w_at hw 20 rfl
theorem w_21 {a0 : Array Value} {Z : State} (hw : HW a0 Z) : (Cond.arrayClass FieldType.byte).before a0 Z = true := w_at hw 21 rfl
theorem w_22 {a0 : Array Value} {Z : State} (hw : HW a0 Z) : (Cond.methodLink "java/lang/String" 209 ⟨"java/lang/String", "<init>", "([BB)V"⟩).before a0 Z = true := w_at hw 22 rfl
theorem w_23 {a0 : Array Value} {Z : State} (hw : HW a0 Z) : (Cond.instanceMethod ⟨"java/lang/String", "<init>", "([BB)V"⟩).before a0 Z = true := w_at hw 23 rfl
theorem w_25 {a0 : Array Value} {Z : State} (hw : HW a0 Z) : (Cond.code ⟨"java/lang/String", "<init>", "([BB)V"⟩ jdk_42_method_151_code 3 (Option.none : Option FieldType)).before a0 Z = true := w_at hw 25 rfl
theorem w_26 {a0 : Array Value} {Z : State} (hw : HW a0 Z) : (Cond.methodLink "java/lang/String" 1 ⟨"java/lang/Object", "<init>", "()V"⟩).before a0 Z = true := w_at hw 26 rfl
theorem w_27 {a0 : Array Value} {Z : State} (hw : HW a0 Z) : (Cond.instanceMethod ⟨"java/lang/Object", "<init>", "()V"⟩).before a0 Z = true := w_at hw 27 rfl
theorem w_28 {a0 : Array Value} {Z : State} (hw : HW a0 Z) : (Cond.code ⟨"java/lang/Object", "<init>", "()V"⟩ object_method_1_code 1 (Option.none : Option FieldType)).before a0 Z = true := w_at hw 28 rfl
theorem w_29 {a0 : Array Value} {Z : State} (hw : HW a0 Z) : (Cond.fieldLink "java/lang/String" 9 "java/lang/String" "value" "[B").before a0 Z = true := w_at hw 29 rfl
theorem w_30 {a0 : Array Value} {Z : State} (hw : HW a0 Z) : (Cond.laysFinal "java/lang/String" "java/lang/String" "value" "[B").before a0 Z = true := w_at hw 30 rfl
theorem w_31 {a0 : Array Value} {Z : State} (hw : HW a0 Z) : (Cond.fieldLink "java/lang/String" 15 "java/lang/String" "coder" "B").before a0 Z = true := w_at hw 31 rfl
theorem w_32 {a0 : Array Value} {Z : State} (hw : HW a0 Z) : (Cond.laysFinal "java/lang/String" "java/lang/String" "coder" "B").before a0 Z = true := w_at hw 32 rfl
theorem w_33 {a0 : Array Value} {Z : State} (hw : HW a0 Z) : (Cond.classLink "com/example/nishana/nishana/ResponseIsRedirectPinLaw" 27 "com/example/nishana/nishana/Response").before a0 Z = true := w_at hw 33 rfl
theorem w_34 {a0 : Array Value} {Z : State} (hw : HW a0 Z) : (Cond.instantiable "com/example/nishana/nishana/Response" 6).before a0 Z = true := w_at hw 34 rfl
theorem w_35 {a0 : Array Value} {Z : State} (hw : HW a0 Z) : (Cond.initialized "com/example/nishana/nishana/Response").before a0 Z = true := w_at hw 35 rfl
theorem w_36 {a0 : Array Value} {Z : State} (hw : HW a0 Z) : (Cond.methodLink "com/example/nishana/nishana/ResponseIsRedirectPinLaw" 29 ⟨"com/example/nishana/nishana/Response", "<init>", "(ILjava/lang/String;Ljava/lang/String;[BJ)V"⟩).before a0 Z = true := w_at hw 36 rfl
theorem w_37 {a0 : Array Value} {Z : State} (hw : HW a0 Z) : (Cond.instanceMethod ⟨"com/example/nishana/nishana/Response", "<init>", "(ILjava/lang/String;Ljava/lang/String;[BJ)V"⟩).before a0 Z = true := w_at hw 37 rfl
theorem w_38 {a0 : Array Value} {Z : State} (hw : HW a0 Z) : (Cond.code ⟨"com/example/nishana/nishana/Response", "<init>", "(ILjava/lang/String;Ljava/lang/String;[BJ)V"⟩ prog_19_method_1_code 7 (Option.none : Option FieldType)).before a0 Z = true := w_at hw 38 rfl
theorem w_39 {a0 : Array Value} {Z : State} (hw : HW a0 Z) : (Cond.methodLink "com/example/nishana/nishana/Response" 1 ⟨"com/example/nishana/nishana/Response", "<init>", "(ILjava/lang/String;Ljava/lang/String;[BJLcom/example/nishana/nishana/Transcript;)V"⟩).before a0 Z = true := w_at hw 39 rfl
theorem w_40 {a0 : Array Value} {Z : State} (hw : HW a0 Z) : (Cond.instanceMethod ⟨"com/example/nishana/nishana/Response", "<init>", "(ILjava/lang/String;Ljava/lang/String;[BJLcom/example/nishana/nishana/Transcript;)V"⟩).before a0 Z = true := w_at hw 40 rfl
theorem w_41 {a0 : Array Value} {Z : State} (hw : HW a0 Z) : (Cond.code ⟨"com/example/nishana/nishana/Response", "<init>", "(ILjava/lang/String;Ljava/lang/String;[BJLcom/example/nishana/nishana/Transcript;)V"⟩ prog_19_method_2_code 8 (Option.none : Option FieldType)).before a0 Z = true := w_at hw 41 rfl
theorem w_42 {a0 : Array Value} {Z : State} (hw : HW a0 Z) : (Cond.methodLink "com/example/nishana/nishana/Response" 7 ⟨"java/lang/Object", "<init>", "()V"⟩).before a0 Z = true := w_at hw 42 rfl
theorem w_43 {a0 : Array Value} {Z : State} (hw : HW a0 Z) : (Cond.fieldLink "com/example/nishana/nishana/Response" 12 "com/example/nishana/nishana/Response" "status" "I").before a0 Z = true := w_at hw 43 rfl
theorem w_44 {a0 : Array Value} {Z : State} (hw : HW a0 Z) : (Cond.laysFinal "com/example/nishana/nishana/Response" "com/example/nishana/nishana/Response" "status" "I").before a0 Z = true := w_at hw 44 rfl
theorem w_45 {a0 : Array Value} {Z : State} (hw : HW a0 Z) : (Cond.fieldLink "com/example/nishana/nishana/Response" 16 "com/example/nishana/nishana/Response" "contentType" "Ljava/lang/String;").before a0 Z = true := w_at hw 45 rfl
theorem w_46 {a0 : Array Value} {Z : State} (hw : HW a0 Z) : (Cond.laysFinal "com/example/nishana/nishana/Response" "com/example/nishana/nishana/Response" "contentType" "Ljava/lang/String;").before a0 Z = true := w_at hw 46 rfl
theorem w_47 {a0 : Array Value} {Z : State} (hw : HW a0 Z) : (Cond.fieldLink "com/example/nishana/nishana/Response" 20 "com/example/nishana/nishana/Response" "location" "Ljava/lang/String;").before a0 Z = true := w_at hw 47 rfl
theorem w_48 {a0 : Array Value} {Z : State} (hw : HW a0 Z) : (Cond.laysFinal "com/example/nishana/nishana/Response" "com/example/nishana/nishana/Response" "location" "Ljava/lang/String;").before a0 Z = true := w_at hw 48 rfl
theorem w_49 {a0 : Array Value} {Z : State} (hw : HW a0 Z) : (Cond.fieldLink "com/example/nishana/nishana/Response" 23 "com/example/nishana/nishana/Response" "body" "[B").before a0 Z = true := w_at hw 49 rfl
theorem w_50 {a0 : Array Value} {Z : State} (hw : HW a0 Z) : (Cond.laysFinal "com/example/nishana/nishana/Response" "com/example/nishana/nishana/Response" "body" "[B").before a0 Z = true := w_at hw 50 rfl
theorem w_51 {a0 : Array Value} {Z : State} (hw : HW a0 Z) : (Cond.fieldLink "com/example/nishana/nishana/Response" 27 "com/example/nishana/nishana/Response" "bytes" "J").before a0 Z = true := w_at hw 51 rfl
theorem w_52 {a0 : Array Value} {Z : State} (hw : HW a0 Z) : (Cond.laysFinal "com/example/nishana/nishana/Response" "com/example/nishana/nishana/Response" "bytes" "J").before a0 Z = true := w_at hw 52 rfl
theorem w_53 {a0 : Array Value} {Z : State} (hw : HW a0 Z) : (Cond.fieldLink "com/example/nishana/nishana/Response" 31 "com/example/nishana/nishana/Response" "transcript" "Lcom/example/nishana/nishana/Transcript;").before a0 Z = true := w_at hw 53 rfl
theorem w_54 {a0 : Array Value} {Z : State} (hw : HW a0 Z) : (Cond.laysFinal "com/example/nishana/nishana/Response" "com/example/nishana/nishana/Response" "transcript" "Lcom/example/nishana/nishana/Transcript;").before a0 Z = true := w_at hw 54 rfl
theorem w_55 {a0 : Array Value} {Z : State} (hw : HW a0 Z) : (Cond.constantLong "com/example/nishana/nishana/ResponseIsRedirectPinLaw" 32 (300 : Int64)).before a0 Z = true := w_at hw 55 rfl
theorem w_56 {a0 : Array Value} {Z : State} (hw : HW a0 Z) : (Cond.constantLong "com/example/nishana/nishana/ResponseIsRedirectPinLaw" 34 (100 : Int64)).before a0 Z = true := w_at hw 56 rfl
theorem w_57 {a0 : Array Value} {Z : State} (hw : HW a0 Z) : (Cond.methodLink "com/example/nishana/nishana/ResponseIsRedirectPinLaw" 36 ⟨"com/example/nishana/nishana/Response", "isRedirect", "()Z"⟩).before a0 Z = true := w_at hw 57 rfl
theorem w_58 {a0 : Array Value} {Z : State} (hw : HW a0 Z) : (Cond.declares ⟨"com/example/nishana/nishana/Response", "isRedirect", "()Z"⟩).before a0 Z = true := w_at hw 58 rfl
theorem w_59 {a0 : Array Value} {Z : State} (hw : HW a0 Z) : (Cond.instanceMethod ⟨"com/example/nishana/nishana/Response", "isRedirect", "()Z"⟩).before a0 Z = true := w_at hw 59 rfl
theorem w_60 {a0 : Array Value} {Z : State} (hw : HW a0 Z) : (Cond.selects "com/example/nishana/nishana/Response" ⟨"com/example/nishana/nishana/Response", "isRedirect", "()Z"⟩ ⟨"com/example/nishana/nishana/Response", "isRedirect", "()Z"⟩).before a0 Z = true := w_at hw 60 rfl
theorem w_61 {a0 : Array Value} {Z : State} (hw : HW a0 Z) : (Cond.code ⟨"com/example/nishana/nishana/Response", "isRedirect", "()Z"⟩ prog_19_method_6_code 1 (Option.some FieldType.boolean)).before a0 Z = true := w_at hw 61 rfl
theorem w_62 {a0 : Array Value} {Z : State} (hw : HW a0 Z) : (Cond.classLink "com/example/nishana/nishana/ResponseIsRedirectPinLaw" 8 "java/lang/String").before a0 Z = true := w_at hw 62 rfl
theorem w_63 {a0 : Array Value} {Z : State} (hw : HW a0 Z) : (Cond.arrayClass FieldType.char).before a0 Z = true := w_at hw 63 rfl
theorem w_64 {a0 : Array Value} {Z : State} (hw : HW a0 Z) : (Cond.methodLink "com/example/nishana/nishana/ResponseIsRedirectPinLaw" 10 ⟨"java/lang/String", "<init>", "([C)V"⟩).before a0 Z = true := w_at hw 64 rfl
theorem w_65 {a0 : Array Value} {Z : State} (hw : HW a0 Z) : (Cond.instanceMethod ⟨"java/lang/String", "<init>", "([C)V"⟩).before a0 Z = true := w_at hw 65 rfl
theorem w_66 {a0 : Array Value} {Z : State} (hw : HW a0 Z) : (Cond.code ⟨"java/lang/String", "<init>", "([C)V"⟩ jdk_42_method_3_code 2 (Option.none : Option FieldType)).before a0 Z = true := w_at hw 66 rfl
theorem w_67 {a0 : Array Value} {Z : State} (hw : HW a0 Z) : (Cond.methodLink "java/lang/String" 27 ⟨"java/lang/String", "<init>", "([CIILjava/lang/Void;)V"⟩).before a0 Z = true := w_at hw 67 rfl
theorem w_68 {a0 : Array Value} {Z : State} (hw : HW a0 Z) : (Cond.instanceMethod ⟨"java/lang/String", "<init>", "([CIILjava/lang/Void;)V"⟩).before a0 Z = true := w_at hw 68 rfl
theorem w_69 {a0 : Array Value} {Z : State} (hw : HW a0 Z) : (Cond.code ⟨"java/lang/String", "<init>", "([CIILjava/lang/Void;)V"⟩ jdk_42_method_149_code 6 (Option.none : Option FieldType)).before a0 Z = true := w_at hw 69 rfl
theorem w_70 {a0 : Array Value} {Z : State} (hw : HW a0 Z) : (Cond.stringLink "java/lang/String" 7 "").before a0 Z = true := w_at hw 70 rfl
theorem w_83 {a0 : Array Value} {Z : State} (hw : HW a0 Z) : (Cond.constant "com/example/nishana/nishana/ResponseIsRedirectPinLaw" 7 (2147483647 : Int32)).before a0 Z = true := w_at hw 83 rfl
theorem own_and255 (x : Int32) : ∃ k : Fin 256, (x &&& (255 : Int32)) = Int32.ofNat k.val := by
  have h : (x &&& 255).toBitVec.toNat < 256 := by
    simp only [Int32.toBitVec_and, BitVec.toNat_and]
    exact Nat.lt_succ_of_le Nat.and_le_right
  refine ⟨⟨_, h⟩, ?_⟩
  apply Int32.toBitVec_inj.mp
  show _ = BitVec.ofNat 32 _
  rw [BitVec.ofNat_toNat]; simp
theorem own_i2c (x : Int32) : (x &&& (255 : Int32)).toUInt32.toUInt16.toUInt32.toInt32 = x &&& 255 := by
  have t : ∀ k : Fin 256, (Int32.ofNat k.val).toUInt32.toUInt16.toUInt32.toInt32 = Int32.ofNat k.val := by decide +kernel
  obtain ⟨k, e⟩ := own_and255 x
  rw [e]; exact t k
theorem own_narc {c : Int32} (h : ¬ c < 0 ∧ ¬ (255 : Int32) < c) : nar .char c = c := by
  have t : ∀ k : Fin 256, nar .char (Int32.ofNat k.val) = Int32.ofNat k.val := by decide +kernel
  have h1 := h.1; have h2 := h.2
  rw [Int32.lt_iff_toInt_lt] at h1 h2
  have e1 : (0 : Int32).toInt = 0 := rfl
  have e2 : (255 : Int32).toInt = 255 := rfl
  have e : c = Int32.ofNat c.toInt.toNat := by
    apply Int32.toInt_inj.mp
    rw [Int32.toInt_ofNat_of_lt (by omega)]; omega
  rw [e]; exact t ⟨c.toInt.toNat, by omega⟩
theorem own_c255 (x : Int32) : ¬ (x &&& (255 : Int32)) < 0 ∧ ¬ (255 : Int32) < (x &&& (255 : Int32)) := by
  have t : ∀ k : Fin 256, ¬ (Int32.ofNat k.val) < 0 ∧ ¬ (255 : Int32) < (Int32.ofNat k.val) := by decide +kernel
  obtain ⟨k, e⟩ := own_and255 x
  rw [e]; exact t k
theorem own_nb (x : Int32) : x.toInt8.toInt32.toInt8.toInt32 = x.toInt8.toInt32 := by
  rw [Int8.toInt8_toInt32]
theorem own_up (cs : List Int32) (h : ∀ c ∈ cs, ¬ c < 0 ∧ ¬ (255 : Int32) < c) : ∀ c ∈ cs, ¬ c < 0 ∧ ¬ (65535 : Int32) < c := fun c hc => ⟨(h c hc).1, fun q => (h c hc).2 (by rw [Int32.lt_iff_toInt_lt] at q ⊢; have e1 : (65535 : Int32).toInt = 65535 := rfl; have e2 : (255 : Int32).toInt = 255 := rfl; omega)⟩
abbrev Gs : Type := Int32
def StartF (Z : State) (G : Gs) : Prop := Sta Z Z.heap "java/lang/String" "COMPACT_STRINGS" "Z" (.int G) ∧ ¬ G = (0 : Int32)
theorem own_wV {a0 : Array Value} {Z : State} (hw : ∀ d ∈ tables_1, d.before a0 Z = true) : ∀ d ∈ StrChars.Road.words, d.before a0 Z = true := fun d hd => hw d ((by decide +kernel : ∀ d ∈ StrChars.Road.words, d ∈ tables_1) d hd)
theorem own_sub (x : Int32) : (x.toInt64 - (300 : Int64)).toInt = x.toInt - 300 := by
  have h1 := x.le_toInt
  have h2 := x.toInt_lt
  rw [Int64.toInt_sub, Int32.toInt_toInt64, show (300 : Int64).toInt = 300 from rfl]
  exact Int.bmod_eq_of_le (by omega) (by omega)
theorem own_d (x : Int32) (h1 : ¬ (x.toInt64 - (300 : Int64)) < (0 : Int64)) (h2 : (x.toInt64 - (300 : Int64)) < (100 : Int64)) : ¬ x < (300 : Int32) ∧ ¬ (399 : Int32) < x := by
  rw [Int64.lt_iff_toInt_lt, own_sub] at h1 h2
  rw [Int32.lt_iff_toInt_lt, Int32.lt_iff_toInt_lt]
  have e1 : (0 : Int64).toInt = 0 := rfl
  have e2 : (100 : Int64).toInt = 100 := rfl
  have e3 : (300 : Int32).toInt = 300 := rfl
  have e4 : (399 : Int32).toInt = 399 := rfl
  omega
theorem own_d1 (x : Int32) (h : ¬ x < (300 : Int32)) : ¬ (x.toInt64 - (300 : Int64)) < (0 : Int64) := by
  rw [Int64.lt_iff_toInt_lt, own_sub]
  rw [Int32.lt_iff_toInt_lt] at h
  have e1 : (0 : Int64).toInt = 0 := rfl
  have e3 : (300 : Int32).toInt = 300 := rfl
  omega
theorem own_d2 (x : Int32) (h : ¬ (399 : Int32) < x) : (x.toInt64 - (300 : Int64)) < (100 : Int64) := by
  rw [Int64.lt_iff_toInt_lt, own_sub]
  rw [Int32.lt_iff_toInt_lt] at h
  have e2 : (100 : Int64).toInt = 100 := rfl
  have e4 : (399 : Int32).toInt = 399 := rfl
  omega
abbrev EL : List (String × Nat) := [("java/lang/String", 7)]
theorem own_EW {a0 : Array Value} {Z : State} (hw : ∀ d ∈ tables_1, d.before a0 Z = true) : EW Z a0 EL := (EW.cons (w_70 hw) (by decide) EW.nil)
theorem own_SA {a0 : Array Value} {Z : State} (hw : ∀ d ∈ tables_1, d.before a0 Z = true) : ∀ d ∈ Bundle.stringAtoms, d.before a0 Z = true := fun d hd => hw d ((by decide +kernel : ∀ d ∈ Bundle.stringAtoms, d ∈ tables_1) d hd)
theorem own_safeN {Z : State} {vm : Vm} {h : Heap} {x : Addr} (hal : Z.vm.Alike vm) (E : Exa Z h x "java/lang/String") (F : Fld Z h x "java/lang/String" "value" "[B" .null) : Safe Z EL vm h x := fun B => by
  obtain ⟨cell, k, e1, e2, e3, -, -⟩ := E
  obtain ⟨p, -, u, a, -, q, -, FB, rfl | rfl⟩ := B
  · cases (show h[q.sa]? = some q.sC from FB.ha).symm.trans e1
    obtain ⟨cS, ⟨⟨-, -, -, ⟨cv, kv, iv, s4, -⟩, -, -, -, s8, -⟩, -⟩, -⟩ := FB
    obtain ⟨k', z4⟩ := ff_back hal s4
    obtain ⟨c2, cf, k2, i, f, f1, f2, -, -, -, -, f7⟩ := F
    cases f1.symm.trans e1
    cases f2.symm.trans z4
    rw [s8] at f7; cases f7
  · cases (show h[q.sd]? = some q.SA from FB.hd).symm.trans e1
    obtain ⟨cS, -, -, f, -⟩ := FB
    have f' : vm.findClass "[B" = some q.SA.cls := f
    rw [hal.findClass] at f'
    obtain ⟨k1, q1, q2⟩ := Vm.findClass_spec f'
    obtain ⟨k2, q3, q4⟩ := Vm.findClass_spec e2
    cases q1.symm.trans q3
    exact absurd (q2.symm.trans q4) (by decide)
theorem ef_rmCE (m : MethodId) (x0 : Int32)  : entryFrame m #[(.int x0)] 1 = mkF m 0 #[.val (.int x0)] [] := by first | (simp [entryFrame, mkF, argsToLocals, Value.category]; done) | rfl
theorem d4_0 : decode jdk_43_method_3_code 0 = .ok (.iload_n 0, 1) := by decide +kernel
theorem d4_1 : decode jdk_43_method_3_code 1 = .ok (.sipush 255, 3) := by decide +kernel
theorem d4_4 : decode jdk_43_method_3_code 4 = .ok (.if_icmp .gt 7, 3) := by decide +kernel
theorem d4_7 : decode jdk_43_method_3_code 7 = .ok (.iconst 1, 1) := by decide +kernel
theorem d4_8 : decode jdk_43_method_3_code 8 = .ok (.goto 4, 3) := by decide +kernel
theorem d4_12 : decode jdk_43_method_3_code 12 = .ok (.ireturn, 1) := by decide +kernel
theorem pn_0 : plainName "java/lang/StringLatin1" = true := by first | (simp [plainName, overriddenIn]; done) | decide +kernel
def QrmCE (Z : State) (G : Gs) (px : Int32) (h0 : Heap) (n0 : Nat) (v : Option Value) (h : Heap) (L : List Loc) : Prop := v = some (.int (1 : Int32)) ∧ Fr n0 L ∧ h = h0
set_option maxRecDepth 65536 in
set_option maxHeartbeats 40000000 in
theorem rmCE (l : Launch) (Z : State) (a0 : Array Value) (hw : HW a0 Z) (G : Gs) (ST : StartF Z G) (ws : List Jvm.Cond) (px : Int32) (h0 : Heap) (n0 : Nat) (X00 : Old Z n0 h0) (hp : ¬ (255 : Int32) < px) :
    MetFree l (⟨"java/lang/StringLatin1", "canEncode", "(C)Z"⟩ : MethodName) (head1 (Jvm.Cond.code (⟨"java/lang/StringLatin1", "canEncode", "(C)Z"⟩ : MethodName) jdk_43_method_3_code 1 (some .boolean) :: ws) ({ frames := 0, cells := 0, slots := 0, locals := 0 } : Room)) (fun a U => a = #[(.int px)] ∧ Z.Warmed39 U.vm ∧ U.heap = h0) (fun _ _ _ _ _ => True) (fun _ U o U' => ∃ v L, o = .returned v ∧ QrmCE Z G px h0 n0 v U'.heap L ∧ FrameEnd U o U' L ({ frames := 0, cells := 0, slots := 0, locals := 0 } : Room).cells ({ frames := 0, cells := 0, slots := 0, locals := 0 } : Room).slots) := by
  refine MetFree.of_bodySF (plainFor_of_name pn_0) hisR ?_
  intro p e s m args below meth c s₁ Bd hml0 hP hK
  obtain ⟨rfl, hZ, hh⟩ := hP
  have hx := Bd.exec
  have hby := Bd.bytes
  have hml : c.maxLocals = 1 := hml0
  have hown : s.vm.findClass "java/lang/StringLatin1" = some m.cls := findClass_of_methodNamed Bd.named
  have hnm := (name_of_methodNamed Bd.named Bd.method).1
  have X0 : Stand p l e ({ frames := 0, cells := 0, slots := 0, locals := 0 } : Room) s m #[(.int px)] below meth c s₁ [] 0 0 := Stand.of_body Bd
  have e0 : s₁.heap = h0 := by rw [← hh, Bd.state]; rfl
  have N0 := Fr.nil n0
  have Z0 : n0 ≤ h0.size := by have q := X00.2.1; rw [X00.1] at q; exact q
  obtain ⟨TG, hTG, hT2⟩ : ∃ P : State → Prop, (∀ t, P t → Steps p.tables e below (s₁.setTop (entryFrame m #[(.int px)] 1)) t) ∧ (∀ t, Steps p.tables e below (s₁.setTop (entryFrame m #[(.int px)] 1)) t → P t) := ⟨_, fun t k => k, fun t k => k⟩
  have pre0 : ∀ t, Sx p e below s₁ m 0 #[xvi px] [] t → TG t := fun t k => hT2 t (castTop (ef_rmCE m px ) k)
  obtain ⟨fs, hr, hrun, hended, hW, hsame⟩ := X0.leave (v := some (.int (1 : Int32))) (fun h => by rw [Bd.returns] at h; cases h)
  refine ⟨_, _, hTG _ (pre0 _ ?_), hrun, hended, _, _, rfl, ?_, ⟨_, rfl⟩, hW, hsame.mono (by decide) (by decide)⟩
  · refine y_iloadN X0 hx 1 (hb hby d4_0) rfl rfl ?_
    refine y_sipush X0 hx (255 : Int32) 4 (hb hby d4_1) rfl rfl ?_
    refine y_icmpNo X0 hx 7 (hb hby d4_4) (XT.ii_gt_f hp) rfl ?_
    refine y_iconst X0 hx (1 : Int32) 8 (hb hby d4_7) rfl rfl ?_
    refine y_goto X0 hx 12 (hb hby d4_8) (by decide) (by decide) ?_
    show Sx p e below s₁ m 12 #[xvi px] [xwi (1 : Int32)] _
    exact retN X0 hx (t := .boolean) Bd.returns (by simp) (hb hby d4_12) (hr)
  · show QrmCE Z G px h0 n0 _ s₁.heap _
    rw [e0]
    exact ⟨rfl, N0, rfl⟩
theorem ef_rmTB (m : MethodId) (x0 : Int32)  : entryFrame m #[(.int x0)] 1 = mkF m 0 #[.val (.int x0)] [] := by first | (simp [entryFrame, mkF, argsToLocals, Value.category]; done) | rfl
theorem d5_0 : decode jdk_43_method_46_code 0 = .ok (.iconst 1, 1) := by decide +kernel
theorem d5_1 : decode jdk_43_method_46_code 1 = .ok (.newarray .byte, 2) := by decide +kernel
theorem d5_3 : decode jdk_43_method_46_code 3 = .ok (.dup, 1) := by decide +kernel
theorem d5_4 : decode jdk_43_method_46_code 4 = .ok (.iconst 0, 1) := by decide +kernel
theorem d5_5 : decode jdk_43_method_46_code 5 = .ok (.iload_n 0, 1) := by decide +kernel
theorem d5_6 : decode jdk_43_method_46_code 6 = .ok (.i2b, 1) := by decide +kernel
theorem d5_7 : decode jdk_43_method_46_code 7 = .ok (.bastore, 1) := by decide +kernel
theorem d5_8 : decode jdk_43_method_46_code 8 = .ok (.areturn, 1) := by decide +kernel
def QrmTB (Z : State) (G : Gs) (px : Int32) (h0 : Heap) (n0 : Nat) (v : Option Value) (h : Heap) (L : List Loc) : Prop := ∃ (bx : Addr), ∃ (kx : ClassId), v = some (.ref bx) ∧ Fr n0 L ∧ Keep h0 h [] ∧ h0.size ≤ bx ∧ Arv Z h bx kx .byte (1 : Int32) [(.int px.toInt8.toInt32)] (.int (0 : Int32))
set_option maxRecDepth 65536 in
set_option maxHeartbeats 40000000 in
theorem rmTB (l : Launch) (Z : State) (a0 : Array Value) (hw : HW a0 Z) (G : Gs) (ST : StartF Z G) (ws : List Jvm.Cond) (px : Int32) (h0 : Heap) (n0 : Nat) (X00 : Old Z n0 h0) :
    MetFree l (⟨"java/lang/StringLatin1", "toBytes", "(C)[B"⟩ : MethodName) (head1 (Jvm.Cond.code (⟨"java/lang/StringLatin1", "toBytes", "(C)[B"⟩ : MethodName) jdk_43_method_46_code 1 (some (.array .byte)) :: ws) ({ frames := 0, cells := 1, slots := 1, locals := 0 } : Room)) (fun a U => a = #[(.int px)] ∧ Z.Warmed39 U.vm ∧ U.heap = h0) (fun _ _ _ _ _ => True) (fun _ U o U' => ∃ v L, o = .returned v ∧ QrmTB Z G px h0 n0 v U'.heap L ∧ FrameEnd U o U' L ({ frames := 0, cells := 1, slots := 1, locals := 0 } : Room).cells ({ frames := 0, cells := 1, slots := 1, locals := 0 } : Room).slots) := by
  refine MetFree.of_bodySF (plainFor_of_name pn_0) hisR ?_
  intro p e s m args below meth c s₁ Bd hml0 hP hK
  obtain ⟨rfl, hZ, hh⟩ := hP
  have hx := Bd.exec
  have hby := Bd.bytes
  have hml : c.maxLocals = 1 := hml0
  have hown : s.vm.findClass "java/lang/StringLatin1" = some m.cls := findClass_of_methodNamed Bd.named
  have hnm := (name_of_methodNamed Bd.named Bd.method).1
  have X0 : Stand p l e ({ frames := 0, cells := 1, slots := 1, locals := 0 } : Room) s m #[(.int px)] below meth c s₁ [] 0 0 := Stand.of_body Bd
  have e0 : s₁.heap = h0 := by rw [← hh, Bd.state]; rfl
  have N0 := Fr.nil n0
  have Z0 : n0 ≤ h0.size := by have q := X00.2.1; rw [X00.1] at q; exact q
  obtain ⟨TG, hTG, hT2⟩ : ∃ P : State → Prop, (∀ t, P t → Steps p.tables e below (s₁.setTop (entryFrame m #[(.int px)] 1)) t) ∧ (∀ t, Steps p.tables e below (s₁.setTop (entryFrame m #[(.int px)] 1)) t → P t) := ⟨_, fun t k => k, fun t k => k⟩
  have pre0 : ∀ t, Sx p e below s₁ m 0 #[xvi px] [] t → TG t := fun t k => hT2 t (castTop (ef_rmTB m px ) k)
  obtain ⟨T101, h101, k101, X101, e101, E101, A101, st101⟩ := newP (aty := .byte) X0 hx hZ (w_21 hw) e0 (g := (mkF m 1 #[xvi px] [xwi (1 : Int32)])) rfl (hb hby d5_1) rfl (by decide) (cap := 1) (by decide) (by decide) (by decide) (by decide)
  obtain ⟨b101, g101⟩ : ∃ z, z = h0.size := ⟨_, rfl⟩
  rw [← g101] at A101 st101
  have V101 : Arv Z h101 b101 k101 .byte (1 : Int32) [(.int (0 : Int32))] (.int (0 : Int32)) := (Arv.new A101 (by decide)).pad (pad_rep [] (.int (0 : Int32)) 1)
  obtain ⟨cl102, Ar102, q102, S102, M102, H102, G102⟩ := id V101
  have in102 : ¬ ((0 : Int32) < 0 ∨ cl102.slots.size ≤ ((0 : Int32)).toNatClampNeg) := inb_of S102 ⟨by decide, by decide⟩
  obtain ⟨T103, h103, X103, e103, W103, st103⟩ := stB X101 hx hZ e101 Ar102 (j := (0 : Int32)) in102 (g := (mkF m 7 #[xvi px] [xwi (px.toInt8.toInt32), xwi (0 : Int32), xwr b101, xwr b101])) rfl rfl (hb hby d5_7)
  have V103 : Arv Z h103 b101 k101 .byte (1 : Int32) [(.int (px.toInt8.toInt32))] (.int (0 : Int32)) := by have q := Arv.set Ar102 q102 S102 M102 H102 G102 (fits_nar_byte _) W103 0 rfl (Nat.le_of_ble_eq_true rfl); rw [own_nb] at q; exact q
  have N103 := Fr.snoc X103 N0 (Nat.le_trans Z0 (Nat.le_trans (Nat.le_refl _) (Nat.le_of_eq g101.symm)))
  obtain ⟨fs, hr, hrun, hended, hW, hsame⟩ := X103.leave (v := some (.ref b101)) (fun h => by rw [Bd.returns] at h; cases h)
  refine ⟨_, _, hTG _ (pre0 _ ?_), hrun, hended, _, _, rfl, ?_, ⟨_, rfl⟩, hW, hsame.mono (by decide) (by decide)⟩
  · refine y_iconst X0 hx (1 : Int32) 1 (hb hby d5_0) rfl rfl ?_
    refine st101 _ ?_
    show Sx p e below T101 m 3 #[xvi px] [xwr b101] _
    refine y_dup X101 hx 4 (hb hby d5_3) rfl rfl ?_
    refine y_iconst X101 hx (0 : Int32) 5 (hb hby d5_4) rfl rfl ?_
    refine y_iloadN X101 hx 6 (hb hby d5_5) rfl rfl ?_
    refine XS.i2b X101.here hx rfl (hb hby d5_6) rfl ?_
    show Sx p e below T101 m 7 #[xvi px] [xwi (px.toInt8.toInt32), xwi (0 : Int32), xwr b101, xwr b101] _
    refine st103 _ ?_
    show Sx p e below T103 m 8 #[xvi px] [xwr b101] _
    exact retOut X103 hx Bd.returns rfl (Or.inr (Or.inr (Or.inr (Or.inr ⟨rfl, rfl, rfl⟩)))) (hb hby d5_8) hr
  · show QrmTB Z G px h0 n0 _ T103.heap _
    rw [e103]
    exact ⟨b101, k101, rfl, N103, (((Keep.refl h0 []).ext E101).wr W103 (Or.inr (Nat.le_trans (Nat.le_refl _) (Nat.le_of_eq g101.symm)))), (Nat.le_trans (Nat.le_refl _) (Nat.le_of_eq g101.symm)), V103⟩
theorem ef_rmBB (m : MethodId) (x0 : Addr) (x1 : Addr) (x2 : Int32)  : entryFrame m #[(.ref x0), (.ref x1), (.int x2)] 3 = mkF m 0 #[.val (.ref x0), .val (.ref x1), .val (.int x2)] [] := by first | (simp [entryFrame, mkF, argsToLocals, Value.category]; done) | rfl
theorem d6_0 : decode jdk_42_method_151_code 0 = .ok (.aload_n 0, 1) := by decide +kernel
theorem d6_1 : decode jdk_42_method_151_code 1 = .ok (.invokespecial 1, 3) := by decide +kernel
theorem d6_4 : decode jdk_42_method_151_code 4 = .ok (.aload_n 0, 1) := by decide +kernel
theorem d6_5 : decode jdk_42_method_151_code 5 = .ok (.aload_n 1, 1) := by decide +kernel
theorem d6_6 : decode jdk_42_method_151_code 6 = .ok (.putfield 9, 3) := by decide +kernel
theorem d6_9 : decode jdk_42_method_151_code 9 = .ok (.aload_n 0, 1) := by decide +kernel
theorem d6_10 : decode jdk_42_method_151_code 10 = .ok (.iload_n 2, 1) := by decide +kernel
theorem d6_11 : decode jdk_42_method_151_code 11 = .ok (.putfield 15, 3) := by decide +kernel
theorem d6_14 : decode jdk_42_method_151_code 14 = .ok (.return_, 1) := by decide +kernel
theorem pn_1 : plainName "java/lang/String" = true := by first | (simp [plainName, overriddenIn]; done) | decide +kernel
def QrmBB (Z : State) (G : Gs) (ax : Addr) (tx : Addr) (u1 : Value) (u2 : Value) (h0 : Heap) (n0 : Nat) (v : Option Value) (h : Heap) (L : List Loc) : Prop := v = none ∧ Fr n0 L ∧ Keep h0 h [ax] ∧ Exa Z h ax "java/lang/String" ∧ Fld Z h ax "java/lang/String" "value" "[B" (.ref tx) ∧ Fld Z h ax "java/lang/String" "coder" "B" (.int (0 : Int32))
set_option maxRecDepth 65536 in
set_option maxHeartbeats 40000000 in
theorem rmBB (l : Launch) (Z : State) (a0 : Array Value) (hw : HW a0 Z) (G : Gs) (ST : StartF Z G) (ws : List Jvm.Cond) (ax : Addr) (tx : Addr) (u1 : Value) (u2 : Value) (h0 : Heap) (n0 : Nat) (X00 : Old Z n0 h0) (E1 : Exa Z h0 ax "java/lang/String") (F1 : Fld Z h0 ax "java/lang/String" "value" "[B" u1) (F2 : Fld Z h0 ax "java/lang/String" "coder" "B" u2) (g1 : n0 ≤ ax) :
    MetFree l (⟨"java/lang/String", "<init>", "([BB)V"⟩ : MethodName) (head1 (Jvm.Cond.code (⟨"java/lang/String", "<init>", "([BB)V"⟩ : MethodName) jdk_42_method_151_code 3 none :: ws) ({ frames := 1, cells := 0, slots := 0, locals := 12 } : Room)) (fun a U => a = #[(.ref ax), (.ref tx), (.int (0 : Int32))] ∧ Z.Warmed39 U.vm ∧ U.heap = h0) (fun _ _ _ _ _ => True) (fun _ U o U' => ∃ v L, o = .returned v ∧ QrmBB Z G ax tx u1 u2 h0 n0 v U'.heap L ∧ FrameEnd U o U' L ({ frames := 1, cells := 0, slots := 0, locals := 12 } : Room).cells ({ frames := 1, cells := 0, slots := 0, locals := 12 } : Room).slots) := by
  refine MetFree.of_bodySF (plainFor_of_name pn_1) hisR ?_
  intro p e s m args below meth c s₁ Bd hml0 hP hK
  obtain ⟨rfl, hZ, hh⟩ := hP
  have hx := Bd.exec
  have hby := Bd.bytes
  have hml : c.maxLocals = 3 := hml0
  have hown : s.vm.findClass "java/lang/String" = some m.cls := findClass_of_methodNamed Bd.named
  have hnm := (name_of_methodNamed Bd.named Bd.method).1
  have X0 : Stand p l e ({ frames := 1, cells := 0, slots := 0, locals := 12 } : Room) s m #[(.ref ax), (.ref tx), (.int (0 : Int32))] below meth c s₁ [] 0 0 := Stand.of_body Bd
  have e0 : s₁.heap = h0 := by rw [← hh, Bd.state]; rfl
  have N0 := Fr.nil n0
  have Z0 : n0 ≤ h0.size := by have q := X00.2.1; rw [X00.1] at q; exact q
  obtain ⟨TG, hTG, hT2⟩ : ∃ P : State → Prop, (∀ t, P t → Steps p.tables e below (s₁.setTop (entryFrame m #[(.ref ax), (.ref tx), (.int (0 : Int32))] 3)) t) ∧ (∀ t, Steps p.tables e below (s₁.setTop (entryFrame m #[(.ref ax), (.ref tx), (.int (0 : Int32))] 3)) t → P t) := ⟨_, fun t k => k, fun t k => k⟩
  have pre0 : ∀ t, Sx p e below s₁ m 0 #[xvr ax, xvr tx, xvi (0 : Int32)] [] t → TG t := fun t k => hT2 t (castTop (ef_rmBB m ax tx (0 : Int32) ) k)
  obtain ⟨T104, X104, e104, st104⟩ := initO X0 hx hZ hown (w_26 hw) (w_27 hw) (w_28 hw) e0 (g := (mkF m 1 #[xvr ax, xvr tx, xvi (0 : Int32)] [xwr ax])) rfl (by rw [hml]; rfl) rfl (hb hby d6_1) (by decide) (W := 0) (by show 2 * 0 + _ ≤ _; exact Nat.le_of_eq rfl) (by decide)
  obtain ⟨T105, h105, X105, e105, W105, st105⟩ := putF X104 hx hZ hown (host := "") (Or.inl (w_29 hw)) Via.refl e104 F1 E1 (Or.inr ⟨(w_30 hw), rfl, hnm⟩) (w_17 hw) (ty := (.array .byte)) (by decide) rfl rfl (g := (mkF m 6 #[xvr ax, xvr tx, xvi (0 : Int32)] [xwr tx, xwr ax])) rfl rfl (hb hby d6_6)
  have Fw105 := F1.same W105
  have N105 := Fr.snoc X105 N0 g1
  have f106 := (F2.other W105 (Or.inr (slot_ne (Or.inr (w_32 hw)) (Or.inr (w_30 hw)) (by decide) (t := .byte) (t' := (.array .byte)) (by decide) (by decide))))
  have f107 := (E1.wr W105)
  obtain ⟨T108, h108, X108, e108, W108, st108⟩ := putFN X105 hx hZ hown (w_31 hw) Via.refl e105 f106 f107 (Or.inr ⟨(w_32 hw), rfl, hnm⟩) (w_17 hw) (ty := .byte) (v' := (.int (0 : Int32))) (by decide) (by decide) (by decide) (g := (mkF m 11 #[xvr ax, xvr tx, xvi (0 : Int32)] [xwi (0 : Int32), xwr ax])) rfl rfl (hb hby d6_11)
  have Fw108 := f106.same W108
  have N108 := Fr.snoc X108 N105 g1
  have f109 := (f107.wr W108)
  have f110 := (Fw105.other W108 (Or.inr (slot_ne (Or.inr (w_30 hw)) (Or.inr (w_32 hw)) (by decide) (t := (.array .byte)) (t' := .byte) (by decide) (by decide))))
  obtain ⟨fs, hr, hrun, hended, hW, hsame⟩ := X108.leave (v := none) (fun _ => rfl)
  refine ⟨_, _, hTG _ (pre0 _ ?_), hrun, hended, _, _, rfl, ?_, ⟨_, rfl⟩, hW, hsame.mono (by decide) (by decide)⟩
  · refine y_aloadN X0 hx 1 (hb hby d6_0) rfl rfl rfl ?_
    refine st104 _ ?_
    show Sx p e below T104 m 4 #[xvr ax, xvr tx, xvi (0 : Int32)] [] _
    refine y_aloadN X104 hx 5 (hb hby d6_4) rfl rfl rfl ?_
    refine y_aloadN X104 hx 6 (hb hby d6_5) rfl rfl rfl ?_
    refine st105 _ ?_
    show Sx p e below T105 m 9 #[xvr ax, xvr tx, xvi (0 : Int32)] [] _
    refine y_aloadN X105 hx 10 (hb hby d6_9) rfl rfl rfl ?_
    refine y_iloadN X105 hx 11 (hb hby d6_10) rfl rfl ?_
    refine st108 _ ?_
    show Sx p e below T108 m 14 #[xvr ax, xvr tx, xvi (0 : Int32)] [] _
    exact X108.returnOut hx Bd.returns (hb hby d6_14) hr
  · show QrmBB Z G ax tx u1 u2 h0 n0 _ T108.heap _
    rw [e108]
    exact ⟨rfl, N108, (((Keep.refl h0 [ax]).wr W105 (Or.inl (List.mem_of_getElem? (i := 0) rfl))).wr W108 (Or.inl (List.mem_of_getElem? (i := 0) rfl))), f109, f110, Fw108⟩
theorem ef_rmVO (m : MethodId) (x0 : Int32)  : entryFrame m #[(.int x0)] 1 = mkF m 0 #[.val (.int x0)] [] := by first | (simp [entryFrame, mkF, argsToLocals, Value.category]; done) | rfl
theorem d3_0 : decode jdk_42_method_139_code 0 = .ok (.getstatic 38, 3) := by decide +kernel
theorem d3_3 : decode jdk_42_method_139_code 3 = .ok (.ifCond .eq 23, 3) := by decide +kernel
theorem d3_6 : decode jdk_42_method_139_code 6 = .ok (.iload_n 0, 1) := by decide +kernel
theorem d3_7 : decode jdk_42_method_139_code 7 = .ok (.invokestatic 1015, 3) := by decide +kernel
theorem pd_0 : parseMethodDescriptor "(C)Z" = some ⟨[.char], some .boolean⟩ := by decide +kernel
theorem d3_10 : decode jdk_42_method_139_code 10 = .ok (.ifCond .eq 16, 3) := by decide +kernel
theorem d3_13 : decode jdk_42_method_139_code 13 = .ok (.new 10, 3) := by decide +kernel
theorem d3_16 : decode jdk_42_method_139_code 16 = .ok (.dup, 1) := by decide +kernel
theorem d3_17 : decode jdk_42_method_139_code 17 = .ok (.iload_n 0, 1) := by decide +kernel
theorem d3_18 : decode jdk_42_method_139_code 18 = .ok (.invokestatic 1018, 3) := by decide +kernel
theorem pd_1 : parseMethodDescriptor "(C)[B" = some ⟨[.char], some (.array .byte)⟩ := by decide +kernel
theorem d3_21 : decode jdk_42_method_139_code 21 = .ok (.iconst 0, 1) := by decide +kernel
theorem d3_22 : decode jdk_42_method_139_code 22 = .ok (.invokespecial 209, 3) := by decide +kernel
theorem pd_2 : parseMethodDescriptor "([BB)V" = some ⟨[(.array .byte), .byte], none⟩ := by decide +kernel
theorem d3_25 : decode jdk_42_method_139_code 25 = .ok (.areturn, 1) := by decide +kernel
def QrmVO (Z : State) (G : Gs) (px : Int32) (h0 : Heap) (n0 : Nat) (v : Option Value) (h : Heap) (L : List Loc) : Prop := ∃ (bx : Addr), ∃ (tx : Addr), ∃ (kx : ClassId), v = some (.ref bx) ∧ Fr n0 L ∧ Keep h0 h [] ∧ h0.size ≤ bx ∧ Exa Z h bx "java/lang/String" ∧ Fld Z h bx "java/lang/String" "coder" "B" (.int (0 : Int32)) ∧ Fld Z h bx "java/lang/String" "value" "[B" (.ref tx) ∧ Arv Z h tx kx .byte (1 : Int32) [(.int px.toInt8.toInt32)] (.int (0 : Int32)) ∧ h0.size ≤ tx
set_option maxRecDepth 65536 in
set_option maxHeartbeats 40000000 in
theorem rmVO (l : Launch) (Z : State) (a0 : Array Value) (hw : HW a0 Z) (G : Gs) (ST : StartF Z G) (ws : List Jvm.Cond) (px : Int32) (h0 : Heap) (n0 : Nat) (X00 : Old Z n0 h0) (hp : ¬ (255 : Int32) < px) :
    MetFree l (⟨"java/lang/String", "valueOf", "(C)Ljava/lang/String;"⟩ : MethodName) (head1 (Jvm.Cond.code (⟨"java/lang/String", "valueOf", "(C)Ljava/lang/String;"⟩ : MethodName) jdk_42_method_139_code 1 (some (.object "java/lang/String")) :: ws) ({ frames := 2, cells := 2, slots := 5, locals := 27 } : Room)) (fun a U => a = #[(.int px)] ∧ Z.Warmed39 U.vm ∧ U.heap = h0) (fun _ _ _ _ _ => True) (fun _ U o U' => ∃ v L, o = .returned v ∧ QrmVO Z G px h0 n0 v U'.heap L ∧ FrameEnd U o U' L ({ frames := 2, cells := 2, slots := 5, locals := 27 } : Room).cells ({ frames := 2, cells := 2, slots := 5, locals := 27 } : Room).slots) := by
  refine MetFree.of_bodySF (plainFor_of_name pn_1) hisR ?_
  intro p e s m args below meth c s₁ Bd hml0 hP hK
  obtain ⟨rfl, hZ, hh⟩ := hP
  have hx := Bd.exec
  have hby := Bd.bytes
  have hml : c.maxLocals = 1 := hml0
  have hown : s.vm.findClass "java/lang/String" = some m.cls := findClass_of_methodNamed Bd.named
  have hnm := (name_of_methodNamed Bd.named Bd.method).1
  have X0 : Stand p l e ({ frames := 2, cells := 2, slots := 5, locals := 27 } : Room) s m #[(.int px)] below meth c s₁ [] 0 0 := Stand.of_body Bd
  have e0 : s₁.heap = h0 := by rw [← hh, Bd.state]; rfl
  have N0 := Fr.nil n0
  have Z0 : n0 ≤ h0.size := by have q := X00.2.1; rw [X00.1] at q; exact q
  obtain ⟨TG, hTG, hT2⟩ : ∃ P : State → Prop, (∀ t, P t → Steps p.tables e below (s₁.setTop (entryFrame m #[(.int px)] 1)) t) ∧ (∀ t, Steps p.tables e below (s₁.setTop (entryFrame m #[(.int px)] 1)) t → P t) := ⟨_, fun t k => k, fun t k => k⟩
  have pre0 : ∀ t, Sx p e below s₁ m 0 #[xvi px] [] t → TG t := fun t k => hT2 t (castTop (ef_rmVO m px ) k)
  obtain ⟨T111, X111, e111, st111⟩ := getS2 X0 hx hZ hown (host := "") (Or.inl (w_11 hw)) Via.refl e0 (ST.1.ext X00.2) (g := (mkF m 0 #[xvi px] [])) rfl (hb hby d3_0)
  obtain ⟨_, _, ⟨T112, L112, k112, n112⟩, -, X112, ⟨Lc112, hQ112, l112, y112, z112⟩, st112⟩ := Jvm.LawKit.callS X111 hx (y := (⟨"java/lang/StringLatin1", "canEncode", "(C)Z"⟩ : MethodName)) hown (mvT hZ (w_12 hw)) (mvT hZ (w_13 hw)) (mvT hZ (w_14 hw)) (mvT hZ (w_15 hw)) (by decide) (backOf (W := 0) (rmCE l Z a0 hw G ST [] px h0 n0 X00 hp) hZ (w_15 hw) (w_14 hw) (by decide) (by decide)) (g := (mkF m 7 #[xvi px] [xwi px])) rfl (by rw [hml]; rfl) (argsL := [(.int px)]) (rest := []) (lenOf pd_0 rfl) rfl (by show 2 * 0 + _ ≤ _; exact Nat.le_of_eq rfl) (hb hby d3_7) (fun _ _ => ⟨rfl, e111, (by decide : 0 + 0 ≤ _), (by decide : 0 + 0 ≤ _)⟩)
  dsimp only [Pt.U, Pt.locs, Pt.cells, Pt.slots] at X112 l112 y112 z112 st112 hQ112
  subst l112 y112 z112
  obtain ⟨rfl, N112q, e112⟩ := hQ112
  have N112 := Fr.app N0 N112q
  obtain ⟨T113, h113, X113, e113, E113, A113, D113, -, st113⟩ := newO X112 hx hZ hown (w_16 hw) (w_17 hw) (w_9 hw) e112 (g := (mkF m 13 #[xvi px] [])) rfl (hb hby d3_13) (by decide) (by decide)
  obtain ⟨b113, g113⟩ : ∃ z, z = h0.size := ⟨_, rfl⟩
  rw [← g113] at A113 D113 st113
  have Fb113_value : Fld Z h113 b113 "java/lang/String" "value" "[B" .null := D113 (Or.inr (w_30 hw)) (ty := (.array .byte)) (by decide)
  have Fb113_coder : Fld Z h113 b113 "java/lang/String" "coder" "B" (.int (0 : Int32)) := D113 (Or.inr (w_32 hw)) (ty := .byte) (by decide)
  have Ol114 : Old Z n0 h113 := (X00.ext E113)
  obtain ⟨_, _, ⟨T115, L115, k115, n115⟩, -, X115, ⟨Lc115, hQ115, l115, y115, z115⟩, st115⟩ := Jvm.LawKit.callS X113 hx (y := (⟨"java/lang/StringLatin1", "toBytes", "(C)[B"⟩ : MethodName)) hown (mvT hZ (w_18 hw)) (mvT hZ (w_19 hw)) (mvT hZ (w_14 hw)) (mvT hZ (w_20 hw)) (by decide) (backOf (W := 2) (rmTB l Z a0 hw G ST [] px h113 n0 Ol114 ) hZ (w_20 hw) (w_14 hw) (by decide) (by decide)) (g := (mkF m 18 #[xvi px] [xwi px, xwr b113, xwr b113])) rfl (by rw [hml]; rfl) (argsL := [(.int px)]) (rest := [(.ref b113), (.ref b113)]) (lenOf pd_1 rfl) rfl (by show 2 * 0 + _ ≤ _; exact Nat.le_of_eq rfl) (hb hby d3_18) (fun _ _ => ⟨rfl, e113, (by decide : 1 + 1 ≤ _), (by decide : 4 + 1 ≤ _)⟩)
  dsimp only [Pt.U, Pt.locs, Pt.cells, Pt.slots] at X115 l115 y115 z115 st115 hQ115
  subst l115 y115 z115
  obtain ⟨hp115, e115⟩ : ∃ z, T115.heap = z := ⟨_, rfl⟩
  rw [e115] at hQ115
  obtain ⟨o116, o117, rfl, N115q, K115, p118, p119⟩ := hQ115
  have N115 := Fr.app N112 N115q
  have f120 := (A113.keep K115)
  have f121 := (Fb113_value.keep K115 nin0)
  have f122 := (Fb113_coder.keep K115 nin0)
  have Ol123 : Old Z n0 hp115 := (Ol114.keep K115 all0)
  obtain ⟨_, _, ⟨T124, L124, k124, n124⟩, -, X124, ⟨Lc124, hQ124, l124, y124, z124⟩, st124⟩ := X115.specialBack hx (y := (⟨"java/lang/String", "<init>", "([BB)V"⟩ : MethodName)) rfl hown (mvT hZ (w_22 hw)) (mvT hZ (w_23 hw)) (mvT hZ (w_25 hw)) (by decide) (backOf (W := 1) (rmBB l Z a0 hw G ST [] b113 o116 .null (.int (0 : Int32)) hp115 n0 Ol123 f120 f121 f122 (Nat.le_trans Z0 (Nat.le_trans (Nat.le_refl _) (Nat.le_of_eq g113.symm)))) hZ (w_25 hw) (w_9 hw) (by decide) (by decide)) (g := (mkF m 22 #[xvi px] [xwi (0 : Int32), xwr o116, xwr b113, xwr b113])) rfl (by rw [hml]; rfl) (Steps.refl _) (a := b113) (argsL := [(.ref o116), (.int (0 : Int32))]) (rest := [(.ref b113)]) (lenOf pd_2 rfl) rfl (by show 2 * 0 + _ ≤ _; exact Nat.le_of_eq rfl) (hb hby d3_22) (fun _ _ => ⟨rfl, e115, (by decide : 2 + 0 ≤ _), (by decide : 5 + 0 ≤ _)⟩)
  dsimp only [Pt.U, Pt.locs, Pt.cells, Pt.slots] at X124 l124 y124 z124 st124 hQ124
  subst l124 y124 z124
  obtain ⟨hp124, e124⟩ : ∃ z, T124.heap = z := ⟨_, rfl⟩
  rw [e124] at hQ124
  obtain ⟨rfl, N124q, K124, p125, p126, p127⟩ := hQ124
  have N124 := Fr.app N115 N124q
  have f128 := (p119.keep K124 (ninS (Ne.symm (Nat.ne_of_lt (Nat.lt_of_lt_of_le (Nat.lt_of_lt_of_le A113.lt (Nat.le_refl _)) p118))) nin0))
  obtain ⟨fs, hr, hrun, hended, hW, hsame⟩ := X124.leave (v := some (.ref b113)) (fun h => by rw [Bd.returns] at h; cases h)
  refine ⟨_, _, hTG _ (pre0 _ ?_), hrun, hended, _, _, rfl, ?_, ⟨_, rfl⟩, hW, hsame.mono (by decide) (by decide)⟩
  · refine st111 _ ?_
    show Sx p e below T111 m 3 #[xvi px] [xwi G] _
    refine y_ifNo X111 hx 6 (hb hby d3_3) (XT.i0_eq_f ST.2) rfl ?_
    refine y_iloadN X111 hx 7 (hb hby d3_6) rfl rfl ?_
    refine st112 _ ?_
    show Sx p e below T112 m 10 #[xvi px] [xwi (1 : Int32)] _
    refine y_ifNo X112 hx 13 (hb hby d3_10) (XT.i0_eq_f (by decide)) rfl ?_
    refine st113 _ ?_
    show Sx p e below T113 m 16 #[xvi px] [xwr b113] _
    refine y_dup X113 hx 17 (hb hby d3_16) rfl rfl ?_
    refine y_iloadN X113 hx 18 (hb hby d3_17) rfl rfl ?_
    refine st115 _ ?_
    show Sx p e below T115 m 21 #[xvi px] [xwr o116, xwr b113, xwr b113] _
    refine y_iconst X115 hx (0 : Int32) 22 (hb hby d3_21) rfl rfl ?_
    refine st124.trans ?_
    show Sx p e below T124 m 25 #[xvi px] [xwr b113] _
    exact retOut X124 hx Bd.returns rfl (Or.inr (Or.inr (Or.inr (Or.inr ⟨rfl, rfl, rfl⟩)))) (hb hby d3_25) hr
  · show QrmVO Z G px h0 n0 _ T124.heap _
    rw [e124]
    exact ⟨b113, o116, o117, rfl, N124, ((((Keep.refl h0 []).ext E113).trans K115 all0).trans K124 (allS (Or.inr (Nat.le_trans (Nat.le_refl _) (Nat.le_of_eq g113.symm))) all0)), (Nat.le_trans (Nat.le_refl _) (Nat.le_of_eq g113.symm)), p125, p127, p126, f128, (Nat.le_trans E113.1 p118)⟩
theorem ef_rmR6 (m : MethodId) (x0 : Addr) (x1 : Int32) (x2 : Value) (x3 : Value) (x4 : Value) (x5 : Int64) (hx2 : x2.isRef = true) (hx3 : x3.isRef = true) (hx4 : x4.isRef = true) : entryFrame m #[(.ref x0), (.int x1), x2, x3, x4, (.long x5), .null] 8 = mkF m 0 #[.val (.ref x0), .val (.int x1), .val x2, .val x3, .val x4, .val (.long x5), .second, .val .null] [] := by
  rcases XT.refc hx2 with rfl | ⟨_, rfl⟩ <;> rcases XT.refc hx3 with rfl | ⟨_, rfl⟩ <;> rcases XT.refc hx4 with rfl | ⟨_, rfl⟩ <;> first | (simp [entryFrame, mkF, argsToLocals, Value.category]; done) | rfl
theorem d9_0 : decode prog_19_method_2_code 0 = .ok (.aload_n 0, 1) := by decide +kernel
theorem d9_1 : decode prog_19_method_2_code 1 = .ok (.invokespecial 7, 3) := by decide +kernel
theorem d9_4 : decode prog_19_method_2_code 4 = .ok (.aload_n 0, 1) := by decide +kernel
theorem d9_5 : decode prog_19_method_2_code 5 = .ok (.iload_n 1, 1) := by decide +kernel
theorem d9_6 : decode prog_19_method_2_code 6 = .ok (.putfield 12, 3) := by decide +kernel
theorem d9_9 : decode prog_19_method_2_code 9 = .ok (.aload_n 0, 1) := by decide +kernel
theorem d9_10 : decode prog_19_method_2_code 10 = .ok (.aload_n 2, 1) := by decide +kernel
theorem d9_11 : decode prog_19_method_2_code 11 = .ok (.putfield 16, 3) := by decide +kernel
theorem d9_14 : decode prog_19_method_2_code 14 = .ok (.aload_n 0, 1) := by decide +kernel
theorem d9_15 : decode prog_19_method_2_code 15 = .ok (.aload_n 3, 1) := by decide +kernel
theorem d9_16 : decode prog_19_method_2_code 16 = .ok (.putfield 20, 3) := by decide +kernel
theorem d9_19 : decode prog_19_method_2_code 19 = .ok (.aload_n 0, 1) := by decide +kernel
theorem d9_20 : decode prog_19_method_2_code 20 = .ok (.aload 4, 2) := by decide +kernel
theorem d9_22 : decode prog_19_method_2_code 22 = .ok (.putfield 23, 3) := by decide +kernel
theorem d9_25 : decode prog_19_method_2_code 25 = .ok (.aload_n 0, 1) := by decide +kernel
theorem d9_26 : decode prog_19_method_2_code 26 = .ok (.lload 5, 2) := by decide +kernel
theorem d9_28 : decode prog_19_method_2_code 28 = .ok (.putfield 27, 3) := by decide +kernel
theorem d9_31 : decode prog_19_method_2_code 31 = .ok (.aload_n 0, 1) := by decide +kernel
theorem d9_32 : decode prog_19_method_2_code 32 = .ok (.aload 7, 2) := by decide +kernel
theorem d9_34 : decode prog_19_method_2_code 34 = .ok (.putfield 31, 3) := by decide +kernel
theorem d9_37 : decode prog_19_method_2_code 37 = .ok (.return_, 1) := by decide +kernel
theorem pn_2 : plainName "com/example/nishana/nishana/Response" = true := by first | (simp [plainName, overriddenIn]; done) | decide +kernel
def QrmR6 (Z : State) (G : Gs) (ax : Addr) (stx : Int32) (r1 : Value) (r2 : Value) (r3 : Value) (by_ : Int64) (u0 : Value) (u1 : Value) (u2 : Value) (u3 : Value) (u4 : Value) (u5 : Value) (h0 : Heap) (n0 : Nat) (v : Option Value) (h : Heap) (L : List Loc) : Prop := v = none ∧ Fr n0 L ∧ Keep h0 h [ax] ∧ Exa Z h ax "com/example/nishana/nishana/Response" ∧ Fld Z h ax "com/example/nishana/nishana/Response" "status" "I" (.int stx) ∧ Fld Z h ax "com/example/nishana/nishana/Response" "location" "Ljava/lang/String;" r2
set_option maxRecDepth 65536 in
set_option maxHeartbeats 40000000 in
theorem rmR6 (l : Launch) (Z : State) (a0 : Array Value) (hw : HW a0 Z) (G : Gs) (ST : StartF Z G) (ws : List Jvm.Cond) (ax : Addr) (stx : Int32) (r1 : Value) (r2 : Value) (r3 : Value) (by_ : Int64) (u0 : Value) (u1 : Value) (u2 : Value) (u3 : Value) (u4 : Value) (u5 : Value) (h0 : Heap) (n0 : Nat) (X00 : Old Z n0 h0) (hr1 : r1.isRef = true) (hr2 : r2.isRef = true) (hr3 : r3.isRef = true) (E1 : Exa Z h0 ax "com/example/nishana/nishana/Response") (F0 : Fld Z h0 ax "com/example/nishana/nishana/Response" "status" "I" u0) (F1 : Fld Z h0 ax "com/example/nishana/nishana/Response" "contentType" "Ljava/lang/String;" u1) (F2 : Fld Z h0 ax "com/example/nishana/nishana/Response" "location" "Ljava/lang/String;" u2) (F3 : Fld Z h0 ax "com/example/nishana/nishana/Response" "body" "[B" u3) (F4 : Fld Z h0 ax "com/example/nishana/nishana/Response" "bytes" "J" u4) (F5 : Fld Z h0 ax "com/example/nishana/nishana/Response" "transcript" "Lcom/example/nishana/nishana/Transcript;" u5) (g1 : n0 ≤ ax) :
    MetFree l (⟨"com/example/nishana/nishana/Response", "<init>", "(ILjava/lang/String;Ljava/lang/String;[BJLcom/example/nishana/nishana/Transcript;)V"⟩ : MethodName) (head1 (Jvm.Cond.code (⟨"com/example/nishana/nishana/Response", "<init>", "(ILjava/lang/String;Ljava/lang/String;[BJLcom/example/nishana/nishana/Transcript;)V"⟩ : MethodName) prog_19_method_2_code 8 none :: ws) ({ frames := 1, cells := 0, slots := 0, locals := 12 } : Room)) (fun a U => a = #[(.ref ax), (.int stx), r1, r2, r3, (.long by_), .null] ∧ Z.Warmed39 U.vm ∧ U.heap = h0) (fun _ _ _ _ _ => True) (fun _ U o U' => ∃ v L, o = .returned v ∧ QrmR6 Z G ax stx r1 r2 r3 by_ u0 u1 u2 u3 u4 u5 h0 n0 v U'.heap L ∧ FrameEnd U o U' L ({ frames := 1, cells := 0, slots := 0, locals := 12 } : Room).cells ({ frames := 1, cells := 0, slots := 0, locals := 12 } : Room).slots) := by
  refine MetFree.of_bodySF (plainFor_of_name pn_2) hisR ?_
  intro p e s m args below meth c s₁ Bd hml0 hP hK
  obtain ⟨rfl, hZ, hh⟩ := hP
  have hx := Bd.exec
  have hby := Bd.bytes
  have hml : c.maxLocals = 8 := hml0
  have hown : s.vm.findClass "com/example/nishana/nishana/Response" = some m.cls := findClass_of_methodNamed Bd.named
  have hnm := (name_of_methodNamed Bd.named Bd.method).1
  have X0 : Stand p l e ({ frames := 1, cells := 0, slots := 0, locals := 12 } : Room) s m #[(.ref ax), (.int stx), r1, r2, r3, (.long by_), .null] below meth c s₁ [] 0 0 := Stand.of_body Bd
  have e0 : s₁.heap = h0 := by rw [← hh, Bd.state]; rfl
  have N0 := Fr.nil n0
  have Z0 : n0 ≤ h0.size := by have q := X00.2.1; rw [X00.1] at q; exact q
  obtain ⟨TG, hTG, hT2⟩ : ∃ P : State → Prop, (∀ t, P t → Steps p.tables e below (s₁.setTop (entryFrame m #[(.ref ax), (.int stx), r1, r2, r3, (.long by_), .null] 8)) t) ∧ (∀ t, Steps p.tables e below (s₁.setTop (entryFrame m #[(.ref ax), (.int stx), r1, r2, r3, (.long by_), .null] 8)) t → P t) := ⟨_, fun t k => k, fun t k => k⟩
  have pre0 : ∀ t, Sx p e below s₁ m 0 #[xvr ax, xvi stx, .val r1, .val r2, .val r3, xvj by_, xse, .val .null] [] t → TG t := fun t k => hT2 t (castTop (ef_rmR6 m ax stx r1 r2 r3 by_ hr1 hr2 hr3) k)
  obtain ⟨T129, X129, e129, st129⟩ := initO X0 hx hZ hown (w_42 hw) (w_27 hw) (w_28 hw) e0 (g := (mkF m 1 #[xvr ax, xvi stx, .val r1, .val r2, .val r3, xvj by_, xse, .val .null] [xwr ax])) rfl (by rw [hml]; rfl) rfl (hb hby d9_1) (by decide) (W := 0) (by show 2 * 0 + _ ≤ _; exact Nat.le_of_eq rfl) (by decide)
  obtain ⟨T130, h130, X130, e130, W130, st130⟩ := putF X129 hx hZ hown (host := "") (Or.inl (w_43 hw)) Via.refl e129 F0 E1 (Or.inr ⟨(w_44 hw), rfl, hnm⟩) (w_34 hw) (ty := .int) (by decide) rfl rfl (g := (mkF m 6 #[xvr ax, xvi stx, .val r1, .val r2, .val r3, xvj by_, xse, .val .null] [xwi stx, xwr ax])) rfl rfl (hb hby d9_6)
  have Fw130 := F0.same W130
  have N130 := Fr.snoc X130 N0 g1
  have f131 := (F1.other W130 (Or.inr (slot_ne (Or.inr (w_46 hw)) (Or.inr (w_44 hw)) (by decide) (t := (.object "java/lang/String")) (t' := .int) (by decide) (by decide))))
  have f132 := (E1.wr W130)
  obtain ⟨T133, h133, X133, e133, W133, st133⟩ := putF X130 hx hZ hown (host := "") (Or.inl (w_45 hw)) Via.refl e130 f131 f132 (Or.inr ⟨(w_46 hw), rfl, hnm⟩) (w_34 hw) (ty := (.object "java/lang/String")) (by decide) (own_nar hr1 rfl) (own_fit hr1 rfl) (g := (mkF m 11 #[xvr ax, xvi stx, .val r1, .val r2, .val r3, xvj by_, xse, .val .null] [r1, xwr ax])) rfl rfl (hb hby d9_11)
  have Fw133 := f131.same W133
  have N133 := Fr.snoc X133 N130 g1
  have f134 := ((F2.other W130 (Or.inr (slot_ne (Or.inr (w_48 hw)) (Or.inr (w_44 hw)) (by decide) (t := (.object "java/lang/String")) (t' := .int) (by decide) (by decide)))).other W133 (Or.inr (slot_ne (Or.inr (w_48 hw)) (Or.inr (w_46 hw)) (by decide) (t := (.object "java/lang/String")) (t' := (.object "java/lang/String")) (by decide) (by decide))))
  have f135 := (f132.wr W133)
  obtain ⟨T136, h136, X136, e136, W136, st136⟩ := putF X133 hx hZ hown (host := "") (Or.inl (w_47 hw)) Via.refl e133 f134 f135 (Or.inr ⟨(w_48 hw), rfl, hnm⟩) (w_34 hw) (ty := (.object "java/lang/String")) (by decide) (own_nar hr2 rfl) (own_fit hr2 rfl) (g := (mkF m 16 #[xvr ax, xvi stx, .val r1, .val r2, .val r3, xvj by_, xse, .val .null] [r2, xwr ax])) rfl rfl (hb hby d9_16)
  have Fw136 := f134.same W136
  have N136 := Fr.snoc X136 N133 g1
  have f137 := (((F3.other W130 (Or.inr (slot_ne (Or.inr (w_50 hw)) (Or.inr (w_44 hw)) (by decide) (t := (.array .byte)) (t' := .int) (by decide) (by decide)))).other W133 (Or.inr (slot_ne (Or.inr (w_50 hw)) (Or.inr (w_46 hw)) (by decide) (t := (.array .byte)) (t' := (.object "java/lang/String")) (by decide) (by decide)))).other W136 (Or.inr (slot_ne (Or.inr (w_50 hw)) (Or.inr (w_48 hw)) (by decide) (t := (.array .byte)) (t' := (.object "java/lang/String")) (by decide) (by decide))))
  have f138 := (f135.wr W136)
  obtain ⟨T139, h139, X139, e139, W139, st139⟩ := putF X136 hx hZ hown (host := "") (Or.inl (w_49 hw)) Via.refl e136 f137 f138 (Or.inr ⟨(w_50 hw), rfl, hnm⟩) (w_34 hw) (ty := (.array .byte)) (by decide) (own_nar hr3 rfl) (own_fit hr3 rfl) (g := (mkF m 22 #[xvr ax, xvi stx, .val r1, .val r2, .val r3, xvj by_, xse, .val .null] [r3, xwr ax])) rfl rfl (hb hby d9_22)
  have Fw139 := f137.same W139
  have N139 := Fr.snoc X139 N136 g1
  have f140 := ((((F4.other W130 (Or.inr (slot_ne (Or.inr (w_52 hw)) (Or.inr (w_44 hw)) (by decide) (t := .long) (t' := .int) (by decide) (by decide)))).other W133 (Or.inr (slot_ne (Or.inr (w_52 hw)) (Or.inr (w_46 hw)) (by decide) (t := .long) (t' := (.object "java/lang/String")) (by decide) (by decide)))).other W136 (Or.inr (slot_ne (Or.inr (w_52 hw)) (Or.inr (w_48 hw)) (by decide) (t := .long) (t' := (.object "java/lang/String")) (by decide) (by decide)))).other W139 (Or.inr (slot_ne (Or.inr (w_52 hw)) (Or.inr (w_50 hw)) (by decide) (t := .long) (t' := (.array .byte)) (by decide) (by decide))))
  have f141 := (f138.wr W139)
  obtain ⟨T142, h142, X142, e142, W142, st142⟩ := putF X139 hx hZ hown (host := "") (Or.inl (w_51 hw)) Via.refl e139 f140 f141 (Or.inr ⟨(w_52 hw), rfl, hnm⟩) (w_34 hw) (ty := .long) (by decide) rfl rfl (g := (mkF m 28 #[xvr ax, xvi stx, .val r1, .val r2, .val r3, xvj by_, xse, .val .null] [xwj by_, xwr ax])) rfl rfl (hb hby d9_28)
  have Fw142 := f140.same W142
  have N142 := Fr.snoc X142 N139 g1
  have f143 := (((((F5.other W130 (Or.inr (slot_ne (Or.inr (w_54 hw)) (Or.inr (w_44 hw)) (by decide) (t := (.object "com/example/nishana/nishana/Transcript")) (t' := .int) (by decide) (by decide)))).other W133 (Or.inr (slot_ne (Or.inr (w_54 hw)) (Or.inr (w_46 hw)) (by decide) (t := (.object "com/example/nishana/nishana/Transcript")) (t' := (.object "java/lang/String")) (by decide) (by decide)))).other W136 (Or.inr (slot_ne (Or.inr (w_54 hw)) (Or.inr (w_48 hw)) (by decide) (t := (.object "com/example/nishana/nishana/Transcript")) (t' := (.object "java/lang/String")) (by decide) (by decide)))).other W139 (Or.inr (slot_ne (Or.inr (w_54 hw)) (Or.inr (w_50 hw)) (by decide) (t := (.object "com/example/nishana/nishana/Transcript")) (t' := (.array .byte)) (by decide) (by decide)))).other W142 (Or.inr (slot_ne (Or.inr (w_54 hw)) (Or.inr (w_52 hw)) (by decide) (t := (.object "com/example/nishana/nishana/Transcript")) (t' := .long) (by decide) (by decide))))
  have f144 := (f141.wr W142)
  obtain ⟨T145, h145, X145, e145, W145, st145⟩ := putF X142 hx hZ hown (host := "") (Or.inl (w_53 hw)) Via.refl e142 f143 f144 (Or.inr ⟨(w_54 hw), rfl, hnm⟩) (w_34 hw) (ty := (.object "com/example/nishana/nishana/Transcript")) (by decide) rfl rfl (g := (mkF m 34 #[xvr ax, xvi stx, .val r1, .val r2, .val r3, xvj by_, xse, .val .null] [.null, xwr ax])) rfl rfl (hb hby d9_34)
  have Fw145 := f143.same W145
  have N145 := Fr.snoc X145 N142 g1
  have f146 := (f144.wr W145)
  have f147 := (((((Fw130.other W133 (Or.inr (slot_ne (Or.inr (w_44 hw)) (Or.inr (w_46 hw)) (by decide) (t := .int) (t' := (.object "java/lang/String")) (by decide) (by decide)))).other W136 (Or.inr (slot_ne (Or.inr (w_44 hw)) (Or.inr (w_48 hw)) (by decide) (t := .int) (t' := (.object "java/lang/String")) (by decide) (by decide)))).other W139 (Or.inr (slot_ne (Or.inr (w_44 hw)) (Or.inr (w_50 hw)) (by decide) (t := .int) (t' := (.array .byte)) (by decide) (by decide)))).other W142 (Or.inr (slot_ne (Or.inr (w_44 hw)) (Or.inr (w_52 hw)) (by decide) (t := .int) (t' := .long) (by decide) (by decide)))).other W145 (Or.inr (slot_ne (Or.inr (w_44 hw)) (Or.inr (w_54 hw)) (by decide) (t := .int) (t' := (.object "com/example/nishana/nishana/Transcript")) (by decide) (by decide))))
  have f148 := (((Fw136.other W139 (Or.inr (slot_ne (Or.inr (w_48 hw)) (Or.inr (w_50 hw)) (by decide) (t := (.object "java/lang/String")) (t' := (.array .byte)) (by decide) (by decide)))).other W142 (Or.inr (slot_ne (Or.inr (w_48 hw)) (Or.inr (w_52 hw)) (by decide) (t := (.object "java/lang/String")) (t' := .long) (by decide) (by decide)))).other W145 (Or.inr (slot_ne (Or.inr (w_48 hw)) (Or.inr (w_54 hw)) (by decide) (t := (.object "java/lang/String")) (t' := (.object "com/example/nishana/nishana/Transcript")) (by decide) (by decide))))
  obtain ⟨fs, hr, hrun, hended, hW, hsame⟩ := X145.leave (v := none) (fun _ => rfl)
  refine ⟨_, _, hTG _ (pre0 _ ?_), hrun, hended, _, _, rfl, ?_, ⟨_, rfl⟩, hW, hsame.mono (by decide) (by decide)⟩
  · refine y_aloadN X0 hx 1 (hb hby d9_0) rfl rfl rfl ?_
    refine st129 _ ?_
    show Sx p e below T129 m 4 #[xvr ax, xvi stx, .val r1, .val r2, .val r3, xvj by_, xse, .val .null] [] _
    refine y_aloadN X129 hx 5 (hb hby d9_4) rfl rfl rfl ?_
    refine y_iloadN X129 hx 6 (hb hby d9_5) rfl rfl ?_
    refine st130 _ ?_
    show Sx p e below T130 m 9 #[xvr ax, xvi stx, .val r1, .val r2, .val r3, xvj by_, xse, .val .null] [] _
    refine y_aloadN X130 hx 10 (hb hby d9_9) rfl rfl rfl ?_
    refine y_aloadN X130 hx 11 (hb hby d9_10) rfl hr1 rfl ?_
    refine st133 _ ?_
    show Sx p e below T133 m 14 #[xvr ax, xvi stx, .val r1, .val r2, .val r3, xvj by_, xse, .val .null] [] _
    refine y_aloadN X133 hx 15 (hb hby d9_14) rfl rfl rfl ?_
    refine y_aloadN X133 hx 16 (hb hby d9_15) rfl hr2 rfl ?_
    refine st136 _ ?_
    show Sx p e below T136 m 19 #[xvr ax, xvi stx, .val r1, .val r2, .val r3, xvj by_, xse, .val .null] [] _
    refine y_aloadN X136 hx 20 (hb hby d9_19) rfl rfl rfl ?_
    refine y_aload X136 hx 22 (hb hby d9_20) rfl hr3 rfl ?_
    refine st139 _ ?_
    show Sx p e below T139 m 25 #[xvr ax, xvi stx, .val r1, .val r2, .val r3, xvj by_, xse, .val .null] [] _
    refine y_aloadN X139 hx 26 (hb hby d9_25) rfl rfl rfl ?_
    refine y_lload X139 hx 28 (hb hby d9_26) rfl rfl ?_
    refine st142 _ ?_
    show Sx p e below T142 m 31 #[xvr ax, xvi stx, .val r1, .val r2, .val r3, xvj by_, xse, .val .null] [] _
    refine y_aloadN X142 hx 32 (hb hby d9_31) rfl rfl rfl ?_
    refine y_aload X142 hx 34 (hb hby d9_32) rfl rfl rfl ?_
    refine st145 _ ?_
    show Sx p e below T145 m 37 #[xvr ax, xvi stx, .val r1, .val r2, .val r3, xvj by_, xse, .val .null] [] _
    exact X145.returnOut hx Bd.returns (hb hby d9_37) hr
  · show QrmR6 Z G ax stx r1 r2 r3 by_ u0 u1 u2 u3 u4 u5 h0 n0 _ T145.heap _
    rw [e145]
    exact ⟨rfl, N145, (((((((Keep.refl h0 [ax]).wr W130 (Or.inl (List.mem_of_getElem? (i := 0) rfl))).wr W133 (Or.inl (List.mem_of_getElem? (i := 0) rfl))).wr W136 (Or.inl (List.mem_of_getElem? (i := 0) rfl))).wr W139 (Or.inl (List.mem_of_getElem? (i := 0) rfl))).wr W142 (Or.inl (List.mem_of_getElem? (i := 0) rfl))).wr W145 (Or.inl (List.mem_of_getElem? (i := 0) rfl))), f146, f147, f148⟩
theorem ef_rmR5 (m : MethodId) (x0 : Addr) (x1 : Int32) (x2 : Value) (x3 : Value) (x4 : Value) (x5 : Int64) (hx2 : x2.isRef = true) (hx3 : x3.isRef = true) (hx4 : x4.isRef = true) : entryFrame m #[(.ref x0), (.int x1), x2, x3, x4, (.long x5)] 7 = mkF m 0 #[.val (.ref x0), .val (.int x1), .val x2, .val x3, .val x4, .val (.long x5), .second] [] := by
  rcases XT.refc hx2 with rfl | ⟨_, rfl⟩ <;> rcases XT.refc hx3 with rfl | ⟨_, rfl⟩ <;> rcases XT.refc hx4 with rfl | ⟨_, rfl⟩ <;> first | (simp [entryFrame, mkF, argsToLocals, Value.category]; done) | rfl
theorem d8_0 : decode prog_19_method_1_code 0 = .ok (.aload_n 0, 1) := by decide +kernel
theorem d8_1 : decode prog_19_method_1_code 1 = .ok (.iload_n 1, 1) := by decide +kernel
theorem d8_2 : decode prog_19_method_1_code 2 = .ok (.aload_n 2, 1) := by decide +kernel
theorem d8_3 : decode prog_19_method_1_code 3 = .ok (.aload_n 3, 1) := by decide +kernel
theorem d8_4 : decode prog_19_method_1_code 4 = .ok (.aload 4, 2) := by decide +kernel
theorem d8_6 : decode prog_19_method_1_code 6 = .ok (.lload 5, 2) := by decide +kernel
theorem d8_8 : decode prog_19_method_1_code 8 = .ok (.aconst_null, 1) := by decide +kernel
theorem d8_9 : decode prog_19_method_1_code 9 = .ok (.invokespecial 1, 3) := by decide +kernel
theorem pd_3 : parseMethodDescriptor "(ILjava/lang/String;Ljava/lang/String;[BJLcom/example/nishana/nishana/Transcript;)V" = some ⟨[.int, (.object "java/lang/String"), (.object "java/lang/String"), (.array .byte), .long, (.object "com/example/nishana/nishana/Transcript")], none⟩ := by decide +kernel
theorem d8_12 : decode prog_19_method_1_code 12 = .ok (.return_, 1) := by decide +kernel
def QrmR5 (Z : State) (G : Gs) (ax : Addr) (stx : Int32) (r1 : Value) (r2 : Value) (r3 : Value) (by_ : Int64) (u0 : Value) (u1 : Value) (u2 : Value) (u3 : Value) (u4 : Value) (u5 : Value) (h0 : Heap) (n0 : Nat) (v : Option Value) (h : Heap) (L : List Loc) : Prop := v = none ∧ Fr n0 L ∧ Keep h0 h [ax] ∧ Exa Z h ax "com/example/nishana/nishana/Response" ∧ Fld Z h ax "com/example/nishana/nishana/Response" "status" "I" (.int stx) ∧ Fld Z h ax "com/example/nishana/nishana/Response" "location" "Ljava/lang/String;" r2
set_option maxRecDepth 65536 in
set_option maxHeartbeats 40000000 in
theorem rmR5 (l : Launch) (Z : State) (a0 : Array Value) (hw : HW a0 Z) (G : Gs) (ST : StartF Z G) (ws : List Jvm.Cond) (ax : Addr) (stx : Int32) (r1 : Value) (r2 : Value) (r3 : Value) (by_ : Int64) (u0 : Value) (u1 : Value) (u2 : Value) (u3 : Value) (u4 : Value) (u5 : Value) (h0 : Heap) (n0 : Nat) (X00 : Old Z n0 h0) (hr1 : r1.isRef = true) (hr2 : r2.isRef = true) (hr3 : r3.isRef = true) (E1 : Exa Z h0 ax "com/example/nishana/nishana/Response") (F0 : Fld Z h0 ax "com/example/nishana/nishana/Response" "status" "I" u0) (F1 : Fld Z h0 ax "com/example/nishana/nishana/Response" "contentType" "Ljava/lang/String;" u1) (F2 : Fld Z h0 ax "com/example/nishana/nishana/Response" "location" "Ljava/lang/String;" u2) (F3 : Fld Z h0 ax "com/example/nishana/nishana/Response" "body" "[B" u3) (F4 : Fld Z h0 ax "com/example/nishana/nishana/Response" "bytes" "J" u4) (F5 : Fld Z h0 ax "com/example/nishana/nishana/Response" "transcript" "Lcom/example/nishana/nishana/Transcript;" u5) (g1 : n0 ≤ ax) :
    MetFree l (⟨"com/example/nishana/nishana/Response", "<init>", "(ILjava/lang/String;Ljava/lang/String;[BJ)V"⟩ : MethodName) (head1 (Jvm.Cond.code (⟨"com/example/nishana/nishana/Response", "<init>", "(ILjava/lang/String;Ljava/lang/String;[BJ)V"⟩ : MethodName) prog_19_method_1_code 7 none :: ws) ({ frames := 2, cells := 0, slots := 0, locals := 31 } : Room)) (fun a U => a = #[(.ref ax), (.int stx), r1, r2, r3, (.long by_)] ∧ Z.Warmed39 U.vm ∧ U.heap = h0) (fun _ _ _ _ _ => True) (fun _ U o U' => ∃ v L, o = .returned v ∧ QrmR5 Z G ax stx r1 r2 r3 by_ u0 u1 u2 u3 u4 u5 h0 n0 v U'.heap L ∧ FrameEnd U o U' L ({ frames := 2, cells := 0, slots := 0, locals := 31 } : Room).cells ({ frames := 2, cells := 0, slots := 0, locals := 31 } : Room).slots) := by
  refine MetFree.of_bodySF (plainFor_of_name pn_2) hisR ?_
  intro p e s m args below meth c s₁ Bd hml0 hP hK
  obtain ⟨rfl, hZ, hh⟩ := hP
  have hx := Bd.exec
  have hby := Bd.bytes
  have hml : c.maxLocals = 7 := hml0
  have hown : s.vm.findClass "com/example/nishana/nishana/Response" = some m.cls := findClass_of_methodNamed Bd.named
  have hnm := (name_of_methodNamed Bd.named Bd.method).1
  have X0 : Stand p l e ({ frames := 2, cells := 0, slots := 0, locals := 31 } : Room) s m #[(.ref ax), (.int stx), r1, r2, r3, (.long by_)] below meth c s₁ [] 0 0 := Stand.of_body Bd
  have e0 : s₁.heap = h0 := by rw [← hh, Bd.state]; rfl
  have N0 := Fr.nil n0
  have Z0 : n0 ≤ h0.size := by have q := X00.2.1; rw [X00.1] at q; exact q
  obtain ⟨TG, hTG, hT2⟩ : ∃ P : State → Prop, (∀ t, P t → Steps p.tables e below (s₁.setTop (entryFrame m #[(.ref ax), (.int stx), r1, r2, r3, (.long by_)] 7)) t) ∧ (∀ t, Steps p.tables e below (s₁.setTop (entryFrame m #[(.ref ax), (.int stx), r1, r2, r3, (.long by_)] 7)) t → P t) := ⟨_, fun t k => k, fun t k => k⟩
  have pre0 : ∀ t, Sx p e below s₁ m 0 #[xvr ax, xvi stx, .val r1, .val r2, .val r3, xvj by_, xse] [] t → TG t := fun t k => hT2 t (castTop (ef_rmR5 m ax stx r1 r2 r3 by_ hr1 hr2 hr3) k)
  obtain ⟨_, _, ⟨T149, L149, k149, n149⟩, -, X149, ⟨Lc149, hQ149, l149, y149, z149⟩, st149⟩ := X0.specialBack hx (y := (⟨"com/example/nishana/nishana/Response", "<init>", "(ILjava/lang/String;Ljava/lang/String;[BJLcom/example/nishana/nishana/Transcript;)V"⟩ : MethodName)) rfl hown (mvT hZ (w_39 hw)) (mvT hZ (w_40 hw)) (mvT hZ (w_41 hw)) (by decide) (backOf (W := 0) (rmR6 l Z a0 hw G ST [] ax stx r1 r2 r3 by_ u0 u1 u2 u3 u4 u5 h0 n0 X00 hr1 hr2 hr3 E1 F0 F1 F2 F3 F4 F5 g1) hZ (w_41 hw) (w_35 hw) (by decide) (by decide)) (g := (mkF m 9 #[xvr ax, xvi stx, .val r1, .val r2, .val r3, xvj by_, xse] [.null, xwj by_, r3, r2, r1, xwi stx, xwr ax])) rfl (by rw [hml]; rfl) (Steps.refl _) (a := ax) (argsL := [(.int stx), r1, r2, r3, (.long by_), .null]) (rest := []) (lenOf pd_3 rfl) rfl (by show 2 * 0 + _ ≤ _; exact Nat.le_of_eq rfl) (hb hby d8_9) (fun _ _ => ⟨rfl, e0, (by decide : 0 + 0 ≤ _), (by decide : 0 + 0 ≤ _)⟩)
  dsimp only [Pt.U, Pt.locs, Pt.cells, Pt.slots] at X149 l149 y149 z149 st149 hQ149
  subst l149 y149 z149
  obtain ⟨hp149, e149⟩ : ∃ z, T149.heap = z := ⟨_, rfl⟩
  rw [e149] at hQ149
  obtain ⟨rfl, N149q, K149, p150, p151, p152⟩ := hQ149
  have N149 := Fr.app N0 N149q
  obtain ⟨fs, hr, hrun, hended, hW, hsame⟩ := X149.leave (v := none) (fun _ => rfl)
  refine ⟨_, _, hTG _ (pre0 _ ?_), hrun, hended, _, _, rfl, ?_, ⟨_, rfl⟩, hW, hsame.mono (by decide) (by decide)⟩
  · refine y_aloadN X0 hx 1 (hb hby d8_0) rfl rfl rfl ?_
    refine y_iloadN X0 hx 2 (hb hby d8_1) rfl rfl ?_
    refine y_aloadN X0 hx 3 (hb hby d8_2) rfl hr1 rfl ?_
    refine y_aloadN X0 hx 4 (hb hby d8_3) rfl hr2 rfl ?_
    refine y_aload X0 hx 6 (hb hby d8_4) rfl hr3 rfl ?_
    refine y_lload X0 hx 8 (hb hby d8_6) rfl rfl ?_
    refine y_aconst_null X0 hx 9 (hb hby d8_8) rfl ?_
    refine st149.trans ?_
    show Sx p e below T149 m 12 #[xvr ax, xvi stx, .val r1, .val r2, .val r3, xvj by_, xse] [] _
    exact X149.returnOut hx Bd.returns (hb hby d8_12) hr
  · show QrmR5 Z G ax stx r1 r2 r3 by_ u0 u1 u2 u3 u4 u5 h0 n0 _ T149.heap _
    rw [e149]
    exact ⟨rfl, N149, ((Keep.refl h0 [ax]).trans K149 (allS (Or.inl (List.mem_of_getElem? (i := 0) rfl)) all0)), p150, p151, p152⟩
theorem ef_rmE4 (m : MethodId) (x0 : Addr) (x1 : Addr) (x2 : Int32) (x3 : Int32)  : entryFrame m #[(.ref x0), (.ref x1), (.int x2), (.int x3), .null] 6 = mkF m 0 #[.val (.ref x0), .val (.ref x1), .val (.int x2), .val (.int x3), .val .null, .unset] [] := by first | (simp [entryFrame, mkF, argsToLocals, Value.category]; done) | rfl
theorem d12_0 : decode jdk_42_method_149_code 0 = .ok (.aload_n 0, 1) := by decide +kernel
theorem d12_1 : decode jdk_42_method_149_code 1 = .ok (.invokespecial 1, 3) := by decide +kernel
theorem d12_4 : decode jdk_42_method_149_code 4 = .ok (.iload_n 3, 1) := by decide +kernel
theorem d12_5 : decode jdk_42_method_149_code 5 = .ok (.ifCond .ne 22, 3) := by decide +kernel
theorem d12_8 : decode jdk_42_method_149_code 8 = .ok (.aload_n 0, 1) := by decide +kernel
theorem d12_9 : decode jdk_42_method_149_code 9 = .ok (.ldc 7, 2) := by decide +kernel
theorem d12_11 : decode jdk_42_method_149_code 11 = .ok (.getfield 9, 3) := by decide +kernel
theorem d12_14 : decode jdk_42_method_149_code 14 = .ok (.putfield 9, 3) := by decide +kernel
theorem d12_17 : decode jdk_42_method_149_code 17 = .ok (.aload_n 0, 1) := by decide +kernel
theorem d12_18 : decode jdk_42_method_149_code 18 = .ok (.ldc 7, 2) := by decide +kernel
theorem d12_20 : decode jdk_42_method_149_code 20 = .ok (.getfield 15, 3) := by decide +kernel
theorem d12_23 : decode jdk_42_method_149_code 23 = .ok (.putfield 15, 3) := by decide +kernel
theorem d12_26 : decode jdk_42_method_149_code 26 = .ok (.return_, 1) := by decide +kernel
def QrmE4 (Z : State) (G : Gs) (ax : Addr) (cx : Addr) (kc : ClassId) (cs : List Value) (dv : Value) (h0 : Heap) (n0 : Nat) (v : Option Value) (h : Heap) (L : List Loc) : Prop := ∃ (tx : Addr), ∃ (kb : ClassId), v = none ∧ Fr n0 L ∧ Keep h0 h [ax] ∧ Exa Z h ax "java/lang/String" ∧ Fld Z h ax "java/lang/String" "coder" "B" (.int (0 : Int32)) ∧ Fld Z h ax "java/lang/String" "value" "[B" (.ref tx) ∧ Arv Z h tx kb .byte (0 : Int32) [] (.int (0 : Int32))
set_option maxRecDepth 65536 in
set_option maxHeartbeats 40000000 in
theorem rmE4 (l : Launch) (Z : State) (a0 : Array Value) (hw : HW a0 Z) (G : Gs) (ST : StartF Z G) (ws : List Jvm.Cond) (ax : Addr) (cx : Addr) (kc : ClassId) (cs : List Value) (dv : Value) (h0 : Heap) (n0 : Nat) (X00 : Old Z n0 h0) (E1 : Exa Z h0 ax "java/lang/String") (F1 : Fld Z h0 ax "java/lang/String" "value" "[B" .null) (F2 : Fld Z h0 ax "java/lang/String" "coder" "B" (.int (0 : Int32))) (g1 : n0 ≤ ax) (V1 : Arv Z h0 cx kc .char (0 : Int32) cs dv) :
    MetFree l (⟨"java/lang/String", "<init>", "([CIILjava/lang/Void;)V"⟩ : MethodName) (head1 (Jvm.Cond.code (⟨"java/lang/String", "<init>", "([CIILjava/lang/Void;)V"⟩ : MethodName) jdk_42_method_149_code 6 none :: ws) ({ frames := 1, cells := 2, slots := 4, locals := 12 } : Room)) (fun a U => a = #[(.ref ax), (.ref cx), (.int (0 : Int32)), (.int (0 : Int32)), .null] ∧ Z.Warmed39 U.vm ∧ U.heap = h0 ∧ CHv Z EL U.vm h0) (fun _ _ _ _ _ => True) (fun _ U o U' => ∃ v L, o = .returned v ∧ QrmE4 Z G ax cx kc cs dv h0 n0 v U'.heap L ∧ CHr Z EL U.vm U.heap U'.vm U'.heap ∧ ReturnedEndW U o U' L ({ frames := 1, cells := 2, slots := 4, locals := 12 } : Room).cells ({ frames := 1, cells := 2, slots := 4, locals := 12 } : Room).slots) := by
  refine MetFree.of_bodySF (plainFor_of_name pn_1) hisR ?_
  intro p e s m args below meth c s₁ Bd hml0 hP hK
  obtain ⟨rfl, hZ, hh, HC0⟩ := hP
  have hx := Bd.exec
  have hby := Bd.bytes
  have hml : c.maxLocals = 6 := hml0
  have hown : s.vm.findClass "java/lang/String" = some m.cls := findClass_of_methodNamed Bd.named
  have hnm := (name_of_methodNamed Bd.named Bd.method).1
  have X0 : Stand p l e ({ frames := 1, cells := 2, slots := 4, locals := 12 } : Room) (s.setVm s.vm) m #[(.ref ax), (.ref cx), (.int (0 : Int32)), (.int (0 : Int32)), .null] below meth c s₁ [] 0 0 := Stand.of_body Bd
  have e0 : s₁.heap = h0 := by rw [← hh, Bd.state]; rfl
  have N0 := Fr.nil n0
  have Z0 : n0 ≤ h0.size := by have q := X00.2.1; rw [X00.1] at q; exact q
  have C0 := CHr.refl HC0
  have hS0 : s.Since s.vm h0.size := (State.WarmedH.refl s).since h0.size
  obtain ⟨TG, hTG, hT2⟩ : ∃ P : State → Prop, (∀ t, P t → Steps p.tables e below (s₁.setTop (entryFrame m #[(.ref ax), (.ref cx), (.int (0 : Int32)), (.int (0 : Int32)), .null] 6)) t) ∧ (∀ t, Steps p.tables e below (s₁.setTop (entryFrame m #[(.ref ax), (.ref cx), (.int (0 : Int32)), (.int (0 : Int32)), .null] 6)) t → P t) := ⟨_, fun t k => k, fun t k => k⟩
  have pre0 : ∀ t, Sx p e below s₁ m 0 #[xvr ax, xvr cx, xvi (0 : Int32), xvi (0 : Int32), .val .null, xun] [] t → TG t := fun t k => hT2 t (castTop (ef_rmE4 m ax cx (0 : Int32) (0 : Int32) ) k)
  obtain ⟨T153, X153, e153, st153⟩ := initO X0 hx hZ hown (w_26 hw) (w_27 hw) (w_28 hw) e0 (g := (mkF m 1 #[xvr ax, xvr cx, xvi (0 : Int32), xvi (0 : Int32), .val .null, xun] [xwr ax])) rfl (by rw [hml]; rfl) rfl (hb hby d12_1) (by decide) (W := 0) (by show 2 * 0 + _ ≤ _; exact Nat.le_of_eq rfl) (by decide)
  obtain ⟨a154, T154, h154, kk154, d154, k154, X154, e154, E154, hS154, hk154, hZ154, hown154, A154, Fc154, Fv154, V154, -, -, CH154, Li154, sf154, st154⟩ := ldcCH X153 hx hZ hown (w_70 hw) (own_SA hw) e153 hS0 (Nat.le_refl _) (own_EW hw) (by decide) C0.1 (vs := []) (z := (0 : Int32)) ⟨by decide, rfl⟩ (by decide) (by decide) (g := (mkF m 9 #[xvr ax, xvr cx, xvi (0 : Int32), xvi (0 : Int32), .val .null, xun] [xwr ax])) rfl (hb hby d12_9) (n := 0) (by decide) (by decide) (by decide) (by decide)
  have C155 := C0.trans CH154
  obtain ⟨T156, X156, e156, st156⟩ := getF X154 hx hZ154 hown154 (host := "") (Or.inl (w_29 hw)) Via.refl e154 Fv154 (g := (mkF m 11 #[xvr ax, xvr cx, xvi (0 : Int32), xvi (0 : Int32), .val .null, xun] [xwr a154, xwr ax])) rfl rfl (hb hby d12_11)
  have f157 := (F1.ext E154)
  have f158 := (E1.ext E154)
  obtain ⟨T159, h159, X159, e159, W159, st159⟩ := putF X156 hx hZ154 hown154 (host := "") (Or.inl (w_29 hw)) Via.refl e156 f157 f158 (Or.inr ⟨(w_30 hw), rfl, hnm⟩) (w_17 hw) (ty := (.array .byte)) (by decide) rfl rfl (g := (mkF m 14 #[xvr ax, xvr cx, xvi (0 : Int32), xvi (0 : Int32), .val .null, xun] [xwr d154, xwr ax])) rfl rfl (hb hby d12_14)
  have sf162 := (CHr.safe CH154 (Nat.lt_of_lt_of_le E1.lt (Nat.le_refl _)) (own_safeN hZ.alike E1 F1))
  have ch161 := CHr.wr W159 sf162 C155.1
  have C160 := C155.trans ch161
  have Fw159 := f157.same W159
  have N159 := Fr.snoc X159 N0 g1
  have f163 := (Fc154.other W159 (Or.inl (Ne.symm (sf154 ax sf162).1)))
  obtain ⟨T164, X164, e164, st164⟩ := getF X159 hx hZ154 hown154 (host := "") (Or.inl (w_31 hw)) Via.refl e159 f163 (g := (mkF m 20 #[xvr ax, xvr cx, xvi (0 : Int32), xvi (0 : Int32), .val .null, xun] [xwr a154, xwr ax])) rfl rfl (hb hby d12_20)
  have f165 := ((F2.ext E154).other W159 (Or.inr (slot_ne (Or.inr (w_32 hw)) (Or.inr (w_30 hw)) (by decide) (t := .byte) (t' := (.array .byte)) (by decide) (by decide))))
  have f166 := (f158.wr W159)
  obtain ⟨T167, h167, X167, e167, W167, st167⟩ := putFN X164 hx hZ154 hown154 (w_31 hw) Via.refl e164 f165 f166 (Or.inr ⟨(w_32 hw), rfl, hnm⟩) (w_17 hw) (ty := .byte) (v' := (.int (0 : Int32))) (by decide) (by decide) (by decide) (g := (mkF m 23 #[xvr ax, xvr cx, xvi (0 : Int32), xvi (0 : Int32), .val .null, xun] [xwi (0 : Int32), xwr ax])) rfl rfl (hb hby d12_23)
  have sf170 := (CHr.safe ch161 (Nat.lt_of_lt_of_le E1.lt E154.1) sf162)
  have ch169 := CHr.wr W167 sf170 C160.1
  have C168 := C160.trans ch169
  have Fw167 := f165.same W167
  have N167 := Fr.snoc X167 N159 g1
  have f171 := (f166.wr W167)
  have f172 := (Fw159.other W167 (Or.inr (slot_ne (Or.inr (w_30 hw)) (Or.inr (w_32 hw)) (by decide) (t := (.array .byte)) (t' := .byte) (by decide) (by decide))))
  have f173 := ((V154.other W159 (Ne.symm (sf154 ax (CHr.safe CH154 (Nat.lt_of_lt_of_le E1.lt (Nat.le_refl _)) (own_safeN hZ.alike E1 F1))).2)).other W167 (Ne.symm (sf154 ax (CHr.safe CH154 (Nat.lt_of_lt_of_le E1.lt (Nat.le_refl _)) (own_safeN hZ.alike E1 F1))).2))
  have f174 := ((V154.other W159 (Ne.symm (Exa.neArv f171 f173 (w_17 hw)))).other W167 (Ne.symm (Exa.neArv f171 f173 (w_17 hw))))
  have f175 := ((V154.other W159 (Ne.symm (Exa.neArv f171 f174 (w_17 hw)))).other W167 (Ne.symm (Exa.neArv f171 f174 (w_17 hw))))
  have f176 := ((V154.other W159 (Ne.symm (Exa.neArv f171 f175 (w_17 hw)))).other W167 (Ne.symm (Exa.neArv f171 f175 (w_17 hw))))
  have f177 := ((V154.other W159 (Ne.symm (Exa.neArv f171 f176 (w_17 hw)))).other W167 (Ne.symm (Exa.neArv f171 f176 (w_17 hw))))
  have f178 := ((V154.other W159 (Ne.symm (Exa.neArv f171 f177 (w_17 hw)))).other W167 (Ne.symm (Exa.neArv f171 f177 (w_17 hw))))
  have f179 := ((V154.other W159 (Ne.symm (Exa.neArv f171 f178 (w_17 hw)))).other W167 (Ne.symm (Exa.neArv f171 f178 (w_17 hw))))
  have f180 := ((V154.other W159 (Ne.symm (Exa.neArv f171 f179 (w_17 hw)))).other W167 (Ne.symm (Exa.neArv f171 f179 (w_17 hw))))
  have f181 := ((V154.other W159 (Ne.symm (Exa.neArv f171 f180 (w_17 hw)))).other W167 (Ne.symm (Exa.neArv f171 f180 (w_17 hw))))
  have f182 := ((V154.other W159 (Ne.symm (Exa.neArv f171 f181 (w_17 hw)))).other W167 (Ne.symm (Exa.neArv f171 f181 (w_17 hw))))
  have f183 := ((V154.other W159 (Ne.symm (Exa.neArv f171 f182 (w_17 hw)))).other W167 (Ne.symm (Exa.neArv f171 f182 (w_17 hw))))
  have f184 := ((V154.other W159 (Ne.symm (Exa.neArv f171 f183 (w_17 hw)))).other W167 (Ne.symm (Exa.neArv f171 f183 (w_17 hw))))
  have f185 := ((V154.other W159 (Ne.symm (Exa.neArv f171 f184 (w_17 hw)))).other W167 (Ne.symm (Exa.neArv f171 f184 (w_17 hw))))
  have f186 := ((V154.other W159 (Ne.symm (Exa.neArv f171 f185 (w_17 hw)))).other W167 (Ne.symm (Exa.neArv f171 f185 (w_17 hw))))
  have f187 := ((V154.other W159 (Ne.symm (Exa.neArv f171 f186 (w_17 hw)))).other W167 (Ne.symm (Exa.neArv f171 f186 (w_17 hw))))
  have f188 := ((V154.other W159 (Ne.symm (Exa.neArv f171 f187 (w_17 hw)))).other W167 (Ne.symm (Exa.neArv f171 f187 (w_17 hw))))
  have f189 := ((V154.other W159 (Ne.symm (Exa.neArv f171 f188 (w_17 hw)))).other W167 (Ne.symm (Exa.neArv f171 f188 (w_17 hw))))
  have f190 := ((V154.other W159 (Ne.symm (Exa.neArv f171 f189 (w_17 hw)))).other W167 (Ne.symm (Exa.neArv f171 f189 (w_17 hw))))
  have f191 := ((V154.other W159 (Ne.symm (Exa.neArv f171 f190 (w_17 hw)))).other W167 (Ne.symm (Exa.neArv f171 f190 (w_17 hw))))
  have f192 := ((V154.other W159 (Ne.symm (Exa.neArv f171 f191 (w_17 hw)))).other W167 (Ne.symm (Exa.neArv f171 f191 (w_17 hw))))
  have f193 := ((V154.other W159 (Ne.symm (Exa.neArv f171 f192 (w_17 hw)))).other W167 (Ne.symm (Exa.neArv f171 f192 (w_17 hw))))
  have f194 := ((V154.other W159 (Ne.symm (Exa.neArv f171 f193 (w_17 hw)))).other W167 (Ne.symm (Exa.neArv f171 f193 (w_17 hw))))
  have f195 := ((V154.other W159 (Ne.symm (Exa.neArv f171 f194 (w_17 hw)))).other W167 (Ne.symm (Exa.neArv f171 f194 (w_17 hw))))
  have f196 := ((V154.other W159 (Ne.symm (Exa.neArv f171 f195 (w_17 hw)))).other W167 (Ne.symm (Exa.neArv f171 f195 (w_17 hw))))
  have f197 := ((V154.other W159 (Ne.symm (Exa.neArv f171 f196 (w_17 hw)))).other W167 (Ne.symm (Exa.neArv f171 f196 (w_17 hw))))
  have f198 := ((V154.other W159 (Ne.symm (Exa.neArv f171 f197 (w_17 hw)))).other W167 (Ne.symm (Exa.neArv f171 f197 (w_17 hw))))
  have f199 := ((V154.other W159 (Ne.symm (Exa.neArv f171 f198 (w_17 hw)))).other W167 (Ne.symm (Exa.neArv f171 f198 (w_17 hw))))
  have f200 := ((V154.other W159 (Ne.symm (Exa.neArv f171 f199 (w_17 hw)))).other W167 (Ne.symm (Exa.neArv f171 f199 (w_17 hw))))
  have f201 := ((V154.other W159 (Ne.symm (Exa.neArv f171 f200 (w_17 hw)))).other W167 (Ne.symm (Exa.neArv f171 f200 (w_17 hw))))
  have f202 := ((V154.other W159 (Ne.symm (Exa.neArv f171 f201 (w_17 hw)))).other W167 (Ne.symm (Exa.neArv f171 f201 (w_17 hw))))
  have f203 := ((V154.other W159 (Ne.symm (Exa.neArv f171 f202 (w_17 hw)))).other W167 (Ne.symm (Exa.neArv f171 f202 (w_17 hw))))
  have f204 := ((V154.other W159 (Ne.symm (Exa.neArv f171 f203 (w_17 hw)))).other W167 (Ne.symm (Exa.neArv f171 f203 (w_17 hw))))
  have f205 := ((V154.other W159 (Ne.symm (Exa.neArv f171 f204 (w_17 hw)))).other W167 (Ne.symm (Exa.neArv f171 f204 (w_17 hw))))
  have f206 := ((V154.other W159 (Ne.symm (Exa.neArv f171 f205 (w_17 hw)))).other W167 (Ne.symm (Exa.neArv f171 f205 (w_17 hw))))
  have f207 := ((V154.other W159 (Ne.symm (Exa.neArv f171 f206 (w_17 hw)))).other W167 (Ne.symm (Exa.neArv f171 f206 (w_17 hw))))
  have f208 := ((V154.other W159 (Ne.symm (Exa.neArv f171 f207 (w_17 hw)))).other W167 (Ne.symm (Exa.neArv f171 f207 (w_17 hw))))
  have f209 := ((V154.other W159 (Ne.symm (Exa.neArv f171 f208 (w_17 hw)))).other W167 (Ne.symm (Exa.neArv f171 f208 (w_17 hw))))
  have f210 := ((V154.other W159 (Ne.symm (Exa.neArv f171 f209 (w_17 hw)))).other W167 (Ne.symm (Exa.neArv f171 f209 (w_17 hw))))
  have f211 := ((V154.other W159 (Ne.symm (Exa.neArv f171 f210 (w_17 hw)))).other W167 (Ne.symm (Exa.neArv f171 f210 (w_17 hw))))
  have f212 := ((V154.other W159 (Ne.symm (Exa.neArv f171 f211 (w_17 hw)))).other W167 (Ne.symm (Exa.neArv f171 f211 (w_17 hw))))
  have f213 := ((V154.other W159 (Ne.symm (Exa.neArv f171 f212 (w_17 hw)))).other W167 (Ne.symm (Exa.neArv f171 f212 (w_17 hw))))
  have f214 := ((V154.other W159 (Ne.symm (Exa.neArv f171 f213 (w_17 hw)))).other W167 (Ne.symm (Exa.neArv f171 f213 (w_17 hw))))
  have f215 := ((V154.other W159 (Ne.symm (Exa.neArv f171 f214 (w_17 hw)))).other W167 (Ne.symm (Exa.neArv f171 f214 (w_17 hw))))
  have f216 := ((V154.other W159 (Ne.symm (Exa.neArv f171 f215 (w_17 hw)))).other W167 (Ne.symm (Exa.neArv f171 f215 (w_17 hw))))
  have f217 := ((V154.other W159 (Ne.symm (Exa.neArv f171 f216 (w_17 hw)))).other W167 (Ne.symm (Exa.neArv f171 f216 (w_17 hw))))
  have f218 := ((V154.other W159 (Ne.symm (Exa.neArv f171 f217 (w_17 hw)))).other W167 (Ne.symm (Exa.neArv f171 f217 (w_17 hw))))
  have f219 := ((V154.other W159 (Ne.symm (Exa.neArv f171 f218 (w_17 hw)))).other W167 (Ne.symm (Exa.neArv f171 f218 (w_17 hw))))
  have f220 := ((V154.other W159 (Ne.symm (Exa.neArv f171 f219 (w_17 hw)))).other W167 (Ne.symm (Exa.neArv f171 f219 (w_17 hw))))
  have f221 := ((V154.other W159 (Ne.symm (Exa.neArv f171 f220 (w_17 hw)))).other W167 (Ne.symm (Exa.neArv f171 f220 (w_17 hw))))
  have f222 := ((V154.other W159 (Ne.symm (Exa.neArv f171 f221 (w_17 hw)))).other W167 (Ne.symm (Exa.neArv f171 f221 (w_17 hw))))
  have f223 := ((V154.other W159 (Ne.symm (Exa.neArv f171 f222 (w_17 hw)))).other W167 (Ne.symm (Exa.neArv f171 f222 (w_17 hw))))
  have f224 := ((V154.other W159 (Ne.symm (Exa.neArv f171 f223 (w_17 hw)))).other W167 (Ne.symm (Exa.neArv f171 f223 (w_17 hw))))
  have f225 := ((V154.other W159 (Ne.symm (Exa.neArv f171 f224 (w_17 hw)))).other W167 (Ne.symm (Exa.neArv f171 f224 (w_17 hw))))
  have f226 := ((V154.other W159 (Ne.symm (Exa.neArv f171 f225 (w_17 hw)))).other W167 (Ne.symm (Exa.neArv f171 f225 (w_17 hw))))
  have f227 := ((V154.other W159 (Ne.symm (Exa.neArv f171 f226 (w_17 hw)))).other W167 (Ne.symm (Exa.neArv f171 f226 (w_17 hw))))
  have f228 := ((V154.other W159 (Ne.symm (Exa.neArv f171 f227 (w_17 hw)))).other W167 (Ne.symm (Exa.neArv f171 f227 (w_17 hw))))
  have f229 := ((V154.other W159 (Ne.symm (Exa.neArv f171 f228 (w_17 hw)))).other W167 (Ne.symm (Exa.neArv f171 f228 (w_17 hw))))
  have f230 := ((V154.other W159 (Ne.symm (Exa.neArv f171 f229 (w_17 hw)))).other W167 (Ne.symm (Exa.neArv f171 f229 (w_17 hw))))
  have f231 := ((V154.other W159 (Ne.symm (Exa.neArv f171 f230 (w_17 hw)))).other W167 (Ne.symm (Exa.neArv f171 f230 (w_17 hw))))
  have f232 := ((V154.other W159 (Ne.symm (Exa.neArv f171 f231 (w_17 hw)))).other W167 (Ne.symm (Exa.neArv f171 f231 (w_17 hw))))
  have f233 := ((V154.other W159 (Ne.symm (Exa.neArv f171 f232 (w_17 hw)))).other W167 (Ne.symm (Exa.neArv f171 f232 (w_17 hw))))
  have f234 := ((V154.other W159 (Ne.symm (Exa.neArv f171 f233 (w_17 hw)))).other W167 (Ne.symm (Exa.neArv f171 f233 (w_17 hw))))
  have f235 := ((V154.other W159 (Ne.symm (Exa.neArv f171 f234 (w_17 hw)))).other W167 (Ne.symm (Exa.neArv f171 f234 (w_17 hw))))
  have f236 := ((V154.other W159 (Ne.symm (Exa.neArv f171 f235 (w_17 hw)))).other W167 (Ne.symm (Exa.neArv f171 f235 (w_17 hw))))
  have f237 := ((V154.other W159 (Ne.symm (Exa.neArv f171 f236 (w_17 hw)))).other W167 (Ne.symm (Exa.neArv f171 f236 (w_17 hw))))
  have f238 := ((V154.other W159 (Ne.symm (Exa.neArv f171 f237 (w_17 hw)))).other W167 (Ne.symm (Exa.neArv f171 f237 (w_17 hw))))
  have f239 := ((V154.other W159 (Ne.symm (Exa.neArv f171 f238 (w_17 hw)))).other W167 (Ne.symm (Exa.neArv f171 f238 (w_17 hw))))
  have f240 := ((V154.other W159 (Ne.symm (Exa.neArv f171 f239 (w_17 hw)))).other W167 (Ne.symm (Exa.neArv f171 f239 (w_17 hw))))
  have f241 := ((V154.other W159 (Ne.symm (Exa.neArv f171 f240 (w_17 hw)))).other W167 (Ne.symm (Exa.neArv f171 f240 (w_17 hw))))
  have f242 := ((V154.other W159 (Ne.symm (Exa.neArv f171 f241 (w_17 hw)))).other W167 (Ne.symm (Exa.neArv f171 f241 (w_17 hw))))
  have f243 := ((V154.other W159 (Ne.symm (Exa.neArv f171 f242 (w_17 hw)))).other W167 (Ne.symm (Exa.neArv f171 f242 (w_17 hw))))
  have f244 := ((V154.other W159 (Ne.symm (Exa.neArv f171 f243 (w_17 hw)))).other W167 (Ne.symm (Exa.neArv f171 f243 (w_17 hw))))
  have f245 := ((V154.other W159 (Ne.symm (Exa.neArv f171 f244 (w_17 hw)))).other W167 (Ne.symm (Exa.neArv f171 f244 (w_17 hw))))
  have f246 := ((V154.other W159 (Ne.symm (Exa.neArv f171 f245 (w_17 hw)))).other W167 (Ne.symm (Exa.neArv f171 f245 (w_17 hw))))
  have f247 := ((V154.other W159 (Ne.symm (Exa.neArv f171 f246 (w_17 hw)))).other W167 (Ne.symm (Exa.neArv f171 f246 (w_17 hw))))
  have f248 := ((V154.other W159 (Ne.symm (Exa.neArv f171 f247 (w_17 hw)))).other W167 (Ne.symm (Exa.neArv f171 f247 (w_17 hw))))
  have f249 := ((V154.other W159 (Ne.symm (Exa.neArv f171 f248 (w_17 hw)))).other W167 (Ne.symm (Exa.neArv f171 f248 (w_17 hw))))
  have f250 := ((V154.other W159 (Ne.symm (Exa.neArv f171 f249 (w_17 hw)))).other W167 (Ne.symm (Exa.neArv f171 f249 (w_17 hw))))
  have f251 := ((V154.other W159 (Ne.symm (Exa.neArv f171 f250 (w_17 hw)))).other W167 (Ne.symm (Exa.neArv f171 f250 (w_17 hw))))
  have f252 := ((V154.other W159 (Ne.symm (Exa.neArv f171 f251 (w_17 hw)))).other W167 (Ne.symm (Exa.neArv f171 f251 (w_17 hw))))
  have f253 := ((V154.other W159 (Ne.symm (Exa.neArv f171 f252 (w_17 hw)))).other W167 (Ne.symm (Exa.neArv f171 f252 (w_17 hw))))
  have f254 := ((V154.other W159 (Ne.symm (Exa.neArv f171 f253 (w_17 hw)))).other W167 (Ne.symm (Exa.neArv f171 f253 (w_17 hw))))
  have f255 := ((V154.other W159 (Ne.symm (Exa.neArv f171 f254 (w_17 hw)))).other W167 (Ne.symm (Exa.neArv f171 f254 (w_17 hw))))
  have f256 := ((V154.other W159 (Ne.symm (Exa.neArv f171 f255 (w_17 hw)))).other W167 (Ne.symm (Exa.neArv f171 f255 (w_17 hw))))
  have f257 := ((V154.other W159 (Ne.symm (Exa.neArv f171 f256 (w_17 hw)))).other W167 (Ne.symm (Exa.neArv f171 f256 (w_17 hw))))
  have f258 := ((V154.other W159 (Ne.symm (Exa.neArv f171 f257 (w_17 hw)))).other W167 (Ne.symm (Exa.neArv f171 f257 (w_17 hw))))
  have f259 := ((V154.other W159 (Ne.symm (Exa.neArv f171 f258 (w_17 hw)))).other W167 (Ne.symm (Exa.neArv f171 f258 (w_17 hw))))
  have f260 := ((V154.other W159 (Ne.symm (Exa.neArv f171 f259 (w_17 hw)))).other W167 (Ne.symm (Exa.neArv f171 f259 (w_17 hw))))
  have f261 := ((V154.other W159 (Ne.symm (Exa.neArv f171 f260 (w_17 hw)))).other W167 (Ne.symm (Exa.neArv f171 f260 (w_17 hw))))
  have f262 := ((V154.other W159 (Ne.symm (Exa.neArv f171 f261 (w_17 hw)))).other W167 (Ne.symm (Exa.neArv f171 f261 (w_17 hw))))
  have f263 := ((V154.other W159 (Ne.symm (Exa.neArv f171 f262 (w_17 hw)))).other W167 (Ne.symm (Exa.neArv f171 f262 (w_17 hw))))
  have f264 := ((V154.other W159 (Ne.symm (Exa.neArv f171 f263 (w_17 hw)))).other W167 (Ne.symm (Exa.neArv f171 f263 (w_17 hw))))
  have f265 := ((V154.other W159 (Ne.symm (Exa.neArv f171 f264 (w_17 hw)))).other W167 (Ne.symm (Exa.neArv f171 f264 (w_17 hw))))
  have f266 := ((V154.other W159 (Ne.symm (Exa.neArv f171 f265 (w_17 hw)))).other W167 (Ne.symm (Exa.neArv f171 f265 (w_17 hw))))
  have f267 := ((V154.other W159 (Ne.symm (Exa.neArv f171 f266 (w_17 hw)))).other W167 (Ne.symm (Exa.neArv f171 f266 (w_17 hw))))
  have f268 := ((V154.other W159 (Ne.symm (Exa.neArv f171 f267 (w_17 hw)))).other W167 (Ne.symm (Exa.neArv f171 f267 (w_17 hw))))
  have f269 := ((V154.other W159 (Ne.symm (Exa.neArv f171 f268 (w_17 hw)))).other W167 (Ne.symm (Exa.neArv f171 f268 (w_17 hw))))
  have f270 := ((V154.other W159 (Ne.symm (Exa.neArv f171 f269 (w_17 hw)))).other W167 (Ne.symm (Exa.neArv f171 f269 (w_17 hw))))
  have f271 := ((V154.other W159 (Ne.symm (Exa.neArv f171 f270 (w_17 hw)))).other W167 (Ne.symm (Exa.neArv f171 f270 (w_17 hw))))
  have f272 := ((V154.other W159 (Ne.symm (Exa.neArv f171 f271 (w_17 hw)))).other W167 (Ne.symm (Exa.neArv f171 f271 (w_17 hw))))
  have f273 := ((V154.other W159 (Ne.symm (Exa.neArv f171 f272 (w_17 hw)))).other W167 (Ne.symm (Exa.neArv f171 f272 (w_17 hw))))
  have f274 := ((V154.other W159 (Ne.symm (Exa.neArv f171 f273 (w_17 hw)))).other W167 (Ne.symm (Exa.neArv f171 f273 (w_17 hw))))
  have f275 := ((V154.other W159 (Ne.symm (Exa.neArv f171 f274 (w_17 hw)))).other W167 (Ne.symm (Exa.neArv f171 f274 (w_17 hw))))
  have f276 := ((V154.other W159 (Ne.symm (Exa.neArv f171 f275 (w_17 hw)))).other W167 (Ne.symm (Exa.neArv f171 f275 (w_17 hw))))
  have f277 := ((V154.other W159 (Ne.symm (Exa.neArv f171 f276 (w_17 hw)))).other W167 (Ne.symm (Exa.neArv f171 f276 (w_17 hw))))
  have f278 := ((V154.other W159 (Ne.symm (Exa.neArv f171 f277 (w_17 hw)))).other W167 (Ne.symm (Exa.neArv f171 f277 (w_17 hw))))
  have f279 := ((V154.other W159 (Ne.symm (Exa.neArv f171 f278 (w_17 hw)))).other W167 (Ne.symm (Exa.neArv f171 f278 (w_17 hw))))
  have f280 := ((V154.other W159 (Ne.symm (Exa.neArv f171 f279 (w_17 hw)))).other W167 (Ne.symm (Exa.neArv f171 f279 (w_17 hw))))
  have f281 := ((V154.other W159 (Ne.symm (Exa.neArv f171 f280 (w_17 hw)))).other W167 (Ne.symm (Exa.neArv f171 f280 (w_17 hw))))
  have f282 := ((V154.other W159 (Ne.symm (Exa.neArv f171 f281 (w_17 hw)))).other W167 (Ne.symm (Exa.neArv f171 f281 (w_17 hw))))
  have f283 := ((V154.other W159 (Ne.symm (Exa.neArv f171 f282 (w_17 hw)))).other W167 (Ne.symm (Exa.neArv f171 f282 (w_17 hw))))
  have f284 := ((V154.other W159 (Ne.symm (Exa.neArv f171 f283 (w_17 hw)))).other W167 (Ne.symm (Exa.neArv f171 f283 (w_17 hw))))
  have f285 := ((V154.other W159 (Ne.symm (Exa.neArv f171 f284 (w_17 hw)))).other W167 (Ne.symm (Exa.neArv f171 f284 (w_17 hw))))
  have f286 := ((V154.other W159 (Ne.symm (Exa.neArv f171 f285 (w_17 hw)))).other W167 (Ne.symm (Exa.neArv f171 f285 (w_17 hw))))
  have f287 := ((V154.other W159 (Ne.symm (Exa.neArv f171 f286 (w_17 hw)))).other W167 (Ne.symm (Exa.neArv f171 f286 (w_17 hw))))
  have f288 := ((V154.other W159 (Ne.symm (Exa.neArv f171 f287 (w_17 hw)))).other W167 (Ne.symm (Exa.neArv f171 f287 (w_17 hw))))
  have f289 := ((V154.other W159 (Ne.symm (Exa.neArv f171 f288 (w_17 hw)))).other W167 (Ne.symm (Exa.neArv f171 f288 (w_17 hw))))
  have f290 := ((V154.other W159 (Ne.symm (Exa.neArv f171 f289 (w_17 hw)))).other W167 (Ne.symm (Exa.neArv f171 f289 (w_17 hw))))
  have f291 := ((V154.other W159 (Ne.symm (Exa.neArv f171 f290 (w_17 hw)))).other W167 (Ne.symm (Exa.neArv f171 f290 (w_17 hw))))
  have f292 := ((V154.other W159 (Ne.symm (Exa.neArv f171 f291 (w_17 hw)))).other W167 (Ne.symm (Exa.neArv f171 f291 (w_17 hw))))
  have f293 := ((V154.other W159 (Ne.symm (Exa.neArv f171 f292 (w_17 hw)))).other W167 (Ne.symm (Exa.neArv f171 f292 (w_17 hw))))
  have f294 := ((V154.other W159 (Ne.symm (Exa.neArv f171 f293 (w_17 hw)))).other W167 (Ne.symm (Exa.neArv f171 f293 (w_17 hw))))
  have f295 := ((V154.other W159 (Ne.symm (Exa.neArv f171 f294 (w_17 hw)))).other W167 (Ne.symm (Exa.neArv f171 f294 (w_17 hw))))
  have f296 := ((V154.other W159 (Ne.symm (Exa.neArv f171 f295 (w_17 hw)))).other W167 (Ne.symm (Exa.neArv f171 f295 (w_17 hw))))
  have f297 := ((V154.other W159 (Ne.symm (Exa.neArv f171 f296 (w_17 hw)))).other W167 (Ne.symm (Exa.neArv f171 f296 (w_17 hw))))
  have f298 := ((V154.other W159 (Ne.symm (Exa.neArv f171 f297 (w_17 hw)))).other W167 (Ne.symm (Exa.neArv f171 f297 (w_17 hw))))
  have f299 := ((V154.other W159 (Ne.symm (Exa.neArv f171 f298 (w_17 hw)))).other W167 (Ne.symm (Exa.neArv f171 f298 (w_17 hw))))
  have f300 := ((V154.other W159 (Ne.symm (Exa.neArv f171 f299 (w_17 hw)))).other W167 (Ne.symm (Exa.neArv f171 f299 (w_17 hw))))
  have f301 := ((V154.other W159 (Ne.symm (Exa.neArv f171 f300 (w_17 hw)))).other W167 (Ne.symm (Exa.neArv f171 f300 (w_17 hw))))
  have f302 := ((V154.other W159 (Ne.symm (Exa.neArv f171 f301 (w_17 hw)))).other W167 (Ne.symm (Exa.neArv f171 f301 (w_17 hw))))
  have f303 := ((V154.other W159 (Ne.symm (Exa.neArv f171 f302 (w_17 hw)))).other W167 (Ne.symm (Exa.neArv f171 f302 (w_17 hw))))
  have f304 := ((V154.other W159 (Ne.symm (Exa.neArv f171 f303 (w_17 hw)))).other W167 (Ne.symm (Exa.neArv f171 f303 (w_17 hw))))
  have f305 := ((V154.other W159 (Ne.symm (Exa.neArv f171 f304 (w_17 hw)))).other W167 (Ne.symm (Exa.neArv f171 f304 (w_17 hw))))
  have f306 := ((V154.other W159 (Ne.symm (Exa.neArv f171 f305 (w_17 hw)))).other W167 (Ne.symm (Exa.neArv f171 f305 (w_17 hw))))
  have f307 := ((V154.other W159 (Ne.symm (Exa.neArv f171 f306 (w_17 hw)))).other W167 (Ne.symm (Exa.neArv f171 f306 (w_17 hw))))
  have f308 := ((V154.other W159 (Ne.symm (Exa.neArv f171 f307 (w_17 hw)))).other W167 (Ne.symm (Exa.neArv f171 f307 (w_17 hw))))
  have f309 := ((V154.other W159 (Ne.symm (Exa.neArv f171 f308 (w_17 hw)))).other W167 (Ne.symm (Exa.neArv f171 f308 (w_17 hw))))
  have f310 := ((V154.other W159 (Ne.symm (Exa.neArv f171 f309 (w_17 hw)))).other W167 (Ne.symm (Exa.neArv f171 f309 (w_17 hw))))
  have f311 := ((V154.other W159 (Ne.symm (Exa.neArv f171 f310 (w_17 hw)))).other W167 (Ne.symm (Exa.neArv f171 f310 (w_17 hw))))
  have f312 := ((V154.other W159 (Ne.symm (Exa.neArv f171 f311 (w_17 hw)))).other W167 (Ne.symm (Exa.neArv f171 f311 (w_17 hw))))
  have f313 := ((V154.other W159 (Ne.symm (Exa.neArv f171 f312 (w_17 hw)))).other W167 (Ne.symm (Exa.neArv f171 f312 (w_17 hw))))
  have f314 := ((V154.other W159 (Ne.symm (Exa.neArv f171 f313 (w_17 hw)))).other W167 (Ne.symm (Exa.neArv f171 f313 (w_17 hw))))
  have f315 := ((V154.other W159 (Ne.symm (Exa.neArv f171 f314 (w_17 hw)))).other W167 (Ne.symm (Exa.neArv f171 f314 (w_17 hw))))
  have f316 := ((V154.other W159 (Ne.symm (Exa.neArv f171 f315 (w_17 hw)))).other W167 (Ne.symm (Exa.neArv f171 f315 (w_17 hw))))
  have f317 := ((V154.other W159 (Ne.symm (Exa.neArv f171 f316 (w_17 hw)))).other W167 (Ne.symm (Exa.neArv f171 f316 (w_17 hw))))
  have f318 := ((V154.other W159 (Ne.symm (Exa.neArv f171 f317 (w_17 hw)))).other W167 (Ne.symm (Exa.neArv f171 f317 (w_17 hw))))
  have f319 := ((V154.other W159 (Ne.symm (Exa.neArv f171 f318 (w_17 hw)))).other W167 (Ne.symm (Exa.neArv f171 f318 (w_17 hw))))
  have f320 := ((V154.other W159 (Ne.symm (Exa.neArv f171 f319 (w_17 hw)))).other W167 (Ne.symm (Exa.neArv f171 f319 (w_17 hw))))
  have f321 := ((V154.other W159 (Ne.symm (Exa.neArv f171 f320 (w_17 hw)))).other W167 (Ne.symm (Exa.neArv f171 f320 (w_17 hw))))
  have f322 := ((V154.other W159 (Ne.symm (Exa.neArv f171 f321 (w_17 hw)))).other W167 (Ne.symm (Exa.neArv f171 f321 (w_17 hw))))
  have f323 := ((V154.other W159 (Ne.symm (Exa.neArv f171 f322 (w_17 hw)))).other W167 (Ne.symm (Exa.neArv f171 f322 (w_17 hw))))
  have f324 := ((V154.other W159 (Ne.symm (Exa.neArv f171 f323 (w_17 hw)))).other W167 (Ne.symm (Exa.neArv f171 f323 (w_17 hw))))
  have f325 := ((V154.other W159 (Ne.symm (Exa.neArv f171 f324 (w_17 hw)))).other W167 (Ne.symm (Exa.neArv f171 f324 (w_17 hw))))
  have f326 := ((V154.other W159 (Ne.symm (Exa.neArv f171 f325 (w_17 hw)))).other W167 (Ne.symm (Exa.neArv f171 f325 (w_17 hw))))
  have f327 := ((V154.other W159 (Ne.symm (Exa.neArv f171 f326 (w_17 hw)))).other W167 (Ne.symm (Exa.neArv f171 f326 (w_17 hw))))
  have f328 := ((V154.other W159 (Ne.symm (Exa.neArv f171 f327 (w_17 hw)))).other W167 (Ne.symm (Exa.neArv f171 f327 (w_17 hw))))
  have f329 := ((V154.other W159 (Ne.symm (Exa.neArv f171 f328 (w_17 hw)))).other W167 (Ne.symm (Exa.neArv f171 f328 (w_17 hw))))
  have f330 := ((V154.other W159 (Ne.symm (Exa.neArv f171 f329 (w_17 hw)))).other W167 (Ne.symm (Exa.neArv f171 f329 (w_17 hw))))
  have f331 := ((V154.other W159 (Ne.symm (Exa.neArv f171 f330 (w_17 hw)))).other W167 (Ne.symm (Exa.neArv f171 f330 (w_17 hw))))
  have f332 := ((V154.other W159 (Ne.symm (Exa.neArv f171 f331 (w_17 hw)))).other W167 (Ne.symm (Exa.neArv f171 f331 (w_17 hw))))
  have f333 := ((V154.other W159 (Ne.symm (Exa.neArv f171 f332 (w_17 hw)))).other W167 (Ne.symm (Exa.neArv f171 f332 (w_17 hw))))
  have f334 := ((V154.other W159 (Ne.symm (Exa.neArv f171 f333 (w_17 hw)))).other W167 (Ne.symm (Exa.neArv f171 f333 (w_17 hw))))
  have f335 := ((V154.other W159 (Ne.symm (Exa.neArv f171 f334 (w_17 hw)))).other W167 (Ne.symm (Exa.neArv f171 f334 (w_17 hw))))
  have f336 := ((V154.other W159 (Ne.symm (Exa.neArv f171 f335 (w_17 hw)))).other W167 (Ne.symm (Exa.neArv f171 f335 (w_17 hw))))
  have f337 := ((V154.other W159 (Ne.symm (Exa.neArv f171 f336 (w_17 hw)))).other W167 (Ne.symm (Exa.neArv f171 f336 (w_17 hw))))
  have f338 := ((V154.other W159 (Ne.symm (Exa.neArv f171 f337 (w_17 hw)))).other W167 (Ne.symm (Exa.neArv f171 f337 (w_17 hw))))
  have f339 := ((V154.other W159 (Ne.symm (Exa.neArv f171 f338 (w_17 hw)))).other W167 (Ne.symm (Exa.neArv f171 f338 (w_17 hw))))
  have f340 := ((V154.other W159 (Ne.symm (Exa.neArv f171 f339 (w_17 hw)))).other W167 (Ne.symm (Exa.neArv f171 f339 (w_17 hw))))
  have f341 := ((V154.other W159 (Ne.symm (Exa.neArv f171 f340 (w_17 hw)))).other W167 (Ne.symm (Exa.neArv f171 f340 (w_17 hw))))
  have f342 := ((V154.other W159 (Ne.symm (Exa.neArv f171 f341 (w_17 hw)))).other W167 (Ne.symm (Exa.neArv f171 f341 (w_17 hw))))
  have f343 := ((V154.other W159 (Ne.symm (Exa.neArv f171 f342 (w_17 hw)))).other W167 (Ne.symm (Exa.neArv f171 f342 (w_17 hw))))
  have f344 := ((V154.other W159 (Ne.symm (Exa.neArv f171 f343 (w_17 hw)))).other W167 (Ne.symm (Exa.neArv f171 f343 (w_17 hw))))
  have f345 := ((V154.other W159 (Ne.symm (Exa.neArv f171 f344 (w_17 hw)))).other W167 (Ne.symm (Exa.neArv f171 f344 (w_17 hw))))
  have f346 := ((V154.other W159 (Ne.symm (Exa.neArv f171 f345 (w_17 hw)))).other W167 (Ne.symm (Exa.neArv f171 f345 (w_17 hw))))
  have f347 := ((V154.other W159 (Ne.symm (Exa.neArv f171 f346 (w_17 hw)))).other W167 (Ne.symm (Exa.neArv f171 f346 (w_17 hw))))
  have f348 := ((V154.other W159 (Ne.symm (Exa.neArv f171 f347 (w_17 hw)))).other W167 (Ne.symm (Exa.neArv f171 f347 (w_17 hw))))
  have f349 := ((V154.other W159 (Ne.symm (Exa.neArv f171 f348 (w_17 hw)))).other W167 (Ne.symm (Exa.neArv f171 f348 (w_17 hw))))
  have f350 := ((V154.other W159 (Ne.symm (Exa.neArv f171 f349 (w_17 hw)))).other W167 (Ne.symm (Exa.neArv f171 f349 (w_17 hw))))
  have f351 := ((V154.other W159 (Ne.symm (Exa.neArv f171 f350 (w_17 hw)))).other W167 (Ne.symm (Exa.neArv f171 f350 (w_17 hw))))
  have f352 := ((V154.other W159 (Ne.symm (Exa.neArv f171 f351 (w_17 hw)))).other W167 (Ne.symm (Exa.neArv f171 f351 (w_17 hw))))
  have f353 := ((V154.other W159 (Ne.symm (Exa.neArv f171 f352 (w_17 hw)))).other W167 (Ne.symm (Exa.neArv f171 f352 (w_17 hw))))
  have f354 := ((V154.other W159 (Ne.symm (Exa.neArv f171 f353 (w_17 hw)))).other W167 (Ne.symm (Exa.neArv f171 f353 (w_17 hw))))
  have f355 := ((V154.other W159 (Ne.symm (Exa.neArv f171 f354 (w_17 hw)))).other W167 (Ne.symm (Exa.neArv f171 f354 (w_17 hw))))
  have f356 := ((V154.other W159 (Ne.symm (Exa.neArv f171 f355 (w_17 hw)))).other W167 (Ne.symm (Exa.neArv f171 f355 (w_17 hw))))
  have f357 := ((V154.other W159 (Ne.symm (Exa.neArv f171 f356 (w_17 hw)))).other W167 (Ne.symm (Exa.neArv f171 f356 (w_17 hw))))
  have f358 := ((V154.other W159 (Ne.symm (Exa.neArv f171 f357 (w_17 hw)))).other W167 (Ne.symm (Exa.neArv f171 f357 (w_17 hw))))
  have f359 := ((V154.other W159 (Ne.symm (Exa.neArv f171 f358 (w_17 hw)))).other W167 (Ne.symm (Exa.neArv f171 f358 (w_17 hw))))
  have f360 := ((V154.other W159 (Ne.symm (Exa.neArv f171 f359 (w_17 hw)))).other W167 (Ne.symm (Exa.neArv f171 f359 (w_17 hw))))
  have f361 := ((V154.other W159 (Ne.symm (Exa.neArv f171 f360 (w_17 hw)))).other W167 (Ne.symm (Exa.neArv f171 f360 (w_17 hw))))
  have f362 := ((V154.other W159 (Ne.symm (Exa.neArv f171 f361 (w_17 hw)))).other W167 (Ne.symm (Exa.neArv f171 f361 (w_17 hw))))
  have f363 := ((V154.other W159 (Ne.symm (Exa.neArv f171 f362 (w_17 hw)))).other W167 (Ne.symm (Exa.neArv f171 f362 (w_17 hw))))
  have f364 := ((V154.other W159 (Ne.symm (Exa.neArv f171 f363 (w_17 hw)))).other W167 (Ne.symm (Exa.neArv f171 f363 (w_17 hw))))
  have f365 := ((V154.other W159 (Ne.symm (Exa.neArv f171 f364 (w_17 hw)))).other W167 (Ne.symm (Exa.neArv f171 f364 (w_17 hw))))
  have f366 := ((V154.other W159 (Ne.symm (Exa.neArv f171 f365 (w_17 hw)))).other W167 (Ne.symm (Exa.neArv f171 f365 (w_17 hw))))
  have f367 := ((V154.other W159 (Ne.symm (Exa.neArv f171 f366 (w_17 hw)))).other W167 (Ne.symm (Exa.neArv f171 f366 (w_17 hw))))
  have f368 := ((V154.other W159 (Ne.symm (Exa.neArv f171 f367 (w_17 hw)))).other W167 (Ne.symm (Exa.neArv f171 f367 (w_17 hw))))
  have f369 := ((V154.other W159 (Ne.symm (Exa.neArv f171 f368 (w_17 hw)))).other W167 (Ne.symm (Exa.neArv f171 f368 (w_17 hw))))
  have f370 := ((V154.other W159 (Ne.symm (Exa.neArv f171 f369 (w_17 hw)))).other W167 (Ne.symm (Exa.neArv f171 f369 (w_17 hw))))
  have f371 := ((V154.other W159 (Ne.symm (Exa.neArv f171 f370 (w_17 hw)))).other W167 (Ne.symm (Exa.neArv f171 f370 (w_17 hw))))
  have f372 := ((V154.other W159 (Ne.symm (Exa.neArv f171 f371 (w_17 hw)))).other W167 (Ne.symm (Exa.neArv f171 f371 (w_17 hw))))
  have f373 := ((V154.other W159 (Ne.symm (Exa.neArv f171 f372 (w_17 hw)))).other W167 (Ne.symm (Exa.neArv f171 f372 (w_17 hw))))
  have f374 := ((V154.other W159 (Ne.symm (Exa.neArv f171 f373 (w_17 hw)))).other W167 (Ne.symm (Exa.neArv f171 f373 (w_17 hw))))
  have f375 := ((V154.other W159 (Ne.symm (Exa.neArv f171 f374 (w_17 hw)))).other W167 (Ne.symm (Exa.neArv f171 f374 (w_17 hw))))
  have f376 := ((V154.other W159 (Ne.symm (Exa.neArv f171 f375 (w_17 hw)))).other W167 (Ne.symm (Exa.neArv f171 f375 (w_17 hw))))
  have f377 := ((V154.other W159 (Ne.symm (Exa.neArv f171 f376 (w_17 hw)))).other W167 (Ne.symm (Exa.neArv f171 f376 (w_17 hw))))
  have f378 := ((V154.other W159 (Ne.symm (Exa.neArv f171 f377 (w_17 hw)))).other W167 (Ne.symm (Exa.neArv f171 f377 (w_17 hw))))
  have f379 := ((V154.other W159 (Ne.symm (Exa.neArv f171 f378 (w_17 hw)))).other W167 (Ne.symm (Exa.neArv f171 f378 (w_17 hw))))
  have f380 := ((V154.other W159 (Ne.symm (Exa.neArv f171 f379 (w_17 hw)))).other W167 (Ne.symm (Exa.neArv f171 f379 (w_17 hw))))
  have f381 := ((V154.other W159 (Ne.symm (Exa.neArv f171 f380 (w_17 hw)))).other W167 (Ne.symm (Exa.neArv f171 f380 (w_17 hw))))
  have f382 := ((V154.other W159 (Ne.symm (Exa.neArv f171 f381 (w_17 hw)))).other W167 (Ne.symm (Exa.neArv f171 f381 (w_17 hw))))
  have f383 := ((V154.other W159 (Ne.symm (Exa.neArv f171 f382 (w_17 hw)))).other W167 (Ne.symm (Exa.neArv f171 f382 (w_17 hw))))
  have f384 := ((V154.other W159 (Ne.symm (Exa.neArv f171 f383 (w_17 hw)))).other W167 (Ne.symm (Exa.neArv f171 f383 (w_17 hw))))
  have f385 := ((V154.other W159 (Ne.symm (Exa.neArv f171 f384 (w_17 hw)))).other W167 (Ne.symm (Exa.neArv f171 f384 (w_17 hw))))
  have f386 := ((V154.other W159 (Ne.symm (Exa.neArv f171 f385 (w_17 hw)))).other W167 (Ne.symm (Exa.neArv f171 f385 (w_17 hw))))
  have f387 := ((V154.other W159 (Ne.symm (Exa.neArv f171 f386 (w_17 hw)))).other W167 (Ne.symm (Exa.neArv f171 f386 (w_17 hw))))
  have f388 := ((V154.other W159 (Ne.symm (Exa.neArv f171 f387 (w_17 hw)))).other W167 (Ne.symm (Exa.neArv f171 f387 (w_17 hw))))
  have f389 := ((V154.other W159 (Ne.symm (Exa.neArv f171 f388 (w_17 hw)))).other W167 (Ne.symm (Exa.neArv f171 f388 (w_17 hw))))
  have f390 := ((V154.other W159 (Ne.symm (Exa.neArv f171 f389 (w_17 hw)))).other W167 (Ne.symm (Exa.neArv f171 f389 (w_17 hw))))
  have f391 := ((V154.other W159 (Ne.symm (Exa.neArv f171 f390 (w_17 hw)))).other W167 (Ne.symm (Exa.neArv f171 f390 (w_17 hw))))
  have f392 := ((V154.other W159 (Ne.symm (Exa.neArv f171 f391 (w_17 hw)))).other W167 (Ne.symm (Exa.neArv f171 f391 (w_17 hw))))
  have f393 := ((V154.other W159 (Ne.symm (Exa.neArv f171 f392 (w_17 hw)))).other W167 (Ne.symm (Exa.neArv f171 f392 (w_17 hw))))
  have f394 := ((V154.other W159 (Ne.symm (Exa.neArv f171 f393 (w_17 hw)))).other W167 (Ne.symm (Exa.neArv f171 f393 (w_17 hw))))
  have f395 := ((V154.other W159 (Ne.symm (Exa.neArv f171 f394 (w_17 hw)))).other W167 (Ne.symm (Exa.neArv f171 f394 (w_17 hw))))
  have f396 := ((V154.other W159 (Ne.symm (Exa.neArv f171 f395 (w_17 hw)))).other W167 (Ne.symm (Exa.neArv f171 f395 (w_17 hw))))
  have f397 := ((V154.other W159 (Ne.symm (Exa.neArv f171 f396 (w_17 hw)))).other W167 (Ne.symm (Exa.neArv f171 f396 (w_17 hw))))
  have f398 := ((V154.other W159 (Ne.symm (Exa.neArv f171 f397 (w_17 hw)))).other W167 (Ne.symm (Exa.neArv f171 f397 (w_17 hw))))
  have f399 := ((V154.other W159 (Ne.symm (Exa.neArv f171 f398 (w_17 hw)))).other W167 (Ne.symm (Exa.neArv f171 f398 (w_17 hw))))
  have f400 := ((V154.other W159 (Ne.symm (Exa.neArv f171 f399 (w_17 hw)))).other W167 (Ne.symm (Exa.neArv f171 f399 (w_17 hw))))
  have f401 := ((V154.other W159 (Ne.symm (Exa.neArv f171 f400 (w_17 hw)))).other W167 (Ne.symm (Exa.neArv f171 f400 (w_17 hw))))
  have f402 := ((V154.other W159 (Ne.symm (Exa.neArv f171 f401 (w_17 hw)))).other W167 (Ne.symm (Exa.neArv f171 f401 (w_17 hw))))
  have f403 := ((V154.other W159 (Ne.symm (Exa.neArv f171 f402 (w_17 hw)))).other W167 (Ne.symm (Exa.neArv f171 f402 (w_17 hw))))
  have f404 := ((V154.other W159 (Ne.symm (Exa.neArv f171 f403 (w_17 hw)))).other W167 (Ne.symm (Exa.neArv f171 f403 (w_17 hw))))
  have f405 := ((V154.other W159 (Ne.symm (Exa.neArv f171 f404 (w_17 hw)))).other W167 (Ne.symm (Exa.neArv f171 f404 (w_17 hw))))
  have f406 := ((V154.other W159 (Ne.symm (Exa.neArv f171 f405 (w_17 hw)))).other W167 (Ne.symm (Exa.neArv f171 f405 (w_17 hw))))
  have f407 := ((V154.other W159 (Ne.symm (Exa.neArv f171 f406 (w_17 hw)))).other W167 (Ne.symm (Exa.neArv f171 f406 (w_17 hw))))
  have f408 := ((V154.other W159 (Ne.symm (Exa.neArv f171 f407 (w_17 hw)))).other W167 (Ne.symm (Exa.neArv f171 f407 (w_17 hw))))
  have f409 := ((V154.other W159 (Ne.symm (Exa.neArv f171 f408 (w_17 hw)))).other W167 (Ne.symm (Exa.neArv f171 f408 (w_17 hw))))
  have f410 := ((V154.other W159 (Ne.symm (Exa.neArv f171 f409 (w_17 hw)))).other W167 (Ne.symm (Exa.neArv f171 f409 (w_17 hw))))
  have f411 := ((V154.other W159 (Ne.symm (Exa.neArv f171 f410 (w_17 hw)))).other W167 (Ne.symm (Exa.neArv f171 f410 (w_17 hw))))
  have f412 := ((V154.other W159 (Ne.symm (Exa.neArv f171 f411 (w_17 hw)))).other W167 (Ne.symm (Exa.neArv f171 f411 (w_17 hw))))
  have f413 := ((V154.other W159 (Ne.symm (Exa.neArv f171 f412 (w_17 hw)))).other W167 (Ne.symm (Exa.neArv f171 f412 (w_17 hw))))
  have f414 := ((V154.other W159 (Ne.symm (Exa.neArv f171 f413 (w_17 hw)))).other W167 (Ne.symm (Exa.neArv f171 f413 (w_17 hw))))
  have f415 := ((V154.other W159 (Ne.symm (Exa.neArv f171 f414 (w_17 hw)))).other W167 (Ne.symm (Exa.neArv f171 f414 (w_17 hw))))
  have f416 := ((V154.other W159 (Ne.symm (Exa.neArv f171 f415 (w_17 hw)))).other W167 (Ne.symm (Exa.neArv f171 f415 (w_17 hw))))
  have f417 := ((V154.other W159 (Ne.symm (Exa.neArv f171 f416 (w_17 hw)))).other W167 (Ne.symm (Exa.neArv f171 f416 (w_17 hw))))
  have f418 := ((V154.other W159 (Ne.symm (Exa.neArv f171 f417 (w_17 hw)))).other W167 (Ne.symm (Exa.neArv f171 f417 (w_17 hw))))
  have f419 := ((V154.other W159 (Ne.symm (Exa.neArv f171 f418 (w_17 hw)))).other W167 (Ne.symm (Exa.neArv f171 f418 (w_17 hw))))
  obtain ⟨fs, hr, hrun, hended, hE⟩ := X167.leaveW hS154 (by rw [e167]; exact (Nat.le_trans hk154 (Nat.le_trans (Nat.le_of_eq W159.size.symm) (Nat.le_of_eq W167.size.symm)))) (v := none) (fun _ => rfl)
  refine ⟨_, _, hTG _ (pre0 _ ?_), hrun, hended, _, _, rfl, ?_, ?_, hE.1, hE.2.1, hE.2.2.1, hE.2.2.2.mono (by decide) (by decide)⟩
  · refine y_aloadN X0 hx 1 (hb hby d12_0) rfl rfl rfl ?_
    refine st153 _ ?_
    show Sx p e below T153 m 4 #[xvr ax, xvr cx, xvi (0 : Int32), xvi (0 : Int32), .val .null, xun] [] _
    refine y_iloadN X153 hx 5 (hb hby d12_4) rfl rfl ?_
    refine y_ifNo X153 hx 8 (hb hby d12_5) (XT.i0_ne_f (by decide)) rfl ?_
    refine y_aloadN X153 hx 9 (hb hby d12_8) rfl rfl rfl ?_
    refine st154 _ ?_
    show Sx p e below T154 m 11 #[xvr ax, xvr cx, xvi (0 : Int32), xvi (0 : Int32), .val .null, xun] [xwr a154, xwr ax] _
    refine st156 _ ?_
    show Sx p e below T156 m 14 #[xvr ax, xvr cx, xvi (0 : Int32), xvi (0 : Int32), .val .null, xun] [xwr d154, xwr ax] _
    refine st159 _ ?_
    show Sx p e below T159 m 17 #[xvr ax, xvr cx, xvi (0 : Int32), xvi (0 : Int32), .val .null, xun] [] _
    refine y_aloadN X159 hx 18 (hb hby d12_17) rfl rfl rfl ?_
    refine ldcAgain X159 hx hZ154 hown154 (w_70 hw) Li154 (g := (mkF m 18 #[xvr ax, xvr cx, xvi (0 : Int32), xvi (0 : Int32), .val .null, xun] [xwr ax])) rfl (hb hby d12_18) _ ?_
    show Sx p e below T159 m 20 #[xvr ax, xvr cx, xvi (0 : Int32), xvi (0 : Int32), .val .null, xun] [xwr a154, xwr ax] _
    refine st164 _ ?_
    show Sx p e below T164 m 23 #[xvr ax, xvr cx, xvi (0 : Int32), xvi (0 : Int32), .val .null, xun] [xwi (0 : Int32), xwr ax] _
    refine st167 _ ?_
    show Sx p e below T167 m 26 #[xvr ax, xvr cx, xvi (0 : Int32), xvi (0 : Int32), .val .null, xun] [] _
    exact X167.returnOut hx Bd.returns (hb hby d12_26) hr
  · show QrmE4 Z G ax cx kc cs dv h0 n0 _ T167.heap _
    rw [e167]
    exact ⟨d154, k154, rfl, N167, ((((Keep.refl h0 [ax]).ext E154).wr W159 (Or.inl (List.mem_of_getElem? (i := 0) rfl))).wr W167 (Or.inl (List.mem_of_getElem? (i := 0) rfl))), f171, Fw167, f172, f419⟩
  · rw [hh]; show CHr Z EL s.vm h0 T167.vm T167.heap; rw [e167]; exact C168.trans (CHv.at X167 hZ154 (own_EW hw) C168.1)
theorem ef_rmE1 (m : MethodId) (x0 : Addr) (x1 : Addr)  : entryFrame m #[(.ref x0), (.ref x1)] 2 = mkF m 0 #[.val (.ref x0), .val (.ref x1)] [] := by first | (simp [entryFrame, mkF, argsToLocals, Value.category]; done) | rfl
theorem d11_0 : decode jdk_42_method_3_code 0 = .ok (.aload_n 0, 1) := by decide +kernel
theorem d11_1 : decode jdk_42_method_3_code 1 = .ok (.aload_n 1, 1) := by decide +kernel
theorem d11_2 : decode jdk_42_method_3_code 2 = .ok (.iconst 0, 1) := by decide +kernel
theorem d11_3 : decode jdk_42_method_3_code 3 = .ok (.aload_n 1, 1) := by decide +kernel
theorem d11_4 : decode jdk_42_method_3_code 4 = .ok (.arraylength, 1) := by decide +kernel
theorem d11_5 : decode jdk_42_method_3_code 5 = .ok (.aconst_null, 1) := by decide +kernel
theorem d11_6 : decode jdk_42_method_3_code 6 = .ok (.invokespecial 27, 3) := by decide +kernel
theorem pd_4 : parseMethodDescriptor "([CIILjava/lang/Void;)V" = some ⟨[(.array .char), .int, .int, (.object "java/lang/Void")], none⟩ := by decide +kernel
theorem d11_9 : decode jdk_42_method_3_code 9 = .ok (.return_, 1) := by decide +kernel
def QrmE1 (Z : State) (G : Gs) (ax : Addr) (cx : Addr) (kc : ClassId) (cs : List Value) (dv : Value) (h0 : Heap) (n0 : Nat) (v : Option Value) (h : Heap) (L : List Loc) : Prop := ∃ (tx : Addr), ∃ (kb : ClassId), v = none ∧ Fr n0 L ∧ Keep h0 h [ax] ∧ Exa Z h ax "java/lang/String" ∧ Fld Z h ax "java/lang/String" "coder" "B" (.int (0 : Int32)) ∧ Fld Z h ax "java/lang/String" "value" "[B" (.ref tx) ∧ Arv Z h tx kb .byte (0 : Int32) [] (.int (0 : Int32))
set_option maxRecDepth 65536 in
set_option maxHeartbeats 40000000 in
theorem rmE1 (l : Launch) (Z : State) (a0 : Array Value) (hw : HW a0 Z) (G : Gs) (ST : StartF Z G) (ws : List Jvm.Cond) (ax : Addr) (cx : Addr) (kc : ClassId) (cs : List Value) (dv : Value) (h0 : Heap) (n0 : Nat) (X00 : Old Z n0 h0) (E1 : Exa Z h0 ax "java/lang/String") (F1 : Fld Z h0 ax "java/lang/String" "value" "[B" .null) (F2 : Fld Z h0 ax "java/lang/String" "coder" "B" (.int (0 : Int32))) (g1 : n0 ≤ ax) (V1 : Arv Z h0 cx kc .char (0 : Int32) cs dv) :
    MetFree l (⟨"java/lang/String", "<init>", "([C)V"⟩ : MethodName) (head1 (Jvm.Cond.code (⟨"java/lang/String", "<init>", "([C)V"⟩ : MethodName) jdk_42_method_3_code 2 none :: ws) ({ frames := 2, cells := 2, slots := 4, locals := 29 } : Room)) (fun a U => a = #[(.ref ax), (.ref cx)] ∧ Z.Warmed39 U.vm ∧ U.heap = h0 ∧ CHv Z EL U.vm h0) (fun _ _ _ _ _ => True) (fun _ U o U' => ∃ v L, o = .returned v ∧ QrmE1 Z G ax cx kc cs dv h0 n0 v U'.heap L ∧ CHr Z EL U.vm U.heap U'.vm U'.heap ∧ ReturnedEndW U o U' L ({ frames := 2, cells := 2, slots := 4, locals := 29 } : Room).cells ({ frames := 2, cells := 2, slots := 4, locals := 29 } : Room).slots) := by
  refine MetFree.of_bodySF (plainFor_of_name pn_1) hisR ?_
  intro p e s m args below meth c s₁ Bd hml0 hP hK
  obtain ⟨rfl, hZ, hh, HC0⟩ := hP
  have hx := Bd.exec
  have hby := Bd.bytes
  have hml : c.maxLocals = 2 := hml0
  have hown : s.vm.findClass "java/lang/String" = some m.cls := findClass_of_methodNamed Bd.named
  have hnm := (name_of_methodNamed Bd.named Bd.method).1
  have X0 : Stand p l e ({ frames := 2, cells := 2, slots := 4, locals := 29 } : Room) (s.setVm s.vm) m #[(.ref ax), (.ref cx)] below meth c s₁ [] 0 0 := Stand.of_body Bd
  have e0 : s₁.heap = h0 := by rw [← hh, Bd.state]; rfl
  have N0 := Fr.nil n0
  have Z0 : n0 ≤ h0.size := by have q := X00.2.1; rw [X00.1] at q; exact q
  have C0 := CHr.refl HC0
  have hS0 : s.Since s.vm h0.size := (State.WarmedH.refl s).since h0.size
  obtain ⟨TG, hTG, hT2⟩ : ∃ P : State → Prop, (∀ t, P t → Steps p.tables e below (s₁.setTop (entryFrame m #[(.ref ax), (.ref cx)] 2)) t) ∧ (∀ t, Steps p.tables e below (s₁.setTop (entryFrame m #[(.ref ax), (.ref cx)] 2)) t → P t) := ⟨_, fun t k => k, fun t k => k⟩
  have pre0 : ∀ t, Sx p e below s₁ m 0 #[xvr ax, xvr cx] [] t → TG t := fun t k => hT2 t (castTop (ef_rmE1 m ax cx ) k)
  obtain ⟨cl420, Ar420, q420, S420, M420, H420, G420⟩ := id V1
  obtain ⟨_, _, ⟨T421, L421, k421, n421⟩, -, X421, hS421, g421, ⟨Lc421, hQ421, l421, y421, z421, CH421⟩, st421⟩ := X0.specialBackS hx (y := (⟨"java/lang/String", "<init>", "([CIILjava/lang/Void;)V"⟩ : MethodName)) rfl hown (mvT hZ (w_67 hw)) (mvT hZ (w_68 hw)) (mvT hZ (w_69 hw)) (by decide) (backOfSH (W := 0) (rmE4 l Z a0 hw G ST [] ax cx kc (cs : List Value) dv h0 n0 X00 E1 F1 F2 g1 V1) hZ (w_69 hw) (w_9 hw) (by decide) (by decide) (own_EW hw) C0.1) (g := (mkF m 6 #[xvr ax, xvr cx] [.null, xwi (0 : Int32), xwi (0 : Int32), xwr cx, xwr ax])) rfl (by rw [hml]; rfl) (Steps.refl _) (a := ax) (argsL := [(.ref cx), (.int (0 : Int32)), (.int (0 : Int32)), .null]) (rest := []) (lenOf pd_4 rfl) rfl (by show 2 * 0 + _ ≤ _; exact Nat.le_of_eq rfl) (hb hby d11_6) (fun _ _ => ⟨rfl, e0, (by decide : 0 + 2 ≤ _), (by decide : 0 + 4 ≤ _)⟩)
  dsimp only [Pt.U, Pt.locs, Pt.cells, Pt.slots] at X421 l421 y421 z421 st421 hQ421 CH421 hS421 g421
  subst l421 y421 z421
  obtain ⟨hp421, e421⟩ : ∃ z, T421.heap = z := ⟨_, rfl⟩
  rw [e421] at hQ421 CH421 hS421 g421
  rw [e0] at g421
  obtain ⟨X421, hS421, hZ421, hown421⟩ := rebS hS0 (Nat.le_refl _) X421 hS421 g421 hZ hown
  obtain ⟨o422, o423, rfl, N421q, K421, p424, p425, p426, p427⟩ := hQ421
  have N421 := Fr.app N0 N421q
  have C428 := C0.trans CH421
  obtain ⟨fs, hr, hrun, hended, hE⟩ := X421.leaveW hS421 (by rw [e421]; exact (Nat.le_refl _)) (v := none) (fun _ => rfl)
  refine ⟨_, _, hTG _ (pre0 _ ?_), hrun, hended, _, _, rfl, ?_, ?_, hE.1, hE.2.1, hE.2.2.1, hE.2.2.2.mono (by decide) (by decide)⟩
  · refine y_aloadN X0 hx 1 (hb hby d11_0) rfl rfl rfl ?_
    refine y_aloadN X0 hx 2 (hb hby d11_1) rfl rfl rfl ?_
    refine y_iconst X0 hx (0 : Int32) 3 (hb hby d11_2) rfl rfl ?_
    refine y_aloadN X0 hx 4 (hb hby d11_3) rfl rfl rfl ?_
    refine X0.arraylength hx (by rw [e0]; exact Ar420.1) (State.isArrayOf_alike hZ.alike Ar420.2.1) (g := (mkF m 4 #[xvr ax, xvr cx] [xwr cx, xwi (0 : Int32), xwr cx, xwr ax])) rfl rfl (hb hby d11_4) _ ?_
    rw [len_of S420 M420]
    show Sx p e below s₁ m 5 #[xvr ax, xvr cx] [xwi (0 : Int32), xwi (0 : Int32), xwr cx, xwr ax] _
    refine y_aconst_null X0 hx 6 (hb hby d11_5) rfl ?_
    refine st421.trans ?_
    show Sx p e below T421 m 9 #[xvr ax, xvr cx] [] _
    exact X421.returnOut hx Bd.returns (hb hby d11_9) hr
  · show QrmE1 Z G ax cx kc cs dv h0 n0 _ T421.heap _
    rw [e421]
    exact ⟨o422, o423, rfl, N421, ((Keep.refl h0 [ax]).trans K421 (allS (Or.inl (List.mem_of_getElem? (i := 0) rfl)) all0)), p424, p425, p426, p427⟩
  · rw [hh]; show CHr Z EL s.vm h0 T421.vm T421.heap; rw [e421]; exact C428.trans (CHv.at X421 hZ421 (own_EW hw) C428.1)
theorem ef_rmRd (m : MethodId) (x0 : Addr)  : entryFrame m #[(.ref x0)] 1 = mkF m 0 #[.val (.ref x0)] [] := by first | (simp [entryFrame, mkF, argsToLocals, Value.category]; done) | rfl
theorem d10_0 : decode prog_19_method_6_code 0 = .ok (.aload_n 0, 1) := by decide +kernel
theorem d10_1 : decode prog_19_method_6_code 1 = .ok (.getfield 12, 3) := by decide +kernel
theorem d10_4 : decode prog_19_method_6_code 4 = .ok (.sipush 300, 3) := by decide +kernel
theorem d10_7 : decode prog_19_method_6_code 7 = .ok (.if_icmp .lt 24, 3) := by decide +kernel
theorem d10_31 : decode prog_19_method_6_code 31 = .ok (.iconst 0, 1) := by decide +kernel
theorem d10_32 : decode prog_19_method_6_code 32 = .ok (.ireturn, 1) := by decide +kernel
theorem d10_10 : decode prog_19_method_6_code 10 = .ok (.aload_n 0, 1) := by decide +kernel
theorem d10_11 : decode prog_19_method_6_code 11 = .ok (.getfield 12, 3) := by decide +kernel
theorem d10_14 : decode prog_19_method_6_code 14 = .ok (.sipush 399, 3) := by decide +kernel
theorem d10_17 : decode prog_19_method_6_code 17 = .ok (.if_icmp .gt 14, 3) := by decide +kernel
theorem d10_20 : decode prog_19_method_6_code 20 = .ok (.aload_n 0, 1) := by decide +kernel
theorem d10_21 : decode prog_19_method_6_code 21 = .ok (.getfield 20, 3) := by decide +kernel
theorem d10_24 : decode prog_19_method_6_code 24 = .ok (.ifnull 7, 3) := by decide +kernel
theorem d10_27 : decode prog_19_method_6_code 27 = .ok (.iconst 1, 1) := by decide +kernel
theorem d10_28 : decode prog_19_method_6_code 28 = .ok (.goto 4, 3) := by decide +kernel
def QrmRd (Z : State) (G : Gs) (ax : Addr) (stx : Int32) (r2 : Value) (h0 : Heap) (n0 : Nat) (v : Option Value) (h : Heap) (L : List Loc) : Prop := ∃ (rx : Int32), v = some (.int rx) ∧ Fr n0 L ∧ h = h0 ∧ ((rx = 1 ∧ ¬ stx < (300 : Int32) ∧ ¬ (399 : Int32) < stx ∧ ¬ r2 = .null) ∨ (rx = 0 ∧ ¬ (¬ stx < (300 : Int32) ∧ ¬ (399 : Int32) < stx ∧ ¬ r2 = .null)))
set_option maxRecDepth 65536 in
set_option maxHeartbeats 40000000 in
theorem rmRd (l : Launch) (Z : State) (a0 : Array Value) (hw : HW a0 Z) (G : Gs) (ST : StartF Z G) (ws : List Jvm.Cond) (ax : Addr) (stx : Int32) (r2 : Value) (h0 : Heap) (n0 : Nat) (X00 : Old Z n0 h0) (hr2 : r2.isRef = true) (F1 : Fld Z h0 ax "com/example/nishana/nishana/Response" "status" "I" (.int stx)) (F2 : Fld Z h0 ax "com/example/nishana/nishana/Response" "location" "Ljava/lang/String;" r2) :
    MetFree l (⟨"com/example/nishana/nishana/Response", "isRedirect", "()Z"⟩ : MethodName) (head1 (Jvm.Cond.code (⟨"com/example/nishana/nishana/Response", "isRedirect", "()Z"⟩ : MethodName) prog_19_method_6_code 1 (some .boolean) :: ws) ({ frames := 0, cells := 0, slots := 0, locals := 0 } : Room)) (fun a U => a = #[(.ref ax)] ∧ Z.Warmed39 U.vm ∧ U.heap = h0) (fun _ _ _ _ _ => True) (fun _ U o U' => ∃ v L, o = .returned v ∧ QrmRd Z G ax stx r2 h0 n0 v U'.heap L ∧ FrameEnd U o U' L ({ frames := 0, cells := 0, slots := 0, locals := 0 } : Room).cells ({ frames := 0, cells := 0, slots := 0, locals := 0 } : Room).slots) := by
  refine MetFree.of_bodySF (plainFor_of_name pn_2) hisR ?_
  intro p e s m args below meth c s₁ Bd hml0 hP hK
  obtain ⟨rfl, hZ, hh⟩ := hP
  have hx := Bd.exec
  have hby := Bd.bytes
  have hml : c.maxLocals = 1 := hml0
  have hown : s.vm.findClass "com/example/nishana/nishana/Response" = some m.cls := findClass_of_methodNamed Bd.named
  have hnm := (name_of_methodNamed Bd.named Bd.method).1
  have X0 : Stand p l e ({ frames := 0, cells := 0, slots := 0, locals := 0 } : Room) s m #[(.ref ax)] below meth c s₁ [] 0 0 := Stand.of_body Bd
  have e0 : s₁.heap = h0 := by rw [← hh, Bd.state]; rfl
  have N0 := Fr.nil n0
  have Z0 : n0 ≤ h0.size := by have q := X00.2.1; rw [X00.1] at q; exact q
  obtain ⟨TG, hTG, hT2⟩ : ∃ P : State → Prop, (∀ t, P t → Steps p.tables e below (s₁.setTop (entryFrame m #[(.ref ax)] 1)) t) ∧ (∀ t, Steps p.tables e below (s₁.setTop (entryFrame m #[(.ref ax)] 1)) t → P t) := ⟨_, fun t k => k, fun t k => k⟩
  have pre0 : ∀ t, Sx p e below s₁ m 0 #[xvr ax] [] t → TG t := fun t k => hT2 t (castTop (ef_rmRd m ax ) k)
  obtain ⟨T429, X429, e429, st429⟩ := getF X0 hx hZ hown (host := "") (Or.inl (w_43 hw)) Via.refl e0 F1 (g := (mkF m 1 #[xvr ax] [xwr ax])) rfl rfl (hb hby d10_1)
  have c430 : ∀ t, Sx p e below T429 m 7 #[xvr ax] [xwi (300 : Int32), xwi stx] t → TG t := fun t k => pre0 t (by
    refine y_aloadN X0 hx 1 (hb hby d10_0) rfl rfl rfl ?_
    refine st429 _ ?_
    show Sx p e below T429 m 4 #[xvr ax] [xwi stx] _
    refine y_sipush X429 hx (300 : Int32) 7 (hb hby d10_4) rfl rfl ?_
    exact k)
  by_cases hc431 : stx < (300 : Int32)
  · obtain ⟨fs, hr, hrun, hended, hW, hsame⟩ := X429.leave (v := some (.int (0 : Int32))) (fun h => by rw [Bd.returns] at h; cases h)
    refine ⟨_, _, hTG _ (c430 _ ?_), hrun, hended, _, _, rfl, ?_, ⟨_, rfl⟩, hW, hsame.mono (by decide) (by decide)⟩
    · refine y_icmpYes X429 hx 31 (hb hby d10_7) (XT.ii_lt_t hc431) (by decide) (by decide) ?_
      refine y_iconst X429 hx (0 : Int32) 32 (hb hby d10_31) rfl rfl ?_
      show Sx p e below T429 m 32 #[xvr ax] [xwi (0 : Int32)] _
      exact retN X429 hx (t := .boolean) Bd.returns (by simp) (hb hby d10_32) (hr)
    · show QrmRd Z G ax stx r2 h0 n0 _ T429.heap _
      rw [e429]
      exact ⟨(0 : Int32), rfl, N0, rfl, (Or.inr ⟨rfl, fun q => q.1 hc431⟩)⟩
  · obtain ⟨T432, X432, e432, st432⟩ := getF X429 hx hZ hown (host := "") (Or.inl (w_43 hw)) Via.refl e429 F1 (g := (mkF m 11 #[xvr ax] [xwr ax])) rfl rfl (hb hby d10_11)
    have c433 : ∀ t, Sx p e below T432 m 17 #[xvr ax] [xwi (399 : Int32), xwi stx] t → TG t := fun t k => c430 t (by
      refine y_icmpNo X429 hx 10 (hb hby d10_7) (XT.ii_lt_f hc431) rfl ?_
      refine y_aloadN X429 hx 11 (hb hby d10_10) rfl rfl rfl ?_
      refine st432 _ ?_
      show Sx p e below T432 m 14 #[xvr ax] [xwi stx] _
      refine y_sipush X432 hx (399 : Int32) 17 (hb hby d10_14) rfl rfl ?_
      exact k)
    by_cases hc434 : (399 : Int32) < stx
    · obtain ⟨fs, hr, hrun, hended, hW, hsame⟩ := X432.leave (v := some (.int (0 : Int32))) (fun h => by rw [Bd.returns] at h; cases h)
      refine ⟨_, _, hTG _ (c433 _ ?_), hrun, hended, _, _, rfl, ?_, ⟨_, rfl⟩, hW, hsame.mono (by decide) (by decide)⟩
      · refine y_icmpYes X432 hx 31 (hb hby d10_17) (XT.ii_gt_t hc434) (by decide) (by decide) ?_
        refine y_iconst X432 hx (0 : Int32) 32 (hb hby d10_31) rfl rfl ?_
        show Sx p e below T432 m 32 #[xvr ax] [xwi (0 : Int32)] _
        exact retN X432 hx (t := .boolean) Bd.returns (by simp) (hb hby d10_32) (hr)
      · show QrmRd Z G ax stx r2 h0 n0 _ T432.heap _
        rw [e432]
        exact ⟨(0 : Int32), rfl, N0, rfl, (Or.inr ⟨rfl, fun q => q.2.1 hc434⟩)⟩
    · obtain ⟨T435, X435, e435, st435⟩ := getF X432 hx hZ hown (host := "") (Or.inl (w_47 hw)) Via.refl e432 F2 (g := (mkF m 21 #[xvr ax] [xwr ax])) rfl rfl (hb hby d10_21)
      have c436 : ∀ t, Sx p e below T435 m 24 #[xvr ax] [r2] t → TG t := fun t k => c433 t (by
        refine y_icmpNo X432 hx 20 (hb hby d10_17) (XT.ii_gt_f hc434) rfl ?_
        refine y_aloadN X432 hx 21 (hb hby d10_20) rfl rfl rfl ?_
        refine st435 _ ?_
        exact k)
      by_cases hc437 : r2 = .null
      · obtain ⟨fs, hr, hrun, hended, hW, hsame⟩ := X435.leave (v := some (.int (0 : Int32))) (fun h => by rw [Bd.returns] at h; cases h)
        refine ⟨_, _, hTG _ (c436 _ ?_), hrun, hended, _, _, rfl, ?_, ⟨_, rfl⟩, hW, hsame.mono (by decide) (by decide)⟩
        · refine XT.nullYes X435.here hx rfl (pc0 := 24) (pc' := 31) rfl (hb hby d10_24) rfl hc437 (by decide) (by decide) ?_
          show Sx p e below T435 m 31 #[xvr ax] [] _
          refine y_iconst X435 hx (0 : Int32) 32 (hb hby d10_31) rfl rfl ?_
          show Sx p e below T435 m 32 #[xvr ax] [xwi (0 : Int32)] _
          exact retN X435 hx (t := .boolean) Bd.returns (by simp) (hb hby d10_32) (hr)
        · show QrmRd Z G ax stx r2 h0 n0 _ T435.heap _
          rw [e435]
          exact ⟨(0 : Int32), rfl, N0, rfl, (Or.inr ⟨rfl, fun q => q.2.2 hc437⟩)⟩
      · obtain ⟨fs, hr, hrun, hended, hW, hsame⟩ := X435.leave (v := some (.int (1 : Int32))) (fun h => by rw [Bd.returns] at h; cases h)
        refine ⟨_, _, hTG _ (c436 _ ?_), hrun, hended, _, _, rfl, ?_, ⟨_, rfl⟩, hW, hsame.mono (by decide) (by decide)⟩
        · refine XT.nullNo X435.here hx rfl (hb hby d10_24) rfl hr2 hc437 ?_
          show Sx p e below T435 m 27 #[xvr ax] [] _
          refine y_iconst X435 hx (1 : Int32) 28 (hb hby d10_27) rfl rfl ?_
          refine y_goto X435 hx 32 (hb hby d10_28) (by decide) (by decide) ?_
          show Sx p e below T435 m 32 #[xvr ax] [xwi (1 : Int32)] _
          exact retN X435 hx (t := .boolean) Bd.returns (by simp) (hb hby d10_32) (hr)
        · show QrmRd Z G ax stx r2 h0 n0 _ T435.heap _
          rw [e435]
          exact ⟨(1 : Int32), rfl, N0, rfl, (Or.inl ⟨rfl, hc431, hc434, hc437⟩)⟩
theorem ef_rmPS (m : MethodId) (x0 : Int32) (x1 : Int32)  : entryFrame m #[(.int x0), (.int x1)] 3 = mkF m 0 #[.val (.int x0), .val (.int x1), .unset] [] := by first | (simp [entryFrame, mkF, argsToLocals, Value.category]; done) | rfl
theorem d1_0 : decode method_2_code 0 = .ok (.iload_n 0, 1) := by decide +kernel
theorem d1_1 : decode method_2_code 1 = .ok (.bipush 7, 2) := by decide +kernel
theorem d1_3 : decode method_2_code 3 = .ok (.iand, 1) := by decide +kernel
theorem d1_4 : decode method_2_code 4 = .ok (.istore_n 2, 1) := by decide +kernel
theorem d1_5 : decode method_2_code 5 = .ok (.iload_n 2, 1) := by decide +kernel
theorem d1_6 : decode method_2_code 6 = .ok (.ifCond .ne 7, 3) := by decide +kernel
theorem d1_9 : decode method_2_code 9 = .ok (.sipush 299, 3) := by decide +kernel
theorem d1_12 : decode method_2_code 12 = .ok (.ireturn, 1) := by decide +kernel
theorem d1_13 : decode method_2_code 13 = .ok (.iload_n 2, 1) := by decide +kernel
theorem d1_14 : decode method_2_code 14 = .ok (.iconst 1, 1) := by decide +kernel
theorem d1_15 : decode method_2_code 15 = .ok (.if_icmp .ne 7, 3) := by decide +kernel
theorem d1_18 : decode method_2_code 18 = .ok (.sipush 300, 3) := by decide +kernel
theorem d1_21 : decode method_2_code 21 = .ok (.ireturn, 1) := by decide +kernel
theorem d1_22 : decode method_2_code 22 = .ok (.iload_n 2, 1) := by decide +kernel
theorem d1_23 : decode method_2_code 23 = .ok (.iconst 2, 1) := by decide +kernel
theorem d1_24 : decode method_2_code 24 = .ok (.if_icmp .ne 7, 3) := by decide +kernel
theorem d1_27 : decode method_2_code 27 = .ok (.sipush 399, 3) := by decide +kernel
theorem d1_30 : decode method_2_code 30 = .ok (.ireturn, 1) := by decide +kernel
theorem d1_31 : decode method_2_code 31 = .ok (.iload_n 2, 1) := by decide +kernel
theorem d1_32 : decode method_2_code 32 = .ok (.iconst 3, 1) := by decide +kernel
theorem d1_33 : decode method_2_code 33 = .ok (.if_icmp .ne 7, 3) := by decide +kernel
theorem d1_36 : decode method_2_code 36 = .ok (.sipush 400, 3) := by decide +kernel
theorem d1_39 : decode method_2_code 39 = .ok (.ireturn, 1) := by decide +kernel
theorem d1_40 : decode method_2_code 40 = .ok (.iload_n 2, 1) := by decide +kernel
theorem d1_41 : decode method_2_code 41 = .ok (.iconst 4, 1) := by decide +kernel
theorem d1_42 : decode method_2_code 42 = .ok (.if_icmp .ne 15, 3) := by decide +kernel
theorem d1_45 : decode method_2_code 45 = .ok (.sipush 300, 3) := by decide +kernel
theorem d1_48 : decode method_2_code 48 = .ok (.iload_n 1, 1) := by decide +kernel
theorem d1_49 : decode method_2_code 49 = .ok (.ldc 7, 2) := by decide +kernel
theorem d1_51 : decode method_2_code 51 = .ok (.iand, 1) := by decide +kernel
theorem d1_52 : decode method_2_code 52 = .ok (.bipush 100, 2) := by decide +kernel
theorem d1_54 : decode method_2_code 54 = .ok (.irem, 1) := by decide +kernel
theorem d1_55 : decode method_2_code 55 = .ok (.iadd, 1) := by decide +kernel
theorem d1_56 : decode method_2_code 56 = .ok (.ireturn, 1) := by decide +kernel
theorem d1_57 : decode method_2_code 57 = .ok (.iload_n 1, 1) := by decide +kernel
theorem d1_58 : decode method_2_code 58 = .ok (.ireturn, 1) := by decide +kernel
theorem pn_3 : plainName "com/example/nishana/nishana/ResponseIsRedirectPinLaw" = true := by first | (simp [plainName, overriddenIn]; done) | decide +kernel
def QrmPS (Z : State) (G : Gs) (px : Int32) (qx : Int32) (h0 : Heap) (n0 : Nat) (v : Option Value) (h : Heap) (L : List Loc) : Prop := ∃ (rx : Int32), v = some (.int rx) ∧ Fr n0 L ∧ h = h0
set_option maxRecDepth 65536 in
set_option maxHeartbeats 40000000 in
theorem rmPS (l : Launch) (Z : State) (a0 : Array Value) (hw : HW a0 Z) (G : Gs) (ST : StartF Z G) (ws : List Jvm.Cond) (px : Int32) (qx : Int32) (h0 : Heap) (n0 : Nat) (X00 : Old Z n0 h0) :
    MetFree l (⟨"com/example/nishana/nishana/ResponseIsRedirectPinLaw", "pickStatus", "(II)I"⟩ : MethodName) (head1 (Jvm.Cond.code (⟨"com/example/nishana/nishana/ResponseIsRedirectPinLaw", "pickStatus", "(II)I"⟩ : MethodName) method_2_code 3 (some .int) :: ws) ({ frames := 0, cells := 0, slots := 0, locals := 0 } : Room)) (fun a U => a = #[(.int px), (.int qx)] ∧ Z.Warmed39 U.vm ∧ U.heap = h0) (fun _ _ _ _ _ => True) (fun _ U o U' => ∃ v L, o = .returned v ∧ QrmPS Z G px qx h0 n0 v U'.heap L ∧ FrameEnd U o U' L ({ frames := 0, cells := 0, slots := 0, locals := 0 } : Room).cells ({ frames := 0, cells := 0, slots := 0, locals := 0 } : Room).slots) := by
  refine MetFree.of_bodySF (plainFor_of_name pn_3) hisR ?_
  intro p e s m args below meth c s₁ Bd hml0 hP hK
  obtain ⟨rfl, hZ, hh⟩ := hP
  have hx := Bd.exec
  have hby := Bd.bytes
  have hml : c.maxLocals = 3 := hml0
  have hown : s.vm.findClass "com/example/nishana/nishana/ResponseIsRedirectPinLaw" = some m.cls := findClass_of_methodNamed Bd.named
  have hnm := (name_of_methodNamed Bd.named Bd.method).1
  have X0 : Stand p l e ({ frames := 0, cells := 0, slots := 0, locals := 0 } : Room) s m #[(.int px), (.int qx)] below meth c s₁ [] 0 0 := Stand.of_body Bd
  have e0 : s₁.heap = h0 := by rw [← hh, Bd.state]; rfl
  have N0 := Fr.nil n0
  have Z0 : n0 ≤ h0.size := by have q := X00.2.1; rw [X00.1] at q; exact q
  obtain ⟨TG, hTG, hT2⟩ : ∃ P : State → Prop, (∀ t, P t → Steps p.tables e below (s₁.setTop (entryFrame m #[(.int px), (.int qx)] 3)) t) ∧ (∀ t, Steps p.tables e below (s₁.setTop (entryFrame m #[(.int px), (.int qx)] 3)) t → P t) := ⟨_, fun t k => k, fun t k => k⟩
  have pre0 : ∀ t, Sx p e below s₁ m 0 #[xvi px, xvi qx, xun] [] t → TG t := fun t k => hT2 t (castTop (ef_rmPS m px qx ) k)
  have c438 : ∀ t, Sx p e below s₁ m 6 #[xvi px, xvi qx, xvi (px &&& (7 : Int32))] [xwi (px &&& (7 : Int32))] t → TG t := fun t k => pre0 t (by
    refine y_iloadN X0 hx 1 (hb hby d1_0) rfl rfl ?_
    refine y_bipush X0 hx (7 : Int32) 3 (hb hby d1_1) rfl rfl ?_
    refine y_iand X0 hx 4 (hb hby d1_3) rfl ?_
    refine XS.istoreN X0.here hx rfl (hb hby d1_4) rfl (l' := #[xvi px, xvi qx, xvi (px &&& (7 : Int32))]) rfl ?_
    show Sx p e below s₁ m 5 #[xvi px, xvi qx, xvi (px &&& (7 : Int32))] [] _
    refine y_iloadN X0 hx 6 (hb hby d1_5) rfl rfl ?_
    exact k)
  by_cases hc439 : (px &&& (7 : Int32)) = (0 : Int32)
  · obtain ⟨fs, hr, hrun, hended, hW, hsame⟩ := X0.leave (v := some (.int (299 : Int32))) (fun h => by rw [Bd.returns] at h; cases h)
    refine ⟨_, _, hTG _ (c438 _ ?_), hrun, hended, _, _, rfl, ?_, ⟨_, rfl⟩, hW, hsame.mono (by decide) (by decide)⟩
    · refine y_ifNo X0 hx 9 (hb hby d1_6) (XT.i0_ne_f hc439) rfl ?_
      refine y_sipush X0 hx (299 : Int32) 12 (hb hby d1_9) rfl rfl ?_
      show Sx p e below s₁ m 12 #[xvi px, xvi qx, xvi (px &&& (7 : Int32))] [xwi (299 : Int32)] _
      exact retOut X0 hx Bd.returns rfl (Or.inl ⟨rfl, Or.inl rfl, _, rfl⟩) (hb hby d1_12) hr
    · show QrmPS Z G px qx h0 n0 _ s₁.heap _
      rw [e0]
      exact ⟨(299 : Int32), rfl, N0, rfl⟩
  · have c440 : ∀ t, Sx p e below s₁ m 15 #[xvi px, xvi qx, xvi (px &&& (7 : Int32))] [xwi (1 : Int32), xwi (px &&& (7 : Int32))] t → TG t := fun t k => c438 t (by
      refine y_ifYes X0 hx 13 (hb hby d1_6) (XT.i0_ne_t hc439) (by decide) (by decide) ?_
      refine y_iloadN X0 hx 14 (hb hby d1_13) rfl rfl ?_
      refine y_iconst X0 hx (1 : Int32) 15 (hb hby d1_14) rfl rfl ?_
      exact k)
    by_cases hc441 : (px &&& (7 : Int32)) = (1 : Int32)
    · obtain ⟨fs, hr, hrun, hended, hW, hsame⟩ := X0.leave (v := some (.int (300 : Int32))) (fun h => by rw [Bd.returns] at h; cases h)
      refine ⟨_, _, hTG _ (c440 _ ?_), hrun, hended, _, _, rfl, ?_, ⟨_, rfl⟩, hW, hsame.mono (by decide) (by decide)⟩
      · refine y_icmpNo X0 hx 18 (hb hby d1_15) (XT.ii_ne_f hc441) rfl ?_
        refine y_sipush X0 hx (300 : Int32) 21 (hb hby d1_18) rfl rfl ?_
        show Sx p e below s₁ m 21 #[xvi px, xvi qx, xvi (px &&& (7 : Int32))] [xwi (300 : Int32)] _
        exact retOut X0 hx Bd.returns rfl (Or.inl ⟨rfl, Or.inl rfl, _, rfl⟩) (hb hby d1_21) hr
      · show QrmPS Z G px qx h0 n0 _ s₁.heap _
        rw [e0]
        exact ⟨(300 : Int32), rfl, N0, rfl⟩
    · have c442 : ∀ t, Sx p e below s₁ m 24 #[xvi px, xvi qx, xvi (px &&& (7 : Int32))] [xwi (2 : Int32), xwi (px &&& (7 : Int32))] t → TG t := fun t k => c440 t (by
        refine y_icmpYes X0 hx 22 (hb hby d1_15) (XT.ii_ne_t hc441) (by decide) (by decide) ?_
        refine y_iloadN X0 hx 23 (hb hby d1_22) rfl rfl ?_
        refine y_iconst X0 hx (2 : Int32) 24 (hb hby d1_23) rfl rfl ?_
        exact k)
      by_cases hc443 : (px &&& (7 : Int32)) = (2 : Int32)
      · obtain ⟨fs, hr, hrun, hended, hW, hsame⟩ := X0.leave (v := some (.int (399 : Int32))) (fun h => by rw [Bd.returns] at h; cases h)
        refine ⟨_, _, hTG _ (c442 _ ?_), hrun, hended, _, _, rfl, ?_, ⟨_, rfl⟩, hW, hsame.mono (by decide) (by decide)⟩
        · refine y_icmpNo X0 hx 27 (hb hby d1_24) (XT.ii_ne_f hc443) rfl ?_
          refine y_sipush X0 hx (399 : Int32) 30 (hb hby d1_27) rfl rfl ?_
          show Sx p e below s₁ m 30 #[xvi px, xvi qx, xvi (px &&& (7 : Int32))] [xwi (399 : Int32)] _
          exact retOut X0 hx Bd.returns rfl (Or.inl ⟨rfl, Or.inl rfl, _, rfl⟩) (hb hby d1_30) hr
        · show QrmPS Z G px qx h0 n0 _ s₁.heap _
          rw [e0]
          exact ⟨(399 : Int32), rfl, N0, rfl⟩
      · have c444 : ∀ t, Sx p e below s₁ m 33 #[xvi px, xvi qx, xvi (px &&& (7 : Int32))] [xwi (3 : Int32), xwi (px &&& (7 : Int32))] t → TG t := fun t k => c442 t (by
          refine y_icmpYes X0 hx 31 (hb hby d1_24) (XT.ii_ne_t hc443) (by decide) (by decide) ?_
          refine y_iloadN X0 hx 32 (hb hby d1_31) rfl rfl ?_
          refine y_iconst X0 hx (3 : Int32) 33 (hb hby d1_32) rfl rfl ?_
          exact k)
        by_cases hc445 : (px &&& (7 : Int32)) = (3 : Int32)
        · obtain ⟨fs, hr, hrun, hended, hW, hsame⟩ := X0.leave (v := some (.int (400 : Int32))) (fun h => by rw [Bd.returns] at h; cases h)
          refine ⟨_, _, hTG _ (c444 _ ?_), hrun, hended, _, _, rfl, ?_, ⟨_, rfl⟩, hW, hsame.mono (by decide) (by decide)⟩
          · refine y_icmpNo X0 hx 36 (hb hby d1_33) (XT.ii_ne_f hc445) rfl ?_
            refine y_sipush X0 hx (400 : Int32) 39 (hb hby d1_36) rfl rfl ?_
            show Sx p e below s₁ m 39 #[xvi px, xvi qx, xvi (px &&& (7 : Int32))] [xwi (400 : Int32)] _
            exact retOut X0 hx Bd.returns rfl (Or.inl ⟨rfl, Or.inl rfl, _, rfl⟩) (hb hby d1_39) hr
          · show QrmPS Z G px qx h0 n0 _ s₁.heap _
            rw [e0]
            exact ⟨(400 : Int32), rfl, N0, rfl⟩
        · have c446 : ∀ t, Sx p e below s₁ m 42 #[xvi px, xvi qx, xvi (px &&& (7 : Int32))] [xwi (4 : Int32), xwi (px &&& (7 : Int32))] t → TG t := fun t k => c444 t (by
            refine y_icmpYes X0 hx 40 (hb hby d1_33) (XT.ii_ne_t hc445) (by decide) (by decide) ?_
            refine y_iloadN X0 hx 41 (hb hby d1_40) rfl rfl ?_
            refine y_iconst X0 hx (4 : Int32) 42 (hb hby d1_41) rfl rfl ?_
            exact k)
          by_cases hc447 : (px &&& (7 : Int32)) = (4 : Int32)
          · obtain ⟨fs, hr, hrun, hended, hW, hsame⟩ := X0.leave (v := some (.int ((300 : Int32) + ((qx &&& (2147483647 : Int32)) % (100 : Int32))))) (fun h => by rw [Bd.returns] at h; cases h)
            refine ⟨_, _, hTG _ (c446 _ ?_), hrun, hended, _, _, rfl, ?_, ⟨_, rfl⟩, hW, hsame.mono (by decide) (by decide)⟩
            · refine y_icmpNo X0 hx 45 (hb hby d1_42) (XT.ii_ne_f hc447) rfl ?_
              refine y_sipush X0 hx (300 : Int32) 48 (hb hby d1_45) rfl rfl ?_
              refine y_iloadN X0 hx 49 (hb hby d1_48) rfl rfl ?_
              refine X0.ldcInt hx hown (mvT hZ (w_83 hw)) (g := (mkF m 49 #[xvi px, xvi qx, xvi (px &&& (7 : Int32))] [xwi qx, xwi (300 : Int32)])) rfl (hb hby d1_49) _ ?_
              show Sx p e below s₁ m 51 #[xvi px, xvi qx, xvi (px &&& (7 : Int32))] [xwi (2147483647 : Int32), xwi qx, xwi (300 : Int32)] _
              refine y_iand X0 hx 52 (hb hby d1_51) rfl ?_
              refine y_bipush X0 hx (100 : Int32) 54 (hb hby d1_52) rfl rfl ?_
              refine iremM X0 hx rfl (hb hby d1_54) rfl (by decide) ?_
              show Sx p e below s₁ m 55 #[xvi px, xvi qx, xvi (px &&& (7 : Int32))] [xwi ((qx &&& (2147483647 : Int32)) % (100 : Int32)), xwi (300 : Int32)] _
              refine y_iadd X0 hx 56 (hb hby d1_55) rfl ?_
              show Sx p e below s₁ m 56 #[xvi px, xvi qx, xvi (px &&& (7 : Int32))] [xwi ((300 : Int32) + ((qx &&& (2147483647 : Int32)) % (100 : Int32)))] _
              exact retOut X0 hx Bd.returns rfl (Or.inl ⟨rfl, Or.inl rfl, _, rfl⟩) (hb hby d1_56) hr
            · show QrmPS Z G px qx h0 n0 _ s₁.heap _
              rw [e0]
              exact ⟨((300 : Int32) + ((qx &&& (2147483647 : Int32)) % (100 : Int32))), rfl, N0, rfl⟩
          · obtain ⟨fs, hr, hrun, hended, hW, hsame⟩ := X0.leave (v := some (.int qx)) (fun h => by rw [Bd.returns] at h; cases h)
            refine ⟨_, _, hTG _ (c446 _ ?_), hrun, hended, _, _, rfl, ?_, ⟨_, rfl⟩, hW, hsame.mono (by decide) (by decide)⟩
            · refine y_icmpYes X0 hx 57 (hb hby d1_42) (XT.ii_ne_t hc447) (by decide) (by decide) ?_
              refine y_iloadN X0 hx 58 (hb hby d1_57) rfl rfl ?_
              show Sx p e below s₁ m 58 #[xvi px, xvi qx, xvi (px &&& (7 : Int32))] [xwi qx] _
              exact retOut X0 hx Bd.returns rfl (Or.inl ⟨rfl, Or.inl rfl, _, rfl⟩) (hb hby d1_58) hr
            · show QrmPS Z G px qx h0 n0 _ s₁.heap _
              rw [e0]
              exact ⟨qx, rfl, N0, rfl⟩
theorem ef_rmPL (m : MethodId) (x0 : Int32)  : entryFrame m #[(.int x0)] 5 = mkF m 0 #[.val (.int x0), .unset, .unset, .unset, .unset] [] := by first | (simp [entryFrame, mkF, argsToLocals, Value.category]; done) | rfl
theorem d2_0 : decode method_3_code 0 = .ok (.iload_n 0, 1) := by decide +kernel
theorem d2_1 : decode method_3_code 1 = .ok (.iconst 1, 1) := by decide +kernel
theorem d2_2 : decode method_3_code 2 = .ok (.iand, 1) := by decide +kernel
theorem d2_3 : decode method_3_code 3 = .ok (.ifCond .eq 5, 3) := by decide +kernel
theorem d2_8 : decode method_3_code 8 = .ok (.iload_n 0, 1) := by decide +kernel
theorem d2_9 : decode method_3_code 9 = .ok (.iconst 1, 1) := by decide +kernel
theorem d2_10 : decode method_3_code 10 = .ok (.iushr, 1) := by decide +kernel
theorem d2_11 : decode method_3_code 11 = .ok (.iconst 3, 1) := by decide +kernel
theorem d2_12 : decode method_3_code 12 = .ok (.iand, 1) := by decide +kernel
theorem d2_13 : decode method_3_code 13 = .ok (.iconst 3, 1) := by decide +kernel
theorem d2_14 : decode method_3_code 14 = .ok (.irem, 1) := by decide +kernel
theorem d2_15 : decode method_3_code 15 = .ok (.istore_n 1, 1) := by decide +kernel
theorem d2_16 : decode method_3_code 16 = .ok (.iload_n 0, 1) := by decide +kernel
theorem d2_17 : decode method_3_code 17 = .ok (.iconst 3, 1) := by decide +kernel
theorem d2_18 : decode method_3_code 18 = .ok (.iushr, 1) := by decide +kernel
theorem d2_19 : decode method_3_code 19 = .ok (.sipush 255, 3) := by decide +kernel
theorem d2_22 : decode method_3_code 22 = .ok (.iand, 1) := by decide +kernel
theorem d2_23 : decode method_3_code 23 = .ok (.i2c, 1) := by decide +kernel
theorem d2_24 : decode method_3_code 24 = .ok (.istore_n 2, 1) := by decide +kernel
theorem d2_25 : decode method_3_code 25 = .ok (.iload_n 0, 1) := by decide +kernel
theorem d2_26 : decode method_3_code 26 = .ok (.bipush 11, 2) := by decide +kernel
theorem d2_28 : decode method_3_code 28 = .ok (.iushr, 1) := by decide +kernel
theorem d2_29 : decode method_3_code 29 = .ok (.sipush 255, 3) := by decide +kernel
theorem d2_32 : decode method_3_code 32 = .ok (.iand, 1) := by decide +kernel
theorem d2_33 : decode method_3_code 33 = .ok (.i2c, 1) := by decide +kernel
theorem d2_34 : decode method_3_code 34 = .ok (.istore_n 3, 1) := by decide +kernel
theorem d2_35 : decode method_3_code 35 = .ok (.iload_n 1, 1) := by decide +kernel
theorem d2_36 : decode method_3_code 36 = .ok (.ifCond .ne 14, 3) := by decide +kernel
theorem d2_39 : decode method_3_code 39 = .ok (.new 8, 3) := by decide +kernel
theorem d2_42 : decode method_3_code 42 = .ok (.dup, 1) := by decide +kernel
theorem d2_43 : decode method_3_code 43 = .ok (.iconst 0, 1) := by decide +kernel
theorem d2_44 : decode method_3_code 44 = .ok (.newarray .char, 2) := by decide +kernel
theorem d2_46 : decode method_3_code 46 = .ok (.invokespecial 10, 3) := by decide +kernel
theorem pd_5 : parseMethodDescriptor "([C)V" = some ⟨[(.array .char)], none⟩ := by decide +kernel
theorem d2_49 : decode method_3_code 49 = .ok (.areturn, 1) := by decide +kernel
theorem d2_50 : decode method_3_code 50 = .ok (.iload_n 1, 1) := by decide +kernel
theorem d2_51 : decode method_3_code 51 = .ok (.iconst 1, 1) := by decide +kernel
theorem d2_52 : decode method_3_code 52 = .ok (.if_icmp .ne 8, 3) := by decide +kernel
theorem d2_55 : decode method_3_code 55 = .ok (.iload_n 2, 1) := by decide +kernel
theorem d2_56 : decode method_3_code 56 = .ok (.invokestatic 13, 3) := by decide +kernel
theorem pd_6 : parseMethodDescriptor "(C)Ljava/lang/String;" = some ⟨[.char], some (.object "java/lang/String")⟩ := by decide +kernel
theorem d2_59 : decode method_3_code 59 = .ok (.areturn, 1) := by decide +kernel
theorem d2_60 : decode method_3_code 60 = .ok (.iconst 2, 1) := by decide +kernel
theorem d2_61 : decode method_3_code 61 = .ok (.newarray .char, 2) := by decide +kernel
theorem d2_63 : decode method_3_code 63 = .ok (.astore 4, 2) := by decide +kernel
theorem d2_65 : decode method_3_code 65 = .ok (.aload 4, 2) := by decide +kernel
theorem d2_67 : decode method_3_code 67 = .ok (.iconst 0, 1) := by decide +kernel
theorem d2_68 : decode method_3_code 68 = .ok (.iload_n 2, 1) := by decide +kernel
theorem d2_69 : decode method_3_code 69 = .ok (.castore, 1) := by decide +kernel
theorem d2_70 : decode method_3_code 70 = .ok (.aload 4, 2) := by decide +kernel
theorem d2_72 : decode method_3_code 72 = .ok (.iconst 1, 1) := by decide +kernel
theorem d2_73 : decode method_3_code 73 = .ok (.iload_n 3, 1) := by decide +kernel
theorem d2_74 : decode method_3_code 74 = .ok (.castore, 1) := by decide +kernel
theorem d2_75 : decode method_3_code 75 = .ok (.new 8, 3) := by decide +kernel
theorem d2_78 : decode method_3_code 78 = .ok (.dup, 1) := by decide +kernel
theorem d2_79 : decode method_3_code 79 = .ok (.aload 4, 2) := by decide +kernel
theorem d2_81 : decode method_3_code 81 = .ok (.invokespecial 10, 3) := by decide +kernel
theorem d2_84 : decode method_3_code 84 = .ok (.areturn, 1) := by decide +kernel
theorem d2_6 : decode method_3_code 6 = .ok (.aconst_null, 1) := by decide +kernel
theorem d2_7 : decode method_3_code 7 = .ok (.areturn, 1) := by decide +kernel
def QrmPL (Z : State) (G : Gs) (px : Int32) (h0 : Heap) (n0 : Nat) (v : Option Value) (h : Heap) (L : List Loc) : Prop := ∃ (vx : Value), v = some vx ∧ Fr n0 L ∧ Keep h0 h [] ∧ vx.isRef = true
set_option maxRecDepth 65536 in
set_option maxHeartbeats 40000000 in
theorem rmPL (l : Launch) (Z : State) (a0 : Array Value) (hw : HW a0 Z) (G : Gs) (ST : StartF Z G) (ws : List Jvm.Cond) (px : Int32) (h0 : Heap) (n0 : Nat) (X00 : Old Z n0 h0) :
    MetFree l (⟨"com/example/nishana/nishana/ResponseIsRedirectPinLaw", "pickLocation", "(I)Ljava/lang/String;"⟩ : MethodName) (head1 (Jvm.Cond.code (⟨"com/example/nishana/nishana/ResponseIsRedirectPinLaw", "pickLocation", "(I)Ljava/lang/String;"⟩ : MethodName) method_3_code 5 (some (.object "java/lang/String")) :: ws) ({ frames := 4, cells := 4, slots := 8, locals := 66 } : Room)) (fun a U => a = #[(.int px)] ∧ Z.Warmed39 U.vm ∧ U.heap = h0 ∧ CHv Z EL U.vm h0) (fun _ _ _ _ _ => True) (fun _ U o U' => ∃ v L, o = .returned v ∧ QrmPL Z G px h0 n0 v U'.heap L ∧ CHr Z EL U.vm U.heap U'.vm U'.heap ∧ ReturnedEndW U o U' L ({ frames := 4, cells := 4, slots := 8, locals := 66 } : Room).cells ({ frames := 4, cells := 4, slots := 8, locals := 66 } : Room).slots) := by
  refine MetFree.of_bodySF (plainFor_of_name pn_3) hisR ?_
  intro p e s m args below meth c s₁ Bd hml0 hP hK
  obtain ⟨rfl, hZ, hh, HC0⟩ := hP
  have hx := Bd.exec
  have hby := Bd.bytes
  have hml : c.maxLocals = 5 := hml0
  have hown : s.vm.findClass "com/example/nishana/nishana/ResponseIsRedirectPinLaw" = some m.cls := findClass_of_methodNamed Bd.named
  have hnm := (name_of_methodNamed Bd.named Bd.method).1
  have X0 : Stand p l e ({ frames := 4, cells := 4, slots := 8, locals := 66 } : Room) (s.setVm s.vm) m #[(.int px)] below meth c s₁ [] 0 0 := Stand.of_body Bd
  have e0 : s₁.heap = h0 := by rw [← hh, Bd.state]; rfl
  have N0 := Fr.nil n0
  have Z0 : n0 ≤ h0.size := by have q := X00.2.1; rw [X00.1] at q; exact q
  have C0 := CHr.refl HC0
  have hS0 : s.Since s.vm h0.size := (State.WarmedH.refl s).since h0.size
  obtain ⟨TG, hTG, hT2⟩ : ∃ P : State → Prop, (∀ t, P t → Steps p.tables e below (s₁.setTop (entryFrame m #[(.int px)] 5)) t) ∧ (∀ t, Steps p.tables e below (s₁.setTop (entryFrame m #[(.int px)] 5)) t → P t) := ⟨_, fun t k => k, fun t k => k⟩
  have pre0 : ∀ t, Sx p e below s₁ m 0 #[xvi px, xun, xun, xun, xun] [] t → TG t := fun t k => hT2 t (castTop (ef_rmPL m px ) k)
  have c448 : ∀ t, Sx p e below s₁ m 3 #[xvi px, xun, xun, xun, xun] [xwi (px &&& (1 : Int32))] t → TG t := fun t k => pre0 t (by
    refine y_iloadN X0 hx 1 (hb hby d2_0) rfl rfl ?_
    refine y_iconst X0 hx (1 : Int32) 2 (hb hby d2_1) rfl rfl ?_
    refine y_iand X0 hx 3 (hb hby d2_2) rfl ?_
    exact k)
  by_cases hc449 : (px &&& (1 : Int32)) = (0 : Int32)
  · have c450 : ∀ t, Sx p e below s₁ m 36 #[xvi px, xvi ((((px.toUInt32 >>> ((1 : Int32) &&& 31).toUInt32).toInt32) &&& (3 : Int32)) % (3 : Int32)), xvi (((px.toUInt32 >>> ((3 : Int32) &&& 31).toUInt32).toInt32) &&& (255 : Int32)), xvi (((px.toUInt32 >>> ((11 : Int32) &&& 31).toUInt32).toInt32) &&& (255 : Int32)), xun] [xwi ((((px.toUInt32 >>> ((1 : Int32) &&& 31).toUInt32).toInt32) &&& (3 : Int32)) % (3 : Int32))] t → TG t := fun t k => c448 t (by
      refine y_ifYes X0 hx 8 (hb hby d2_3) (XT.i0_eq_t hc449) (by decide) (by decide) ?_
      refine y_iloadN X0 hx 9 (hb hby d2_8) rfl rfl ?_
      refine y_iconst X0 hx (1 : Int32) 10 (hb hby d2_9) rfl rfl ?_
      refine XS.iushr X0.here hx rfl (hb hby d2_10) rfl ?_
      show Sx p e below s₁ m 11 #[xvi px, xun, xun, xun, xun] [xwi ((px.toUInt32 >>> ((1 : Int32) &&& 31).toUInt32).toInt32)] _
      refine y_iconst X0 hx (3 : Int32) 12 (hb hby d2_11) rfl rfl ?_
      refine y_iand X0 hx 13 (hb hby d2_12) rfl ?_
      refine y_iconst X0 hx (3 : Int32) 14 (hb hby d2_13) rfl rfl ?_
      refine iremM X0 hx rfl (hb hby d2_14) rfl (by decide) ?_
      show Sx p e below s₁ m 15 #[xvi px, xun, xun, xun, xun] [xwi ((((px.toUInt32 >>> ((1 : Int32) &&& 31).toUInt32).toInt32) &&& (3 : Int32)) % (3 : Int32))] _
      refine XS.istoreN X0.here hx rfl (hb hby d2_15) rfl (l' := #[xvi px, xvi ((((px.toUInt32 >>> ((1 : Int32) &&& 31).toUInt32).toInt32) &&& (3 : Int32)) % (3 : Int32)), xun, xun, xun]) rfl ?_
      show Sx p e below s₁ m 16 #[xvi px, xvi ((((px.toUInt32 >>> ((1 : Int32) &&& 31).toUInt32).toInt32) &&& (3 : Int32)) % (3 : Int32)), xun, xun, xun] [] _
      refine y_iloadN X0 hx 17 (hb hby d2_16) rfl rfl ?_
      refine y_iconst X0 hx (3 : Int32) 18 (hb hby d2_17) rfl rfl ?_
      refine XS.iushr X0.here hx rfl (hb hby d2_18) rfl ?_
      show Sx p e below s₁ m 19 #[xvi px, xvi ((((px.toUInt32 >>> ((1 : Int32) &&& 31).toUInt32).toInt32) &&& (3 : Int32)) % (3 : Int32)), xun, xun, xun] [xwi ((px.toUInt32 >>> ((3 : Int32) &&& 31).toUInt32).toInt32)] _
      refine y_sipush X0 hx (255 : Int32) 22 (hb hby d2_19) rfl rfl ?_
      refine y_iand X0 hx 23 (hb hby d2_22) rfl ?_
      refine XS.i2c X0.here hx rfl (hb hby d2_23) rfl ?_
      show Sx p e below s₁ m 24 #[xvi px, xvi ((((px.toUInt32 >>> ((1 : Int32) &&& 31).toUInt32).toInt32) &&& (3 : Int32)) % (3 : Int32)), xun, xun, xun] [xwi ((((px.toUInt32 >>> ((3 : Int32) &&& 31).toUInt32).toInt32) &&& (255 : Int32)).toUInt32.toUInt16.toUInt32.toInt32)] _
      rw [own_i2c ((px.toUInt32 >>> ((3 : Int32) &&& 31).toUInt32).toInt32)]
      refine XS.istoreN X0.here hx rfl (hb hby d2_24) rfl (l' := #[xvi px, xvi ((((px.toUInt32 >>> ((1 : Int32) &&& 31).toUInt32).toInt32) &&& (3 : Int32)) % (3 : Int32)), xvi (((px.toUInt32 >>> ((3 : Int32) &&& 31).toUInt32).toInt32) &&& (255 : Int32)), xun, xun]) rfl ?_
      show Sx p e below s₁ m 25 #[xvi px, xvi ((((px.toUInt32 >>> ((1 : Int32) &&& 31).toUInt32).toInt32) &&& (3 : Int32)) % (3 : Int32)), xvi (((px.toUInt32 >>> ((3 : Int32) &&& 31).toUInt32).toInt32) &&& (255 : Int32)), xun, xun] [] _
      refine y_iloadN X0 hx 26 (hb hby d2_25) rfl rfl ?_
      refine y_bipush X0 hx (11 : Int32) 28 (hb hby d2_26) rfl rfl ?_
      refine XS.iushr X0.here hx rfl (hb hby d2_28) rfl ?_
      show Sx p e below s₁ m 29 #[xvi px, xvi ((((px.toUInt32 >>> ((1 : Int32) &&& 31).toUInt32).toInt32) &&& (3 : Int32)) % (3 : Int32)), xvi (((px.toUInt32 >>> ((3 : Int32) &&& 31).toUInt32).toInt32) &&& (255 : Int32)), xun, xun] [xwi ((px.toUInt32 >>> ((11 : Int32) &&& 31).toUInt32).toInt32)] _
      refine y_sipush X0 hx (255 : Int32) 32 (hb hby d2_29) rfl rfl ?_
      refine y_iand X0 hx 33 (hb hby d2_32) rfl ?_
      refine XS.i2c X0.here hx rfl (hb hby d2_33) rfl ?_
      show Sx p e below s₁ m 34 #[xvi px, xvi ((((px.toUInt32 >>> ((1 : Int32) &&& 31).toUInt32).toInt32) &&& (3 : Int32)) % (3 : Int32)), xvi (((px.toUInt32 >>> ((3 : Int32) &&& 31).toUInt32).toInt32) &&& (255 : Int32)), xun, xun] [xwi ((((px.toUInt32 >>> ((11 : Int32) &&& 31).toUInt32).toInt32) &&& (255 : Int32)).toUInt32.toUInt16.toUInt32.toInt32)] _
      rw [own_i2c ((px.toUInt32 >>> ((11 : Int32) &&& 31).toUInt32).toInt32)]
      refine XS.istoreN X0.here hx rfl (hb hby d2_34) rfl (l' := #[xvi px, xvi ((((px.toUInt32 >>> ((1 : Int32) &&& 31).toUInt32).toInt32) &&& (3 : Int32)) % (3 : Int32)), xvi (((px.toUInt32 >>> ((3 : Int32) &&& 31).toUInt32).toInt32) &&& (255 : Int32)), xvi (((px.toUInt32 >>> ((11 : Int32) &&& 31).toUInt32).toInt32) &&& (255 : Int32)), xun]) rfl ?_
      show Sx p e below s₁ m 35 #[xvi px, xvi ((((px.toUInt32 >>> ((1 : Int32) &&& 31).toUInt32).toInt32) &&& (3 : Int32)) % (3 : Int32)), xvi (((px.toUInt32 >>> ((3 : Int32) &&& 31).toUInt32).toInt32) &&& (255 : Int32)), xvi (((px.toUInt32 >>> ((11 : Int32) &&& 31).toUInt32).toInt32) &&& (255 : Int32)), xun] [] _
      refine y_iloadN X0 hx 36 (hb hby d2_35) rfl rfl ?_
      exact k)
    by_cases hc451 : ((((px.toUInt32 >>> ((1 : Int32) &&& 31).toUInt32).toInt32) &&& (3 : Int32)) % (3 : Int32)) = (0 : Int32)
    · obtain ⟨T452, h452, X452, e452, E452, A452, D452, -, st452⟩ := newO X0 hx hZ hown (w_62 hw) (w_17 hw) (w_9 hw) e0 (g := (mkF m 39 #[xvi px, xvi ((((px.toUInt32 >>> ((1 : Int32) &&& 31).toUInt32).toInt32) &&& (3 : Int32)) % (3 : Int32)), xvi (((px.toUInt32 >>> ((3 : Int32) &&& 31).toUInt32).toInt32) &&& (255 : Int32)), xvi (((px.toUInt32 >>> ((11 : Int32) &&& 31).toUInt32).toInt32) &&& (255 : Int32)), xun] [])) rfl (hb hby d2_39) (by decide) (by decide)
      obtain ⟨b452, g452⟩ : ∃ z, z = h0.size := ⟨_, rfl⟩
      rw [← g452] at A452 D452 st452
      have ch454 := CHr.ext E452 C0.1
      have C453 := C0.trans ch454
      have Fb452_value : Fld Z h452 b452 "java/lang/String" "value" "[B" .null := D452 (Or.inr (w_30 hw)) (ty := (.array .byte)) (by decide)
      have Fb452_coder : Fld Z h452 b452 "java/lang/String" "coder" "B" (.int (0 : Int32)) := D452 (Or.inr (w_32 hw)) (ty := .byte) (by decide)
      obtain ⟨T455, h455, k455, X455, e455, E455, A455, st455⟩ := newP (aty := .char) X452 hx hZ (w_63 hw) e452 (g := (mkF m 44 #[xvi px, xvi ((((px.toUInt32 >>> ((1 : Int32) &&& 31).toUInt32).toInt32) &&& (3 : Int32)) % (3 : Int32)), xvi (((px.toUInt32 >>> ((3 : Int32) &&& 31).toUInt32).toInt32) &&& (255 : Int32)), xvi (((px.toUInt32 >>> ((11 : Int32) &&& 31).toUInt32).toInt32) &&& (255 : Int32)), xun] [xwi (0 : Int32), xwr b452, xwr b452])) rfl (hb hby d2_44) rfl (by decide) (cap := 0) (by decide) (by decide) (by decide) (by decide)
      obtain ⟨b455, g455⟩ : ∃ z, z = h452.size := ⟨_, rfl⟩
      rw [← g455] at A455 st455
      have ch457 := CHr.ext E455 C453.1
      have C456 := C453.trans ch457
      have V455 : Arv Z h455 b455 k455 .char (0 : Int32) [] (.int (0 : Int32)) := Arv.new A455 (by decide)
      have f458 := (A452.ext E455)
      have f459 := (Fb452_value.ext E455)
      have f460 := (Fb452_coder.ext E455)
      have Ol461 : Old Z n0 h455 := ((X00.ext E452).ext E455)
      obtain ⟨_, _, ⟨T462, L462, k462, n462⟩, -, X462, hS462, g462, ⟨Lc462, hQ462, l462, y462, z462, CH462⟩, st462⟩ := X455.specialBackS hx (y := (⟨"java/lang/String", "<init>", "([C)V"⟩ : MethodName)) rfl hown (mvT hZ (w_64 hw)) (mvT hZ (w_65 hw)) (mvT hZ (w_66 hw)) (by decide) (backOfSH (W := 1) (rmE1 l Z a0 hw G ST [] b452 b455 k455 ([] : List Value) (.int (0 : Int32)) h455 n0 Ol461 f458 f459 f460 (Nat.le_trans Z0 (Nat.le_trans (Nat.le_refl _) (Nat.le_of_eq g452.symm))) V455) hZ (w_66 hw) (w_9 hw) (by decide) (by decide) (own_EW hw) C456.1) (g := (mkF m 46 #[xvi px, xvi ((((px.toUInt32 >>> ((1 : Int32) &&& 31).toUInt32).toInt32) &&& (3 : Int32)) % (3 : Int32)), xvi (((px.toUInt32 >>> ((3 : Int32) &&& 31).toUInt32).toInt32) &&& (255 : Int32)), xvi (((px.toUInt32 >>> ((11 : Int32) &&& 31).toUInt32).toInt32) &&& (255 : Int32)), xun] [xwr b455, xwr b452, xwr b452])) rfl (by rw [hml]; rfl) (Steps.refl _) (a := b452) (argsL := [(.ref b455)]) (rest := [(.ref b452)]) (lenOf pd_5 rfl) rfl (by show 2 * 0 + _ ≤ _; exact Nat.le_of_eq rfl) (hb hby d2_46) (fun _ _ => ⟨rfl, e455, (by decide : 2 + 2 ≤ _), (by decide : 4 + 4 ≤ _)⟩)
      dsimp only [Pt.U, Pt.locs, Pt.cells, Pt.slots] at X462 l462 y462 z462 st462 hQ462 CH462 hS462 g462
      subst l462 y462 z462
      obtain ⟨hp462, e462⟩ : ∃ z, T462.heap = z := ⟨_, rfl⟩
      rw [e462] at hQ462 CH462 hS462 g462
      rw [e455] at g462
      obtain ⟨X462, hS462, hZ462, hown462⟩ := rebS hS0 (Nat.le_trans E452.1 E455.1) X462 hS462 g462 hZ hown
      obtain ⟨o463, o464, rfl, N462q, K462, p465, p466, p467, p468⟩ := hQ462
      have N462 := Fr.app N0 N462q
      have C469 := C456.trans CH462
      obtain ⟨fs, hr, hrun, hended, hE⟩ := X462.leaveW hS462 (by rw [e462]; exact (Nat.le_refl _)) (v := some (.ref b452)) (fun h => by rw [Bd.returns] at h; cases h)
      refine ⟨_, _, hTG _ (c450 _ ?_), hrun, hended, _, _, rfl, ?_, ?_, hE.1, hE.2.1, hE.2.2.1, hE.2.2.2.mono (by decide) (by decide)⟩
      · refine y_ifNo X0 hx 39 (hb hby d2_36) (XT.i0_ne_f hc451) rfl ?_
        refine st452 _ ?_
        show Sx p e below T452 m 42 #[xvi px, xvi ((((px.toUInt32 >>> ((1 : Int32) &&& 31).toUInt32).toInt32) &&& (3 : Int32)) % (3 : Int32)), xvi (((px.toUInt32 >>> ((3 : Int32) &&& 31).toUInt32).toInt32) &&& (255 : Int32)), xvi (((px.toUInt32 >>> ((11 : Int32) &&& 31).toUInt32).toInt32) &&& (255 : Int32)), xun] [xwr b452] _
        refine y_dup X452 hx 43 (hb hby d2_42) rfl rfl ?_
        refine y_iconst X452 hx (0 : Int32) 44 (hb hby d2_43) rfl rfl ?_
        refine st455 _ ?_
        show Sx p e below T455 m 46 #[xvi px, xvi ((((px.toUInt32 >>> ((1 : Int32) &&& 31).toUInt32).toInt32) &&& (3 : Int32)) % (3 : Int32)), xvi (((px.toUInt32 >>> ((3 : Int32) &&& 31).toUInt32).toInt32) &&& (255 : Int32)), xvi (((px.toUInt32 >>> ((11 : Int32) &&& 31).toUInt32).toInt32) &&& (255 : Int32)), xun] [xwr b455, xwr b452, xwr b452] _
        refine st462.trans ?_
        show Sx p e below T462 m 49 #[xvi px, xvi ((((px.toUInt32 >>> ((1 : Int32) &&& 31).toUInt32).toInt32) &&& (3 : Int32)) % (3 : Int32)), xvi (((px.toUInt32 >>> ((3 : Int32) &&& 31).toUInt32).toInt32) &&& (255 : Int32)), xvi (((px.toUInt32 >>> ((11 : Int32) &&& 31).toUInt32).toInt32) &&& (255 : Int32)), xun] [xwr b452] _
        exact retOut X462 hx Bd.returns rfl (Or.inr (Or.inr (Or.inr (Or.inr ⟨rfl, rfl, rfl⟩)))) (hb hby d2_49) hr
      · show QrmPL Z G px h0 n0 _ T462.heap _
        rw [e462]
        exact ⟨(.ref b452), rfl, N462, ((((Keep.refl h0 []).ext E452).ext E455).trans K462 (allS (Or.inr (Nat.le_trans (Nat.le_refl _) (Nat.le_of_eq g452.symm))) all0)), rfl⟩
      · rw [hh]; show CHr Z EL s.vm h0 T462.vm T462.heap; rw [e462]; exact C469.trans (CHv.at X462 hZ462 (own_EW hw) C469.1)
    · have c470 : ∀ t, Sx p e below s₁ m 52 #[xvi px, xvi ((((px.toUInt32 >>> ((1 : Int32) &&& 31).toUInt32).toInt32) &&& (3 : Int32)) % (3 : Int32)), xvi (((px.toUInt32 >>> ((3 : Int32) &&& 31).toUInt32).toInt32) &&& (255 : Int32)), xvi (((px.toUInt32 >>> ((11 : Int32) &&& 31).toUInt32).toInt32) &&& (255 : Int32)), xun] [xwi (1 : Int32), xwi ((((px.toUInt32 >>> ((1 : Int32) &&& 31).toUInt32).toInt32) &&& (3 : Int32)) % (3 : Int32))] t → TG t := fun t k => c450 t (by
        refine y_ifYes X0 hx 50 (hb hby d2_36) (XT.i0_ne_t hc451) (by decide) (by decide) ?_
        refine y_iloadN X0 hx 51 (hb hby d2_50) rfl rfl ?_
        refine y_iconst X0 hx (1 : Int32) 52 (hb hby d2_51) rfl rfl ?_
        exact k)
      by_cases hc471 : ((((px.toUInt32 >>> ((1 : Int32) &&& 31).toUInt32).toInt32) &&& (3 : Int32)) % (3 : Int32)) = (1 : Int32)
      · obtain ⟨_, _, ⟨T472, L472, k472, n472⟩, -, X472, ⟨Lc472, hQ472, l472, y472, z472⟩, st472⟩ := Jvm.LawKit.callS X0 hx (y := (⟨"java/lang/String", "valueOf", "(C)Ljava/lang/String;"⟩ : MethodName)) hown (mvT hZ (w_7 hw)) (mvT hZ (w_8 hw)) (mvT hZ (w_9 hw)) (mvT hZ (w_10 hw)) (by decide) (backOf (W := 0) (rmVO l Z a0 hw G ST [] (((px.toUInt32 >>> ((3 : Int32) &&& 31).toUInt32).toInt32) &&& (255 : Int32)) h0 n0 X00 (own_c255 ((px.toUInt32 >>> ((3 : Int32) &&& 31).toUInt32).toInt32)).2) hZ (w_10 hw) (w_9 hw) (by decide) (by decide)) (g := (mkF m 56 #[xvi px, xvi ((((px.toUInt32 >>> ((1 : Int32) &&& 31).toUInt32).toInt32) &&& (3 : Int32)) % (3 : Int32)), xvi (((px.toUInt32 >>> ((3 : Int32) &&& 31).toUInt32).toInt32) &&& (255 : Int32)), xvi (((px.toUInt32 >>> ((11 : Int32) &&& 31).toUInt32).toInt32) &&& (255 : Int32)), xun] [xwi (((px.toUInt32 >>> ((3 : Int32) &&& 31).toUInt32).toInt32) &&& (255 : Int32))])) rfl (by rw [hml]; rfl) (argsL := [(.int (((px.toUInt32 >>> ((3 : Int32) &&& 31).toUInt32).toInt32) &&& (255 : Int32)))]) (rest := []) (lenOf pd_6 rfl) rfl (by show 2 * 0 + _ ≤ _; exact Nat.le_of_eq rfl) (hb hby d2_56) (fun _ _ => ⟨rfl, e0, (by decide : 0 + 2 ≤ _), (by decide : 0 + 5 ≤ _)⟩)
        dsimp only [Pt.U, Pt.locs, Pt.cells, Pt.slots] at X472 l472 y472 z472 st472 hQ472
        subst l472 y472 z472
        obtain ⟨hp472, e472⟩ : ∃ z, T472.heap = z := ⟨_, rfl⟩
        rw [e472] at hQ472
        obtain ⟨o473, o474, o475, rfl, N472q, K472, p476, p477, p478, p479, p480, p481⟩ := hQ472
        have N472 := Fr.app N0 N472q
        have ch483 := CHr.keep K472 sf0 C0.1
        have C482 := C0.trans ch483
        obtain ⟨fs, hr, hrun, hended, hE⟩ := X472.leaveW hS0 (by rw [e472]; exact K472.1) (v := some (.ref o473)) (fun h => by rw [Bd.returns] at h; cases h)
        refine ⟨_, _, hTG _ (c470 _ ?_), hrun, hended, _, _, rfl, ?_, ?_, hE.1, hE.2.1, hE.2.2.1, hE.2.2.2.mono (by decide) (by decide)⟩
        · refine y_icmpNo X0 hx 55 (hb hby d2_52) (XT.ii_ne_f hc471) rfl ?_
          refine y_iloadN X0 hx 56 (hb hby d2_55) rfl rfl ?_
          refine st472 _ ?_
          show Sx p e below T472 m 59 #[xvi px, xvi ((((px.toUInt32 >>> ((1 : Int32) &&& 31).toUInt32).toInt32) &&& (3 : Int32)) % (3 : Int32)), xvi (((px.toUInt32 >>> ((3 : Int32) &&& 31).toUInt32).toInt32) &&& (255 : Int32)), xvi (((px.toUInt32 >>> ((11 : Int32) &&& 31).toUInt32).toInt32) &&& (255 : Int32)), xun] [xwr o473] _
          exact retOut X472 hx Bd.returns rfl (Or.inr (Or.inr (Or.inr (Or.inr ⟨rfl, rfl, rfl⟩)))) (hb hby d2_59) hr
        · show QrmPL Z G px h0 n0 _ T472.heap _
          rw [e472]
          exact ⟨(.ref o473), rfl, N472, ((Keep.refl h0 []).trans K472 all0), rfl⟩
        · rw [hh]; show CHr Z EL s.vm h0 T472.vm T472.heap; rw [e472]; exact C482.trans (CHv.at X472 hZ (own_EW hw) C482.1)
      · obtain ⟨T484, h484, k484, X484, e484, E484, A484, st484⟩ := newP (aty := .char) X0 hx hZ (w_63 hw) e0 (g := (mkF m 61 #[xvi px, xvi ((((px.toUInt32 >>> ((1 : Int32) &&& 31).toUInt32).toInt32) &&& (3 : Int32)) % (3 : Int32)), xvi (((px.toUInt32 >>> ((3 : Int32) &&& 31).toUInt32).toInt32) &&& (255 : Int32)), xvi (((px.toUInt32 >>> ((11 : Int32) &&& 31).toUInt32).toInt32) &&& (255 : Int32)), xun] [xwi (2 : Int32)])) rfl (hb hby d2_61) rfl (by decide) (cap := 2) (by decide) (by decide) (by decide) (by decide)
        obtain ⟨b484, g484⟩ : ∃ z, z = h0.size := ⟨_, rfl⟩
        rw [← g484] at A484 st484
        have ch486 := CHr.ext E484 C0.1
        have C485 := C0.trans ch486
        have V484 : Arv Z h484 b484 k484 .char (2 : Int32) [(.int (0 : Int32)), (.int (0 : Int32))] (.int (0 : Int32)) := (Arv.new A484 (by decide)).pad (pad_rep [] (.int (0 : Int32)) 2)
        obtain ⟨cl487, Ar487, q487, S487, M487, H487, G487⟩ := id V484
        have in487 : ¬ ((0 : Int32) < 0 ∨ cl487.slots.size ≤ ((0 : Int32)).toNatClampNeg) := inb_of S487 ⟨by decide, by decide⟩
        obtain ⟨T488, h488, X488, e488, W488, st488⟩ := stC X484 hx hZ e484 Ar487 (j := (0 : Int32)) in487 (g := (mkF m 69 #[xvi px, xvi ((((px.toUInt32 >>> ((1 : Int32) &&& 31).toUInt32).toInt32) &&& (3 : Int32)) % (3 : Int32)), xvi (((px.toUInt32 >>> ((3 : Int32) &&& 31).toUInt32).toInt32) &&& (255 : Int32)), xvi (((px.toUInt32 >>> ((11 : Int32) &&& 31).toUInt32).toInt32) &&& (255 : Int32)), xvr b484] [xwi (((px.toUInt32 >>> ((3 : Int32) &&& 31).toUInt32).toInt32) &&& (255 : Int32)), xwi (0 : Int32), xwr b484])) rfl rfl (hb hby d2_69)
        have ch490 := CHr.wr W488 (Safe.arv hZ.alike V484 (by decide)) C485.1
        have C489 := C485.trans ch490
        have V488 : Arv Z h488 b484 k484 .char (2 : Int32) [(.int (((px.toUInt32 >>> ((3 : Int32) &&& 31).toUInt32).toInt32) &&& (255 : Int32))), (.int (0 : Int32))] (.int (0 : Int32)) := by have q := Arv.set Ar487 q487 S487 M487 H487 G487 (fits_nar_char _) W488 0 rfl (Nat.le_of_ble_eq_true rfl); rw [own_narc (own_c255 ((px.toUInt32 >>> ((3 : Int32) &&& 31).toUInt32).toInt32))] at q; exact q
        have N488 := Fr.snoc X488 N0 (Nat.le_trans Z0 (Nat.le_trans (Nat.le_refl _) (Nat.le_of_eq g484.symm)))
        obtain ⟨cl491, Ar491, q491, S491, M491, H491, G491⟩ := id V488
        have in491 : ¬ ((1 : Int32) < 0 ∨ cl491.slots.size ≤ ((1 : Int32)).toNatClampNeg) := inb_of S491 ⟨by decide, by decide⟩
        obtain ⟨T492, h492, X492, e492, W492, st492⟩ := stC X488 hx hZ e488 Ar491 (j := (1 : Int32)) in491 (g := (mkF m 74 #[xvi px, xvi ((((px.toUInt32 >>> ((1 : Int32) &&& 31).toUInt32).toInt32) &&& (3 : Int32)) % (3 : Int32)), xvi (((px.toUInt32 >>> ((3 : Int32) &&& 31).toUInt32).toInt32) &&& (255 : Int32)), xvi (((px.toUInt32 >>> ((11 : Int32) &&& 31).toUInt32).toInt32) &&& (255 : Int32)), xvr b484] [xwi (((px.toUInt32 >>> ((11 : Int32) &&& 31).toUInt32).toInt32) &&& (255 : Int32)), xwi (1 : Int32), xwr b484])) rfl rfl (hb hby d2_74)
        have ch494 := CHr.wr W492 (Safe.arv hZ.alike V488 (by decide)) C489.1
        have C493 := C489.trans ch494
        have V492 : Arv Z h492 b484 k484 .char (2 : Int32) [(.int (((px.toUInt32 >>> ((3 : Int32) &&& 31).toUInt32).toInt32) &&& (255 : Int32))), (.int (((px.toUInt32 >>> ((11 : Int32) &&& 31).toUInt32).toInt32) &&& (255 : Int32)))] (.int (0 : Int32)) := by have q := Arv.set Ar491 q491 S491 M491 H491 G491 (fits_nar_char _) W492 1 rfl (Nat.le_of_ble_eq_true rfl); rw [own_narc (own_c255 ((px.toUInt32 >>> ((11 : Int32) &&& 31).toUInt32).toInt32))] at q; exact q
        have N492 := Fr.snoc X492 N488 (Nat.le_trans Z0 (Nat.le_trans (Nat.le_refl _) (Nat.le_of_eq g484.symm)))
        obtain ⟨T495, h495, X495, e495, E495, A495, D495, -, st495⟩ := newO X492 hx hZ hown (w_62 hw) (w_17 hw) (w_9 hw) e492 (g := (mkF m 75 #[xvi px, xvi ((((px.toUInt32 >>> ((1 : Int32) &&& 31).toUInt32).toInt32) &&& (3 : Int32)) % (3 : Int32)), xvi (((px.toUInt32 >>> ((3 : Int32) &&& 31).toUInt32).toInt32) &&& (255 : Int32)), xvi (((px.toUInt32 >>> ((11 : Int32) &&& 31).toUInt32).toInt32) &&& (255 : Int32)), xvr b484] [])) rfl (hb hby d2_75) (by decide) (by decide)
        obtain ⟨b495, g495⟩ : ∃ z, z = h492.size := ⟨_, rfl⟩
        rw [← g495] at A495 D495 st495
        have ch497 := CHr.ext E495 C493.1
        have C496 := C493.trans ch497
        have Fb495_value : Fld Z h495 b495 "java/lang/String" "value" "[B" .null := D495 (Or.inr (w_30 hw)) (ty := (.array .byte)) (by decide)
        have Fb495_coder : Fld Z h495 b495 "java/lang/String" "coder" "B" (.int (0 : Int32)) := D495 (Or.inr (w_32 hw)) (ty := .byte) (by decide)
        have hp498 : ∀ c ∈ ([(((px.toUInt32 >>> ((3 : Int32) &&& 31).toUInt32).toInt32) &&& (255 : Int32)), (((px.toUInt32 >>> ((11 : Int32) &&& 31).toUInt32).toInt32) &&& (255 : Int32))] : List Int32), ¬ c < 0 ∧ ¬ (255 : Int32) < c := by
          intro c hc
          simp only [List.mem_cons, List.not_mem_nil, or_false] at hc
          rcases hc with rfl | rfl
          · exact (own_c255 ((px.toUInt32 >>> ((3 : Int32) &&& 31).toUInt32).toInt32))
          · exact (own_c255 ((px.toUInt32 >>> ((11 : Int32) &&& 31).toUInt32).toInt32))
        have f499 := (V492.ext E495)
        have Ol500 : Old Z n0 h495 := ((((X00.ext E484).wr W488 (Nat.le_trans Z0 (Nat.le_trans (Nat.le_refl _) (Nat.le_of_eq g484.symm)))).wr W492 (Nat.le_trans Z0 (Nat.le_trans (Nat.le_refl _) (Nat.le_of_eq g484.symm)))).ext E495)
        obtain ⟨_, _, ⟨T501, L501, k501, n501⟩, -, X501, ⟨Lc501, hQ501, l501, y501, z501⟩, st501⟩ := X495.specialBack hx (y := (⟨"java/lang/String", "<init>", "([C)V"⟩ : MethodName)) rfl hown (mvT hZ (w_64 hw)) (mvT hZ (w_65 hw)) (mvT hZ (w_66 hw)) (by decide) (StrChars.Road.backV (W := 1) hZ (own_wV hw) (kI := 4) (w_17 hw) (cs := ([(((px.toUInt32 >>> ((3 : Int32) &&& 31).toUInt32).toInt32) &&& (255 : Int32)), (((px.toUInt32 >>> ((11 : Int32) &&& 31).toUInt32).toInt32) &&& (255 : Int32))] : List Int32)) (bs := (([(((px.toUInt32 >>> ((3 : Int32) &&& 31).toUInt32).toInt32) &&& (255 : Int32)), (((px.toUInt32 >>> ((11 : Int32) &&& 31).toUInt32).toInt32) &&& (255 : Int32))] : List Int32).map (fun c => c.toInt8.toInt32))) (n := 2) (Nat.le_trans Z0 (Nat.le_trans (Nat.le_trans (Nat.le_trans E484.1 (Nat.le_of_eq W488.size.symm)) (Nat.le_of_eq W492.size.symm)) (Nat.le_of_eq g495.symm))) (Nat.le_trans Z0 (Nat.le_trans (Nat.le_trans (Nat.le_trans E484.1 (Nat.le_of_eq W488.size.symm)) (Nat.le_of_eq W492.size.symm)) E495.1)) A495 Fb495_value Fb495_coder f499 (ST.1.ext Ol500.2) ST.2 rfl rfl (by decide) (by decide) hp498 rfl (by decide) (by decide)) (g := (mkF m 81 #[xvi px, xvi ((((px.toUInt32 >>> ((1 : Int32) &&& 31).toUInt32).toInt32) &&& (3 : Int32)) % (3 : Int32)), xvi (((px.toUInt32 >>> ((3 : Int32) &&& 31).toUInt32).toInt32) &&& (255 : Int32)), xvi (((px.toUInt32 >>> ((11 : Int32) &&& 31).toUInt32).toInt32) &&& (255 : Int32)), xvr b484] [xwr b484, xwr b495, xwr b495])) rfl (by rw [hml]; rfl) (Steps.refl _) (a := b495) (argsL := [(.ref b484)]) (rest := [(.ref b495)]) (lenOf pd_5 rfl) rfl (by show 2 * 0 + _ ≤ _; exact Nat.le_of_eq rfl) (hb hby d2_81) (fun _ _ => ⟨rfl, e495, (by decide : 2 + 1 ≤ _), (by decide : 6 + 2 ≤ _)⟩)
        dsimp only [Pt.U, Pt.locs, Pt.cells, Pt.slots] at X501 l501 y501 z501 st501 hQ501
        subst l501 y501 z501
        obtain ⟨hp501, e501⟩ : ∃ z, T501.heap = z := ⟨_, rfl⟩
        rw [e501] at hQ501
        obtain ⟨rfl, N501q, K501, E501, Fc501, t501, kb501, -, gt501, -, Fv501, V501⟩ := hQ501
        have N501 := Fr.app N492 N501q
        have sf504 := (Safe.ext E495 C493.1 (Safe.new (Nat.le_of_eq g495.symm)))
        have ch503 := CHr.keep K501 (sfS sf504 sf0) C496.1
        have C502 := C496.trans ch503
        obtain ⟨fs, hr, hrun, hended, hE⟩ := X501.leaveW hS0 (by rw [e501]; exact (Nat.le_trans (Nat.le_trans (Nat.le_trans (Nat.le_trans E484.1 (Nat.le_of_eq W488.size.symm)) (Nat.le_of_eq W492.size.symm)) E495.1) K501.1)) (v := some (.ref b495)) (fun h => by rw [Bd.returns] at h; cases h)
        refine ⟨_, _, hTG _ (c470 _ ?_), hrun, hended, _, _, rfl, ?_, ?_, hE.1, hE.2.1, hE.2.2.1, hE.2.2.2.mono (by decide) (by decide)⟩
        · refine y_icmpYes X0 hx 60 (hb hby d2_52) (XT.ii_ne_t hc471) (by decide) (by decide) ?_
          refine y_iconst X0 hx (2 : Int32) 61 (hb hby d2_60) rfl rfl ?_
          refine st484 _ ?_
          show Sx p e below T484 m 63 #[xvi px, xvi ((((px.toUInt32 >>> ((1 : Int32) &&& 31).toUInt32).toInt32) &&& (3 : Int32)) % (3 : Int32)), xvi (((px.toUInt32 >>> ((3 : Int32) &&& 31).toUInt32).toInt32) &&& (255 : Int32)), xvi (((px.toUInt32 >>> ((11 : Int32) &&& 31).toUInt32).toInt32) &&& (255 : Int32)), xun] [xwr b484] _
          refine XS.astore X484.here hx rfl (hb hby d2_63) rfl rfl (l' := #[xvi px, xvi ((((px.toUInt32 >>> ((1 : Int32) &&& 31).toUInt32).toInt32) &&& (3 : Int32)) % (3 : Int32)), xvi (((px.toUInt32 >>> ((3 : Int32) &&& 31).toUInt32).toInt32) &&& (255 : Int32)), xvi (((px.toUInt32 >>> ((11 : Int32) &&& 31).toUInt32).toInt32) &&& (255 : Int32)), xvr b484]) rfl ?_
          show Sx p e below T484 m 65 #[xvi px, xvi ((((px.toUInt32 >>> ((1 : Int32) &&& 31).toUInt32).toInt32) &&& (3 : Int32)) % (3 : Int32)), xvi (((px.toUInt32 >>> ((3 : Int32) &&& 31).toUInt32).toInt32) &&& (255 : Int32)), xvi (((px.toUInt32 >>> ((11 : Int32) &&& 31).toUInt32).toInt32) &&& (255 : Int32)), xvr b484] [] _
          refine y_aload X484 hx 67 (hb hby d2_65) rfl rfl rfl ?_
          refine y_iconst X484 hx (0 : Int32) 68 (hb hby d2_67) rfl rfl ?_
          refine y_iloadN X484 hx 69 (hb hby d2_68) rfl rfl ?_
          refine st488 _ ?_
          show Sx p e below T488 m 70 #[xvi px, xvi ((((px.toUInt32 >>> ((1 : Int32) &&& 31).toUInt32).toInt32) &&& (3 : Int32)) % (3 : Int32)), xvi (((px.toUInt32 >>> ((3 : Int32) &&& 31).toUInt32).toInt32) &&& (255 : Int32)), xvi (((px.toUInt32 >>> ((11 : Int32) &&& 31).toUInt32).toInt32) &&& (255 : Int32)), xvr b484] [] _
          refine y_aload X488 hx 72 (hb hby d2_70) rfl rfl rfl ?_
          refine y_iconst X488 hx (1 : Int32) 73 (hb hby d2_72) rfl rfl ?_
          refine y_iloadN X488 hx 74 (hb hby d2_73) rfl rfl ?_
          refine st492 _ ?_
          show Sx p e below T492 m 75 #[xvi px, xvi ((((px.toUInt32 >>> ((1 : Int32) &&& 31).toUInt32).toInt32) &&& (3 : Int32)) % (3 : Int32)), xvi (((px.toUInt32 >>> ((3 : Int32) &&& 31).toUInt32).toInt32) &&& (255 : Int32)), xvi (((px.toUInt32 >>> ((11 : Int32) &&& 31).toUInt32).toInt32) &&& (255 : Int32)), xvr b484] [] _
          refine st495 _ ?_
          show Sx p e below T495 m 78 #[xvi px, xvi ((((px.toUInt32 >>> ((1 : Int32) &&& 31).toUInt32).toInt32) &&& (3 : Int32)) % (3 : Int32)), xvi (((px.toUInt32 >>> ((3 : Int32) &&& 31).toUInt32).toInt32) &&& (255 : Int32)), xvi (((px.toUInt32 >>> ((11 : Int32) &&& 31).toUInt32).toInt32) &&& (255 : Int32)), xvr b484] [xwr b495] _
          refine y_dup X495 hx 79 (hb hby d2_78) rfl rfl ?_
          refine y_aload X495 hx 81 (hb hby d2_79) rfl rfl rfl ?_
          refine st501.trans ?_
          show Sx p e below T501 m 84 #[xvi px, xvi ((((px.toUInt32 >>> ((1 : Int32) &&& 31).toUInt32).toInt32) &&& (3 : Int32)) % (3 : Int32)), xvi (((px.toUInt32 >>> ((3 : Int32) &&& 31).toUInt32).toInt32) &&& (255 : Int32)), xvi (((px.toUInt32 >>> ((11 : Int32) &&& 31).toUInt32).toInt32) &&& (255 : Int32)), xvr b484] [xwr b495] _
          exact retOut X501 hx Bd.returns rfl (Or.inr (Or.inr (Or.inr (Or.inr ⟨rfl, rfl, rfl⟩)))) (hb hby d2_84) hr
        · show QrmPL Z G px h0 n0 _ T501.heap _
          rw [e501]
          exact ⟨(.ref b495), rfl, N501, ((((((Keep.refl h0 []).ext E484).wr W488 (Or.inr (Nat.le_trans (Nat.le_refl _) (Nat.le_of_eq g484.symm)))).wr W492 (Or.inr (Nat.le_trans (Nat.le_refl _) (Nat.le_of_eq g484.symm)))).ext E495).trans K501 (allS (Or.inr (Nat.le_trans (Nat.le_trans (Nat.le_trans E484.1 (Nat.le_of_eq W488.size.symm)) (Nat.le_of_eq W492.size.symm)) (Nat.le_of_eq g495.symm))) all0)), rfl⟩
        · rw [hh]; show CHr Z EL s.vm h0 T501.vm T501.heap; rw [e501]; exact C502.trans (CHv.at X501 hZ (own_EW hw) C502.1)
  · obtain ⟨fs, hr, hrun, hended, hE⟩ := X0.leaveW hS0 (by rw [e0]; exact (Nat.le_refl _)) (v := some .null) (fun h => by rw [Bd.returns] at h; cases h)
    refine ⟨_, _, hTG _ (c448 _ ?_), hrun, hended, _, _, rfl, ?_, ?_, hE.1, hE.2.1, hE.2.2.1, hE.2.2.2.mono (by decide) (by decide)⟩
    · refine y_ifNo X0 hx 6 (hb hby d2_3) (XT.i0_eq_f hc449) rfl ?_
      refine y_aconst_null X0 hx 7 (hb hby d2_6) rfl ?_
      show Sx p e below s₁ m 7 #[xvi px, xun, xun, xun, xun] [.null] _
      exact retOut X0 hx Bd.returns rfl (Or.inr (Or.inr (Or.inr (Or.inr ⟨rfl, rfl, rfl⟩)))) (hb hby d2_7) hr
    · show QrmPL Z G px h0 n0 _ s₁.heap _
      rw [e0]
      exact ⟨.null, rfl, N0, (Keep.refl h0 []), rfl⟩
    · rw [hh]; show CHr Z EL s.vm h0 s₁.vm s₁.heap; rw [e0]; exact C0.trans (CHv.at X0 hZ (own_EW hw) C0.1)
theorem ef_rm0 (m : MethodId) (x0 : Int32) (x1 : Int32) (x2 : Int32) (x3 : Int32) (x4 : Int64)  : entryFrame m #[(.int x0), (.int x1), (.int x2), (.int x3), (.long x4)] maxLocals = mkF m 0 #[.val (.int x0), .val (.int x1), .val (.int x2), .val (.int x3), .val (.long x4), .second, .unset, .unset, .unset, .unset, .unset, .unset, .unset, .unset] [] := by first | (simp [entryFrame, mkF, argsToLocals, Value.category, maxLocals]; done) | rfl
theorem pd_7 : parseMethodDescriptor "(II)I" = some ⟨[.int, .int], some .int⟩ := by decide +kernel
theorem pd_8 : parseMethodDescriptor "(I)Ljava/lang/String;" = some ⟨[.int], some (.object "java/lang/String")⟩ := by decide +kernel
theorem pd_9 : parseMethodDescriptor "(ILjava/lang/String;Ljava/lang/String;[BJ)V" = some ⟨[.int, (.object "java/lang/String"), (.object "java/lang/String"), (.array .byte), .long], none⟩ := by decide +kernel
theorem pd_10 : parseMethodDescriptor "()Z" = some ⟨[], some .boolean⟩ := by decide +kernel
def Qrm0 (Z : State) (G : Gs) (p0 : Int32) (p1 : Int32) (p2 : Int32) (p3 : Int32) (q4 : Int64) (h0 : Heap) (n0 : Nat) (v : Option Value) (h : Heap) (L : List Loc) : Prop := v = some (.int (1 : Int32)) ∧ Fr n0 L ∧ Keep h0 h []
set_option maxRecDepth 65536 in
set_option maxHeartbeats 40000000 in
theorem rm0 (l : Launch) (Z : State) (a0 : Array Value) (hw : HW a0 Z) (G : Gs) (ST : StartF Z G) (ws : List Jvm.Cond) (p0 : Int32) (p1 : Int32) (p2 : Int32) (p3 : Int32) (q4 : Int64) (h0 : Heap) (n0 : Nat) (X00 : Old Z n0 h0) :
    MetFree l x (head1 (Jvm.Cond.code x code maxLocals ret :: ws) room_1) (fun a U => a = #[(.int p0), (.int p1), (.int p2), (.int p3), (.long q4)] ∧ Z.Warmed39 U.vm ∧ U.heap = h0 ∧ CHv Z EL U.vm h0) (fun _ _ _ _ _ => True) (fun _ U o U' => ∃ v L, o = .returned v ∧ Qrm0 Z G p0 p1 p2 p3 q4 h0 n0 v U'.heap L ∧ CHr Z EL U.vm U.heap U'.vm U'.heap ∧ ReturnedEndW U o U' L 8 20) := by
  refine MetFree.of_bodySF (plainFor_of_name pn_3) hisR ?_
  intro p e s m args below meth c s₁ Bd hml0 hP hK
  obtain ⟨rfl, hZ, hh, HC0⟩ := hP
  have hx := Bd.exec
  have hby := Bd.bytes
  have hml : c.maxLocals = 14 := hml0
  have hown : s.vm.findClass "com/example/nishana/nishana/ResponseIsRedirectPinLaw" = some m.cls := findClass_of_methodNamed Bd.named
  have hnm := (name_of_methodNamed Bd.named Bd.method).1
  have X0 : Stand p l e room_1 (s.setVm s.vm) m #[(.int p0), (.int p1), (.int p2), (.int p3), (.long q4)] below meth c s₁ [] 0 0 := Stand.of_body Bd
  have e0 : s₁.heap = h0 := by rw [← hh, Bd.state]; rfl
  have N0 := Fr.nil n0
  have Z0 : n0 ≤ h0.size := by have q := X00.2.1; rw [X00.1] at q; exact q
  have C0 := CHr.refl HC0
  have hS0 : s.Since s.vm h0.size := (State.WarmedH.refl s).since h0.size
  obtain ⟨TG, hTG, hT2⟩ : ∃ P : State → Prop, (∀ t, P t → Steps p.tables e below (s₁.setTop (entryFrame m #[(.int p0), (.int p1), (.int p2), (.int p3), (.long q4)] maxLocals)) t) ∧ (∀ t, Steps p.tables e below (s₁.setTop (entryFrame m #[(.int p0), (.int p1), (.int p2), (.int p3), (.long q4)] maxLocals)) t → P t) := ⟨_, fun t k => k, fun t k => k⟩
  have pre0 : ∀ t, Sx p e below s₁ m 0 #[xvi p0, xvi p1, xvi p2, xvi p3, xvj q4, xse, xun, xun, xun, xun, xun, xun, xun, xun] [] t → TG t := fun t k => hT2 t (castTop (ef_rm0 m p0 p1 p2 p3 q4 ) k)
  obtain ⟨_, _, ⟨T505, L505, k505, n505⟩, -, X505, ⟨Lc505, hQ505, l505, y505, z505⟩, st505⟩ := Jvm.LawKit.callS X0 hx (y := (⟨"com/example/nishana/nishana/ResponseIsRedirectPinLaw", "pickStatus", "(II)I"⟩ : MethodName)) hown (mvT hZ (w_0 hw)) (mvT hZ (w_1 hw)) (mvT hZ (w_2 hw)) (mvT hZ (w_3 hw)) (by decide) (backOf (W := 0) (rmPS l Z a0 hw G ST [] p1 p0 h0 n0 X00 ) hZ (w_3 hw) (w_2 hw) (by decide) (by decide)) (g := (mkF m 2 #[xvi p0, xvi p1, xvi p2, xvi p3, xvj q4, xse, xun, xun, xun, xun, xun, xun, xun, xun] [xwi p0, xwi p1])) rfl (by rw [hml]; rfl) (argsL := [(.int p1), (.int p0)]) (rest := []) (lenOf pd_7 rfl) rfl (by show 2 * 0 + _ ≤ _; exact Nat.le_of_eq rfl) (hb hby at_2) (fun _ _ => ⟨rfl, e0, (by decide : 0 + 0 ≤ _), (by decide : 0 + 0 ≤ _)⟩)
  dsimp only [Pt.U, Pt.locs, Pt.cells, Pt.slots] at X505 l505 y505 z505 st505 hQ505
  subst l505 y505 z505
  obtain ⟨o506, rfl, N505q, e505⟩ := hQ505
  have N505 := Fr.app N0 N505q
  obtain ⟨_, _, ⟨T507, L507, k507, n507⟩, -, X507, hS507, g507, ⟨Lc507, hQ507, l507, y507, z507, CH507⟩, st507⟩ := callSS X505 hx (y := (⟨"com/example/nishana/nishana/ResponseIsRedirectPinLaw", "pickLocation", "(I)Ljava/lang/String;"⟩ : MethodName)) hown (mvT hZ (w_4 hw)) (mvT hZ (w_5 hw)) (mvT hZ (w_2 hw)) (mvT hZ (w_6 hw)) (by decide) (backOfSH (W := 0) (rmPL l Z a0 hw G ST [] p2 h0 n0 X00 ) hZ (w_6 hw) (w_2 hw) (by decide) (by decide) (own_EW hw) C0.1) (g := (mkF m 8 #[xvi p0, xvi p1, xvi p2, xvi p3, xvj q4, xse, xvi o506, xun, xun, xun, xun, xun, xun, xun] [xwi p2])) rfl (by rw [hml]; rfl) (argsL := [(.int p2)]) (rest := []) (lenOf pd_8 rfl) rfl (by show 2 * 0 + _ ≤ _; exact Nat.le_of_eq rfl) (hb hby at_8) (fun _ _ => ⟨rfl, e505, (by decide : 0 + 4 ≤ _), (by decide : 0 + 8 ≤ _)⟩)
  dsimp only [Pt.U, Pt.locs, Pt.cells, Pt.slots] at X507 l507 y507 z507 st507 hQ507 CH507 hS507 g507
  subst l507 y507 z507
  obtain ⟨hp507, e507⟩ : ∃ z, T507.heap = z := ⟨_, rfl⟩
  rw [e507] at hQ507 CH507 hS507 g507
  rw [e505] at g507
  obtain ⟨X507, hS507, hZ507, hown507⟩ := rebS hS0 (Nat.le_refl _) X507 hS507 g507 hZ hown
  obtain ⟨o508, rfl, N507q, K507, p509⟩ := hQ507
  have N507 := Fr.app N505 N507q
  have C510 := C0.trans CH507
  have c511 : ∀ t, Sx p e below T507 m 13 #[xvi p0, xvi p1, xvi p2, xvi p3, xvj q4, xse, xvi o506, .val o508, xun, xun, xun, xun, xun, xun] [] t → TG t := fun t k => pre0 t (by
    refine y_iloadN X0 hx 1 (hb hby at_0) rfl rfl ?_
    refine y_iloadN X0 hx 2 (hb hby at_1) rfl rfl ?_
    refine st505 _ ?_
    show Sx p e below T505 m 5 #[xvi p0, xvi p1, xvi p2, xvi p3, xvj q4, xse, xun, xun, xun, xun, xun, xun, xun, xun] [xwi o506] _
    refine XS.istore X505.here hx rfl (hb hby at_5) rfl (l' := #[xvi p0, xvi p1, xvi p2, xvi p3, xvj q4, xse, xvi o506, xun, xun, xun, xun, xun, xun, xun]) rfl ?_
    show Sx p e below T505 m 7 #[xvi p0, xvi p1, xvi p2, xvi p3, xvj q4, xse, xvi o506, xun, xun, xun, xun, xun, xun, xun] [] _
    refine y_iloadN X505 hx 8 (hb hby at_7) rfl rfl ?_
    refine st507.trans ?_
    show Sx p e below T507 m 11 #[xvi p0, xvi p1, xvi p2, xvi p3, xvj q4, xse, xvi o506, xun, xun, xun, xun, xun, xun, xun] [o508] _
    refine XS.astore X507.here hx rfl (hb hby at_11) rfl p509 (l' := #[xvi p0, xvi p1, xvi p2, xvi p3, xvj q4, xse, xvi o506, .val o508, xun, xun, xun, xun, xun, xun]) (XS.store1 rfl (Or.inl rfl) (XT.cat1 p509)) ?_
    exact k)
  have j512 : ∃ (T' : State) (h' : Heap) (locs' : List Loc) (vm' : Vm) (k' : Nat) (vx : Value), Stand p l e room_1 (s.setVm vm') m #[(.int p0), (.int p1), (.int p2), (.int p3), (.long q4)] below meth c T' locs' 6 13 ∧ T'.heap = h' ∧ Fr n0 locs' ∧ Keep hp507 h' [] ∧ Z.Warmed39 (s.setVm vm').vm ∧ (s.setVm vm').vm.findClass "com/example/nishana/nishana/ResponseIsRedirectPinLaw" = some m.cls ∧ s.Since vm' k' ∧ k' ≤ h'.size ∧ CHr Z EL T507.vm hp507 vm' h' ∧ vx.isRef = true ∧ ∀ t, Sx p e below T' m 34 #[xvi p0, xvi p1, xvi p2, xvi p3, xvj q4, xse, xvi o506, .val o508, xun, xun, xun, xun, xun, xun] [vx] t → TG t := by
    have c513 : ∀ t, Sx p e below T507 m 16 #[xvi p0, xvi p1, xvi p2, xvi p3, xvj q4, xse, xvi o506, .val o508, xun, xun, xun, xun, xun, xun] [xwi (p3 &&& (1 : Int32))] t → TG t := fun t k => c511 t (by
      refine y_iloadN X507 hx 14 (hb hby at_13) rfl rfl ?_
      refine y_iconst X507 hx (1 : Int32) 15 (hb hby at_14) rfl rfl ?_
      refine y_iand X507 hx 16 (hb hby at_15) rfl ?_
      exact k)
    by_cases hc514 : (p3 &&& (1 : Int32)) = (0 : Int32)
    · have Ol515 : Old Z n0 hp507 := (X00.keep K507 all0)
      obtain ⟨_, _, ⟨T516, L516, k516, n516⟩, -, X516, ⟨Lc516, hQ516, l516, y516, z516⟩, st516⟩ := Jvm.LawKit.callS X507 hx (y := (⟨"java/lang/String", "valueOf", "(C)Ljava/lang/String;"⟩ : MethodName)) hown507 (mvT hZ507 (w_7 hw)) (mvT hZ507 (w_8 hw)) (mvT hZ507 (w_9 hw)) (mvT hZ507 (w_10 hw)) (by decide) (backOf (W := 0) (rmVO l Z a0 hw G ST [] (((p3.toUInt32 >>> ((1 : Int32) &&& 31).toUInt32).toInt32) &&& (255 : Int32)) hp507 n0 Ol515 (own_c255 ((p3.toUInt32 >>> ((1 : Int32) &&& 31).toUInt32).toInt32)).2) hZ507 (w_10 hw) (w_9 hw) (by decide) (by decide)) (g := (mkF m 31 #[xvi p0, xvi p1, xvi p2, xvi p3, xvj q4, xse, xvi o506, .val o508, xun, xun, xun, xun, xun, xun] [xwi (((p3.toUInt32 >>> ((1 : Int32) &&& 31).toUInt32).toInt32) &&& (255 : Int32))])) rfl (by rw [hml]; rfl) (argsL := [(.int (((p3.toUInt32 >>> ((1 : Int32) &&& 31).toUInt32).toInt32) &&& (255 : Int32)))]) (rest := []) (lenOf pd_6 rfl) rfl (by show 2 * 0 + _ ≤ _; exact Nat.le_of_eq rfl) (hb hby at_31) (fun _ _ => ⟨rfl, e507, (by decide : 4 + 2 ≤ _), (by decide : 8 + 5 ≤ _)⟩)
      dsimp only [Pt.U, Pt.locs, Pt.cells, Pt.slots] at X516 l516 y516 z516 st516 hQ516
      subst l516 y516 z516
      obtain ⟨hp516, e516⟩ : ∃ z, T516.heap = z := ⟨_, rfl⟩
      rw [e516] at hQ516
      obtain ⟨o517, o518, o519, rfl, N516q, K516, p520, p521, p522, p523, p524, p525⟩ := hQ516
      have N516 := Fr.app N507 N516q
      have ch527 := CHr.keep K516 sf0 C510.1
      have C526 := C510.trans ch527
      refine ⟨T516, hp516, _, T507.vm, _, (.ref o517), own_wid X516 (by decide : 6 ≤ 6) (by decide : 13 ≤ 13), e516, N516, ((Keep.refl hp507 []).trans K516 all0), hZ507, hown507, hS507, K516.1, ch527, rfl, fun t k => c513 t ?_⟩
      refine y_ifYes X507 hx 23 (hb hby at_16) (XT.i0_eq_t hc514) (by decide) (by decide) ?_
      refine y_iloadN X507 hx 24 (hb hby at_23) rfl rfl ?_
      refine y_iconst X507 hx (1 : Int32) 25 (hb hby at_24) rfl rfl ?_
      refine XS.iushr X507.here hx rfl (hb hby at_25) rfl ?_
      show Sx p e below T507 m 26 #[xvi p0, xvi p1, xvi p2, xvi p3, xvj q4, xse, xvi o506, .val o508, xun, xun, xun, xun, xun, xun] [xwi ((p3.toUInt32 >>> ((1 : Int32) &&& 31).toUInt32).toInt32)] _
      refine y_sipush X507 hx (255 : Int32) 29 (hb hby at_26) rfl rfl ?_
      refine y_iand X507 hx 30 (hb hby at_29) rfl ?_
      refine XS.i2c X507.here hx rfl (hb hby at_30) rfl ?_
      show Sx p e below T507 m 31 #[xvi p0, xvi p1, xvi p2, xvi p3, xvj q4, xse, xvi o506, .val o508, xun, xun, xun, xun, xun, xun] [xwi ((((p3.toUInt32 >>> ((1 : Int32) &&& 31).toUInt32).toInt32) &&& (255 : Int32)).toUInt32.toUInt16.toUInt32.toInt32)] _
      rw [own_i2c ((p3.toUInt32 >>> ((1 : Int32) &&& 31).toUInt32).toInt32)]
      refine st516 _ ?_
      show Sx p e below T516 m 34 #[xvi p0, xvi p1, xvi p2, xvi p3, xvj q4, xse, xvi o506, .val o508, xun, xun, xun, xun, xun, xun] [xwr o517] _
      exact k
    · refine ⟨T507, hp507, _, T507.vm, _, .null, own_wid X507 (by decide : 4 ≤ 6) (by decide : 8 ≤ 13), e507, N507, (Keep.refl hp507 []), hZ507, hown507, hS507, (Nat.le_refl _), (CHr.refl C510.1), rfl, fun t k => c513 t ?_⟩
      refine y_ifNo X507 hx 19 (hb hby at_16) (XT.i0_eq_f hc514) rfl ?_
      refine y_aconst_null X507 hx 20 (hb hby at_19) rfl ?_
      refine y_goto X507 hx 34 (hb hby at_20) (by decide) (by decide) ?_
      exact k
  obtain ⟨T512, h512, locs512, vm512, kk512, o528, X512, e512, N512, K512, hZ512, hown512, hS512, hk512, CH512, p529, c512⟩ := j512
  have C530 := C510.trans CH512
  have c531 : ∀ t, Sx p e below T512 m 39 #[xvi p0, xvi p1, xvi p2, xvi p3, xvj q4, xse, xvi o506, .val o508, .val o528, .val .null, xun, xun, xun, xun] [] t → TG t := fun t k => c512 t (by
    refine XS.astore X512.here hx rfl (hb hby at_34) rfl p529 (l' := #[xvi p0, xvi p1, xvi p2, xvi p3, xvj q4, xse, xvi o506, .val o508, .val o528, xun, xun, xun, xun, xun]) (XS.store1 rfl (Or.inl rfl) (XT.cat1 p529)) ?_
    show Sx p e below T512 m 36 #[xvi p0, xvi p1, xvi p2, xvi p3, xvj q4, xse, xvi o506, .val o508, .val o528, xun, xun, xun, xun, xun] [] _
    refine y_aconst_null X512 hx 37 (hb hby at_36) rfl ?_
    refine XS.astore X512.here hx rfl (hb hby at_37) rfl rfl (l' := #[xvi p0, xvi p1, xvi p2, xvi p3, xvj q4, xse, xvi o506, .val o508, .val o528, .val .null, xun, xun, xun, xun]) (XS.store1 rfl (Or.inl rfl) rfl) ?_
    exact k)
  have j532 : ∃ (T' : State) (h' : Heap) (locs' : List Loc) (vm' : Vm) (k' : Nat) (vx : Value), Stand p l e room_1 (s.setVm vm') m #[(.int p0), (.int p1), (.int p2), (.int p3), (.long q4)] below meth c T' locs' 7 14 ∧ T'.heap = h' ∧ Fr n0 locs' ∧ Keep h512 h' [] ∧ Z.Warmed39 (s.setVm vm').vm ∧ (s.setVm vm').vm.findClass "com/example/nishana/nishana/ResponseIsRedirectPinLaw" = some m.cls ∧ s.Since vm' k' ∧ k' ≤ h'.size ∧ CHr Z EL vm512 h512 vm' h' ∧ vx.isRef = true ∧ ∀ t, Sx p e below T' m 61 #[xvi p0, xvi p1, xvi p2, xvi p3, xvj q4, xse, xvi o506, .val o508, .val o528, .val vx, xun, xun, xun, xun] [] t → TG t := by
    have c533 : ∀ t, Sx p e below T512 m 44 #[xvi p0, xvi p1, xvi p2, xvi p3, xvj q4, xse, xvi o506, .val o508, .val o528, .val .null, xun, xun, xun, xun] [xwi (p3 &&& (512 : Int32))] t → TG t := fun t k => c531 t (by
      refine y_iloadN X512 hx 40 (hb hby at_39) rfl rfl ?_
      refine y_sipush X512 hx (512 : Int32) 43 (hb hby at_40) rfl rfl ?_
      refine y_iand X512 hx 44 (hb hby at_43) rfl ?_
      exact k)
    by_cases hc534 : (p3 &&& (512 : Int32)) = (0 : Int32)
    · obtain ⟨T535, h535, k535, X535, e535, E535, A535, st535⟩ := newP (aty := .byte) X512 hx hZ512 (w_21 hw) e512 (g := (mkF m 48 #[xvi p0, xvi p1, xvi p2, xvi p3, xvj q4, xse, xvi o506, .val o508, .val o528, .val .null, xun, xun, xun, xun] [xwi (1 : Int32)])) rfl (hb hby at_48) rfl (by decide) (cap := 1) (by decide) (by decide) (by decide) (by decide)
      obtain ⟨b535, g535⟩ : ∃ z, z = h512.size := ⟨_, rfl⟩
      rw [← g535] at A535 st535
      have ch537 := CHr.ext E535 C530.1
      have C536 := C530.trans ch537
      have V535 : Arv Z h535 b535 k535 .byte (1 : Int32) [(.int (0 : Int32))] (.int (0 : Int32)) := (Arv.new A535 (by decide)).pad (pad_rep [] (.int (0 : Int32)) 1)
      obtain ⟨cl538, Ar538, q538, S538, M538, H538, G538⟩ := id V535
      have in538 : ¬ ((0 : Int32) < 0 ∨ cl538.slots.size ≤ ((0 : Int32)).toNatClampNeg) := inb_of S538 ⟨by decide, by decide⟩
      obtain ⟨T539, h539, X539, e539, W539, st539⟩ := stB X535 hx hZ512 e535 Ar538 (j := (0 : Int32)) in538 (g := (mkF m 60 #[xvi p0, xvi p1, xvi p2, xvi p3, xvj q4, xse, xvi o506, .val o508, .val o528, xvr b535, xun, xun, xun, xun] [xwi (((p3.toUInt32 >>> ((10 : Int32) &&& 31).toUInt32).toInt32).toInt8.toInt32), xwi (0 : Int32), xwr b535])) rfl rfl (hb hby at_60)
      have sf542 := (Safe.ext E535 C530.1 (Safe.new (Nat.le_of_eq g535.symm)))
      have ch541 := CHr.wr W539 sf542 C536.1
      have C540 := C536.trans ch541
      have V539 : Arv Z h539 b535 k535 .byte (1 : Int32) [(.int (((p3.toUInt32 >>> ((10 : Int32) &&& 31).toUInt32).toInt32).toInt8.toInt32))] (.int (0 : Int32)) := by have q := Arv.set Ar538 q538 S538 M538 H538 G538 (fits_nar_byte _) W539 0 rfl (Nat.le_of_ble_eq_true rfl); rw [own_nb] at q; exact q
      have N539 := Fr.snoc X539 N512 (Nat.le_trans Z0 (Nat.le_trans (Nat.le_trans K507.1 K512.1) (Nat.le_of_eq g535.symm)))
      refine ⟨T539, h539, _, vm512, _, (.ref b535), own_wid X539 (by decide : 7 ≤ 7) (by decide : 14 ≤ 14), e539, N539, (((Keep.refl h512 []).ext E535).wr W539 (Or.inr (Nat.le_trans (Nat.le_refl _) (Nat.le_of_eq g535.symm)))), hZ512, hown512, hS512, (Nat.le_trans hk512 (Nat.le_trans E535.1 (Nat.le_of_eq W539.size.symm))), (ch537.trans ch541), rfl, fun t k => c533 t ?_⟩
      refine y_ifNo X512 hx 47 (hb hby at_44) (XT.i0_ne_f hc534) rfl ?_
      refine y_iconst X512 hx (1 : Int32) 48 (hb hby at_47) rfl rfl ?_
      refine st535 _ ?_
      show Sx p e below T535 m 50 #[xvi p0, xvi p1, xvi p2, xvi p3, xvj q4, xse, xvi o506, .val o508, .val o528, .val .null, xun, xun, xun, xun] [xwr b535] _
      refine XS.astore X535.here hx rfl (hb hby at_50) rfl rfl (l' := #[xvi p0, xvi p1, xvi p2, xvi p3, xvj q4, xse, xvi o506, .val o508, .val o528, xvr b535, xun, xun, xun, xun]) (XS.store1 rfl (Or.inr ⟨_, rfl, rfl⟩) rfl) ?_
      show Sx p e below T535 m 52 #[xvi p0, xvi p1, xvi p2, xvi p3, xvj q4, xse, xvi o506, .val o508, .val o528, xvr b535, xun, xun, xun, xun] [] _
      refine y_aload X535 hx 54 (hb hby at_52) rfl rfl rfl ?_
      refine y_iconst X535 hx (0 : Int32) 55 (hb hby at_54) rfl rfl ?_
      refine y_iloadN X535 hx 56 (hb hby at_55) rfl rfl ?_
      refine y_bipush X535 hx (10 : Int32) 58 (hb hby at_56) rfl rfl ?_
      refine XS.iushr X535.here hx rfl (hb hby at_58) rfl ?_
      show Sx p e below T535 m 59 #[xvi p0, xvi p1, xvi p2, xvi p3, xvj q4, xse, xvi o506, .val o508, .val o528, xvr b535, xun, xun, xun, xun] [xwi ((p3.toUInt32 >>> ((10 : Int32) &&& 31).toUInt32).toInt32), xwi (0 : Int32), xwr b535] _
      refine XS.i2b X535.here hx rfl (hb hby at_59) rfl ?_
      show Sx p e below T535 m 60 #[xvi p0, xvi p1, xvi p2, xvi p3, xvj q4, xse, xvi o506, .val o508, .val o528, xvr b535, xun, xun, xun, xun] [xwi (((p3.toUInt32 >>> ((10 : Int32) &&& 31).toUInt32).toInt32).toInt8.toInt32), xwi (0 : Int32), xwr b535] _
      refine st539 _ ?_
      show Sx p e below T539 m 61 #[xvi p0, xvi p1, xvi p2, xvi p3, xvj q4, xse, xvi o506, .val o508, .val o528, xvr b535, xun, xun, xun, xun] [] _
      exact k
    · refine ⟨T512, h512, _, vm512, _, .null, own_wid X512 (by decide : 6 ≤ 7) (by decide : 13 ≤ 14), e512, N512, (Keep.refl h512 []), hZ512, hown512, hS512, hk512, (CHr.refl C530.1), rfl, fun t k => c533 t ?_⟩
      refine y_ifYes X512 hx 61 (hb hby at_44) (XT.i0_ne_t hc534) (by decide) (by decide) ?_
      exact k
  obtain ⟨T532, h532, locs532, vm532, kk532, o543, X532, e532, N532, K532, hZ532, hown532, hS532, hk532, CH532, p544, c532⟩ := j532
  have C545 := C530.trans CH532
  obtain ⟨T546, h546, X546, e546, E546, A546, D546, -, st546⟩ := newO X532 hx hZ532 hown532 (w_33 hw) (w_34 hw) (w_35 hw) e532 (g := (mkF m 61 #[xvi p0, xvi p1, xvi p2, xvi p3, xvj q4, xse, xvi o506, .val o508, .val o528, .val o543, xun, xun, xun, xun] [])) rfl (hb hby at_61) (by decide) (by decide)
  obtain ⟨b546, g546⟩ : ∃ z, z = h532.size := ⟨_, rfl⟩
  rw [← g546] at A546 D546 st546
  have ch548 := CHr.ext E546 C545.1
  have C547 := C545.trans ch548
  have Fb546_status : Fld Z h546 b546 "com/example/nishana/nishana/Response" "status" "I" (.int (0 : Int32)) := D546 (Or.inr (w_44 hw)) (ty := .int) (by decide)
  have Fb546_contentType : Fld Z h546 b546 "com/example/nishana/nishana/Response" "contentType" "Ljava/lang/String;" .null := D546 (Or.inr (w_46 hw)) (ty := (.object "java/lang/String")) (by decide)
  have Fb546_location : Fld Z h546 b546 "com/example/nishana/nishana/Response" "location" "Ljava/lang/String;" .null := D546 (Or.inr (w_48 hw)) (ty := (.object "java/lang/String")) (by decide)
  have Fb546_body : Fld Z h546 b546 "com/example/nishana/nishana/Response" "body" "[B" .null := D546 (Or.inr (w_50 hw)) (ty := (.array .byte)) (by decide)
  have Fb546_bytes : Fld Z h546 b546 "com/example/nishana/nishana/Response" "bytes" "J" (.long (0 : Int64)) := D546 (Or.inr (w_52 hw)) (ty := .long) (by decide)
  have Fb546_transcript : Fld Z h546 b546 "com/example/nishana/nishana/Response" "transcript" "Lcom/example/nishana/nishana/Transcript;" .null := D546 (Or.inr (w_54 hw)) (ty := (.object "com/example/nishana/nishana/Transcript")) (by decide)
  have Ol549 : Old Z n0 h546 := ((((X00.keep K507 all0).keep K512 all0).keep K532 all0).ext E546)
  obtain ⟨_, _, ⟨T550, L550, k550, n550⟩, -, X550, ⟨Lc550, hQ550, l550, y550, z550⟩, st550⟩ := X546.specialBack hx (y := (⟨"com/example/nishana/nishana/Response", "<init>", "(ILjava/lang/String;Ljava/lang/String;[BJ)V"⟩ : MethodName)) rfl hown532 (mvT hZ532 (w_36 hw)) (mvT hZ532 (w_37 hw)) (mvT hZ532 (w_38 hw)) (by decide) (backOf (W := 1) (rmR5 l Z a0 hw G ST [] b546 o506 o528 o508 o543 q4 (.int (0 : Int32)) .null .null .null (.long (0 : Int64)) .null h546 n0 Ol549 p529 p509 p544 A546 Fb546_status Fb546_contentType Fb546_location Fb546_body Fb546_bytes Fb546_transcript (Nat.le_trans Z0 (Nat.le_trans (Nat.le_trans (Nat.le_trans K507.1 K512.1) K532.1) (Nat.le_of_eq g546.symm)))) hZ532 (w_38 hw) (w_35 hw) (by decide) (by decide)) (g := (mkF m 75 #[xvi p0, xvi p1, xvi p2, xvi p3, xvj q4, xse, xvi o506, .val o508, .val o528, .val o543, xun, xun, xun, xun] [xwj q4, o543, o508, o528, xwi o506, xwr b546, xwr b546])) rfl (by rw [hml]; rfl) (Steps.refl _) (a := b546) (argsL := [(.int o506), o528, o508, o543, (.long q4)]) (rest := [(.ref b546)]) (lenOf pd_9 rfl) rfl (by show 2 * 0 + _ ≤ _; exact Nat.le_of_eq rfl) (hb hby at_75) (fun _ _ => ⟨rfl, e546, (by decide : 8 + 0 ≤ _), (by decide : 20 + 0 ≤ _)⟩)
  dsimp only [Pt.U, Pt.locs, Pt.cells, Pt.slots] at X550 l550 y550 z550 st550 hQ550
  subst l550 y550 z550
  obtain ⟨hp550, e550⟩ : ∃ z, T550.heap = z := ⟨_, rfl⟩
  rw [e550] at hQ550
  obtain ⟨rfl, N550q, K550, p551, p552, p553⟩ := hQ550
  have N550 := Fr.app N532 N550q
  have ch555 := CHr.keep K550 (sfS (Safe.exa hZ532.alike A546 (by decide) (by decide)) sf0) C547.1
  have C554 := C547.trans ch555
  have c556 : ∀ t, Sx p e below T550 m 93 #[xvi p0, xvi p1, xvi p2, xvi p3, xvj q4, xse, xvi o506, .val o508, .val o528, .val o543, xvr b546, xvj ((o506.toInt64) - (300 : Int64)), xse, xun] [(.int (XT.cmpL ((o506.toInt64) - (300 : Int64)) (0 : Int64)))] t → TG t := fun t k => c532 t (by
    refine st546 _ ?_
    show Sx p e below T546 m 64 #[xvi p0, xvi p1, xvi p2, xvi p3, xvj q4, xse, xvi o506, .val o508, .val o528, .val o543, xun, xun, xun, xun] [xwr b546] _
    refine y_dup X546 hx 65 (hb hby at_64) rfl rfl ?_
    refine y_iload X546 hx 67 (hb hby at_65) rfl rfl ?_
    refine y_aload X546 hx 69 (hb hby at_67) rfl p529 rfl ?_
    refine y_aload X546 hx 71 (hb hby at_69) rfl p509 rfl ?_
    refine y_aload X546 hx 73 (hb hby at_71) rfl p544 rfl ?_
    refine y_lload X546 hx 75 (hb hby at_73) rfl rfl ?_
    refine st550.trans ?_
    show Sx p e below T550 m 78 #[xvi p0, xvi p1, xvi p2, xvi p3, xvj q4, xse, xvi o506, .val o508, .val o528, .val o543, xun, xun, xun, xun] [xwr b546] _
    refine XS.astore X550.here hx rfl (hb hby at_78) rfl rfl (l' := #[xvi p0, xvi p1, xvi p2, xvi p3, xvj q4, xse, xvi o506, .val o508, .val o528, .val o543, xvr b546, xun, xun, xun]) (XS.store1 rfl (Or.inl rfl) rfl) ?_
    show Sx p e below T550 m 80 #[xvi p0, xvi p1, xvi p2, xvi p3, xvj q4, xse, xvi o506, .val o508, .val o528, .val o543, xvr b546, xun, xun, xun] [] _
    refine y_iload X550 hx 82 (hb hby at_80) rfl rfl ?_
    refine XS.i2l X550.here hx rfl (hb hby at_82) rfl ?_
    show Sx p e below T550 m 83 #[xvi p0, xvi p1, xvi p2, xvi p3, xvj q4, xse, xvi o506, .val o508, .val o528, .val o543, xvr b546, xun, xun, xun] [xwj (o506.toInt64)] _
    refine X550.ldc2Long hx hown532 (mvT hZ532 (w_55 hw)) (g := (mkF m 83 #[xvi p0, xvi p1, xvi p2, xvi p3, xvj q4, xse, xvi o506, .val o508, .val o528, .val o543, xvr b546, xun, xun, xun] [xwj (o506.toInt64)])) rfl (hb hby at_83) _ ?_
    show Sx p e below T550 m 86 #[xvi p0, xvi p1, xvi p2, xvi p3, xvj q4, xse, xvi o506, .val o508, .val o528, .val o543, xvr b546, xun, xun, xun] [xwj (300 : Int64), xwj (o506.toInt64)] _
    refine y_lsub X550 hx 87 (hb hby at_86) rfl ?_
    refine XS.lstore X550.here hx rfl (hb hby at_87) rfl (l' := #[xvi p0, xvi p1, xvi p2, xvi p3, xvj q4, xse, xvi o506, .val o508, .val o528, .val o543, xvr b546, xvj ((o506.toInt64) - (300 : Int64)), xse, xun]) rfl ?_
    show Sx p e below T550 m 89 #[xvi p0, xvi p1, xvi p2, xvi p3, xvj q4, xse, xvi o506, .val o508, .val o528, .val o543, xvr b546, xvj ((o506.toInt64) - (300 : Int64)), xse, xun] [] _
    refine y_lload X550 hx 91 (hb hby at_89) rfl rfl ?_
    refine XS.lconst X550.here hx rfl (hb hby at_91) ?_
    show Sx p e below T550 m 92 #[xvi p0, xvi p1, xvi p2, xvi p3, xvj q4, xse, xvi o506, .val o508, .val o528, .val o543, xvr b546, xvj ((o506.toInt64) - (300 : Int64)), xse, xun] [xwj (0 : Int64), xwj ((o506.toInt64) - (300 : Int64))] _
    refine XT.lcmp X550.here hx rfl (hb hby at_92) rfl ?_
    exact k)
  by_cases hc557 : ((o506.toInt64) - (300 : Int64)) < (0 : Int64)
  · have Ol558 : Old Z n0 hp550 := (Ol549.keep K550 (allS (Nat.le_trans Z0 (Nat.le_trans (Nat.le_trans (Nat.le_trans K507.1 K512.1) K532.1) (Nat.le_of_eq g546.symm))) all0))
    obtain ⟨cq560, kq560, q560a, q560b, q560c⟩ := isOf hZ532 e550 p551
    obtain ⟨_, _, ⟨T559, L559, k559, n559⟩, -, X559, ⟨Lc559, hQ559, l559, y559, z559⟩, st559⟩ := X550.virtualBack hx (y := (⟨"com/example/nishana/nishana/Response", "isRedirect", "()Z"⟩ : MethodName)) (z := (⟨"com/example/nishana/nishana/Response", "isRedirect", "()Z"⟩ : MethodName)) hown532 (mvT hZ532 (w_57 hw)) (mvT hZ532 (w_58 hw)) (notFace_of_selects (args := #[]) (mvT hZ532 (w_60 hw))) (mvT hZ532 (w_60 hw)) (mvT hZ532 (w_59 hw)) (by decide) (backOf (W := 0) (rmRd l Z a0 hw G ST [] b546 o506 o508 hp550 n0 Ol558 (by assumption) p552 p553) hZ532 (w_61 hw) (w_35 hw) (by decide) (by decide)) q560a q560c (g := (mkF m 119 #[xvi p0, xvi p1, xvi p2, xvi p3, xvj q4, xse, xvi o506, .val o508, .val o528, .val o543, xvr b546, xvj ((o506.toInt64) - (300 : Int64)), xse, xvi (0 : Int32)] [xwr b546])) rfl (by rw [hml]; rfl) (Steps.refl _) (argsL := []) (rest := []) (lenOf pd_10 rfl) rfl (by show 2 * 0 + _ ≤ _; exact Nat.le_of_eq rfl) (hb hby at_119) (fun _ _ => ⟨rfl, e550, (by decide : 8 + 0 ≤ _), (by decide : 20 + 0 ≤ _)⟩)
    dsimp only [Pt.U, Pt.locs, Pt.cells, Pt.slots] at X559 l559 y559 z559 st559 hQ559
    subst l559 y559 z559
    obtain ⟨o561, rfl, N559q, e559, p562⟩ := hQ559
    have N559 := Fr.app N550 N559q
    have er : o561 = 0 := by rcases p562 with q | q; exact absurd hc557 (own_d1 _ q.2.1); exact q.1
    obtain ⟨fs, hr, hrun, hended, hE⟩ := X559.leaveW hS532 (by rw [e559]; exact (Nat.le_trans hk532 (Nat.le_trans E546.1 K550.1))) (v := some (.int (1 : Int32))) (fun h => by rw [Bd.returns] at h; cases h)
    refine ⟨_, _, hTG _ (c556 _ ?_), hrun, hended, _, _, rfl, ?_, ?_, hE.1, hE.2.1, hE.2.2.1, hE.2.2.2.mono (by decide) (by decide)⟩
    · refine y_ifYes X550 hx 114 (hb hby at_93) (XT.ll_lt_t hc557) (by decide) (by decide) ?_
      refine y_iconst X550 hx (0 : Int32) 115 (hb hby at_114) rfl rfl ?_
      refine XS.istore X550.here hx rfl (hb hby at_115) rfl (l' := #[xvi p0, xvi p1, xvi p2, xvi p3, xvj q4, xse, xvi o506, .val o508, .val o528, .val o543, xvr b546, xvj ((o506.toInt64) - (300 : Int64)), xse, xvi (0 : Int32)]) (XS.store1 rfl (Or.inl rfl) rfl) ?_
      show Sx p e below T550 m 117 #[xvi p0, xvi p1, xvi p2, xvi p3, xvj q4, xse, xvi o506, .val o508, .val o528, .val o543, xvr b546, xvj ((o506.toInt64) - (300 : Int64)), xse, xvi (0 : Int32)] [] _
      refine y_aload X550 hx 119 (hb hby at_117) rfl rfl rfl ?_
      refine st559.trans ?_
      show Sx p e below T559 m 122 #[xvi p0, xvi p1, xvi p2, xvi p3, xvj q4, xse, xvi o506, .val o508, .val o528, .val o543, xvr b546, xvj ((o506.toInt64) - (300 : Int64)), xse, xvi (0 : Int32)] [xwi o561] _
      refine y_iload X559 hx 124 (hb hby at_122) rfl rfl ?_
      refine y_icmpNo X559 hx 127 (hb hby at_124) (XT.ii_ne_f er) rfl ?_
      refine y_iconst X559 hx (1 : Int32) 128 (hb hby at_127) rfl rfl ?_
      refine y_goto X559 hx 132 (hb hby at_128) (by decide) (by decide) ?_
      show Sx p e below T559 m 132 #[xvi p0, xvi p1, xvi p2, xvi p3, xvj q4, xse, xvi o506, .val o508, .val o528, .val o543, xvr b546, xvj ((o506.toInt64) - (300 : Int64)), xse, xvi (0 : Int32)] [xwi (1 : Int32)] _
      exact retN X559 hx (t := .boolean) Bd.returns (by simp) (hb hby at_132) (hr)
    · show Qrm0 Z G p0 p1 p2 p3 q4 h0 n0 _ T559.heap _
      rw [e559]
      exact ⟨rfl, N559, ((((((Keep.refl h0 []).trans K507 all0).trans K512 all0).trans K532 all0).ext E546).trans K550 (allS (Or.inr (Nat.le_trans (Nat.le_trans (Nat.le_trans K507.1 K512.1) K532.1) (Nat.le_of_eq g546.symm))) all0))⟩
    · rw [hh]; show CHr Z EL s.vm h0 T559.vm T559.heap; rw [e559]; exact C554.trans (CHv.at X559 hZ532 (own_EW hw) C554.1)
  · have c563 : ∀ t, Sx p e below T550 m 102 #[xvi p0, xvi p1, xvi p2, xvi p3, xvj q4, xse, xvi o506, .val o508, .val o528, .val o543, xvr b546, xvj ((o506.toInt64) - (300 : Int64)), xse, xun] [(.int (XT.cmpL ((o506.toInt64) - (300 : Int64)) (100 : Int64)))] t → TG t := fun t k => c556 t (by
      refine y_ifNo X550 hx 96 (hb hby at_93) (XT.ll_lt_f hc557) rfl ?_
      refine y_lload X550 hx 98 (hb hby at_96) rfl rfl ?_
      refine X550.ldc2Long hx hown532 (mvT hZ532 (w_56 hw)) (g := (mkF m 98 #[xvi p0, xvi p1, xvi p2, xvi p3, xvj q4, xse, xvi o506, .val o508, .val o528, .val o543, xvr b546, xvj ((o506.toInt64) - (300 : Int64)), xse, xun] [xwj ((o506.toInt64) - (300 : Int64))])) rfl (hb hby at_98) _ ?_
      show Sx p e below T550 m 101 #[xvi p0, xvi p1, xvi p2, xvi p3, xvj q4, xse, xvi o506, .val o508, .val o528, .val o543, xvr b546, xvj ((o506.toInt64) - (300 : Int64)), xse, xun] [xwj (100 : Int64), xwj ((o506.toInt64) - (300 : Int64))] _
      refine XT.lcmp X550.here hx rfl (hb hby at_101) rfl ?_
      exact k)
    by_cases hc564 : ((o506.toInt64) - (300 : Int64)) < (100 : Int64)
    · have c565 : ∀ t, Sx p e below T550 m 107 #[xvi p0, xvi p1, xvi p2, xvi p3, xvj q4, xse, xvi o506, .val o508, .val o528, .val o543, xvr b546, xvj ((o506.toInt64) - (300 : Int64)), xse, xun] [o508] t → TG t := fun t k => c563 t (by
        refine y_ifNo X550 hx 105 (hb hby at_102) (XT.ll_ge_f hc564) rfl ?_
        refine y_aload X550 hx 107 (hb hby at_105) rfl p509 rfl ?_
        exact k)
      by_cases hc566 : o508 = .null
      · have Ol567 : Old Z n0 hp550 := (Ol549.keep K550 (allS (Nat.le_trans Z0 (Nat.le_trans (Nat.le_trans (Nat.le_trans K507.1 K512.1) K532.1) (Nat.le_of_eq g546.symm))) all0))
        obtain ⟨cq569, kq569, q569a, q569b, q569c⟩ := isOf hZ532 e550 p551
        obtain ⟨_, _, ⟨T568, L568, k568, n568⟩, -, X568, ⟨Lc568, hQ568, l568, y568, z568⟩, st568⟩ := X550.virtualBack hx (y := (⟨"com/example/nishana/nishana/Response", "isRedirect", "()Z"⟩ : MethodName)) (z := (⟨"com/example/nishana/nishana/Response", "isRedirect", "()Z"⟩ : MethodName)) hown532 (mvT hZ532 (w_57 hw)) (mvT hZ532 (w_58 hw)) (notFace_of_selects (args := #[]) (mvT hZ532 (w_60 hw))) (mvT hZ532 (w_60 hw)) (mvT hZ532 (w_59 hw)) (by decide) (backOf (W := 0) (rmRd l Z a0 hw G ST [] b546 o506 o508 hp550 n0 Ol567 (by assumption) p552 p553) hZ532 (w_61 hw) (w_35 hw) (by decide) (by decide)) q569a q569c (g := (mkF m 119 #[xvi p0, xvi p1, xvi p2, xvi p3, xvj q4, xse, xvi o506, .val o508, .val o528, .val o543, xvr b546, xvj ((o506.toInt64) - (300 : Int64)), xse, xvi (0 : Int32)] [xwr b546])) rfl (by rw [hml]; rfl) (Steps.refl _) (argsL := []) (rest := []) (lenOf pd_10 rfl) rfl (by show 2 * 0 + _ ≤ _; exact Nat.le_of_eq rfl) (hb hby at_119) (fun _ _ => ⟨rfl, e550, (by decide : 8 + 0 ≤ _), (by decide : 20 + 0 ≤ _)⟩)
        dsimp only [Pt.U, Pt.locs, Pt.cells, Pt.slots] at X568 l568 y568 z568 st568 hQ568
        subst l568 y568 z568
        obtain ⟨o570, rfl, N568q, e568, p571⟩ := hQ568
        have N568 := Fr.app N550 N568q
        have er : o570 = 0 := by rcases p571 with q | q; exact absurd hc566 q.2.2.2; exact q.1
        obtain ⟨fs, hr, hrun, hended, hE⟩ := X568.leaveW hS532 (by rw [e568]; exact (Nat.le_trans hk532 (Nat.le_trans E546.1 K550.1))) (v := some (.int (1 : Int32))) (fun h => by rw [Bd.returns] at h; cases h)
        refine ⟨_, _, hTG _ (c565 _ ?_), hrun, hended, _, _, rfl, ?_, ?_, hE.1, hE.2.1, hE.2.2.1, hE.2.2.2.mono (by decide) (by decide)⟩
        · refine XT.nullYes X550.here hx rfl (pc0 := 107) (pc' := 114) rfl (hb hby at_107) rfl hc566 (by decide) (by decide) ?_
          show Sx p e below T550 m 114 #[xvi p0, xvi p1, xvi p2, xvi p3, xvj q4, xse, xvi o506, .val o508, .val o528, .val o543, xvr b546, xvj ((o506.toInt64) - (300 : Int64)), xse, xun] [] _
          refine y_iconst X550 hx (0 : Int32) 115 (hb hby at_114) rfl rfl ?_
          refine XS.istore X550.here hx rfl (hb hby at_115) rfl (l' := #[xvi p0, xvi p1, xvi p2, xvi p3, xvj q4, xse, xvi o506, .val o508, .val o528, .val o543, xvr b546, xvj ((o506.toInt64) - (300 : Int64)), xse, xvi (0 : Int32)]) (XS.store1 rfl (Or.inl rfl) rfl) ?_
          show Sx p e below T550 m 117 #[xvi p0, xvi p1, xvi p2, xvi p3, xvj q4, xse, xvi o506, .val o508, .val o528, .val o543, xvr b546, xvj ((o506.toInt64) - (300 : Int64)), xse, xvi (0 : Int32)] [] _
          refine y_aload X550 hx 119 (hb hby at_117) rfl rfl rfl ?_
          refine st568.trans ?_
          show Sx p e below T568 m 122 #[xvi p0, xvi p1, xvi p2, xvi p3, xvj q4, xse, xvi o506, .val o508, .val o528, .val o543, xvr b546, xvj ((o506.toInt64) - (300 : Int64)), xse, xvi (0 : Int32)] [xwi o570] _
          refine y_iload X568 hx 124 (hb hby at_122) rfl rfl ?_
          refine y_icmpNo X568 hx 127 (hb hby at_124) (XT.ii_ne_f er) rfl ?_
          refine y_iconst X568 hx (1 : Int32) 128 (hb hby at_127) rfl rfl ?_
          refine y_goto X568 hx 132 (hb hby at_128) (by decide) (by decide) ?_
          show Sx p e below T568 m 132 #[xvi p0, xvi p1, xvi p2, xvi p3, xvj q4, xse, xvi o506, .val o508, .val o528, .val o543, xvr b546, xvj ((o506.toInt64) - (300 : Int64)), xse, xvi (0 : Int32)] [xwi (1 : Int32)] _
          exact retN X568 hx (t := .boolean) Bd.returns (by simp) (hb hby at_132) (hr)
        · show Qrm0 Z G p0 p1 p2 p3 q4 h0 n0 _ T568.heap _
          rw [e568]
          exact ⟨rfl, N568, ((((((Keep.refl h0 []).trans K507 all0).trans K512 all0).trans K532 all0).ext E546).trans K550 (allS (Or.inr (Nat.le_trans (Nat.le_trans (Nat.le_trans K507.1 K512.1) K532.1) (Nat.le_of_eq g546.symm))) all0))⟩
        · rw [hh]; show CHr Z EL s.vm h0 T568.vm T568.heap; rw [e568]; exact C554.trans (CHv.at X568 hZ532 (own_EW hw) C554.1)
      · have Ol572 : Old Z n0 hp550 := (Ol549.keep K550 (allS (Nat.le_trans Z0 (Nat.le_trans (Nat.le_trans (Nat.le_trans K507.1 K512.1) K532.1) (Nat.le_of_eq g546.symm))) all0))
        obtain ⟨cq574, kq574, q574a, q574b, q574c⟩ := isOf hZ532 e550 p551
        obtain ⟨_, _, ⟨T573, L573, k573, n573⟩, -, X573, ⟨Lc573, hQ573, l573, y573, z573⟩, st573⟩ := X550.virtualBack hx (y := (⟨"com/example/nishana/nishana/Response", "isRedirect", "()Z"⟩ : MethodName)) (z := (⟨"com/example/nishana/nishana/Response", "isRedirect", "()Z"⟩ : MethodName)) hown532 (mvT hZ532 (w_57 hw)) (mvT hZ532 (w_58 hw)) (notFace_of_selects (args := #[]) (mvT hZ532 (w_60 hw))) (mvT hZ532 (w_60 hw)) (mvT hZ532 (w_59 hw)) (by decide) (backOf (W := 0) (rmRd l Z a0 hw G ST [] b546 o506 o508 hp550 n0 Ol572 (by assumption) p552 p553) hZ532 (w_61 hw) (w_35 hw) (by decide) (by decide)) q574a q574c (g := (mkF m 119 #[xvi p0, xvi p1, xvi p2, xvi p3, xvj q4, xse, xvi o506, .val o508, .val o528, .val o543, xvr b546, xvj ((o506.toInt64) - (300 : Int64)), xse, xvi (1 : Int32)] [xwr b546])) rfl (by rw [hml]; rfl) (Steps.refl _) (argsL := []) (rest := []) (lenOf pd_10 rfl) rfl (by show 2 * 0 + _ ≤ _; exact Nat.le_of_eq rfl) (hb hby at_119) (fun _ _ => ⟨rfl, e550, (by decide : 8 + 0 ≤ _), (by decide : 20 + 0 ≤ _)⟩)
        dsimp only [Pt.U, Pt.locs, Pt.cells, Pt.slots] at X573 l573 y573 z573 st573 hQ573
        subst l573 y573 z573
        obtain ⟨o575, rfl, N573q, e573, p576⟩ := hQ573
        have N573 := Fr.app N550 N573q
        have er : o575 = 1 := by rcases p576 with q | q; exact q.1; exact absurd ⟨(own_d _ hc557 hc564).1, (own_d _ hc557 hc564).2, hc566⟩ q.2
        obtain ⟨fs, hr, hrun, hended, hE⟩ := X573.leaveW hS532 (by rw [e573]; exact (Nat.le_trans hk532 (Nat.le_trans E546.1 K550.1))) (v := some (.int (1 : Int32))) (fun h => by rw [Bd.returns] at h; cases h)
        refine ⟨_, _, hTG _ (c565 _ ?_), hrun, hended, _, _, rfl, ?_, ?_, hE.1, hE.2.1, hE.2.2.1, hE.2.2.2.mono (by decide) (by decide)⟩
        · refine XT.nullNo X550.here hx rfl (hb hby at_107) rfl p509 hc566 ?_
          show Sx p e below T550 m 110 #[xvi p0, xvi p1, xvi p2, xvi p3, xvj q4, xse, xvi o506, .val o508, .val o528, .val o543, xvr b546, xvj ((o506.toInt64) - (300 : Int64)), xse, xun] [] _
          refine y_iconst X550 hx (1 : Int32) 111 (hb hby at_110) rfl rfl ?_
          refine y_goto X550 hx 115 (hb hby at_111) (by decide) (by decide) ?_
          refine XS.istore X550.here hx rfl (hb hby at_115) rfl (l' := #[xvi p0, xvi p1, xvi p2, xvi p3, xvj q4, xse, xvi o506, .val o508, .val o528, .val o543, xvr b546, xvj ((o506.toInt64) - (300 : Int64)), xse, xvi (1 : Int32)]) (XS.store1 rfl (Or.inl rfl) rfl) ?_
          show Sx p e below T550 m 117 #[xvi p0, xvi p1, xvi p2, xvi p3, xvj q4, xse, xvi o506, .val o508, .val o528, .val o543, xvr b546, xvj ((o506.toInt64) - (300 : Int64)), xse, xvi (1 : Int32)] [] _
          refine y_aload X550 hx 119 (hb hby at_117) rfl rfl rfl ?_
          refine st573.trans ?_
          show Sx p e below T573 m 122 #[xvi p0, xvi p1, xvi p2, xvi p3, xvj q4, xse, xvi o506, .val o508, .val o528, .val o543, xvr b546, xvj ((o506.toInt64) - (300 : Int64)), xse, xvi (1 : Int32)] [xwi o575] _
          refine y_iload X573 hx 124 (hb hby at_122) rfl rfl ?_
          refine y_icmpNo X573 hx 127 (hb hby at_124) (XT.ii_ne_f er) rfl ?_
          refine y_iconst X573 hx (1 : Int32) 128 (hb hby at_127) rfl rfl ?_
          refine y_goto X573 hx 132 (hb hby at_128) (by decide) (by decide) ?_
          show Sx p e below T573 m 132 #[xvi p0, xvi p1, xvi p2, xvi p3, xvj q4, xse, xvi o506, .val o508, .val o528, .val o543, xvr b546, xvj ((o506.toInt64) - (300 : Int64)), xse, xvi (1 : Int32)] [xwi (1 : Int32)] _
          exact retN X573 hx (t := .boolean) Bd.returns (by simp) (hb hby at_132) (hr)
        · show Qrm0 Z G p0 p1 p2 p3 q4 h0 n0 _ T573.heap _
          rw [e573]
          exact ⟨rfl, N573, ((((((Keep.refl h0 []).trans K507 all0).trans K512 all0).trans K532 all0).ext E546).trans K550 (allS (Or.inr (Nat.le_trans (Nat.le_trans (Nat.le_trans K507.1 K512.1) K532.1) (Nat.le_of_eq g546.symm))) all0))⟩
        · rw [hh]; show CHr Z EL s.vm h0 T573.vm T573.heap; rw [e573]; exact C554.trans (CHv.at X573 hZ532 (own_EW hw) C554.1)
    · have Ol577 : Old Z n0 hp550 := (Ol549.keep K550 (allS (Nat.le_trans Z0 (Nat.le_trans (Nat.le_trans (Nat.le_trans K507.1 K512.1) K532.1) (Nat.le_of_eq g546.symm))) all0))
      obtain ⟨cq579, kq579, q579a, q579b, q579c⟩ := isOf hZ532 e550 p551
      obtain ⟨_, _, ⟨T578, L578, k578, n578⟩, -, X578, ⟨Lc578, hQ578, l578, y578, z578⟩, st578⟩ := X550.virtualBack hx (y := (⟨"com/example/nishana/nishana/Response", "isRedirect", "()Z"⟩ : MethodName)) (z := (⟨"com/example/nishana/nishana/Response", "isRedirect", "()Z"⟩ : MethodName)) hown532 (mvT hZ532 (w_57 hw)) (mvT hZ532 (w_58 hw)) (notFace_of_selects (args := #[]) (mvT hZ532 (w_60 hw))) (mvT hZ532 (w_60 hw)) (mvT hZ532 (w_59 hw)) (by decide) (backOf (W := 0) (rmRd l Z a0 hw G ST [] b546 o506 o508 hp550 n0 Ol577 (by assumption) p552 p553) hZ532 (w_61 hw) (w_35 hw) (by decide) (by decide)) q579a q579c (g := (mkF m 119 #[xvi p0, xvi p1, xvi p2, xvi p3, xvj q4, xse, xvi o506, .val o508, .val o528, .val o543, xvr b546, xvj ((o506.toInt64) - (300 : Int64)), xse, xvi (0 : Int32)] [xwr b546])) rfl (by rw [hml]; rfl) (Steps.refl _) (argsL := []) (rest := []) (lenOf pd_10 rfl) rfl (by show 2 * 0 + _ ≤ _; exact Nat.le_of_eq rfl) (hb hby at_119) (fun _ _ => ⟨rfl, e550, (by decide : 8 + 0 ≤ _), (by decide : 20 + 0 ≤ _)⟩)
      dsimp only [Pt.U, Pt.locs, Pt.cells, Pt.slots] at X578 l578 y578 z578 st578 hQ578
      subst l578 y578 z578
      obtain ⟨o580, rfl, N578q, e578, p581⟩ := hQ578
      have N578 := Fr.app N550 N578q
      have er : o580 = 0 := by rcases p581 with q | q; exact absurd (own_d2 _ q.2.2.1) hc564; exact q.1
      obtain ⟨fs, hr, hrun, hended, hE⟩ := X578.leaveW hS532 (by rw [e578]; exact (Nat.le_trans hk532 (Nat.le_trans E546.1 K550.1))) (v := some (.int (1 : Int32))) (fun h => by rw [Bd.returns] at h; cases h)
      refine ⟨_, _, hTG _ (c563 _ ?_), hrun, hended, _, _, rfl, ?_, ?_, hE.1, hE.2.1, hE.2.2.1, hE.2.2.2.mono (by decide) (by decide)⟩
      · refine y_ifYes X550 hx 114 (hb hby at_102) (XT.ll_ge_t hc564) (by decide) (by decide) ?_
        refine y_iconst X550 hx (0 : Int32) 115 (hb hby at_114) rfl rfl ?_
        refine XS.istore X550.here hx rfl (hb hby at_115) rfl (l' := #[xvi p0, xvi p1, xvi p2, xvi p3, xvj q4, xse, xvi o506, .val o508, .val o528, .val o543, xvr b546, xvj ((o506.toInt64) - (300 : Int64)), xse, xvi (0 : Int32)]) (XS.store1 rfl (Or.inl rfl) rfl) ?_
        show Sx p e below T550 m 117 #[xvi p0, xvi p1, xvi p2, xvi p3, xvj q4, xse, xvi o506, .val o508, .val o528, .val o543, xvr b546, xvj ((o506.toInt64) - (300 : Int64)), xse, xvi (0 : Int32)] [] _
        refine y_aload X550 hx 119 (hb hby at_117) rfl rfl rfl ?_
        refine st578.trans ?_
        show Sx p e below T578 m 122 #[xvi p0, xvi p1, xvi p2, xvi p3, xvj q4, xse, xvi o506, .val o508, .val o528, .val o543, xvr b546, xvj ((o506.toInt64) - (300 : Int64)), xse, xvi (0 : Int32)] [xwi o580] _
        refine y_iload X578 hx 124 (hb hby at_122) rfl rfl ?_
        refine y_icmpNo X578 hx 127 (hb hby at_124) (XT.ii_ne_f er) rfl ?_
        refine y_iconst X578 hx (1 : Int32) 128 (hb hby at_127) rfl rfl ?_
        refine y_goto X578 hx 132 (hb hby at_128) (by decide) (by decide) ?_
        show Sx p e below T578 m 132 #[xvi p0, xvi p1, xvi p2, xvi p3, xvj q4, xse, xvi o506, .val o508, .val o528, .val o543, xvr b546, xvj ((o506.toInt64) - (300 : Int64)), xse, xvi (0 : Int32)] [xwi (1 : Int32)] _
        exact retN X578 hx (t := .boolean) Bd.returns (by simp) (hb hby at_132) (hr)
      · show Qrm0 Z G p0 p1 p2 p3 q4 h0 n0 _ T578.heap _
        rw [e578]
        exact ⟨rfl, N578, ((((((Keep.refl h0 []).trans K507 all0).trans K512 all0).trans K532 all0).ext E546).trans K550 (allS (Or.inr (Nat.le_trans (Nat.le_trans (Nat.le_trans K507.1 K512.1) K532.1) (Nat.le_of_eq g546.symm))) all0))⟩
      · rw [hh]; show CHr Z EL s.vm h0 T578.vm T578.heap; rw [e578]; exact C554.trans (CHv.at X578 hZ532 (own_EW hw) C554.1)
set_option maxRecDepth 65536 in
set_option maxHeartbeats 40000000 in
theorem comes_1 {Post : Tables → Env → Array Value → State → Outcome → State → Prop} (hpost : ∀ tb e args s v u, (limb_1_1.after args s (.returned v) u = true ∧ limb_1_2.after args s (.returned v) u = true ∧ True) → ReturnedEndW s (.returned v) u (Jvm.fieldLocs frame_1_writes args s ++ Jvm.arrayLocs frame_1_arrays args s ++ Jvm.staticLocs frame_1_statics s) 24 1152 → Post tb e args s (.returned v) u) :
    ArmFor flags0 classFile x code maxLocals ret World_1 tables_1 room_1 Calls_1 rest_1 Pre_1 Post := by
  intro l hfl _ _ p e ha hc hk s m args below hf hA hF happ hP
  obtain ⟨hcalls, hrest, hpre⟩ := hP
  obtain ⟨-, -, -, hnamed, -, -, -, hat⟩ := (Spec.applies_iff hf).mp happ
  obtain ⟨hg, hn⟩ := and_e (Cond.before_iff.mp (show (Jvm.Cond.and given_1 narrow_1).before args s = true from hpre))
  obtain ⟨hcnt, hg⟩ := and_e hg
  obtain ⟨w0, w1, w2, w3, w4, rfl⟩ : ∃ w0 w1 w2 w3 w4 : Value, args = #[w0, w1, w2, w3, w4] := by
    have hs : args.size = 5 := by simpa [Cond.value, given_1] using hcnt
    obtain ⟨L⟩ := args
    match L, hs with
    | [w0, w1, w2, w3, w4], _ => exact ⟨w0, w1, w2, w3, w4, rfl⟩
  have hw := fun d (hd : d ∈ tables_1) => atoms_spec (ws := Jvm.Cond.code x code maxLocals ret :: tables_1) hat d (List.mem_cons_of_mem _ hd)
  have hfit : Fit s := fun {y c} hc i hi => by
    obtain ⟨ha, rfl⟩ := Array.getElem?_eq_some_iff.mp hc
    have q := List.all_eq_true.mp ((Array.all_eq_true_iff_forall_mem.mp hF) _ (Array.getElem_mem ha)) i (List.mem_range.mpr hi)
    simpa [Array.getElem?_eq_getElem hi] using q
  obtain ⟨hsets, hown0⟩ := atoms_of _ (rest_1_c_eq ▸ (show rest_1_c.before _ s = true from hrest))
  obtain ⟨ga0, gb0⟩ := and_e hg
  obtain ⟨i0, ei0⟩ := is_v ga0
  obtain rfl : w0 = (.int i0) := Option.some.inj ei0
  obtain ⟨ga1, gb1⟩ := and_e gb0
  obtain ⟨i1, ei1⟩ := is_v ga1
  obtain rfl : w1 = (.int i1) := Option.some.inj ei1
  obtain ⟨ga2, gb2⟩ := and_e gb1
  obtain ⟨i2, ei2⟩ := is_v ga2
  obtain rfl : w2 = (.int i2) := Option.some.inj ei2
  obtain ⟨ga3, gb3⟩ := and_e gb2
  obtain ⟨i3, ei3⟩ := is_v ga3
  obtain rfl : w3 = (.int i3) := Option.some.inj ei3
  obtain ⟨i4, ei4⟩ := isL_v gb3
  obtain rfl : w4 = (.long i4) := Option.some.inj ei4
  obtain ⟨z1, ez1⟩ := is_v (Cond.before_iff.mp (hsets _ (List.mem_of_getElem? (i := 1) rfl)))
  have O1 : Sta s s.heap "java/lang/String" "COMPACT_STRINGS" "Z" (.int z1) := Sta.start ez1 (Or.inl (hsets _ (List.mem_of_getElem? (i := 0) rfl)))
  have P1 : ¬ z1 = (0 : Int32) := gotF (Cond.eq_ints ez1 (Term.int_eval (0))) (not_v (Cond.before_iff.mp (hsets _ (List.mem_of_getElem? (i := 2) rfl))))
  obtain ⟨G0, eG⟩ : ∃ g : Gs, g = z1 := ⟨_, rfl⟩
  have ST0 : StartF s G0 := by rw [eG]; exact ⟨O1, P1⟩
  have HC : CHv s EL s.vm s.heap := CHv.start (own_EW hw) (fun p hp => hcalls.1 p hp) (hsets _ (List.mem_of_getElem? (i := 2) rfl)) (w_21 hw) (w_17 hw)
  obtain ⟨n, o, h1, h2, h3, _, L, rfl, ⟨rfl, N, -⟩, -, hq⟩ := rm0 l s _ hw G0 ST0 tables_1 i0 i1 i2 i3 i4 s.heap s.heap.size (Old.start s) p e ha hc hk s m _ below hf ((Spec.applies_iff_loose hf).mp happ).1 ⟨rfl, State.Warmed39.refl s, rfl, HC⟩ trivial
  refine ⟨n, _, h1, h2, h3, hpost _ _ _ _ _ _ ⟨Cond.after_iff.mpr rfl, Cond.after_iff.mpr (eq_i res_at (Term.int_eval (1)) rfl), trivial⟩ ⟨hq.1, hq.2.1, hq.2.2.1, (hq.2.2.2.sift fun y hy => Or.inr (N y hy)).mono (by decide) (by decide)⟩⟩
theorem main_1_1 : Claimed_1_1 := comes_1 fun _ _ _ _ _ _ h hF => ⟨h.1, hF⟩
theorem main_1_2 : Claimed_1_2 := comes_1 fun _ _ _ _ _ _ h hF => ⟨h.2.1, hF⟩
end Jvm.Pilot.@@N@@
namespace Jvm.Pilot.@@N@@
open Jvm Jvm.ClassFile Sem Op Lib Jvm.Free Jvm.Stand Jvm.Pilot.@@N@@.Jvm.D
/-! MADE BY PROGRAM (witnessworld.py) out of the Statement's table words and the real class files: 20 classes; the members and pool entries that the words name. The judged class is class 1, her method 3. -/
namespace start1
open Jvm.ClassFile
def u (s : String) : CpInfo := .utf8 (stringToUtf16 s)
/-- a pool by its gaps: so many unusable entries, then the entry; so many at the end -/
def gap : Nat → List CpInfo → List CpInfo
  | 0, r => r
  | n + 1, r => .unusable :: gap n r
def poolList (es : List (Nat × CpInfo)) (last : Nat) : List CpInfo := es.foldr (fun e r => gap e.1 (e.2 :: r)) (gap last [])
def pool (es : List (Nat × CpInfo)) (last : Nat) : Array CpInfo := ⟨poolList es last⟩
def fileOf (pool : Array CpInfo) (this : Nat) (attrs : Array Attribute := #[]) (ms : Array MethodInfo := #[]) (fl : Nat := 33) (sup : Nat := 0) (ifs : Array Nat := #[]) (fds : Array FieldInfo := #[]) : ClassFile where
  minorVersion := 0
  majorVersion := 65
  constantPool := pool
  accessFlags := fl
  thisClass := this
  superClass := sup
  interfaces := ifs
  fields := fds
  methods := ms
  attributes := attrs
def plain (name : String) (sup : Option ClassId) : Class where
  name := name
  kind := .ordinary
  loader := none
  accessFlags := 33
  super := sup
  interfaces := #[]
  cf := none
  fields := #[]
  methods := #[]
  instanceTypes := #[]
  staticTypes := #[]
  resolved := #[]
  callSites := []
  init := .initialized
  statics := none
  mirror := none

def pool0 : Array CpInfo := pool [(5, u "<init>"), (0, u "()V"), (1, .class_ 10), (1, u "java/lang/Object")] 113

def k0c0 : Code := { maxStack := 0, maxLocals := 1, code := object_method_1_code, exceptionTable := #[], attributes := #[] }
def k0m0 : Method := { name := "<init>", desc := "()V", sig := { parameters := [], returnType := none }, accessFlags := 1, code := some k0c0 }
/-- java/lang/Object -/
def k0 : Class := { plain "java/lang/Object" none with
  accessFlags := 33
  interfaces := #[]
  cf := some (fileOf pool0 8 #[] #[{ accessFlags := 1, nameIndex := 5, descriptorIndex := 6, attributes := #[] }] 33 0 #[] #[])
  fields := #[]
  methods := #[k0m0]
  instanceTypes := #[]
  staticTypes := #[]
  resolved := Array.replicate 124 none
  statics := none }

def pool1 : Array CpInfo := pool [(2, .class_ 4), (1, u "java/lang/Object"), (0, u "<init>"), (0, u "()V"), (0, .integer 2147483647), (0, .class_ 9), (0, u "java/lang/String"), (0, .methodref 8 11), (0, .nameAndType 5 12), (0, u "([C)V"), (0, .methodref 8 14), (0, .nameAndType 15 16), (0, u "valueOf"), (0, u "(C)Ljava/lang/String;"), (0, .methodref 18 19), (0, .class_ 20), (0, .nameAndType 21 22), (0, u "com/example/nishana/nishana/ResponseIsRedirectPinLaw"), (0, u "pickStatus"), (0, u "(II)I"), (0, .methodref 18 24), (0, .nameAndType 25 26), (0, u "pickLocation"), (0, u "(I)Ljava/lang/String;"), (0, .class_ 28), (0, u "com/example/nishana/nishana/Response"), (0, .methodref 27 30), (0, .nameAndType 5 31), (0, u "(ILjava/lang/String;Ljava/lang/String;[BJ)V"), (0, .long 300), (1, .long 100), (1, .methodref 27 37), (0, .nameAndType 38 39), (0, u "isRedirect"), (0, u "()Z"), (3, u "law"), (0, u "(IIIIJ)Z")] 4

def k1m0 : Method := { name := "<init>", desc := "()V", sig := { parameters := [], returnType := none }, accessFlags := 1, code := none }
def k1c1 : Code := { maxStack := 3, maxLocals := 3, code := method_2_code, exceptionTable := #[], attributes := #[] }
def k1m1 : Method := { name := "pickStatus", desc := "(II)I", sig := { parameters := [.int, .int], returnType := some .int }, accessFlags := 10, code := some k1c1 }
def k1c2 : Code := { maxStack := 3, maxLocals := 5, code := method_3_code, exceptionTable := #[], attributes := #[] }
def k1m2 : Method := { name := "pickLocation", desc := "(I)Ljava/lang/String;", sig := { parameters := [.int], returnType := some (.object "java/lang/String") }, accessFlags := 10, code := some k1c2 }
def k1c3 : Code := { maxStack := 8, maxLocals := 14, code := code, exceptionTable := #[], attributes := #[] }
def k1m3 : Method := { name := "law", desc := "(IIIIJ)Z", sig := { parameters := [.int, .int, .int, .int, .long], returnType := some .boolean }, accessFlags := 9, code := some k1c3 }
/-- com/example/nishana/nishana/ResponseIsRedirectPinLaw -/
def k1 : Class := { plain "com/example/nishana/nishana/ResponseIsRedirectPinLaw" (some 0) with
  accessFlags := 49
  interfaces := #[]
  cf := some (fileOf pool1 18 #[] #[{ accessFlags := 1, nameIndex := 5, descriptorIndex := 6, attributes := #[] }, { accessFlags := 10, nameIndex := 21, descriptorIndex := 22, attributes := #[] }, { accessFlags := 10, nameIndex := 25, descriptorIndex := 26, attributes := #[] }, { accessFlags := 9, nameIndex := 43, descriptorIndex := 44, attributes := #[] }] 49 2 #[] #[])
  fields := #[]
  methods := #[k1m0, k1m1, k1m2, k1m3]
  instanceTypes := #[]
  staticTypes := #[]
  resolved := Array.replicate 49 none
  statics := none }

def pool2 : Array CpInfo := pool [(1, .class_ 2), (0, u "java/io/Serializable"), (0, .class_ 4), (0, u "java/lang/Object")] 2

/-- java/io/Serializable -/
def k2 : Class := { plain "java/io/Serializable" (some 0) with
  accessFlags := 1537
  interfaces := #[]
  cf := some (fileOf pool2 1 #[] #[] 1537 3 #[] #[])
  fields := #[]
  methods := #[]
  instanceTypes := #[]
  staticTypes := #[]
  resolved := Array.replicate 7 none
  statics := none }

def pool3 : Array CpInfo := pool [(1, .class_ 2), (0, u "java/lang/Comparable"), (0, .class_ 4), (0, u "java/lang/Object")] 7

/-- java/lang/Comparable -/
def k3 : Class := { plain "java/lang/Comparable" (some 0) with
  accessFlags := 1537
  interfaces := #[]
  cf := some (fileOf pool3 1 #[] #[] 1537 3 #[] #[])
  fields := #[]
  methods := #[]
  instanceTypes := #[]
  staticTypes := #[]
  resolved := Array.replicate 12 none
  statics := none }

def pool4 : Array CpInfo := pool [(2, .class_ 4), (1, u "java/lang/CharSequence"), (42, .class_ 48), (0, u "java/lang/CharSequence$1CodePointIterator"), (10, .class_ 60), (0, u "java/lang/CharSequence$1CharIterator"), (5, .class_ 67), (0, u "java/lang/Object")] 63

/-- java/lang/CharSequence -/
def k4 : Class := { plain "java/lang/CharSequence" (some 0) with
  accessFlags := 1537
  interfaces := #[]
  cf := some (fileOf pool4 2 #[.nestMembers #[47, 59]] #[] 1537 66 #[] #[])
  fields := #[]
  methods := #[]
  instanceTypes := #[]
  staticTypes := #[]
  resolved := Array.replicate 131 none
  statics := none }

def pool5 : Array CpInfo := pool [(1, .class_ 2), (0, u "java/lang/constant/Constable"), (0, .class_ 4), (0, u "java/lang/Object")] 6

/-- java/lang/constant/Constable -/
def k5 : Class := { plain "java/lang/constant/Constable" (some 0) with
  accessFlags := 1537
  interfaces := #[]
  cf := some (fileOf pool5 1 #[] #[] 1537 3 #[] #[])
  fields := #[]
  methods := #[]
  instanceTypes := #[]
  staticTypes := #[]
  resolved := Array.replicate 11 none
  statics := none }

def pool6 : Array CpInfo := pool [(1, .class_ 2), (0, u "java/lang/constant/ConstantDesc"), (0, .class_ 4), (0, u "java/lang/Object")] 32

/-- java/lang/constant/ConstantDesc -/
def k6 : Class := { plain "java/lang/constant/ConstantDesc" (some 0) with
  accessFlags := 1537
  interfaces := #[]
  cf := some (fileOf pool6 1 #[] #[] 1537 3 #[] #[])
  fields := #[]
  methods := #[]
  instanceTypes := #[]
  staticTypes := #[]
  resolved := Array.replicate 37 none
  statics := none }

def pool7 : Array CpInfo := pool [(1, .methodref 2 3), (0, .class_ 4), (0, .nameAndType 5 6), (0, u "java/lang/Object"), (0, u "<init>"), (0, u "()V"), (0, .string 8), (0, u ""), (0, .fieldref 10 11), (0, .class_ 12), (0, .nameAndType 13 14), (0, u "java/lang/String"), (0, u "value"), (0, u "[B"), (0, .fieldref 10 16), (0, .nameAndType 17 18), (0, u "coder"), (0, u "B"), (2, u "hash"), (0, u "I"), (2, u "hashIsZero"), (0, u "Z"), (0, .methodref 10 28), (0, .nameAndType 5 29), (0, u "([CIILjava/lang/Void;)V"), (8, .fieldref 10 39), (0, .nameAndType 40 26), (0, u "COMPACT_STRINGS"), (1, .class_ 44), (1, u "java/lang/StringUTF16"), (0, u "compress"), (1, .methodref 42 48), (0, .nameAndType 49 50), (0, u "coderFromArrayLen"), (0, u "([BI)B"), (2, u "toBytes"), (53, .class_ 109), (1, u "java/lang/StringLatin1"), (67, .methodref 42 178), (0, .nameAndType 45 179), (0, u "([CII)[B"), (29, .methodref 10 210), (0, .nameAndType 5 211), (0, u "([BB)V"), (157, u "(C)Z"), (205, .class_ 576), (0, u "java/lang/CharSequence"), (22, u "CASE_INSENSITIVE_ORDER"), (0, u "Ljava/util/Comparator;"), (181, u "valueOf"), (0, u "(C)Ljava/lang/String;"), (226, u "([C)V"), (4, .methodref 107 1016), (0, .nameAndType 1017 369), (0, u "canEncode"), (0, .methodref 107 1019), (0, .nameAndType 53 1020), (0, u "(C)[B"), (80, u "serialPersistentFields"), (0, u "[Ljava/io/ObjectStreamField;"), (0, .class_ 1104), (0, u "java/lang/String$CaseInsensitiveComparator"), (1, .class_ 1107), (0, u "java/io/Serializable"), (0, .class_ 1109), (0, u "java/lang/Comparable"), (0, .class_ 1111), (0, u "java/lang/constant/Constable"), (0, .class_ 1113), (0, u "java/lang/constant/ConstantDesc"), (2, u "serialVersionUID"), (0, u "J"), (3, u "REPL"), (0, u "C"), (2, u "LATIN1"), (1, u "UTF16")] 323

def k7m0 : Method := { name := "<init>", desc := "()V", sig := { parameters := [], returnType := none }, accessFlags := 1, code := none }
def k7c1 : Code := { maxStack := 5, maxLocals := 2, code := jdk_42_method_3_code, exceptionTable := #[], attributes := #[] }
def k7m1 : Method := { name := "<init>", desc := "([C)V", sig := { parameters := [(.array .char)], returnType := none }, accessFlags := 1, code := some k7c1 }
def k7c2 : Code := { maxStack := 4, maxLocals := 1, code := jdk_42_method_139_code, exceptionTable := #[], attributes := #[] }
def k7m2 : Method := { name := "valueOf", desc := "(C)Ljava/lang/String;", sig := { parameters := [.char], returnType := some (.object "java/lang/String") }, accessFlags := 9, code := some k7c2 }
def k7c3 : Code := { maxStack := 4, maxLocals := 6, code := jdk_42_method_149_code, exceptionTable := #[], attributes := #[] }
def k7m3 : Method := { name := "<init>", desc := "([CIILjava/lang/Void;)V", sig := { parameters := [(.array .char), .int, .int, (.object "java/lang/Void")], returnType := none }, accessFlags := 2, code := some k7c3 }
def k7c4 : Code := { maxStack := 2, maxLocals := 3, code := jdk_42_method_151_code, exceptionTable := #[], attributes := #[] }
def k7m4 : Method := { name := "<init>", desc := "([BB)V", sig := { parameters := [(.array .byte), .byte], returnType := none }, accessFlags := 0, code := some k7c4 }
/-- java/lang/String -/
def k7 : Class := { plain "java/lang/String" (some 0) with
  accessFlags := 49
  interfaces := #[2, 3, 4, 5, 6]
  cf := some (fileOf pool7 10 #[.nestMembers #[1103]] #[{ accessFlags := 1, nameIndex := 5, descriptorIndex := 6, attributes := #[] }, { accessFlags := 1, nameIndex := 5, descriptorIndex := 1010, attributes := #[] }, { accessFlags := 9, nameIndex := 782, descriptorIndex := 783, attributes := #[] }, { accessFlags := 2, nameIndex := 5, descriptorIndex := 29, attributes := #[] }, { accessFlags := 0, nameIndex := 5, descriptorIndex := 211, attributes := #[] }] 49 2 #[1106, 1108, 575, 1110, 1112] #[{ accessFlags := 18, nameIndex := 13, descriptorIndex := 14, attributes := #[] }, { accessFlags := 18, nameIndex := 17, descriptorIndex := 18, attributes := #[] }, { accessFlags := 2, nameIndex := 21, descriptorIndex := 22, attributes := #[] }, { accessFlags := 2, nameIndex := 25, descriptorIndex := 26, attributes := #[] }, { accessFlags := 26, nameIndex := 1116, descriptorIndex := 1117, attributes := #[] }, { accessFlags := 24, nameIndex := 40, descriptorIndex := 26, attributes := #[] }, { accessFlags := 26, nameIndex := 1101, descriptorIndex := 1102, attributes := #[] }, { accessFlags := 26, nameIndex := 1121, descriptorIndex := 1122, attributes := #[] }, { accessFlags := 25, nameIndex := 599, descriptorIndex := 600, attributes := #[] }, { accessFlags := 24, nameIndex := 1125, descriptorIndex := 18, attributes := #[] }, { accessFlags := 24, nameIndex := 1127, descriptorIndex := 18, attributes := #[] }])
  fields := #[{ name := "value", type := (.array .byte), accessFlags := 18, slot := 0, constantValue := 0 }, { name := "coder", type := .byte, accessFlags := 18, slot := 1, constantValue := 0 }, { name := "hash", type := .int, accessFlags := 2, slot := 2, constantValue := 0 }, { name := "hashIsZero", type := .boolean, accessFlags := 2, slot := 3, constantValue := 0 }, { name := "serialVersionUID", type := .long, accessFlags := 26, slot := 0, constantValue := 0 }, { name := "COMPACT_STRINGS", type := .boolean, accessFlags := 24, slot := 1, constantValue := 0 }, { name := "serialPersistentFields", type := (.array (.object "java/io/ObjectStreamField")), accessFlags := 26, slot := 2, constantValue := 0 }, { name := "REPL", type := .char, accessFlags := 26, slot := 3, constantValue := 0 }, { name := "CASE_INSENSITIVE_ORDER", type := (.object "java/util/Comparator"), accessFlags := 25, slot := 4, constantValue := 0 }, { name := "LATIN1", type := .byte, accessFlags := 24, slot := 5, constantValue := 0 }, { name := "UTF16", type := .byte, accessFlags := 24, slot := 6, constantValue := 0 }]
  methods := #[k7m0, k7m1, k7m2, k7m3, k7m4]
  instanceTypes := #[(.array .byte), .byte, .int, .boolean]
  staticTypes := #[.long, .boolean, (.array (.object "java/io/ObjectStreamField")), .char, (.object "java/util/Comparator"), .byte, .byte]
  resolved := Array.replicate 1451 none
  statics := some 0 }

def pool8 : Array CpInfo := pool [(4, .class_ 6), (1, u "java/lang/Object"), (0, u "<init>"), (0, u "()V"), (5, .class_ 16), (1, u "java/lang/StringLatin1"), (73, u "canEncode"), (14, u "(C)Z"), (15, u "$assertionsDisabled"), (0, u "Z"), (98, .class_ 223), (1, u "java/lang/StringLatin1$LinesSpliterator"), (156, u "toBytes"), (1, u "(C)[B"), (7, .class_ 391), (0, u "java/lang/StringLatin1$CharsSpliterator")] 3

def k8m0 : Method := { name := "<init>", desc := "()V", sig := { parameters := [], returnType := none }, accessFlags := 0, code := none }
def k8c1 : Code := { maxStack := 2, maxLocals := 1, code := jdk_43_method_3_code, exceptionTable := #[], attributes := #[] }
def k8m1 : Method := { name := "canEncode", desc := "(C)Z", sig := { parameters := [.char], returnType := some .boolean }, accessFlags := 9, code := some k8c1 }
def k8c2 : Code := { maxStack := 4, maxLocals := 1, code := jdk_43_method_46_code, exceptionTable := #[], attributes := #[] }
def k8m2 : Method := { name := "toBytes", desc := "(C)[B", sig := { parameters := [.char], returnType := some (.array .byte) }, accessFlags := 9, code := some k8c2 }
/-- java/lang/StringLatin1 -/
def k8 : Class := { plain "java/lang/StringLatin1" (some 0) with
  accessFlags := 48
  interfaces := #[]
  cf := some (fileOf pool8 14 #[.nestMembers #[390, 221]] #[{ accessFlags := 0, nameIndex := 7, descriptorIndex := 8, attributes := #[] }, { accessFlags := 9, nameIndex := 90, descriptorIndex := 105, attributes := #[] }, { accessFlags := 9, nameIndex := 380, descriptorIndex := 382, attributes := #[] }] 48 4 #[] #[{ accessFlags := 4120, nameIndex := 121, descriptorIndex := 122, attributes := #[] }])
  fields := #[{ name := "$assertionsDisabled", type := .boolean, accessFlags := 4120, slot := 0, constantValue := 0 }]
  methods := #[k8m0, k8m1, k8m2]
  instanceTypes := #[]
  staticTypes := #[.boolean]
  resolved := Array.replicate 395 none
  statics := none }

def pool9 : Array CpInfo := pool [(1, .methodref 2 3), (0, .class_ 4), (0, .nameAndType 5 6), (0, u "com/example/nishana/nishana/Response"), (0, u "<init>"), (0, u "(ILjava/lang/String;Ljava/lang/String;[BJLcom/example/nishana/nishana/Transcript;)V"), (0, .methodref 8 9), (0, .class_ 10), (0, .nameAndType 5 11), (0, u "java/lang/Object"), (0, u "()V"), (0, .fieldref 2 13), (0, .nameAndType 14 15), (0, u "status"), (0, u "I"), (0, .fieldref 2 17), (0, .nameAndType 18 19), (0, u "contentType"), (0, u "Ljava/lang/String;"), (0, .fieldref 2 21), (0, .nameAndType 22 19), (0, u "location"), (0, .fieldref 2 24), (0, .nameAndType 25 26), (0, u "body"), (0, u "[B"), (0, .fieldref 2 28), (0, .nameAndType 29 30), (0, u "bytes"), (0, u "J"), (0, .fieldref 2 32), (0, .nameAndType 33 34), (0, u "transcript"), (0, u "Lcom/example/nishana/nishana/Transcript;"), (44, u "()Z"), (10, u "(ILjava/lang/String;Ljava/lang/String;[BJ)V"), (8, u "isRedirect")] 14

def k9c0 : Code := { maxStack := 8, maxLocals := 7, code := prog_19_method_1_code, exceptionTable := #[], attributes := #[] }
def k9m0 : Method := { name := "<init>", desc := "(ILjava/lang/String;Ljava/lang/String;[BJ)V", sig := { parameters := [.int, (.object "java/lang/String"), (.object "java/lang/String"), (.array .byte), .long], returnType := none }, accessFlags := 0, code := some k9c0 }
def k9c1 : Code := { maxStack := 3, maxLocals := 8, code := prog_19_method_2_code, exceptionTable := #[], attributes := #[] }
def k9m1 : Method := { name := "<init>", desc := "(ILjava/lang/String;Ljava/lang/String;[BJLcom/example/nishana/nishana/Transcript;)V", sig := { parameters := [.int, (.object "java/lang/String"), (.object "java/lang/String"), (.array .byte), .long, (.object "com/example/nishana/nishana/Transcript")], returnType := none }, accessFlags := 0, code := some k9c1 }
def k9c2 : Code := { maxStack := 2, maxLocals := 1, code := prog_19_method_6_code, exceptionTable := #[], attributes := #[] }
def k9m2 : Method := { name := "isRedirect", desc := "()Z", sig := { parameters := [], returnType := some .boolean }, accessFlags := 0, code := some k9c2 }
/-- com/example/nishana/nishana/Response -/
def k9 : Class := { plain "com/example/nishana/nishana/Response" (some 0) with
  accessFlags := 32
  interfaces := #[]
  cf := some (fileOf pool9 2 #[] #[{ accessFlags := 0, nameIndex := 5, descriptorIndex := 90, attributes := #[] }, { accessFlags := 0, nameIndex := 5, descriptorIndex := 6, attributes := #[] }, { accessFlags := 0, nameIndex := 99, descriptorIndex := 79, attributes := #[] }] 32 8 #[] #[{ accessFlags := 18, nameIndex := 14, descriptorIndex := 15, attributes := #[] }, { accessFlags := 18, nameIndex := 18, descriptorIndex := 19, attributes := #[] }, { accessFlags := 18, nameIndex := 22, descriptorIndex := 19, attributes := #[] }, { accessFlags := 18, nameIndex := 25, descriptorIndex := 26, attributes := #[] }, { accessFlags := 18, nameIndex := 29, descriptorIndex := 30, attributes := #[] }, { accessFlags := 18, nameIndex := 33, descriptorIndex := 34, attributes := #[] }])
  fields := #[{ name := "status", type := .int, accessFlags := 18, slot := 0, constantValue := 0 }, { name := "contentType", type := (.object "java/lang/String"), accessFlags := 18, slot := 1, constantValue := 0 }, { name := "location", type := (.object "java/lang/String"), accessFlags := 18, slot := 2, constantValue := 0 }, { name := "body", type := (.array .byte), accessFlags := 18, slot := 3, constantValue := 0 }, { name := "bytes", type := .long, accessFlags := 18, slot := 4, constantValue := 0 }, { name := "transcript", type := (.object "com/example/nishana/nishana/Transcript"), accessFlags := 18, slot := 5, constantValue := 0 }]
  methods := #[k9m0, k9m1, k9m2]
  instanceTypes := #[.int, (.object "java/lang/String"), (.object "java/lang/String"), (.array .byte), .long, (.object "com/example/nishana/nishana/Transcript")]
  staticTypes := #[]
  resolved := Array.replicate 114 none
  statics := none }

def pool10 : Array CpInfo := pool [(6, .class_ 8), (1, u "java/lang/Object"), (0, u "<init>"), (0, u "()V"), (1, .class_ 14), (1, u "java/lang/StringUTF16"), (31, u "$assertionsDisabled"), (0, u "Z"), (13, u "HI_BYTE_SHIFT"), (0, u "I"), (2, u "LO_BYTE_SHIFT"), (49, .methodref 12 116), (0, .nameAndType 117 118), (0, u "compress"), (0, u "([CI[BII)I"), (3, u "([CII)[B"), (138, u "coderFromArrayLen"), (0, u "([BI)B"), (106, .class_ 371), (1, u "java/lang/StringUTF16$LinesSpliterator"), (58, u "MAX_LENGTH"), (196, .class_ 628), (0, u "java/lang/StringUTF16$CodePointsSpliterator"), (0, .class_ 630), (0, u "java/lang/StringUTF16$CharsSpliterator")] 4

def k10m0 : Method := { name := "<init>", desc := "()V", sig := { parameters := [], returnType := none }, accessFlags := 0, code := none }
def k10c1 : Code := { maxStack := 2, maxLocals := 2, code := jdk_52_method_15_code, exceptionTable := #[], attributes := #[] }
def k10m1 : Method := { name := "coderFromArrayLen", desc := "([BI)B", sig := { parameters := [(.array .byte), .int], returnType := some .byte }, accessFlags := 8, code := some k10c1 }
def k10c2 : Code := { maxStack := 5, maxLocals := 6, code := jdk_52_method_16_code, exceptionTable := #[], attributes := #[] }
def k10m2 : Method := { name := "compress", desc := "([CII)[B", sig := { parameters := [(.array .char), .int, .int], returnType := some (.array .byte) }, accessFlags := 9, code := some k10c2 }
def k10c3 : Code := { maxStack := 3, maxLocals := 7, code := jdk_52_method_21_code, exceptionTable := #[], attributes := #[] }
def k10m3 : Method := { name := "compress", desc := "([CI[BII)I", sig := { parameters := [(.array .char), .int, (.array .byte), .int, .int], returnType := some .int }, accessFlags := 9, code := some k10c3 }
/-- java/lang/StringUTF16 -/
def k10 : Class := { plain "java/lang/StringUTF16" (some 0) with
  accessFlags := 48
  interfaces := #[]
  cf := some (fileOf pool10 12 #[.nestMembers #[627, 629, 369]] #[{ accessFlags := 0, nameIndex := 9, descriptorIndex := 10, attributes := #[] }, { accessFlags := 8, nameIndex := 261, descriptorIndex := 262, attributes := #[] }, { accessFlags := 9, nameIndex := 117, descriptorIndex := 122, attributes := #[] }, { accessFlags := 9, nameIndex := 117, descriptorIndex := 118, attributes := #[] }] 48 6 #[] #[{ accessFlags := 26, nameIndex := 61, descriptorIndex := 62, attributes := #[] }, { accessFlags := 26, nameIndex := 65, descriptorIndex := 62, attributes := #[] }, { accessFlags := 24, nameIndex := 430, descriptorIndex := 62, attributes := #[] }, { accessFlags := 4120, nameIndex := 46, descriptorIndex := 47, attributes := #[] }])
  fields := #[{ name := "HI_BYTE_SHIFT", type := .int, accessFlags := 26, slot := 0, constantValue := 0 }, { name := "LO_BYTE_SHIFT", type := .int, accessFlags := 26, slot := 1, constantValue := 0 }, { name := "MAX_LENGTH", type := .int, accessFlags := 24, slot := 2, constantValue := 0 }, { name := "$assertionsDisabled", type := .boolean, accessFlags := 4120, slot := 3, constantValue := 0 }]
  methods := #[k10m0, k10m1, k10m2, k10m3]
  instanceTypes := #[]
  staticTypes := #[.int, .int, .int, .boolean]
  resolved := Array.replicate 635 none
  statics := none }

def pool11 : Array CpInfo := pool [(2, .class_ 4), (1, u "java/lang/Object"), (0, u "<init>"), (0, u "()V"), (17, .class_ 26), (1, u "jdk/internal/util/Preconditions"), (28, .class_ 56), (0, u "jdk/internal/util/Preconditions$4"), (57, .class_ 115), (0, u "jdk/internal/util/Preconditions$1"), (7, u "SIOOBE_FORMATTER"), (0, u "Ljava/util/function/BiFunction;"), (0, .class_ 126), (0, u "jdk/internal/util/Preconditions$2"), (3, u "AIOOBE_FORMATTER"), (0, .class_ 132), (0, u "jdk/internal/util/Preconditions$3"), (3, u "IOOBE_FORMATTER")] 57

def k11m0 : Method := { name := "<init>", desc := "()V", sig := { parameters := [], returnType := none }, accessFlags := 1, code := none }
/-- jdk/internal/util/Preconditions -/
def k11 : Class := { plain "jdk/internal/util/Preconditions" (some 0) with
  accessFlags := 33
  interfaces := #[]
  cf := some (fileOf pool11 24 #[.nestMembers #[55, 131, 125, 114]] #[{ accessFlags := 1, nameIndex := 5, descriptorIndex := 6, attributes := #[] }] 33 2 #[] #[{ accessFlags := 25, nameIndex := 123, descriptorIndex := 124, attributes := #[] }, { accessFlags := 25, nameIndex := 130, descriptorIndex := 124, attributes := #[] }, { accessFlags := 25, nameIndex := 136, descriptorIndex := 124, attributes := #[] }])
  fields := #[{ name := "SIOOBE_FORMATTER", type := (.object "java/util/function/BiFunction"), accessFlags := 25, slot := 0, constantValue := 0 }, { name := "AIOOBE_FORMATTER", type := (.object "java/util/function/BiFunction"), accessFlags := 25, slot := 1, constantValue := 0 }, { name := "IOOBE_FORMATTER", type := (.object "java/util/function/BiFunction"), accessFlags := 25, slot := 2, constantValue := 0 }]
  methods := #[k11m0]
  instanceTypes := #[]
  staticTypes := #[(.object "java/util/function/BiFunction"), (.object "java/util/function/BiFunction"), (.object "java/util/function/BiFunction")]
  resolved := Array.replicate 194 none
  statics := some 1 }

def pool12 : Array CpInfo := pool [(9, u "<init>"), (6, .class_ 18), (1, u "java/lang/Object"), (0, u "()V"), (1, .class_ 23), (1, u "jdk/internal/util/ArraysSupport"), (0, u "LOG2_ARRAY_LONG_INDEX_SCALE"), (0, u "I"), (2, u "U"), (0, u "Ljdk/internal/misc/Unsafe;"), (8, u "BIG_ENDIAN"), (0, u "Z"), (8, u "LOG2_BYTE_BIT_SIZE"), (4, u "LOG2_ARRAY_INT_INDEX_SCALE"), (54, u "JLA"), (0, u "Ljdk/internal/access/JavaLangAccess;"), (11, u "LOG2_ARRAY_BOOLEAN_INDEX_SCALE"), (9, u "LOG2_ARRAY_BYTE_INDEX_SCALE"), (5, u "LOG2_ARRAY_CHAR_INDEX_SCALE"), (5, u "LOG2_ARRAY_SHORT_INDEX_SCALE"), (18, u "LOG2_ARRAY_FLOAT_INDEX_SCALE"), (24, u "LOG2_ARRAY_DOUBLE_INDEX_SCALE"), (89, u "T_BOOLEAN"), (2, u "T_CHAR"), (1, u "T_FLOAT"), (1, u "T_DOUBLE"), (1, u "T_BYTE"), (1, u "T_SHORT"), (1, u "T_INT"), (1, u "T_LONG"), (1, u "SOFT_MAX_ARRAY_LENGTH")] 83

def k12m0 : Method := { name := "<init>", desc := "()V", sig := { parameters := [], returnType := none }, accessFlags := 2, code := none }
/-- jdk/internal/util/ArraysSupport -/
def k12 : Class := { plain "jdk/internal/util/ArraysSupport" (some 0) with
  accessFlags := 33
  interfaces := #[]
  cf := some (fileOf pool12 21 #[] #[{ accessFlags := 2, nameIndex := 9, descriptorIndex := 19, attributes := #[] }] 33 16 #[] #[{ accessFlags := 24, nameIndex := 28, descriptorIndex := 29, attributes := #[] }, { accessFlags := 26, nameIndex := 38, descriptorIndex := 39, attributes := #[] }, { accessFlags := 25, nameIndex := 121, descriptorIndex := 25, attributes := #[] }, { accessFlags := 25, nameIndex := 131, descriptorIndex := 25, attributes := #[] }, { accessFlags := 25, nameIndex := 137, descriptorIndex := 25, attributes := #[] }, { accessFlags := 25, nameIndex := 143, descriptorIndex := 25, attributes := #[] }, { accessFlags := 25, nameIndex := 53, descriptorIndex := 25, attributes := #[] }, { accessFlags := 25, nameIndex := 24, descriptorIndex := 25, attributes := #[] }, { accessFlags := 25, nameIndex := 162, descriptorIndex := 25, attributes := #[] }, { accessFlags := 25, nameIndex := 187, descriptorIndex := 25, attributes := #[] }, { accessFlags := 26, nameIndex := 48, descriptorIndex := 25, attributes := #[] }, { accessFlags := 25, nameIndex := 277, descriptorIndex := 25, attributes := #[] }, { accessFlags := 25, nameIndex := 280, descriptorIndex := 25, attributes := #[] }, { accessFlags := 25, nameIndex := 282, descriptorIndex := 25, attributes := #[] }, { accessFlags := 25, nameIndex := 284, descriptorIndex := 25, attributes := #[] }, { accessFlags := 25, nameIndex := 286, descriptorIndex := 25, attributes := #[] }, { accessFlags := 25, nameIndex := 288, descriptorIndex := 25, attributes := #[] }, { accessFlags := 25, nameIndex := 290, descriptorIndex := 25, attributes := #[] }, { accessFlags := 25, nameIndex := 292, descriptorIndex := 25, attributes := #[] }, { accessFlags := 26, nameIndex := 108, descriptorIndex := 109, attributes := #[] }, { accessFlags := 25, nameIndex := 294, descriptorIndex := 25, attributes := #[] }])
  fields := #[{ name := "U", type := (.object "jdk/internal/misc/Unsafe"), accessFlags := 24, slot := 0, constantValue := 0 }, { name := "BIG_ENDIAN", type := .boolean, accessFlags := 26, slot := 1, constantValue := 0 }, { name := "LOG2_ARRAY_BOOLEAN_INDEX_SCALE", type := .int, accessFlags := 25, slot := 2, constantValue := 0 }, { name := "LOG2_ARRAY_BYTE_INDEX_SCALE", type := .int, accessFlags := 25, slot := 3, constantValue := 0 }, { name := "LOG2_ARRAY_CHAR_INDEX_SCALE", type := .int, accessFlags := 25, slot := 4, constantValue := 0 }, { name := "LOG2_ARRAY_SHORT_INDEX_SCALE", type := .int, accessFlags := 25, slot := 5, constantValue := 0 }, { name := "LOG2_ARRAY_INT_INDEX_SCALE", type := .int, accessFlags := 25, slot := 6, constantValue := 0 }, { name := "LOG2_ARRAY_LONG_INDEX_SCALE", type := .int, accessFlags := 25, slot := 7, constantValue := 0 }, { name := "LOG2_ARRAY_FLOAT_INDEX_SCALE", type := .int, accessFlags := 25, slot := 8, constantValue := 0 }, { name := "LOG2_ARRAY_DOUBLE_INDEX_SCALE", type := .int, accessFlags := 25, slot := 9, constantValue := 0 }, { name := "LOG2_BYTE_BIT_SIZE", type := .int, accessFlags := 26, slot := 10, constantValue := 0 }, { name := "T_BOOLEAN", type := .int, accessFlags := 25, slot := 11, constantValue := 0 }, { name := "T_CHAR", type := .int, accessFlags := 25, slot := 12, constantValue := 0 }, { name := "T_FLOAT", type := .int, accessFlags := 25, slot := 13, constantValue := 0 }, { name := "T_DOUBLE", type := .int, accessFlags := 25, slot := 14, constantValue := 0 }, { name := "T_BYTE", type := .int, accessFlags := 25, slot := 15, constantValue := 0 }, { name := "T_SHORT", type := .int, accessFlags := 25, slot := 16, constantValue := 0 }, { name := "T_INT", type := .int, accessFlags := 25, slot := 17, constantValue := 0 }, { name := "T_LONG", type := .int, accessFlags := 25, slot := 18, constantValue := 0 }, { name := "JLA", type := (.object "jdk/internal/access/JavaLangAccess"), accessFlags := 26, slot := 19, constantValue := 0 }, { name := "SOFT_MAX_ARRAY_LENGTH", type := .int, accessFlags := 25, slot := 20, constantValue := 0 }]
  methods := #[k12m0]
  instanceTypes := #[]
  staticTypes := #[(.object "jdk/internal/misc/Unsafe"), .boolean, .int, .int, .int, .int, .int, .int, .int, .int, .int, .int, .int, .int, .int, .int, .int, .int, .int, (.object "jdk/internal/access/JavaLangAccess"), .int]
  resolved := Array.replicate 378 none
  statics := none }

def pool13 : Array CpInfo := pool [(1, u "java/lang/Cloneable"), (0, .class_ 1), (0, u "java/lang/Object"), (0, .class_ 3)] 3

/-- java/lang/Cloneable -/
def k13 : Class := { plain "java/lang/Cloneable" (some 0) with
  accessFlags := 1537
  interfaces := #[]
  cf := some (fileOf pool13 2 #[] #[] 1537 4 #[] #[])
  fields := #[]
  methods := #[]
  instanceTypes := #[]
  staticTypes := #[]
  resolved := Array.replicate 8 none
  statics := none }

/-- the primitive byte -/
def k14 : Class := { plain "byte" none with kind := .primitive 'B', accessFlags := 0x411 }
/-- [B -/
def k15 : Class := { plain "[B" (some 0) with kind := .array 14 .byte, interfaces := #[13, 2], accessFlags := 1041 }

/-- the primitive char -/
def k16 : Class := { plain "char" none with kind := .primitive 'C', accessFlags := 0x411 }
/-- [C -/
def k17 : Class := { plain "[C" (some 0) with kind := .array 16 .char, interfaces := #[13, 2], accessFlags := 1041 }

/-- the primitive int -/
def k18 : Class := { plain "int" none with kind := .primitive 'I', accessFlags := 0x411 }
/-- [I -/
def k19 : Class := { plain "[I" (some 0) with kind := .array 18 .int, interfaces := #[13, 2], accessFlags := 1041 }

def heap : Heap := #[{ cls := 7, slots := #[.long 0, .int 1, .null, .int 0, .null, .int 0, .int 0], vm := .statics 7 },
  { cls := 11, slots := #[.null, .null, .null], vm := .statics 11 }]
def classes : Array Class := #[k0, k1, k2, k3, k4, k5, k6, k7, k8, k9, k10, k11, k12, k13, k14, k15, k16, k17, k18, k19]
def interned : List (Array UInt16 × Addr) := []
def slotsUsed : Nat := 10
def theMethod : MethodId := ⟨1, 3⟩
def args0 : Array Value := #[.int 5, .int 5, .int 5, .int 5, .long 5]
def aboutOver (below : List Frame) : State where
  vm := { classes := classes, interned := interned.toArray }
  heap := heap
  slotsUsed := slotsUsed
  threads := #[{ frames := .invoking theMethod args0 :: below }]
def below0 : List Frame := [.native { method := ⟨0, 0⟩, args := #[] }]
def about1 : State := aboutOver below0
def p0 : Program := .bare "" "" ""
def e0 : Env := launch0.env 0 0 0
theorem w_frames : about1.frames = Frame.invoking theMethod args0 :: below0 := rfl
set_option maxRecDepth 65536 in
theorem w_args : argsFit about1.vm theMethod args0 = true := by decide +kernel
set_option maxRecDepth 65536 in
theorem w_heap : heapFits about1 = true := by decide +kernel
set_option maxRecDepth 65536 in
theorem w_runnable : about1.curStatus? = some .runnable := by decide +kernel
set_option maxRecDepth 65536 in
theorem w_alone : about1.alone = true := by decide +kernel
set_option maxRecDepth 65536 in
theorem w_named : about1.methodNamed? x = some theMethod := by decide +kernel
set_option maxRecDepth 65536 in
theorem w_hears : about1.hears theMethod below0 = true := by decide +kernel
set_option maxRecDepth 65536 in
theorem w_ripe : about1.ripe theMethod args0 below0 = true := by decide +kernel
theorem w_running : about1.status = .running := rfl
set_option maxRecDepth 65536 in
theorem w_room : about1.hasRoom e0.platform room_1 = true :=
  launch0.hasRoom_least _ room_1 (by decide +kernel) (by decide +kernel) (by decide +kernel) (by decide +kernel) (by decide +kernel) (by decide +kernel)
theorem allAtoms_all (ts : List Jvm.Cond) (a : Array Jvm.Value) (st : Jvm.State) : (allAtoms ts).before a st = ts.all (fun c => c.before a st) := by
  induction ts with
  | nil => rfl
  | cons c t ih =>
    show (Jvm.Cond.and c (allAtoms t)).before a st = _
    rw [Jvm.Cond.before_and, ih, List.all_cons]
def words1 : List Jvm.Cond := Jvm.Cond.code x code maxLocals ret :: tables_1
/-- a 'code' word, met by the world's own term for the bytes: nothing is compared byte by byte -/
theorem code_word {y : MethodName} {bytes : ByteArray} {mx : Nat} {rt : Option FieldType} {a : Array Value} {s : State} {m : MethodId} {meth : Method} {c : Code} (h1 : s.methodNamed? y = some m) (h2 : s.vm.method? m = some meth) (h3 : meth.code = some c) (h4 : c.code = bytes)
    (h5 : (c.maxLocals == mx && c.exceptionTable.isEmpty && decide (c.maxStack ≤ mostOperands) && decide (meth.sig.returnType = rt) && !meth.locks && decide (parseMethodDescriptor y.desc = some meth.sig)) = true) : (Jvm.Cond.code y bytes mx rt).before a s = true := by
  simp only [Bool.and_eq_true, beq_iff_eq, Bool.not_eq_true', decide_eq_true_eq] at h5
  obtain ⟨⟨⟨⟨⟨g1, g2⟩, g3⟩, g4⟩, g5⟩, g6⟩ := h5
  simp [Cond.before, Cond.holds, Cond.value, h1, h2, h3, h4, g1, g2, g3, g4, g5, g6]
def isCode : Jvm.Cond → Bool
  | .code _ _ _ _ => true
  | _ => false
theorem all_split {L : List Jvm.Cond} {P : Jvm.Cond → Bool} (h1 : L.all (fun c => isCode c || P c) = true) (h2 : ∀ c ∈ L.filter isCode, P c = true) : L.all P = true := by
  refine List.all_eq_true.mpr fun c hc => ?_
  have h := List.all_eq_true.mp h1 c hc
  rcases Bool.eq_false_or_eq_true (isCode c) with hi | hi
  · exact h2 c (List.mem_filter.mpr ⟨hc, hi⟩)
  · simpa [hi] using h
set_option maxRecDepth 65536 in
theorem w_c0 : (Jvm.Cond.code x code maxLocals ret).before args0 about1 = true := code_word (m := ⟨1, 3⟩) (meth := k1m3) (c := k1c3) (by decide +kernel) rfl rfl rfl (by decide +kernel)
set_option maxRecDepth 65536 in
theorem w_c1 : (Jvm.Cond.code ({ cls := "com/example/nishana/nishana/ResponseIsRedirectPinLaw", name := "pickStatus", desc := "(II)I" } : Jvm.MethodName) method_2_code (3 : Nat) (Option.some Jvm.ClassFile.FieldType.int)).before args0 about1 = true := code_word (m := ⟨1, 1⟩) (meth := k1m1) (c := k1c1) (by decide +kernel) rfl rfl rfl (by decide +kernel)
set_option maxRecDepth 65536 in
theorem w_c2 : (Jvm.Cond.code ({ cls := "com/example/nishana/nishana/ResponseIsRedirectPinLaw", name := "pickLocation", desc := "(I)Ljava/lang/String;" } : Jvm.MethodName) method_3_code (5 : Nat) (Option.some (Jvm.ClassFile.FieldType.object "java/lang/String"))).before args0 about1 = true := code_word (m := ⟨1, 2⟩) (meth := k1m2) (c := k1c2) (by decide +kernel) rfl rfl rfl (by decide +kernel)
set_option maxRecDepth 65536 in
theorem w_c3 : (Jvm.Cond.code ({ cls := "java/lang/String", name := "valueOf", desc := "(C)Ljava/lang/String;" } : Jvm.MethodName) jdk_42_method_139_code (1 : Nat) (Option.some (Jvm.ClassFile.FieldType.object "java/lang/String"))).before args0 about1 = true := code_word (m := ⟨7, 2⟩) (meth := k7m2) (c := k7c2) (by decide +kernel) rfl rfl rfl (by decide +kernel)
set_option maxRecDepth 65536 in
theorem w_c4 : (Jvm.Cond.code ({ cls := "java/lang/StringLatin1", name := "canEncode", desc := "(C)Z" } : Jvm.MethodName) jdk_43_method_3_code (1 : Nat) (Option.some Jvm.ClassFile.FieldType.boolean)).before args0 about1 = true := code_word (m := ⟨8, 1⟩) (meth := k8m1) (c := k8c1) (by decide +kernel) rfl rfl rfl (by decide +kernel)
set_option maxRecDepth 65536 in
theorem w_c5 : (Jvm.Cond.code ({ cls := "java/lang/StringLatin1", name := "toBytes", desc := "(C)[B" } : Jvm.MethodName) jdk_43_method_46_code (1 : Nat) (Option.some (Jvm.ClassFile.FieldType.array Jvm.ClassFile.FieldType.byte))).before args0 about1 = true := code_word (m := ⟨8, 2⟩) (meth := k8m2) (c := k8c2) (by decide +kernel) rfl rfl rfl (by decide +kernel)
set_option maxRecDepth 65536 in
theorem w_c6 : (Jvm.Cond.code ({ cls := "java/lang/String", name := "<init>", desc := "([BB)V" } : Jvm.MethodName) jdk_42_method_151_code (3 : Nat) (Option.none : Option Jvm.ClassFile.FieldType)).before args0 about1 = true := code_word (m := ⟨7, 4⟩) (meth := k7m4) (c := k7c4) (by decide +kernel) rfl rfl rfl (by decide +kernel)
set_option maxRecDepth 65536 in
theorem w_c7 : (Jvm.Cond.code ({ cls := "java/lang/Object", name := "<init>", desc := "()V" } : Jvm.MethodName) object_method_1_code (1 : Nat) (Option.none : Option Jvm.ClassFile.FieldType)).before args0 about1 = true := code_word (m := ⟨0, 0⟩) (meth := k0m0) (c := k0c0) (by decide +kernel) rfl rfl rfl (by decide +kernel)
set_option maxRecDepth 65536 in
theorem w_c8 : (Jvm.Cond.code ({ cls := "com/example/nishana/nishana/Response", name := "<init>", desc := "(ILjava/lang/String;Ljava/lang/String;[BJ)V" } : Jvm.MethodName) prog_19_method_1_code (7 : Nat) (Option.none : Option Jvm.ClassFile.FieldType)).before args0 about1 = true := code_word (m := ⟨9, 0⟩) (meth := k9m0) (c := k9c0) (by decide +kernel) rfl rfl rfl (by decide +kernel)
set_option maxRecDepth 65536 in
theorem w_c9 : (Jvm.Cond.code ({ cls := "com/example/nishana/nishana/Response", name := "<init>", desc := "(ILjava/lang/String;Ljava/lang/String;[BJLcom/example/nishana/nishana/Transcript;)V" } : Jvm.MethodName) prog_19_method_2_code (8 : Nat) (Option.none : Option Jvm.ClassFile.FieldType)).before args0 about1 = true := code_word (m := ⟨9, 1⟩) (meth := k9m1) (c := k9c1) (by decide +kernel) rfl rfl rfl (by decide +kernel)
set_option maxRecDepth 65536 in
theorem w_c10 : (Jvm.Cond.code ({ cls := "com/example/nishana/nishana/Response", name := "isRedirect", desc := "()Z" } : Jvm.MethodName) prog_19_method_6_code (1 : Nat) (Option.some Jvm.ClassFile.FieldType.boolean)).before args0 about1 = true := code_word (m := ⟨9, 2⟩) (meth := k9m2) (c := k9c2) (by decide +kernel) rfl rfl rfl (by decide +kernel)
set_option maxRecDepth 65536 in
theorem w_c11 : (Jvm.Cond.code ({ cls := "java/lang/String", name := "<init>", desc := "([C)V" } : Jvm.MethodName) jdk_42_method_3_code (2 : Nat) (Option.none : Option Jvm.ClassFile.FieldType)).before args0 about1 = true := code_word (m := ⟨7, 1⟩) (meth := k7m1) (c := k7c1) (by decide +kernel) rfl rfl rfl (by decide +kernel)
set_option maxRecDepth 65536 in
theorem w_c12 : (Jvm.Cond.code ({ cls := "java/lang/String", name := "<init>", desc := "([CIILjava/lang/Void;)V" } : Jvm.MethodName) jdk_42_method_149_code (6 : Nat) (Option.none : Option Jvm.ClassFile.FieldType)).before args0 about1 = true := code_word (m := ⟨7, 3⟩) (meth := k7m3) (c := k7c3) (by decide +kernel) rfl rfl rfl (by decide +kernel)
set_option maxRecDepth 65536 in
theorem w_c13 : (Jvm.Cond.code ({ cls := "java/lang/StringUTF16", name := "compress", desc := "([CII)[B" } : Jvm.MethodName) jdk_52_method_16_code (6 : Nat) (Option.some (Jvm.ClassFile.FieldType.array Jvm.ClassFile.FieldType.byte))).before args0 about1 = true := code_word (m := ⟨10, 2⟩) (meth := k10m2) (c := k10c2) (by decide +kernel) rfl rfl rfl (by decide +kernel)
set_option maxRecDepth 65536 in
theorem w_c14 : (Jvm.Cond.code ({ cls := "java/lang/StringUTF16", name := "compress", desc := "([CI[BII)I" } : Jvm.MethodName) jdk_52_method_21_code (7 : Nat) (Option.some Jvm.ClassFile.FieldType.int)).before args0 about1 = true := code_word (m := ⟨10, 3⟩) (meth := k10m3) (c := k10c3) (by decide +kernel) rfl rfl rfl (by decide +kernel)
set_option maxRecDepth 65536 in
theorem w_c15 : (Jvm.Cond.code ({ cls := "java/lang/StringUTF16", name := "coderFromArrayLen", desc := "([BI)B" } : Jvm.MethodName) jdk_52_method_15_code (2 : Nat) (Option.some Jvm.ClassFile.FieldType.byte)).before args0 about1 = true := code_word (m := ⟨10, 1⟩) (meth := k10m1) (c := k10c1) (by decide +kernel) rfl rfl rfl (by decide +kernel)
def codes1 : List Jvm.Cond := [Jvm.Cond.code x code maxLocals ret, Jvm.Cond.code ({ cls := "com/example/nishana/nishana/ResponseIsRedirectPinLaw", name := "pickStatus", desc := "(II)I" } : Jvm.MethodName) method_2_code (3 : Nat) (Option.some Jvm.ClassFile.FieldType.int), Jvm.Cond.code ({ cls := "com/example/nishana/nishana/ResponseIsRedirectPinLaw", name := "pickLocation", desc := "(I)Ljava/lang/String;" } : Jvm.MethodName) method_3_code (5 : Nat) (Option.some (Jvm.ClassFile.FieldType.object "java/lang/String")), Jvm.Cond.code ({ cls := "java/lang/String", name := "valueOf", desc := "(C)Ljava/lang/String;" } : Jvm.MethodName) jdk_42_method_139_code (1 : Nat) (Option.some (Jvm.ClassFile.FieldType.object "java/lang/String")), Jvm.Cond.code ({ cls := "java/lang/StringLatin1", name := "canEncode", desc := "(C)Z" } : Jvm.MethodName) jdk_43_method_3_code (1 : Nat) (Option.some Jvm.ClassFile.FieldType.boolean), Jvm.Cond.code ({ cls := "java/lang/StringLatin1", name := "toBytes", desc := "(C)[B" } : Jvm.MethodName) jdk_43_method_46_code (1 : Nat) (Option.some (Jvm.ClassFile.FieldType.array Jvm.ClassFile.FieldType.byte)), Jvm.Cond.code ({ cls := "java/lang/String", name := "<init>", desc := "([BB)V" } : Jvm.MethodName) jdk_42_method_151_code (3 : Nat) (Option.none : Option Jvm.ClassFile.FieldType), Jvm.Cond.code ({ cls := "java/lang/Object", name := "<init>", desc := "()V" } : Jvm.MethodName) object_method_1_code (1 : Nat) (Option.none : Option Jvm.ClassFile.FieldType), Jvm.Cond.code ({ cls := "com/example/nishana/nishana/Response", name := "<init>", desc := "(ILjava/lang/String;Ljava/lang/String;[BJ)V" } : Jvm.MethodName) prog_19_method_1_code (7 : Nat) (Option.none : Option Jvm.ClassFile.FieldType), Jvm.Cond.code ({ cls := "com/example/nishana/nishana/Response", name := "<init>", desc := "(ILjava/lang/String;Ljava/lang/String;[BJLcom/example/nishana/nishana/Transcript;)V" } : Jvm.MethodName) prog_19_method_2_code (8 : Nat) (Option.none : Option Jvm.ClassFile.FieldType), Jvm.Cond.code ({ cls := "com/example/nishana/nishana/Response", name := "isRedirect", desc := "()Z" } : Jvm.MethodName) prog_19_method_6_code (1 : Nat) (Option.some Jvm.ClassFile.FieldType.boolean), Jvm.Cond.code ({ cls := "java/lang/String", name := "<init>", desc := "([C)V" } : Jvm.MethodName) jdk_42_method_3_code (2 : Nat) (Option.none : Option Jvm.ClassFile.FieldType), Jvm.Cond.code ({ cls := "java/lang/String", name := "<init>", desc := "([CIILjava/lang/Void;)V" } : Jvm.MethodName) jdk_42_method_149_code (6 : Nat) (Option.none : Option Jvm.ClassFile.FieldType), Jvm.Cond.code ({ cls := "java/lang/StringUTF16", name := "compress", desc := "([CII)[B" } : Jvm.MethodName) jdk_52_method_16_code (6 : Nat) (Option.some (Jvm.ClassFile.FieldType.array Jvm.ClassFile.FieldType.byte)), Jvm.Cond.code ({ cls := "java/lang/StringUTF16", name := "compress", desc := "([CI[BII)I" } : Jvm.MethodName) jdk_52_method_21_code (7 : Nat) (Option.some Jvm.ClassFile.FieldType.int), Jvm.Cond.code ({ cls := "java/lang/StringUTF16", name := "coderFromArrayLen", desc := "([BI)B" } : Jvm.MethodName) jdk_52_method_15_code (2 : Nat) (Option.some Jvm.ClassFile.FieldType.byte)]
set_option maxRecDepth 65536 in
theorem codes_eq : words1.filter isCode = codes1 := rfl
theorem w_codes : ∀ c ∈ words1.filter isCode, c.before args0 about1 = true := by
  rw [codes_eq]
  intro c hc
  simp only [codes1, List.mem_cons, List.not_mem_nil, or_false] at hc
  rcases hc with rfl | rfl | rfl | rfl | rfl | rfl | rfl | rfl | rfl | rfl | rfl | rfl | rfl | rfl | rfl | rfl
  · exact w_c0
  · exact w_c1
  · exact w_c2
  · exact w_c3
  · exact w_c4
  · exact w_c5
  · exact w_c6
  · exact w_c7
  · exact w_c8
  · exact w_c9
  · exact w_c10
  · exact w_c11
  · exact w_c12
  · exact w_c13
  · exact w_c14
  · exact w_c15
set_option maxRecDepth 65536 in
theorem w_t1 : (words1.take 24).all (fun c => isCode c || c.before args0 about1) = true := by decide +kernel
set_option maxRecDepth 65536 in
theorem w_t2 : ((words1.drop 24).take 24).all (fun c => isCode c || c.before args0 about1) = true := by decide +kernel
set_option maxRecDepth 65536 in
theorem w_t3 : (((words1.drop 24).drop 24).take 24).all (fun c => isCode c || c.before args0 about1) = true := by decide +kernel
set_option maxRecDepth 65536 in
theorem w_t4 : (((words1.drop 24).drop 24).drop 24).all (fun c => isCode c || c.before args0 about1) = true := by decide +kernel
theorem w_tables : (allAtoms (Jvm.Cond.code x code maxLocals ret :: tables_1)).before args0 about1 = true := by
  rw [allAtoms_all]
  show words1.all (fun c => c.before args0 about1) = true
  refine all_split ?_ w_codes
  rw [← List.take_append_drop 24 words1, List.all_append, w_t1, ← List.take_append_drop 24 (words1.drop 24), List.all_append, w_t2, ← List.take_append_drop 24 ((words1.drop 24).drop 24), List.all_append, w_t3, w_t4]
  rfl
set_option maxRecDepth 65536 in
theorem w_rest : rest_1_c.before args0 about1 = true := by decide +kernel
set_option maxRecDepth 65536 in
theorem w_case : (Jvm.Cond.and given_1 narrow_1).before args0 about1 = true := by decide +kernel
set_option maxRecDepth 65536 in
theorem w_consts : constsHeld consts_1 about1 := Jvm.Lit.constsHeldB_iff.mp (by decide +kernel)
theorem w_applies : (headSpec (Jvm.Cond.code x code maxLocals ret :: tables_1) room_1).applies x e0.platform about1 = true :=
  (Spec.applies_iff w_frames).mpr ⟨w_running, w_runnable, w_alone, w_named, w_hears, w_ripe, w_room, w_tables⟩
theorem atStart : AtStart classFile x code maxLocals ret World_1 tables_1 room_1 Calls_1 rest_1 Pre_1 launch0 p0 e0 about1 theMethod args0 below0 :=
  ⟨lists_1, trivial, launch0.admits_env _ _ _, launch0.least_env, fairChoices_fair.cas, fairChoices_fair.clock, w_frames, w_args, w_heap, w_applies, ⟨w_consts, trivial⟩, w_rest, w_case⟩
end start1
theorem witness_1 : WitnessClaimed_1 := ⟨start1.p0, start1.e0, start1.about1, start1.theMethod, start1.args0, start1.below0, start1.atStart⟩
end Jvm.Pilot.@@N@@
