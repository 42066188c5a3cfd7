import JvmDerived
import JvmDerived.Pilot.@@N@@Statement
import JvmDerived.Pilot.@@N@@Code
set_option linter.unusedVariables false
set_option linter.unusedSimpArgs false
/- laws to paste: Road.backV (cut by pick.py; bodies as the Statement names them) -/
namespace Jvm.Pilot.@@N@@
namespace StrChars
open Jvm Sem ClassFile Op Lib Jvm.Stand Jvm.Free.XT Jvm.Free.ALB Jvm.Free.JM Jvm.Free
open Jvm.Lib.Cold (StaticIs)
/-- a char array whose places are chars -/
def Ch (a : Addr) (A : Cell) (U : State) : Prop := Arr .char a A U ∧ Typed .char A
theorem Ch.mv {a : Addr} {A : Cell} {U U' : State} (h : Ch a A U) (hal : U.vm.Alike U'.vm) (hh : U'.heap = U.heap) : Ch a A U' := ⟨h.1.mv hal hh, h.2⟩
theorem Ch.keep {a : Addr} {A : Cell} {U U' : State} (h : Ch a A U) (hal : U.vm.Alike U'.vm) (hk : U'.heap[a]? = some A) : Ch a A U' := ⟨h.1.keep hal hk, h.2⟩
/-- what place i of a char[]'s cell holds -/
def cv (A : Cell) (i : Nat) : Int32 := match A.slots[i]? with | some (.int x) => x | _ => 0
theorem Ch.get {a : Addr} {A : Cell} {U : State} (h : Ch a A U) {i : Nat} (hi : i < A.slots.size) : A.slots[i]? = some (.int (cv A i)) := by
  have e := Array.getElem?_eq_getElem hi
  have f := h.2 i _ e
  unfold cv; rw [e]
  generalize A.slots[i] = v at f
  cases v <;> simp [fits] at f ⊢
/-- the byte that i2b leaves of a char -/
def lo8 (x : Int32) : Int32 := x.toInt8.toInt32
theorem fits_lo8 (y : Int32) : fits .byte (.int (lo8 y)) = true := by
  have h1 := y.toInt8.le_toInt
  have h2 := y.toInt8.toInt_lt
  simp only [lo8, fits, Bool.and_eq_true, decide_eq_true_eq, Int32.le_iff_toInt_le, Int8.toInt_toInt32, show (-128 : Int32).toInt = -128 from by decide, show (127 : Int32).toInt = 127 from by decide]
  omega
/-- A' is A but that each place j of lo .. hi - 1 holds f j -/
def Laid (A A' : Cell) (lo hi : Nat) (f : Nat → Value) : Prop := A'.cls = A.cls ∧ A'.vm = A.vm ∧ A'.slots.size = A.slots.size ∧ ∀ i, A'.slots[i]? = if lo ≤ i ∧ i < hi then some (f i) else A.slots[i]?
theorem Laid.zero (A : Cell) (lo : Nat) (f : Nat → Value) : Laid A A lo (lo + 0) f := ⟨rfl, rfl, rfl, fun i => by rw [if_neg (by omega)]⟩
theorem Laid.step {A Ak : Cell} {lo k : Nat} {f : Nat → Value} {v : Value} (h : Laid A Ak lo k f) (hlo : lo ≤ k) (hk : k < Ak.slots.size) (hv : v = f k) : Laid A (Ak.setSlot k v) lo (k + 1) f := by
  refine ⟨h.1, h.2.1, by simpa [Cell.setSlot] using h.2.2.1, fun i => ?_⟩
  by_cases e : k = i
  · subst e; rw [Cell.slots_setSlot_self v hk, if_pos (by omega), hv]
  · rw [Cell.slots_setSlot_ne v e, h.2.2.2 i]
    by_cases q : lo ≤ i ∧ i < k
    · rw [if_pos q, if_pos (by omega)]
    · rw [if_neg q, if_neg (by omega)]
def U16 : String := "java/lang/StringUTF16"
namespace Cmp5
def yN : MethodName := ⟨"java/lang/StringUTF16", "compress", "([CI[BII)I"⟩
abbrev yB : ByteArray := jdk_52_method_21_code
theorem d0 : decode yB 0 = .ok (.iconst 0, 1) := by decide +kernel
theorem d1 : decode yB 1 = .ok (.istore 5, 2) := by decide +kernel
theorem d3 : decode yB 3 = .ok (.iload 5, 2) := by decide +kernel
theorem d5 : decode yB 5 = .ok (.iload 4, 2) := by decide +kernel
theorem d7 : decode yB 7 = .ok (.if_icmp (.ge) 37, 3) := by decide +kernel
theorem d10 : decode yB 10 = .ok (.aload_n 0, 1) := by decide +kernel
theorem d11 : decode yB 11 = .ok (.iload_n 1, 1) := by decide +kernel
theorem d12 : decode yB 12 = .ok (.caload, 1) := by decide +kernel
theorem d13 : decode yB 13 = .ok (.istore 6, 2) := by decide +kernel
theorem d15 : decode yB 15 = .ok (.iload 6, 2) := by decide +kernel
theorem d17 : decode yB 17 = .ok (.sipush 255, 3) := by decide +kernel
theorem d20 : decode yB 20 = .ok (.if_icmp (.le) 6, 3) := by decide +kernel
theorem d26 : decode yB 26 = .ok (.aload_n 2, 1) := by decide +kernel
theorem d27 : decode yB 27 = .ok (.iload_n 3, 1) := by decide +kernel
theorem d28 : decode yB 28 = .ok (.iload 6, 2) := by decide +kernel
theorem d30 : decode yB 30 = .ok (.i2b, 1) := by decide +kernel
theorem d31 : decode yB 31 = .ok (.bastore, 1) := by decide +kernel
theorem d32 : decode yB 32 = .ok (.iinc 1 1, 3) := by decide +kernel
theorem d35 : decode yB 35 = .ok (.iinc 3 1, 3) := by decide +kernel
theorem d38 : decode yB 38 = .ok (.iinc 5 1, 3) := by decide +kernel
theorem d41 : decode yB 41 = .ok (.goto (-38), 3) := by decide +kernel
theorem d44 : decode yB 44 = .ok (.iload 4, 2) := by decide +kernel
theorem d46 : decode yB 46 = .ok (.ireturn, 1) := by decide +kernel
def site : List Cond := []
def tab : Cond := tabOf yN yB 7 (some .int) site
def P (b : Addr) (A : Cell) (d : Addr) (B : Cell) (o q len : Nat) (args : Array Value) (s : State) : Prop := args = #[.ref b, .int (Int32.ofNat o), .ref d, .int (Int32.ofNat q), .int (Int32.ofNat len)] ∧ Ch b A s ∧ Arr .byte d B s ∧ b ≠ d ∧ o + len ≤ A.slots.size ∧ q + len ≤ B.slots.size ∧ ∀ i, i < len → ¬ 255 < cv A (o + i)
def E (b : Addr) (A : Cell) (d : Addr) (B : Cell) (o q len : Nat) (r : Option Value) (s u : State) : Prop := r = some (.int (Int32.ofNat len)) ∧ ∃ B', Put d B' s u ∧ Laid B B' q (q + len) (fun j => Value.int (lo8 (cv A (o + (j - q)))))
/-- no char of the range above 255: len; the places written hold each char's low byte -/
theorem law (l : Launch) (b : Addr) (A : Cell) (d : Addr) (B : Cell) (o q len : Nat) : Law l yN 5 5 0 0 yB 7 (some .int) site (P b A d B o q len) (E b A d B o q len) (copyLocs d q len) 0 0 := by
  refine Law.of_walk (plainFor_of_name (by decide +kernel)) (by decide +kernel) (by decide +kernel) (by decide) (fun _ _ h => by rw [h.1]; rfl) (fun _ U U' hal hh h => ⟨h.1, h.2.1.mv hal hh, h.2.2.1.mv hal hh, h.2.2.2⟩) (fun r U U' V V' h1 hal h2 h => ⟨h.1, h.2.elim fun B' q => ⟨B', q.1.mv h1 h2, q.2⟩⟩) ?_
  intro p e s m args below meth c s₁ X0 hexec hbytes hml hret hlk hnm hown hh0 W hP
  obtain ⟨rfl, hA, hB, hne, l1, l2, hp⟩ := hP
  have c1 : Steps p.tables e below (s₁.setTop (entryFrame m #[.ref b, .int (Int32.ofNat o), .ref d, .int (Int32.ofNat q), .int (Int32.ofNat len)] 7)) (s₁.setTop (mkF m 0 #[.val (.ref b), .val (.int (Int32.ofNat o)), .val (.ref d), .val (.int (Int32.ofNat q)), .val (.int (Int32.ofNat len)), .unset, .unset] [])) := entry rfl
  have hA0 := hA.1.mv X0.warmed.alike hh0
  have hB0 := hB.mv X0.warmed.alike hh0
  have a31 := hA.1.2.2.2
  have c2 : Steps p.tables e below (s₁.setTop (entryFrame m #[.ref b, .int (Int32.ofNat o), .ref d, .int (Int32.ofNat q), .int (Int32.ofNat len)] 7)) (s₁.setTop (mkF m 3 #[.val (.ref b), .val (.int (Int32.ofNat o)), .val (.ref d), .val (.int (Int32.ofNat q)), .val (.int (Int32.ofNat len)), .val (.int 0), .unset] [])) := c1.trans (by
    refine iconstV X0.here hexec rfl 0 (hb hbytes d0) (by decide) ?_
    refine XS.istore X0.here hexec rfl (hb hbytes d1) rfl rfl ?_
    exact Steps.refl _)
  have loop : ∀ (r i : Nat), i + r = len → ∀ (z : Slot), (z = .unset ∨ ∃ w, z = .val w ∧ w.category = 1) → ∀ (Tl : State) (Bk : Cell), Stand p l e { frames := 0, locals := 0, cells := 0, slots := 0 } s m #[.ref b, .int (Int32.ofNat o), .ref d, .int (Int32.ofNat q), .int (Int32.ofNat len)] below meth c Tl ([] ++ copyLocs d q i) 0 0 → Put d Bk s₁ Tl → Laid B Bk q (q + i) (fun j => Value.int (lo8 (cv A (o + (j - q))))) →
      Steps p.tables e below (s₁.setTop (entryFrame m #[.ref b, .int (Int32.ofNat o), .ref d, .int (Int32.ofNat q), .int (Int32.ofNat len)] 7)) (Tl.setTop (mkF m 3 #[.val (.ref b), .val (.int (Int32.ofNat (o + i))), .val (.ref d), .val (.int (Int32.ofNat (q + i))), .val (.int (Int32.ofNat len)), .val (.int (Int32.ofNat i)), z] [])) → ∃ (T' : State) (B' : Cell) (z' : Slot), Stand p l e { frames := 0, locals := 0, cells := 0, slots := 0 } s m #[.ref b, .int (Int32.ofNat o), .ref d, .int (Int32.ofNat q), .int (Int32.ofNat len)] below meth c T' ([] ++ copyLocs d q len) 0 0 ∧ Put d B' s₁ T' ∧ Laid B B' q (q + len) (fun j => Value.int (lo8 (cv A (o + (j - q))))) ∧
      Steps p.tables e below (s₁.setTop (entryFrame m #[.ref b, .int (Int32.ofNat o), .ref d, .int (Int32.ofNat q), .int (Int32.ofNat len)] 7)) (T'.setTop (mkF m 3 #[.val (.ref b), .val (.int (Int32.ofNat (o + len))), .val (.ref d), .val (.int (Int32.ofNat (q + len))), .val (.int (Int32.ofNat len)), .val (.int (Int32.ofNat len)), z'] [])) := by
    intro r
    induction r with
    | zero =>
      intro i hi z hz Tl Bk Xl pl fl cl
      have hil : i = len := by omega
      rw [hil] at Xl fl cl
      exact ⟨Tl, Bk, z, Xl, pl, fl, cl⟩
    | succ r ih =>
      intro i hi z hz Tl Bk Xl pl fl cl
      have all := X0.warmed.alike.symm.trans Xl.warmed.alike
      have hAl := hA0.keep all (pl.other hne hA0.1)
      have hBk := hB0.like all pl.1 fl.1 fl.2.1 fl.2.2.1
      have hlt : q + i < Bk.slots.size := by rw [fl.2.2.1]; omega
      have c3 : Steps p.tables e below (s₁.setTop (entryFrame m #[.ref b, .int (Int32.ofNat o), .ref d, .int (Int32.ofNat q), .int (Int32.ofNat len)] 7)) (Tl.setTop (mkF m 12 #[.val (.ref b), .val (.int (Int32.ofNat (o + i))), .val (.ref d), .val (.int (Int32.ofNat (q + i))), .val (.int (Int32.ofNat len)), .val (.int (Int32.ofNat i)), z] [.int (Int32.ofNat (o + i)), .ref b])) := cl.trans (by
        refine XS.iload Xl.here hexec rfl (hb hbytes d3) rfl ?_
        refine XS.iload Xl.here hexec rfl (hb hbytes d5) rfl ?_
        refine XS.icmpNo Xl.here hexec rfl (hb hbytes d7) rfl (ii_ge_f (lt32 (by omega) (by omega))) ?_
        refine XS.aloadN Xl.here hexec rfl (hb hbytes d10) rfl rfl ?_
        refine XS.iloadN Xl.here hexec rfl (hb hbytes d11) rfl ?_
        exact Steps.refl _)
      have c4 : Steps p.tables e below (s₁.setTop (entryFrame m #[.ref b, .int (Int32.ofNat o), .ref d, .int (Int32.ofNat q), .int (Int32.ofNat len)] 7)) (Tl.setTop (mkF m 13 #[.val (.ref b), .val (.int (Int32.ofNat (o + i))), .val (.ref d), .val (.int (Int32.ofNat (q + i))), .val (.int (Int32.ofNat len)), .val (.int (Int32.ofNat i)), z] [.int (cv A (o + i))])) := c3.trans (by
        refine Xl.aget hexec hAl rfl (hA.get (i := o + i) (by omega)) rfl rfl (hb hbytes d12) ?_
        exact Steps.refl _)
      have c5 : Steps p.tables e below (s₁.setTop (entryFrame m #[.ref b, .int (Int32.ofNat o), .ref d, .int (Int32.ofNat q), .int (Int32.ofNat len)] 7)) (Tl.setTop (mkF m 15 #[.val (.ref b), .val (.int (Int32.ofNat (o + i))), .val (.ref d), .val (.int (Int32.ofNat (q + i))), .val (.int (Int32.ofNat len)), .val (.int (Int32.ofNat i)), .val (.int (cv A (o + i)))] [])) := c4.trans (by
        refine XS.istoreS Xl.here hexec rfl (hb hbytes d13) rfl rfl hz ?_
        exact Steps.refl _)
      have c6 : Steps p.tables e below (s₁.setTop (entryFrame m #[.ref b, .int (Int32.ofNat o), .ref d, .int (Int32.ofNat q), .int (Int32.ofNat len)] 7)) (Tl.setTop (mkF m 31 #[.val (.ref b), .val (.int (Int32.ofNat (o + i))), .val (.ref d), .val (.int (Int32.ofNat (q + i))), .val (.int (Int32.ofNat len)), .val (.int (Int32.ofNat i)), .val (.int (cv A (o + i)))] [.int (lo8 (cv A (o + i))), .int (Int32.ofNat (q + i)), .ref d])) := c5.trans (by
        refine XS.iload Xl.here hexec rfl (hb hbytes d15) rfl ?_
        refine sipushV Xl.here hexec rfl 255 (hb hbytes d17) (by decide) ?_
        refine XS.icmpYes Xl.here hexec rfl (pc0 := 20) rfl (hb hbytes d20) rfl (ii_le_t (hp i (by omega))) (by decide) rfl ?_
        refine XS.aloadN Xl.here hexec rfl (hb hbytes d26) rfl rfl ?_
        refine XS.iloadN Xl.here hexec rfl (hb hbytes d27) rfl ?_
        refine XS.iload Xl.here hexec rfl (hb hbytes d28) rfl ?_
        refine i2b Xl.here hexec rfl (hb hbytes d30) rfl ?_
        exact Steps.refl _)
      obtain ⟨T7, X7, p7, st7⟩ := Xl.aput hexec hBk rfl hlt rfl (fits_lo8 (cv A (o + i))) (g := (mkF m 31 #[.val (.ref b), .val (.int (Int32.ofNat (o + i))), .val (.ref d), .val (.int (Int32.ofNat (q + i))), .val (.int (Int32.ofNat len)), .val (.int (Int32.ofNat i)), .val (.int (cv A (o + i)))] [.int (lo8 (cv A (o + i))), .int (Int32.ofNat (q + i)), .ref d])) rfl (rest := []) rfl (hb hbytes d31)
      have c8 : Steps p.tables e below (s₁.setTop (entryFrame m #[.ref b, .int (Int32.ofNat o), .ref d, .int (Int32.ofNat q), .int (Int32.ofNat len)] 7)) (T7.setTop (mkF m 32 #[.val (.ref b), .val (.int (Int32.ofNat (o + i))), .val (.ref d), .val (.int (Int32.ofNat (q + i))), .val (.int (Int32.ofNat len)), .val (.int (Int32.ofNat i)), .val (.int (cv A (o + i)))] [])) := c6.trans (st7 _ (Steps.refl _))
      have c9 : Steps p.tables e below (s₁.setTop (entryFrame m #[.ref b, .int (Int32.ofNat o), .ref d, .int (Int32.ofNat q), .int (Int32.ofNat len)] 7)) (T7.setTop (mkF m 3 #[.val (.ref b), .val (.int (Int32.ofNat (o + i) + 1)), .val (.ref d), .val (.int (Int32.ofNat (q + i) + 1)), .val (.int (Int32.ofNat len)), .val (.int (Int32.ofNat i + 1)), .val (.int (cv A (o + i)))] [])) := c8.trans (by
        refine iincV X7.here hexec rfl 1 (hb hbytes d32) (by decide) rfl rfl ?_
        refine iincV X7.here hexec rfl 1 (hb hbytes d35) (by decide) rfl rfl ?_
        refine iincV X7.here hexec rfl 1 (hb hbytes d38) (by decide) rfl rfl ?_
        refine XS.goto X7.here hexec rfl (pc0 := 41) rfl (hb hbytes d41) (by decide) rfl ?_
        exact Steps.refl _)
      have c10 : Steps p.tables e below (s₁.setTop (entryFrame m #[.ref b, .int (Int32.ofNat o), .ref d, .int (Int32.ofNat q), .int (Int32.ofNat len)] 7)) (T7.setTop (mkF m 3 #[.val (.ref b), .val (.int (Int32.ofNat (o + (i + 1)))), .val (.ref d), .val (.int (Int32.ofNat (q + (i + 1)))), .val (.int (Int32.ofNat len)), .val (.int (Int32.ofNat (i + 1))), .val (.int (cv A (o + i)))] [])) := by
        have := c9
        rw [succ32, succ32, succ32] at this
        exact this
      exact ih (i + 1) (by omega) _ (Or.inr ⟨_, rfl, rfl⟩) T7 _ (by rw [copyLocs_step, ← List.append_assoc]; exact X7) (pl.trans p7) (fl.step (by omega) hlt (by simp)) c10
  obtain ⟨T9, B9, z9, X9, p9, f9, g9⟩ := loop len 0 (by omega) .unset (Or.inl rfl) s₁ B (by simpa [copyLocs] using X0) ⟨hB0.1, fun _ _ => rfl, rfl⟩ (Laid.zero _ _ _) c2
  have c11 : Steps p.tables e below (s₁.setTop (entryFrame m #[.ref b, .int (Int32.ofNat o), .ref d, .int (Int32.ofNat q), .int (Int32.ofNat len)] 7)) (T9.setTop (mkF m 46 #[.val (.ref b), .val (.int (Int32.ofNat (o + len))), .val (.ref d), .val (.int (Int32.ofNat (q + len))), .val (.int (Int32.ofNat len)), .val (.int (Int32.ofNat len)), z9] [.int (Int32.ofNat len)])) := g9.trans (by
    refine XS.iload X9.here hexec rfl (hb hbytes d3) rfl ?_
    refine XS.iload X9.here hexec rfl (hb hbytes d5) rfl ?_
    refine XS.icmpYes X9.here hexec rfl (pc0 := 7) rfl (hb hbytes d7) rfl (ii_ge_t (nlt32 (by omega) (Nat.le_refl _))) (by decide) rfl ?_
    refine XS.iload X9.here hexec rfl (hb hbytes d44) rfl ?_
    exact Steps.refl _)
  exact ⟨T9, some (.int (Int32.ofNat len)), _, _, _, X9, by simp, rfl, rfl, (fun h => by cases h), ⟨rfl, B9, p9.from hh0, f9⟩, fun fs hl => c11.trans (X9.ireturnOut hexec hret rfl (Or.inl rfl) (hb hbytes d46) hl)⟩
end Cmp5
namespace Cmp3
def yN : MethodName := ⟨"java/lang/StringUTF16", "compress", "([CII)[B"⟩
abbrev yB : ByteArray := jdk_52_method_16_code
theorem d0 : decode yB 0 = .ok (.iload_n 2, 1) := by decide +kernel
theorem d1 : decode yB 1 = .ok (.newarray .byte, 2) := by decide +kernel
theorem d3 : decode yB 3 = .ok (.astore_n 3, 1) := by decide +kernel
theorem d4 : decode yB 4 = .ok (.aload_n 0, 1) := by decide +kernel
theorem d5 : decode yB 5 = .ok (.iload_n 1, 1) := by decide +kernel
theorem d6 : decode yB 6 = .ok (.aload_n 3, 1) := by decide +kernel
theorem d7 : decode yB 7 = .ok (.iconst 0, 1) := by decide +kernel
theorem d8 : decode yB 8 = .ok (.iload_n 2, 1) := by decide +kernel
theorem d9 : decode yB 9 = .ok (.invokestatic 115, 3) := by decide +kernel
theorem d12 : decode yB 12 = .ok (.istore 4, 2) := by decide +kernel
theorem d14 : decode yB 14 = .ok (.iload 4, 2) := by decide +kernel
theorem d16 : decode yB 16 = .ok (.iload_n 2, 1) := by decide +kernel
theorem d17 : decode yB 17 = .ok (.if_icmp (.eq) 40, 3) := by decide +kernel
theorem d57 : decode yB 57 = .ok (.aload_n 3, 1) := by decide +kernel
theorem d58 : decode yB 58 = .ok (.areturn, 1) := by decide +kernel
def site : List Cond := [.arrayClass .byte, Cmp5.tab] ++ staticW U16 115 Cmp5.yN
def tab : Cond := tabOf yN yB 6 (some (.array .byte)) site
def P (b : Addr) (A : Cell) (o len : Nat) (args : Array Value) (s : State) : Prop := args = #[.ref b, .int (Int32.ofNat o), .int (Int32.ofNat len)] ∧ Ch b A s ∧ o + len ≤ A.slots.size ∧ len ≤ 536870912 ∧ ∀ i, i < len → ¬ 255 < cv A (o + i)
def E (b : Addr) (A : Cell) (o len : Nat) (r : Option Value) (s u : State) : Prop := NewArr .byte "[B" len (fun j => .int (lo8 (cv A (o + j)))) r s u ∧ u.heap.size = s.heap.size + 1
/-- no char of the range above 255: a new byte[] of their low bytes -/
theorem law (l : Launch) (b : Addr) (A : Cell) (o len : Nat) : Law l yN 3 3 1 18 yB 6 (some (.array .byte)) site (P b A o len) (E b A o len) [] 1 len := by
  refine Law.of_walk (plainFor_of_name (by decide +kernel)) (by decide +kernel) (by decide +kernel) (by decide) (fun _ _ h => by rw [h.1]; rfl) (fun _ U U' hal hh h => ⟨h.1, h.2.1.mv hal hh, h.2.2⟩) (fun r U U' V V' h1 hal h2 h => ⟨NewArr.mv r U U' V V' h1 hal h2 h.1, by rw [h1, h2]; exact h.2⟩) ?_
  intro p e s m args below meth c s₁ X0 hexec hbytes hml hret hlk hnm hown hh0 W hP
  obtain ⟨rfl, hA, l1, l2, hp⟩ := hP
  have a31 := hA.1.2.2.2
  have c1 : Steps p.tables e below (s₁.setTop (entryFrame m #[.ref b, .int (Int32.ofNat o), .int (Int32.ofNat len)] 6)) (s₁.setTop (mkF m 0 #[.val (.ref b), .val (.int (Int32.ofNat o)), .val (.int (Int32.ofNat len)), .unset, .unset, .unset] [])) := entry rfl
  have c2 : Steps p.tables e below (s₁.setTop (entryFrame m #[.ref b, .int (Int32.ofNat o), .int (Int32.ofNat len)] 6)) (s₁.setTop (mkF m 1 #[.val (.ref b), .val (.int (Int32.ofNat o)), .val (.int (Int32.ofNat len)), .unset, .unset, .unset] [.int (Int32.ofNat len)])) := c1.trans (by
    refine XS.iloadN X0.here hexec rfl (hb hbytes d0) rfl ?_
    exact Steps.refl _)
  obtain ⟨T3, B3, X3, ba3, bs3, bv3, bh3, bf3, st3⟩ := X0.anew hexec (atype := .byte) (wk W (.arrayClass .byte)) rfl (by show len * 1 ≤ _; omega) (by omega) (g := (mkF m 1 #[.val (.ref b), .val (.int (Int32.ofNat o)), .val (.int (Int32.ofNat len)), .unset, .unset, .unset] [.int (Int32.ofNat len)])) rfl (hb hbytes d1) (rest := []) rfl (Nat.le_refl _) (by show 0 + len ≤ len; omega)
  rw [hh0] at ba3 st3
  have kp3 : XT.Kept s T3 := (XT.Kept.of_eq hh0).push bh3
  have hA3 := hA.keep X3.warmed.alike (kp3 _ _ hA.1.1)
  have hne : b ≠ s.heap.size := hA.1.ne
  have c4 : Steps p.tables e below (s₁.setTop (entryFrame m #[.ref b, .int (Int32.ofNat o), .int (Int32.ofNat len)] 6)) (T3.setTop (mkF m 3 #[.val (.ref b), .val (.int (Int32.ofNat o)), .val (.int (Int32.ofNat len)), .unset, .unset, .unset] [.ref s.heap.size])) := c2.trans (st3 _ (Steps.refl _))
  have c5 : Steps p.tables e below (s₁.setTop (entryFrame m #[.ref b, .int (Int32.ofNat o), .int (Int32.ofNat len)] 6)) (T3.setTop (mkF m 9 #[.val (.ref b), .val (.int (Int32.ofNat o)), .val (.int (Int32.ofNat len)), .val (.ref s.heap.size), .unset, .unset] [.int (Int32.ofNat len), .int 0, .ref s.heap.size, .int (Int32.ofNat o), .ref b])) := c4.trans (by
    refine XS.astoreN X3.here hexec rfl (hb hbytes d3) rfl rfl rfl ?_
    refine XS.aloadN X3.here hexec rfl (hb hbytes d4) rfl rfl ?_
    refine XS.iloadN X3.here hexec rfl (hb hbytes d5) rfl ?_
    refine XS.aloadN X3.here hexec rfl (hb hbytes d6) rfl rfl ?_
    refine iconstV X3.here hexec rfl 0 (hb hbytes d7) (by decide) ?_
    refine XS.iloadN X3.here hexec rfl (hb hbytes d8) rfl ?_
    exact Steps.refl _)
  obtain ⟨v6, T6, X6, E6, g6⟩ := X3.callS hexec (Cmp5.law l b A s.heap.size B3 o 0 len) hown (wks W (staticW U16 115 Cmp5.yN)) (wk W Cmp5.tab) (W := 0) (Nat.le_of_ble_eq_true rfl) (Nat.le_of_ble_eq_true rfl) (Nat.le_refl _) (by show 0 + len + 0 ≤ len; omega) (g := (mkF m 9 #[.val (.ref b), .val (.int (Int32.ofNat o)), .val (.int (Int32.ofNat len)), .val (.ref s.heap.size), .unset, .unset] [.int (Int32.ofNat len), .int (Int32.ofNat 0), .ref s.heap.size, .int (Int32.ofNat o), .ref b])) rfl (by rw [hml]; rfl) c5 (argsL := [.ref b, .int (Int32.ofNat o), .ref s.heap.size, .int (Int32.ofNat 0), .int (Int32.ofNat len)]) (rest := []) rfl rfl (by show 2 * 0 + 0 ≤ _; decide) (hb hbytes d9) (⟨rfl, hA3, ba3, hne, l1, by rw [bs3]; simp, hp⟩)
  obtain ⟨rfl, B6, p6, f6⟩ := E6
  have c7 : Steps p.tables e below (s₁.setTop (entryFrame m #[.ref b, .int (Int32.ofNat o), .int (Int32.ofNat len)] 6)) (T6.setTop (mkF m 12 #[.val (.ref b), .val (.int (Int32.ofNat o)), .val (.int (Int32.ofNat len)), .val (.ref s.heap.size), .unset, .unset] [.int (Int32.ofNat len)])) := g6
  have c8 : Steps p.tables e below (s₁.setTop (entryFrame m #[.ref b, .int (Int32.ofNat o), .int (Int32.ofNat len)] 6)) (T6.setTop (mkF m 58 #[.val (.ref b), .val (.int (Int32.ofNat o)), .val (.int (Int32.ofNat len)), .val (.ref s.heap.size), .val (.int (Int32.ofNat len)), .unset] [.ref s.heap.size])) := c7.trans (by
    refine XS.istore X6.here hexec rfl (hb hbytes d12) rfl rfl ?_
    refine XS.iload X6.here hexec rfl (hb hbytes d14) rfl ?_
    refine XS.iloadN X6.here hexec rfl (hb hbytes d16) rfl ?_
    refine XS.icmpYes X6.here hexec rfl (pc0 := 17) rfl (hb hbytes d17) rfl (ii_eq_t rfl) (by decide) rfl ?_
    refine XS.aloadN X6.here hexec rfl (hb hbytes d57) rfl rfl ?_
    exact Steps.refl _)
  have X8 := X6.wide (L' := []) (cells' := 1) (slots' := len) (fun x hx hlt => by
    simp only [List.nil_append, copyLocs, List.mem_map, List.mem_range] at hx
    obtain ⟨i, -, rfl⟩ := hx
    exact absurd hlt (Nat.lt_irrefl _)) (Nat.le_refl _) (by omega)
  exact ⟨T6, some (.ref s.heap.size), _, _, _, X8, rfl, rfl, rfl, (fun h => by cases h), ⟨⟨rfl, B6, ba3.like (X3.warmed.alike.symm.trans X6.warmed.alike) p6.1 f6.1 f6.2.1 f6.2.2.1, f6.2.1.trans bv3, by rw [X6.warmed.alike.findClass, f6.1]; exact bf3, by rw [f6.2.2.1, bs3]; simp, fun j hj => by rw [f6.2.2.2 j, if_pos (by omega)]; rfl, kp3.put p6 (Nat.le_refl _)⟩, by rw [p6.2.2, bh3, hh0]; simp⟩, fun fs hl => c8.trans (X8.areturnOut hexec rfl hret rfl (hb hbytes d58) hl)⟩
end Cmp3
namespace CodL
def yN : MethodName := ⟨"java/lang/StringUTF16", "coderFromArrayLen", "([BI)B"⟩
abbrev yB : ByteArray := jdk_52_method_15_code
theorem d0 : decode yB 0 = .ok (.iload_n 1, 1) := by decide +kernel
theorem d1 : decode yB 1 = .ok (.aload_n 0, 1) := by decide +kernel
theorem d2 : decode yB 2 = .ok (.arraylength, 1) := by decide +kernel
theorem d3 : decode yB 3 = .ok (.isub, 1) := by decide +kernel
theorem d4 : decode yB 4 = .ok (.bipush 31, 2) := by decide +kernel
theorem d6 : decode yB 6 = .ok (.iushr, 1) := by decide +kernel
theorem d7 : decode yB 7 = .ok (.i2b, 1) := by decide +kernel
theorem d8 : decode yB 8 = .ok (.ireturn, 1) := by decide +kernel
def site : List Cond := []
def tab : Cond := tabOf yN yB 2 (some .byte) site
def P (d : Addr) (B : Cell) (args : Array Value) (s : State) : Prop := args = #[.ref d, .int (Int32.ofNat B.slots.size)] ∧ Arr .byte d B s
def E (r : Option Value) (s u : State) : Prop := XT.PureE (some (.int 0)) r s u
/-- an array as long as the number of chars: LATIN1 -/
theorem law (l : Launch) (d : Addr) (B : Cell) : Law l yN 2 2 0 0 yB 2 (some .byte) site (P d B) E [] 0 0 := by
  refine Law.of_walk (plainFor_of_name (by decide +kernel)) (by decide +kernel) (by decide +kernel) (by decide) (fun _ _ h => by rw [h.1]; rfl) (fun _ U U' hal hh h => ⟨h.1, h.2.mv hal hh⟩) (fun r U U' V V' h1 hal h2 h => XT.PureE.mv r U U' V V' h1 hal h2 h) ?_
  intro p e s m args below meth c s₁ X0 hexec hbytes hml hret hlk hnm hown hh0 W hP
  obtain ⟨rfl, hB⟩ := hP
  have hB0 := hB.mv X0.warmed.alike hh0
  have c1 : Steps p.tables e below (s₁.setTop (entryFrame m #[.ref d, .int (Int32.ofNat B.slots.size)] 2)) (s₁.setTop (mkF m 0 #[.val (.ref d), .val (.int (Int32.ofNat B.slots.size))] [])) := entry rfl
  have c2 : Steps p.tables e below (s₁.setTop (entryFrame m #[.ref d, .int (Int32.ofNat B.slots.size)] 2)) (s₁.setTop (mkF m 2 #[.val (.ref d), .val (.int (Int32.ofNat B.slots.size))] [.ref d, .int (Int32.ofNat B.slots.size)])) := c1.trans (by
    refine XS.iloadN X0.here hexec rfl (hb hbytes d0) rfl ?_
    refine XS.aloadN X0.here hexec rfl (hb hbytes d1) rfl rfl ?_
    exact Steps.refl _)
  have c3 : Steps p.tables e below (s₁.setTop (entryFrame m #[.ref d, .int (Int32.ofNat B.slots.size)] 2)) (s₁.setTop (mkF m 8 #[.val (.ref d), .val (.int (Int32.ofNat B.slots.size))] [.int (lo8 (ushr (Int32.ofNat B.slots.size - Int32.ofNat B.slots.size) 31))])) := c2.trans (by
    refine X0.alen hexec hB0 rfl rfl (hb hbytes d2) ?_
    refine XS.isub X0.here hexec rfl (hb hbytes d3) rfl ?_
    refine bipushV X0.here hexec rfl 31 (hb hbytes d4) (by decide) ?_
    refine iushr X0.here hexec rfl (hb hbytes d6) rfl ?_
    refine i2b X0.here hexec rfl (hb hbytes d7) rfl ?_
    exact Steps.refl _)
  have e0 : lo8 (ushr (Int32.ofNat B.slots.size - Int32.ofNat B.slots.size) 31) = 0 := by rw [Int32.sub_self]; decide
  rw [e0] at c3
  exact ⟨s₁, some (.int 0), _, _, _, X0, rfl, rfl, rfl, (fun h => by cases h), ⟨rfl, hh0⟩, fun fs hl => c3.trans (X0.ireturnOut hexec hret rfl (Or.inr (Or.inr (Or.inl rfl))) (hb hbytes d8) hl)⟩
end CodL
/-- the String at a is Latin-1 over a new byte[] (the heap's one new cell): the low bytes of the len chars of A from o on; every cell but a is kept -/
def Got (a : Addr) (D : Cell) (fV fC : Field) (A : Cell) (o len : Nat) (r : Option Value) (s u : State) : Prop := r = none ∧ ∃ D' V : Cell, Blank "java/lang/String" a D' u ∧ Same D D' [fV.slot, fC.slot] ∧ D'.slots[fV.slot]? = some (.ref s.heap.size) ∧ D'.slots[fC.slot]? = some (.int 0) ∧ Arr .byte s.heap.size V u ∧ V.vm = .none ∧ u.vm.findClass "[B" = some V.cls ∧ V.slots.size = len ∧ (∀ j, j < len → V.slots[j]? = some (.int (lo8 (cv A (o + j))))) ∧ (∀ (y : Addr) (c : Cell), y ≠ a → s.heap[y]? = some c → u.heap[y]? = some c) ∧ u.heap.size = s.heap.size + 1
theorem Got.mv {a : Addr} {D A : Cell} {fV fC : Field} {o len : Nat} : ∀ r (U U' V V' : State), U'.heap = U.heap → V.vm.Alike V'.vm → V'.heap = V.heap → Got a D fV fC A o len r U V → Got a D fV fC A o len r U' V' :=
  fun r U U' V V' h1 hal h2 ⟨e0, D', X, a1, a2, a3, a4, a5, a6, a7, a8, a9, a10, a11⟩ => ⟨e0, D', X, a1.mv hal h2, a2, by rw [h1]; exact a3, a4, by rw [h1]; exact a5.mv hal h2, a6, by rw [hal.findClass]; exact a7, a8, a9, by rw [h1, h2]; exact a10, by rw [h1, h2]; exact a11⟩
namespace New4
def yN : MethodName := ⟨"java/lang/String", "<init>", "([CIILjava/lang/Void;)V"⟩
abbrev yB : ByteArray := jdk_42_method_149_code
theorem d0 : decode yB 0 = .ok (.aload_n 0, 1) := by decide +kernel
theorem d1 : decode yB 1 = .ok (.invokespecial 1, 3) := by decide +kernel
theorem d4 : decode yB 4 = .ok (.iload_n 3, 1) := by decide +kernel
theorem d5 : decode yB 5 = .ok (.ifCond (.ne) 22, 3) := by decide +kernel
theorem d27 : decode yB 27 = .ok (.getstatic 38, 3) := by decide +kernel
theorem d30 : decode yB 30 = .ok (.ifCond (.eq) 28, 3) := by decide +kernel
theorem d33 : decode yB 33 = .ok (.aload_n 1, 1) := by decide +kernel
theorem d34 : decode yB 34 = .ok (.iload_n 2, 1) := by decide +kernel
theorem d35 : decode yB 35 = .ok (.iload_n 3, 1) := by decide +kernel
theorem d36 : decode yB 36 = .ok (.invokestatic 177, 3) := by decide +kernel
theorem d39 : decode yB 39 = .ok (.astore 5, 2) := by decide +kernel
theorem d41 : decode yB 41 = .ok (.aload_n 0, 1) := by decide +kernel
theorem d42 : decode yB 42 = .ok (.aload 5, 2) := by decide +kernel
theorem d44 : decode yB 44 = .ok (.iload_n 3, 1) := by decide +kernel
theorem d45 : decode yB 45 = .ok (.invokestatic 47, 3) := by decide +kernel
theorem d48 : decode yB 48 = .ok (.putfield 15, 3) := by decide +kernel
theorem d51 : decode yB 51 = .ok (.aload_n 0, 1) := by decide +kernel
theorem d52 : decode yB 52 = .ok (.aload 5, 2) := by decide +kernel
theorem d54 : decode yB 54 = .ok (.putfield 9, 3) := by decide +kernel
theorem d57 : decode yB 57 = .ok (.return_, 1) := by decide +kernel
def site : List Cond := [.fieldLink "java/lang/String" 38 "java/lang/String" "COMPACT_STRINGS" "Z", Cmp3.tab, CodL.tab, .laysFinal "java/lang/String" "java/lang/String" "value" "[B", .fieldLink "java/lang/String" 9 "java/lang/String" "value" "[B", .laysFinal "java/lang/String" "java/lang/String" "coder" "B", .fieldLink "java/lang/String" 15 "java/lang/String" "coder" "B"] ++ objW "java/lang/String" 1 ++ staticW "java/lang/String" 177 Cmp3.yN ++ staticW "java/lang/String" 47 CodL.yN
def tab : Cond := tabOf yN yB 6 none site
def P (a : Addr) (D : Cell) (fV fC : Field) (b : Addr) (A : Cell) (z : Int32) (o len : Nat) (args : Array Value) (s : State) : Prop := args = #[.ref a, .ref b, .int (Int32.ofNat o), .int (Int32.ofNat len), .null] ∧ Blank "java/lang/String" a D s ∧ Found "java/lang/String" "value" "[B" fV s ∧ Found "java/lang/String" "coder" "B" fC s ∧ Ch b A s ∧ StaticIs s "java/lang/String" "COMPACT_STRINGS" "Z" (.int z) ∧ ¬ z = 0 ∧ 0 < len ∧ o + len ≤ A.slots.size ∧ len ≤ 536870912 ∧ ∀ i, i < len → ¬ 255 < cv A (o + i)
def E (a : Addr) (D : Cell) (fV fC : Field) (A : Cell) (o len : Nat) (r : Option Value) (s u : State) : Prop := Got a D fV fC A o len r s u
/-- len > 0, no char of the range above 255: a Latin-1 String of their low bytes -/
theorem law (l : Launch) (a : Addr) (D : Cell) (fV fC : Field) (b : Addr) (A : Cell) (z : Int32) (o len : Nat) : Law l yN 5 4 2 35 yB 6 none site (P a D fV fC b A z o len) (E a D fV fC A o len) [⟨a, fC.slot⟩, ⟨a, fV.slot⟩] 1 len := by
  refine Law.of_walk (plainFor_of_name (by decide +kernel)) (by decide +kernel) (by decide +kernel) (by decide) (fun _ _ h => by rw [h.1]; rfl) (fun _ U U' hal hh h => ⟨h.1, h.2.1.mv hal hh, h.2.2.1.al hal, h.2.2.2.1.al hal, h.2.2.2.2.1.mv hal hh, h.2.2.2.2.2.1.there hal hh, h.2.2.2.2.2.2⟩) (fun r U U' V V' h1 hal h2 h => Got.mv r U U' V V' h1 hal h2 h) ?_
  intro p e s m args below meth c s₁ X0 hexec hbytes hml hret hlk hnm hown hh0 W hP
  obtain ⟨rfl, hB, f1, f2, hA, s1, hz, l0, l1, l2, hp⟩ := hP
  have a31 := hA.1.2.2.2
  have c1 : Steps p.tables e below (s₁.setTop (entryFrame m #[.ref a, .ref b, .int (Int32.ofNat o), .int (Int32.ofNat len), .null] 6)) (s₁.setTop (mkF m 0 #[.val (.ref a), .val (.ref b), .val (.int (Int32.ofNat o)), .val (.int (Int32.ofNat len)), .val .null, .unset] [])) := entry rfl
  have c2 : Steps p.tables e below (s₁.setTop (entryFrame m #[.ref a, .ref b, .int (Int32.ofNat o), .int (Int32.ofNat len), .null] 6)) (s₁.setTop (mkF m 1 #[.val (.ref a), .val (.ref b), .val (.int (Int32.ofNat o)), .val (.int (Int32.ofNat len)), .val .null, .unset] [.ref a])) := c1.trans (by
    refine XS.aloadN X0.here hexec rfl (hb hbytes d0) rfl rfl ?_
    exact Steps.refl _)
  obtain ⟨T3, X3, q3, st3⟩ := X0.oinit hexec hown (wks W (objW "java/lang/String" 1)) (g := (mkF m 1 #[.val (.ref a), .val (.ref b), .val (.int (Int32.ofNat o)), .val (.int (Int32.ofNat len)), .val .null, .unset] [.ref a])) rfl (by rw [hml]; rfl) (rest := []) rfl (hb hbytes d1) (W := 0) (by show 2 * 0 + 0 ≤ _; decide) (Nat.le_of_ble_eq_true rfl) (Nat.le_of_ble_eq_true rfl)
  have hh3 := q3.trans hh0
  have c4 : Steps p.tables e below (s₁.setTop (entryFrame m #[.ref a, .ref b, .int (Int32.ofNat o), .int (Int32.ofNat len), .null] 6)) (T3.setTop (mkF m 27 #[.val (.ref a), .val (.ref b), .val (.int (Int32.ofNat o)), .val (.int (Int32.ofNat len)), .val .null, .unset] [])) := (c2.trans (st3 _ (Steps.refl _))).trans (by
    refine XS.iloadN X3.here hexec rfl (hb hbytes d4) rfl ?_
    refine XS.ifYes X3.here hexec rfl (pc0 := 5) rfl (hb hbytes d5) rfl (i0_ne_t (nz32 (by omega) l0)) (by decide) rfl ?_
    exact Steps.refl _)
  obtain ⟨T5, X5, q5, st5⟩ := X3.sget hexec hown (wk W (.fieldLink "java/lang/String" 38 "java/lang/String" "COMPACT_STRINGS" "Z")) s1 (fun _ _ h => by rw [hh3]; exact h) (g := (mkF m 27 #[.val (.ref a), .val (.ref b), .val (.int (Int32.ofNat o)), .val (.int (Int32.ofNat len)), .val .null, .unset] [])) rfl (hb hbytes d27)
  have hh5 := q5.trans hh3
  have c6 : Steps p.tables e below (s₁.setTop (entryFrame m #[.ref a, .ref b, .int (Int32.ofNat o), .int (Int32.ofNat len), .null] 6)) (T5.setTop (mkF m 30 #[.val (.ref a), .val (.ref b), .val (.int (Int32.ofNat o)), .val (.int (Int32.ofNat len)), .val .null, .unset] [.int z])) := c4.trans (st5 _ (Steps.refl _))
  have c7 : Steps p.tables e below (s₁.setTop (entryFrame m #[.ref a, .ref b, .int (Int32.ofNat o), .int (Int32.ofNat len), .null] 6)) (T5.setTop (mkF m 36 #[.val (.ref a), .val (.ref b), .val (.int (Int32.ofNat o)), .val (.int (Int32.ofNat len)), .val .null, .unset] [.int (Int32.ofNat len), .int (Int32.ofNat o), .ref b])) := c6.trans (by
    refine XS.ifNo X5.here hexec rfl (hb hbytes d30) rfl (i0_eq_f hz) ?_
    refine XS.aloadN X5.here hexec rfl (hb hbytes d33) rfl rfl ?_
    refine XS.iloadN X5.here hexec rfl (hb hbytes d34) rfl ?_
    refine XS.iloadN X5.here hexec rfl (hb hbytes d35) rfl ?_
    exact Steps.refl _)
  obtain ⟨v8, T8, X8, E8, g8⟩ := X5.callS hexec (Cmp3.law l b A o len) hown (wks W (staticW "java/lang/String" 177 Cmp3.yN)) (wk W Cmp3.tab) (W := 0) (Nat.le_of_ble_eq_true rfl) (Nat.le_of_ble_eq_true rfl) (Nat.le_refl _) (by show 0 + len ≤ len; omega) (g := (mkF m 36 #[.val (.ref a), .val (.ref b), .val (.int (Int32.ofNat o)), .val (.int (Int32.ofNat len)), .val .null, .unset] [.int (Int32.ofNat len), .int (Int32.ofNat o), .ref b])) rfl (by rw [hml]; rfl) c7 (argsL := [.ref b, .int (Int32.ofNat o), .int (Int32.ofNat len)]) (rest := []) rfl rfl (by show 2 * 0 + 0 ≤ _; decide) (hb hbytes d36) (⟨rfl, hA.mv X5.warmed.alike hh5, l1, l2, hp⟩)
  obtain ⟨e8, z8⟩ := E8
  obtain ⟨rfl, N, n1, n2, n3, n4, n5, n6⟩ := NewArr.mv _ T5 s _ _ hh5.symm (Vm.Alike.refl _) rfl e8
  rw [hh5] at z8
  have hB1 := hB.keep X8.warmed.alike (n6 _ _ hB.1)
  have hne : s.heap.size ≠ a := (Nat.ne_of_lt (Array.getElem?_eq_some_iff.mp hB.1).1).symm
  have c9 : Steps p.tables e below (s₁.setTop (entryFrame m #[.ref a, .ref b, .int (Int32.ofNat o), .int (Int32.ofNat len), .null] 6)) (T8.setTop (mkF m 39 #[.val (.ref a), .val (.ref b), .val (.int (Int32.ofNat o)), .val (.int (Int32.ofNat len)), .val .null, .unset] [.ref s.heap.size])) := g8
  have c10 : Steps p.tables e below (s₁.setTop (entryFrame m #[.ref a, .ref b, .int (Int32.ofNat o), .int (Int32.ofNat len), .null] 6)) (T8.setTop (mkF m 45 #[.val (.ref a), .val (.ref b), .val (.int (Int32.ofNat o)), .val (.int (Int32.ofNat len)), .val .null, .val (.ref s.heap.size)] [.int (Int32.ofNat N.slots.size), .ref s.heap.size, .ref a])) := by
    have hc : Steps p.tables e below (s₁.setTop (entryFrame m #[.ref a, .ref b, .int (Int32.ofNat o), .int (Int32.ofNat len), .null] 6)) (T8.setTop (mkF m 45 #[.val (.ref a), .val (.ref b), .val (.int (Int32.ofNat o)), .val (.int (Int32.ofNat len)), .val .null, .val (.ref s.heap.size)] [.int (Int32.ofNat len), .ref s.heap.size, .ref a])) := c9.trans (by
      refine XS.astore X8.here hexec rfl (hb hbytes d39) rfl rfl rfl ?_
      refine XS.aloadN X8.here hexec rfl (hb hbytes d41) rfl rfl ?_
      refine XS.aload X8.here hexec rfl (hb hbytes d42) rfl rfl ?_
      refine XS.iloadN X8.here hexec rfl (hb hbytes d44) rfl ?_
      exact Steps.refl _)
    rw [n4]; exact hc
  obtain ⟨v11, T11, X11, E11, g11⟩ := X8.callS hexec (CodL.law l s.heap.size N) hown (wks W (staticW "java/lang/String" 47 CodL.yN)) (wk W CodL.tab) (W := 1) (Nat.le_of_ble_eq_true rfl) (Nat.le_of_ble_eq_true rfl) (Nat.le_refl _) (by show 0 + len + 0 ≤ len; omega) (g := (mkF m 45 #[.val (.ref a), .val (.ref b), .val (.int (Int32.ofNat o)), .val (.int (Int32.ofNat len)), .val .null, .val (.ref s.heap.size)] [.int (Int32.ofNat N.slots.size), .ref s.heap.size, .ref a])) rfl (by rw [hml]; rfl) c10 (argsL := [.ref s.heap.size, .int (Int32.ofNat N.slots.size)]) (rest := [.ref a]) rfl rfl (by show 2 * 0 + (1 + 0) ≤ _; decide) (hb hbytes d45) (⟨rfl, n1⟩)
  obtain ⟨rfl, q11⟩ := E11
  have hB11 := hB1.mv (X8.warmed.alike.symm.trans X11.warmed.alike) q11
  have c12 : Steps p.tables e below (s₁.setTop (entryFrame m #[.ref a, .ref b, .int (Int32.ofNat o), .int (Int32.ofNat len), .null] 6)) (T11.setTop (mkF m 48 #[.val (.ref a), .val (.ref b), .val (.int (Int32.ofNat o)), .val (.int (Int32.ofNat len)), .val .null, .val (.ref s.heap.size)] [.int 0, .ref a])) := g11
  obtain ⟨T13, X13, p13, bl13, sl13, st13⟩ := X11.finit hexec hown (wk W (.fieldLink "java/lang/String" 15 "java/lang/String" "coder" "B")) (Or.inr ⟨_, (wk W (.laysFinal "java/lang/String" "java/lang/String" "coder" "B"))⟩) (Or.inl ⟨rfl, hnm⟩) f2 (Or.inl rfl) hB11 (t := .byte) (by decide +kernel) rfl (g := (mkF m 48 #[.val (.ref a), .val (.ref b), .val (.int (Int32.ofNat o)), .val (.int (Int32.ofNat len)), .val .null, .val (.ref s.heap.size)] [.int 0, .ref a])) rfl (rest := []) rfl (hb hbytes d48)
  have c14 : Steps p.tables e below (s₁.setTop (entryFrame m #[.ref a, .ref b, .int (Int32.ofNat o), .int (Int32.ofNat len), .null] 6)) (T13.setTop (mkF m 54 #[.val (.ref a), .val (.ref b), .val (.int (Int32.ofNat o)), .val (.int (Int32.ofNat len)), .val .null, .val (.ref s.heap.size)] [.ref s.heap.size, .ref a])) := (c12.trans (st13 _ (Steps.refl _))).trans (by
    refine XS.aloadN X13.here hexec rfl (hb hbytes d51) rfl rfl ?_
    refine XS.aload X13.here hexec rfl (hb hbytes d52) rfl rfl ?_
    exact Steps.refl _)
  obtain ⟨T15, X15, p15, bl15, sl15, st15⟩ := X13.finit hexec hown (wk W (.fieldLink "java/lang/String" 9 "java/lang/String" "value" "[B")) (Or.inr ⟨_, (wk W (.laysFinal "java/lang/String" "java/lang/String" "value" "[B"))⟩) (Or.inl ⟨rfl, hnm⟩) f1 (Or.inl rfl) bl13 (t := (.array .byte)) (by decide +kernel) rfl (g := (mkF m 54 #[.val (.ref a), .val (.ref b), .val (.int (Int32.ofNat o)), .val (.int (Int32.ofNat len)), .val .null, .val (.ref s.heap.size)] [.ref s.heap.size, .ref a])) rfl (rest := []) rfl (hb hbytes d54)
  have c16 : Steps p.tables e below (s₁.setTop (entryFrame m #[.ref a, .ref b, .int (Int32.ofNat o), .int (Int32.ofNat len), .null] 6)) (T15.setTop (mkF m 57 #[.val (.ref a), .val (.ref b), .val (.int (Int32.ofNat o)), .val (.int (Int32.ofNat len)), .val .null, .val (.ref s.heap.size)] [])) := c14.trans (st15 _ (Steps.refl _))
  have ap := apart (Or.inr ⟨_, (wk W (.laysFinal "java/lang/String" "java/lang/String" "value" "[B"))⟩) (Or.inr ⟨_, (wk W (.laysFinal "java/lang/String" "java/lang/String" "coder" "B"))⟩) f1 f2 (t₁ := .array .byte) (t₂ := .byte) (by decide +kernel) (by decide +kernel) (by decide)
  have al := X8.warmed.alike.symm.trans X15.warmed.alike
  have n7 : T11.heap[s.heap.size]? = some N := by rw [q11]; exact n1.1
  exact ⟨T15, none, _, _, _, X15, by simp, rfl, by omega, (fun _ => rfl), ⟨rfl, _, N, bl15, ((Same.refl D _).set _ (by simp)).set _ (by simp), sl15, (Cell.slots_setSlot_ne _ ap).trans sl13, n1.keep al (p15.other hne (p13.other hne n7)), n2, by rw [al.findClass]; exact n3, n4, n5, fun y c h1 h2 => p15.other h1 (p13.other h1 (by rw [q11]; exact n6 y c h2)), by rw [p15.2.2, p13.2.2, q11]; exact z8⟩, fun fs hl => c16.trans (X15.returnOut hexec hret (hb hbytes d57) hl)⟩
end New4
namespace New1
def yN : MethodName := ⟨"java/lang/String", "<init>", "([C)V"⟩
abbrev yB : ByteArray := jdk_42_method_3_code
theorem d0 : decode yB 0 = .ok (.aload_n 0, 1) := by decide +kernel
theorem d1 : decode yB 1 = .ok (.aload_n 1, 1) := by decide +kernel
theorem d2 : decode yB 2 = .ok (.iconst 0, 1) := by decide +kernel
theorem d3 : decode yB 3 = .ok (.aload_n 1, 1) := by decide +kernel
theorem d4 : decode yB 4 = .ok (.arraylength, 1) := by decide +kernel
theorem d5 : decode yB 5 = .ok (.aconst_null, 1) := by decide +kernel
theorem d6 : decode yB 6 = .ok (.invokespecial 27, 3) := by decide +kernel
theorem d9 : decode yB 9 = .ok (.return_, 1) := by decide +kernel
def site : List Cond := [New4.tab] ++ initW "java/lang/String" 27 New4.yN
def tab : Cond := tabOf yN yB 2 none site
def P (a : Addr) (D : Cell) (fV fC : Field) (b : Addr) (A : Cell) (z : Int32) (args : Array Value) (s : State) : Prop := args = #[.ref a, .ref b] ∧ Blank "java/lang/String" a D s ∧ Found "java/lang/String" "value" "[B" fV s ∧ Found "java/lang/String" "coder" "B" fC s ∧ Ch b A s ∧ StaticIs s "java/lang/String" "COMPACT_STRINGS" "Z" (.int z) ∧ ¬ z = 0 ∧ 0 < A.slots.size ∧ A.slots.size ≤ 536870912 ∧ ∀ i, i < A.slots.size → ¬ 255 < cv A i
def E (a : Addr) (D : Cell) (fV fC : Field) (A : Cell) (r : Option Value) (s u : State) : Prop := Got a D fV fC A 0 A.slots.size r s u
/-- new String(chars), not empty, no char above 255: a Latin-1 String of their low bytes -/
theorem law (l : Launch) (a : Addr) (D : Cell) (fV fC : Field) (b : Addr) (A : Cell) (z : Int32) : Law l yN 2 1 3 52 yB 2 none site (P a D fV fC b A z) (E a D fV fC A) [⟨a, fC.slot⟩, ⟨a, fV.slot⟩] 1 A.slots.size := by
  refine Law.of_walk (plainFor_of_name (by decide +kernel)) (by decide +kernel) (by decide +kernel) (by decide) (fun _ _ h => by rw [h.1]; rfl) (fun _ U U' hal hh h => ⟨h.1, h.2.1.mv hal hh, h.2.2.1.al hal, h.2.2.2.1.al hal, h.2.2.2.2.1.mv hal hh, h.2.2.2.2.2.1.there hal hh, h.2.2.2.2.2.2⟩) (fun r U U' V V' h1 hal h2 h => Got.mv r U U' V V' h1 hal h2 h) ?_
  intro p e s m args below meth c s₁ X0 hexec hbytes hml hret hlk hnm hown hh0 W hP
  obtain ⟨rfl, hB, f1, f2, hA, s1, hz, l0, l2, hp⟩ := hP
  have c1 : Steps p.tables e below (s₁.setTop (entryFrame m #[.ref a, .ref b] 2)) (s₁.setTop (mkF m 0 #[.val (.ref a), .val (.ref b)] [])) := entry rfl
  have c2 : Steps p.tables e below (s₁.setTop (entryFrame m #[.ref a, .ref b] 2)) (s₁.setTop (mkF m 6 #[.val (.ref a), .val (.ref b)] [.null, .int (Int32.ofNat A.slots.size), .int 0, .ref b, .ref a])) := c1.trans (by
    refine XS.aloadN X0.here hexec rfl (hb hbytes d0) rfl rfl ?_
    refine XS.aloadN X0.here hexec rfl (hb hbytes d1) rfl rfl ?_
    refine iconstV X0.here hexec rfl 0 (hb hbytes d2) (by decide) ?_
    refine XS.aloadN X0.here hexec rfl (hb hbytes d3) rfl rfl ?_
    refine X0.alen hexec (hA.1.mv X0.warmed.alike hh0) rfl rfl (hb hbytes d4) ?_
    refine XS.aconstNull X0.here hexec rfl (hb hbytes d5) ?_
    exact Steps.refl _)
  obtain ⟨v3, T3, X3, E3, g3⟩ := X0.callN hexec (New4.law l a D fV fC b A z 0 A.slots.size) rfl hown (wks W (initW "java/lang/String" 27 New4.yN)) (W New4.tab (by simp only [site, List.mem_cons, List.mem_append, true_or, or_true])) (W := 0) (Nat.le_of_ble_eq_true rfl) (Nat.le_of_ble_eq_true rfl) (Nat.le_refl _) (by show 0 + A.slots.size ≤ A.slots.size; omega) (g := (mkF m 6 #[.val (.ref a), .val (.ref b)] [.null, .int (Int32.ofNat A.slots.size), .int (Int32.ofNat 0), .ref b, .ref a])) rfl (by rw [hml]; rfl) c2 (argsL := [.ref b, .int (Int32.ofNat 0), .int (Int32.ofNat A.slots.size), .null]) (rest := []) rfl rfl (by show 2 * 0 + 0 ≤ _; decide) (hb hbytes d6) (⟨rfl, hB.mv X0.warmed.alike hh0, f1.al X0.warmed.alike, f2.al X0.warmed.alike, hA.mv X0.warmed.alike hh0, s1.there X0.warmed.alike hh0, hz, l0, by omega, l2, fun i hi => by rw [Nat.zero_add]; exact hp i hi⟩)
  have e0 := Got.mv _ s₁ s _ _ hh0.symm (Vm.Alike.refl _) rfl E3
  obtain rfl := e0.1
  have c4 : Steps p.tables e below (s₁.setTop (entryFrame m #[.ref a, .ref b] 2)) (T3.setTop (mkF m 9 #[.val (.ref a), .val (.ref b)] [])) := g3
  exact ⟨T3, none, _, _, _, X3, by simp, rfl, by omega, (fun _ => rfl), e0, fun fs hl => c4.trans (X3.returnOut hexec hret (hb hbytes d9) hl)⟩
theorem pays {l : Launch} {R : Room} {p : Program} {e : Env} {below : List Frame} {s : State} {sargs : Array Value} {len W : Nat} (a : Addr) (D : Cell) (fV fC : Field) (b : Addr) (A : Cell) (z : Int32) (htab : tab.before sargs s = true) (hfr : 4 ≤ R.frames) (hlo : W + 65 ≤ R.locals) :
    Back l R p e below s sargs yN len W (fun A₁ a₁ => A₁.cells + 1 ≤ R.cells ∧ A₁.slots + A.slots.size ≤ R.slots ∧ P a D fV fC b A z a₁ A₁.U) (fun A₁ _ v₁ B₁ => E a D fV fC A v₁ A₁.U B₁.U ∧ B₁.locs = A₁.locs ++ [⟨a, fC.slot⟩, ⟨a, fV.slot⟩] ∧ B₁.cells = A₁.cells + 1 ∧ B₁.slots = A₁.slots + A.slots.size) :=
  (law l a D fV fC b A z).pays htab hfr (by omega)
end New1
end StrChars
namespace StrChars.Road
open Jvm Sem ClassFile Op Lib Jvm.Stand Jvm.Free Jvm.Free.XT
open Jvm.Lib.Cold (StaticIs)
abbrev ST : String := "java/lang/String"
/-- every table word that New1's law asks, flat -/
abbrev words : List Jvm.Cond := [.code New1.yN New1.yB 2 none, .initialized ST, .methodLink ST 27 New4.yN, .instanceMethod New4.yN,
  .code New4.yN New4.yB 6 none, .fieldLink ST 38 ST "COMPACT_STRINGS" "Z", .laysFinal ST ST "value" "[B", .fieldLink ST 9 ST "value" "[B", .laysFinal ST ST "coder" "B", .fieldLink ST 15 ST "coder" "B",
  .methodLink ST 1 Lib.objectInit, .instanceMethod Lib.objectInit, .code Lib.objectInit ⟨#[0xb1]⟩ 1 none, .methodLink ST 177 Cmp3.yN, .static Cmp3.yN, .methodLink ST 47 CodL.yN, .static CodL.yN,
  .code Cmp3.yN Cmp3.yB 6 (some (.array .byte)), .initialized U16, .arrayClass .byte, .methodLink U16 115 Cmp5.yN, .static Cmp5.yN, .code Cmp5.yN Cmp5.yB 7 (some .int), .code CodL.yN CodL.yB 2 (some .byte)]
theorem tab_of {a : Array Value} {s : State} (h : ∀ w ∈ words, w.before a s = true) : New1.tab.before a s = true := by
  have h5 : Cmp5.tab.before a s = true := unparts (wk h (.code Cmp5.yN Cmp5.yB 7 (some .int))) (wks h (.initialized Cmp5.yN.cls :: Cmp5.site))
  have hc : CodL.tab.before a s = true := unparts (wk h (.code CodL.yN CodL.yB 2 (some .byte))) (wks h (.initialized CodL.yN.cls :: CodL.site))
  have q5 : ∀ w ∈ Cmp5.tab :: words, w.before a s = true := fun w hw => (List.mem_cons.mp hw).elim (fun e => e ▸ h5) (h w)
  have h3 : Cmp3.tab.before a s = true := unparts (wk q5 (.code Cmp3.yN Cmp3.yB 6 (some (.array .byte)))) (wks q5 (.initialized Cmp3.yN.cls :: Cmp3.site))
  have q3 : ∀ w ∈ Cmp3.tab :: CodL.tab :: words, w.before a s = true := fun w hw => (List.mem_cons.mp hw).elim (fun e => e ▸ h3) fun hw => (List.mem_cons.mp hw).elim (fun e => e ▸ hc) (h w)
  have h4 : New4.tab.before a s = true := unparts (wk q3 (.code New4.yN New4.yB 6 none)) (wks q3 (.initialized New4.yN.cls :: New4.site))
  have q4 : ∀ w ∈ New4.tab :: words, w.before a s = true := fun w hw => (List.mem_cons.mp hw).elim (fun e => e ▸ h4) (h w)
  exact unparts (wk q4 (.code New1.yN New1.yB 2 none)) (wks q4 (.initialized New1.yN.cls :: New1.site))
/-- the words ride from the start Z to the walk's own state -/
theorem moved {Z s : State} {a0 args : Array Value} (hZ : Z.Warmed39 s.vm) (hw : ∀ d ∈ words, d.before a0 Z = true) : ∀ d ∈ words, d.before args s = true := fun d hd => by
  have q := hw d hd
  have t : ∀ d ∈ words, d = .arrayClass .byte ∨ (d.onTables && d.keepsFace) = true := by decide +kernel
  rcases t d hd with rfl | t
  · exact RoadKit.mvA hZ q
  · exact RoadKit.mv hZ q t
/-- WHAT COMES BACK, over the tables of the start Z: h the heap at the call, h' behind it -/
def Q (Z : State) (x : Addr) (A : Cell) (h : Heap) (v : Option Value) (h' : Heap) (L : List Loc) : Prop := v = none ∧ (∀ y ∈ L, y.base = x) ∧ RoadKit.Keep h h' [x] ∧ h'.size = h.size + 1 ∧ RoadKit.Exa Z h' x ST ∧ RoadKit.Fld Z h' x ST "value" "[B" (.ref h.size) ∧ RoadKit.Fld Z h' x ST "coder" "B" (.int 0) ∧
  (∃ V : Cell, RoadKit.Arr Z h' h.size V .byte ∧ V.vm = .none ∧ Z.vm.findClass "[B" = some V.cls ∧ V.slots.size = A.slots.size ∧ ∀ j, j < A.slots.size → V.slots[j]? = some (.int (lo8 (cv A j)))) ∧
  ∀ (O n d : String) (w : Value), RoadKit.Fld Z h x O n d w → RoadKit.slotOf Z O n d ≠ RoadKit.slotOf Z ST "value" "[B" → RoadKit.slotOf Z O n d ≠ RoadKit.slotOf Z ST "coder" "B" → RoadKit.Fld Z h' x O n d w
/-- **new String(chars) AT A CALL, IN THE ROAD'S FORM**: for specialBack behind newO: x the fresh String, b the char[] with the cell A -/
theorem back {p : Program} {l : Launch} {e : Env} {R : Room} {s : State} {args : Array Value} {below : List Frame} {len W : Nat} {Z : State} {a0 : Array Value} {h : Heap} (hZ : Z.Warmed39 s.vm) (hw : ∀ d ∈ words, d.before a0 Z = true) {kI : Nat} (wi : (Jvm.Cond.instantiable ST kI).before a0 Z = true)
    {x b : Addr} {A : Cell} {z : Int32} {v0 c0 : Value} (E : RoadKit.Exa Z h x ST) (V : RoadKit.Fld Z h x ST "value" "[B" v0) (C : RoadKit.Fld Z h x ST "coder" "B" c0) (K : RoadKit.Arr Z h b A .char) (hty : Typed .char A) (S : RoadKit.Sta Z h ST "COMPACT_STRINGS" "Z" (.int z)) (hz : ¬ z = 0)
    (l0 : 0 < A.slots.size) (l2 : A.slots.size ≤ 536870912) (hp : ∀ i, i < A.slots.size → ¬ 255 < cv A i) (hfr : 4 ≤ R.frames) (hlo : W + 65 ≤ R.locals) :
    Back l R p e below s args New1.yN len W (fun P a => a = #[.ref x, .ref b] ∧ P.U.heap = h ∧ P.cells + 1 ≤ R.cells ∧ P.slots + A.slots.size ≤ R.slots)
      (fun P _ v B => ∃ L, Q Z x A h v B.U.heap L ∧ B.locs = P.locs ++ L ∧ B.cells = P.cells + 1 ∧ B.slots = P.slots + A.slots.size) := by
  intro m meth c P g ig mk a X hg hsize hdg hW hn hp'
  obtain ⟨rfl, rfl, r1, r2⟩ := hp'
  have al : Z.vm.Alike P.U.vm := hZ.alike.trans X.warmed.alike
  obtain ⟨D, cfV, kV, iV, fV, hD, gV, stV, knV, obV, asV, slV⟩ := id V
  obtain ⟨D', cfC, kC, iC, fC, hD', gC, stC, -, -, asC, slC⟩ := id C
  cases hD.symm.trans hD'
  obtain ⟨D2, kD, e1, e2, e3, e4, e5⟩ := id E
  cases hD.symm.trans e1
  obtain ⟨c2, k2, i1, i2, i3, -⟩ := Cond.instantiable_spec wi
  cases e2.symm.trans i1
  cases e3.symm.trans i2
  obtain ⟨kU, u1, u2⟩ := al.2.2 _ _ e3
  have hB : Blank ST x D P.U := ⟨hD, ⟨knV, fun q hq => by rw [hq] at obV; cases obV⟩, by rw [al.findClass]; exact e2, kU, u1, by rw [u2]; exact i3, by rw [u2]; exact e5 i3⟩
  have F1 : Found ST "value" "[B" fV P.U := ⟨SBG.found_only al ⟨cfV, kV, iV, gV⟩, stV⟩
  have F2 : Found ST "coder" "B" fC P.U := ⟨SBG.found_only al ⟨cfC, kC, iC, gC⟩, stC⟩
  have hA : Ch b A P.U := ⟨⟨K.1, State.isArrayOf_alike al K.2.1, K.2.2, by omega⟩, hty⟩
  have hS : StaticIs P.U ST "COMPACT_STRINGS" "Z" (.int z) := by
    obtain ⟨cfS, iS, kS, fS, st, cS, t1, t2, t3, t4, t5, t6, t7⟩ := S
    exact StaticIs.there (s := { Z with heap := P.U.heap }) ⟨cfS, iS, kS, fS, st, cS, t1, t2, t3, t4, t5, (fun q => by rw [q] at t6; cases t6), t7⟩ al rfl
  obtain ⟨v, B, X', ⟨⟨hv, E', V', q1, q2, q3, q4, q5, q6, q7, q8, q9, q10, q11⟩, hl, hc, hs⟩, st⟩ := New1.pays x D fV fC b A z (tab_of (moved hZ hw)) hfr hlo m meth c P g ig mk _ X hg hsize hdg hW hn ⟨r1, r2, rfl, hB, F1, F2, hA, hS, hz, l0, l2, hp⟩
  have al' : Z.vm.Alike B.U.vm := hZ.alike.trans X'.warmed.alike
  have hsz : E'.slots.size = D.slots.size := by
    obtain ⟨-, -, -, kB, w1, w2, w3⟩ := q1
    obtain ⟨kB', y1, y2⟩ := al'.2.2 _ _ e3
    rw [q2.2.1] at w1
    cases w1.symm.trans y1
    rw [w3, e5 i3, y2]
  refine ⟨v, B, X', ⟨_, ⟨hv, ?_, ⟨by omega, fun y cy hy hn' => q10 y cy (by simpa using hn') hy, fun y cy hy => ?_⟩, q11, ⟨E', _, q1.1, by rw [q2.2.1]; exact e2, by rw [q2.2.1]; exact e3, by rw [q2.1]; exact obV, fun _ => by rw [hsz]; exact e5 i3⟩,
    ⟨E', cfV, kV, iV, fV, q1.1, gV, stV, by rw [q2.1]; exact knV, by rw [q2.1]; exact obV, by rw [q2.2.1]; exact asV, q3⟩, ⟨E', cfC, kC, iC, fC, q1.1, gC, stC, by rw [q2.1]; exact knV, by rw [q2.1]; exact obV, by rw [q2.2.1]; exact asC, q4⟩,
    ⟨V', ⟨q5.1, State.isArrayOf_alike al'.symm q5.2.1, q5.2.2.1⟩, q6, by rw [← al'.findClass]; exact q7, q8, fun j hj => by have := q9 j hj; rwa [Nat.zero_add] at this⟩, fun O n d w F n1 n2 => ?_⟩, hl, hc, hs⟩, st⟩
  · intro y hy
    simp only [List.mem_cons, List.not_mem_nil, or_false] at hy
    rcases hy with rfl | rfl <;> rfl
  · by_cases q : y = x
    · subst q
      cases hD.symm.trans hy
      exact ⟨E', q1.1, q2.2.1, q2.1, hsz⟩
    · exact ⟨cy, q10 y cy q hy, rfl, rfl, rfl⟩
  · obtain ⟨D3, cf, k, i, f, g1, g2, g3, g4, g5, g6, g7⟩ := F
    cases hD.symm.trans g1
    simp only [RoadKit.slotOf, g2, gV, gC, Option.map_some, Option.getD_some] at n1 n2
    exact ⟨E', cf, k, i, f, q1.1, g2, g3, by rw [q2.1]; exact g4, by rw [q2.1]; exact g5, by rw [q2.2.1]; exact g6, by rw [q2.2.2 f.slot (by simp [n1, n2])]; exact g7⟩
end StrChars.Road
namespace StrChars.Road
open Jvm Sem ClassFile Op Lib Jvm.Stand Jvm.Free Jvm.Free.XT
/-- WHAT COMES BACK, the byte[] as a list of values -/
def QA (Z : State) (x : Addr) (zn : Int32) (cs : List Int32) (h : Heap) (v : Option Value) (h' : Heap) (L : List Loc) : Prop := v = none ∧ (∀ y ∈ L, y.base = x) ∧ RoadKit.Keep h h' [x] ∧ h'.size = h.size + 1 ∧ RoadKit.Exa Z h' x ST ∧ RoadKit.Fld Z h' x ST "value" "[B" (.ref h.size) ∧ RoadKit.Fld Z h' x ST "coder" "B" (.int 0) ∧
  (∃ kb, Z.vm.findClass "[B" = some kb ∧ RoadKit.Arv Z h' h.size kb .byte zn (cs.map fun c => .int (lo8 c)) (.int 0)) ∧
  ∀ (O n d : String) (w : Value), RoadKit.Fld Z h x O n d w → RoadKit.slotOf Z O n d ≠ RoadKit.slotOf Z ST "value" "[B" → RoadKit.slotOf Z O n d ≠ RoadKit.slotOf Z ST "coder" "B" → RoadKit.Fld Z h' x O n d w
/-- **new String(chars) AT A CALL, THE ARRAYS AS LISTS**: the char[] at b holds cs, not empty, no char above 255 -/
theorem backArv {p : Program} {l : Launch} {e : Env} {R : Room} {s : State} {args : Array Value} {below : List Frame} {len W : Nat} {Z : State} {a0 : Array Value} {h : Heap} (hZ : Z.Warmed39 s.vm) (hw : ∀ d ∈ words, d.before a0 Z = true) {kI : Nat} (wi : (Jvm.Cond.instantiable ST kI).before a0 Z = true)
    {x b : Addr} {k : ClassId} {zn z : Int32} {cs : List Int32} {dv v0 c0 : Value} (E : RoadKit.Exa Z h x ST) (V : RoadKit.Fld Z h x ST "value" "[B" v0) (C : RoadKit.Fld Z h x ST "coder" "B" c0) (K : RoadKit.Arv Z h b k .char zn (cs.map Value.int) dv) (S : RoadKit.Sta Z h ST "COMPACT_STRINGS" "Z" (.int z)) (hz : ¬ z = 0)
    (hlen : zn.toNatClampNeg = cs.length) (h0 : 0 < cs.length) (hbig : cs.length ≤ 536870912) (hall : ∀ c ∈ cs, ¬ 255 < c) (hfr : 4 ≤ R.frames) (hlo : W + 65 ≤ R.locals) :
    Back l R p e below s args New1.yN len W (fun P a => a = #[.ref x, .ref b] ∧ P.U.heap = h ∧ P.cells + 1 ≤ R.cells ∧ P.slots + cs.length ≤ R.slots)
      (fun P _ v B => ∃ L, QA Z x zn cs h v B.U.heap L ∧ B.locs = P.locs ++ L ∧ B.cells = P.cells + 1 ∧ B.slots = P.slots + cs.length) := by
  obtain ⟨A, K1, K2, K3, K4, K5, K6⟩ := K
  have e : A.slots.size = cs.length := K3.trans hlen
  have hat : ∀ (i : Nat) (hi : i < cs.length), A.slots[i]? = some (.int cs[i]) := fun i hi => by rw [K5 i (by omega)]; simp [List.getD_eq_getElem?_getD, hi]
  have hcv : ∀ (i : Nat) (hi : i < cs.length), cv A i = cs[i] := fun i hi => by unfold cv; rw [hat i hi]
  have hty : Typed .char A := fun i v hv => by
    have hi : i < A.slots.size := (Array.getElem?_eq_some_iff.mp hv).1
    have q := K5 i hi
    rw [hv] at q
    rw [Option.some.inj q]
    exact K6 i hi
  refine Back.mono (back hZ hw wi E V C K1 hty S hz (by omega) (by omega) (fun i hi => by rw [hcv i (by omega)]; exact hall _ (List.getElem_mem _)) hfr hlo) (fun P a hp => ⟨hp.1, hp.2.1, hp.2.2.1, by rw [e]; exact hp.2.2.2⟩) (fun P a v B hp hq => ?_)
  obtain ⟨L, ⟨q1, q2, q3, q4, q5, q6, q7, ⟨V', v1, v2, v3, v4, v5⟩, q9⟩, hl, hc, hs⟩ := hq
  refine ⟨L, ⟨q1, q2, q3, q4, q5, q6, q7, ⟨V'.cls, v3, V', v1, rfl, by rw [v4, e, hlen], K4, fun i hi => ?_, fun i hi => ?_⟩, q9⟩, hl, hc, by rw [hs, e]⟩
  · have hi' : i < cs.length := by omega
    rw [v5 i (by omega), hcv i hi']; simp [List.getD_eq_getElem?_getD, hi']
  · have hi' : i < cs.length := by omega
    simp only [List.getD_eq_getElem?_getD, List.getElem?_map, List.getElem?_eq_getElem hi', Option.map_some, Option.getD_some]
    exact fits_lo8 _
end StrChars.Road
namespace StrChars.Road
open Jvm Sem ClassFile Op Lib Jvm.Stand Jvm.Free Jvm.Free.XT
/-- WHAT COMES BACK, in the writer's own shape -/
def QV (Z : State) (x : Addr) (N : Int32) (bs : List Int32) (h : Heap) (n0 : Nat) (v : Option Value) (h' : Heap) (L : List Loc) : Prop := v = none ∧ RoadKit.Fr n0 L ∧ RoadKit.Keep h h' [x] ∧ RoadKit.Exa Z h' x ST ∧ RoadKit.Fld Z h' x ST "coder" "B" (.int 0) ∧
  ∃ (t : Addr) (kb : ClassId), n0 ≤ t ∧ h.size ≤ t ∧ ¬ t = x ∧ RoadKit.Fld Z h' x ST "value" "[B" (.ref t) ∧ RoadKit.Arv Z h' t kb .byte N (bs.map Value.int) (.int 0)
/-- **new String(chars) AT A CALL, FOR THE WRITER**: a char[] of n known ints, each 0 to 255 -/
theorem backV {p : Program} {l : Launch} {e : Env} {R : Room} {s : State} {args : Array Value} {below : List Frame} {len W : Nat} {Z : State} {a0 : Array Value} {h : Heap} (hZ : Z.Warmed39 s.vm) (hw : ∀ d ∈ words, d.before a0 Z = true) {kI : Nat} (wi : (Jvm.Cond.instantiable ST kI).before a0 Z = true)
    {x b : Addr} {kC : ClassId} {cs bs : List Int32} {d v0 c0 : Value} {z N : Int32} {n n0 : Nat} (hx0 : n0 ≤ x) (hh0 : n0 ≤ h.size) (E : RoadKit.Exa Z h x ST) (V : RoadKit.Fld Z h x ST "value" "[B" v0) (C : RoadKit.Fld Z h x ST "coder" "B" c0) (K : RoadKit.Arv Z h b kC .char N (cs.map Value.int) d) (S : RoadKit.Sta Z h ST "COMPACT_STRINGS" "Z" (.int z)) (hz : ¬ z = 0)
    (hn : cs.length = n) (hN : N = Int32.ofNat n) (l0 : 0 < n) (l2 : n ≤ 4000) (hp : ∀ c ∈ cs, ¬ c < 0 ∧ ¬ (255 : Int32) < c) (hb : bs = cs.map (fun c => c.toInt8.toInt32)) (hfr : 4 ≤ R.frames) (hlo : W + 65 ≤ R.locals) :
    Back l R p e below s args (⟨"java/lang/String", "<init>", "([C)V"⟩ : MethodName) len W (fun P a => a = #[.ref x, .ref b] ∧ P.U.heap = h ∧ P.cells + 1 ≤ R.cells ∧ P.slots + n ≤ R.slots)
      (fun P _ v B => ∃ L, QV Z x N bs h n0 v B.U.heap L ∧ B.locs = P.locs ++ L ∧ B.cells = P.cells + 1 ∧ B.slots = P.slots + n) := by
  subst hn hN hb
  refine Back.mono (backArv hZ hw wi E V C K S hz (n32 (by omega)) l0 (by omega) (fun c hc => (hp c hc).2) hfr hlo) (fun P a hp => hp) (fun P a v B hp hq => ?_)
  obtain ⟨L, ⟨q1, q2, q3, q4, q5, q6, q7, ⟨kb, v1, v2⟩, q9⟩, hl, hc, hs⟩ := hq
  exact ⟨L, ⟨q1, fun y hy => by rw [q2 y hy]; exact hx0, q3, q5, q7, h.size, kb, hh0, Nat.le_refl _, Nat.ne_of_gt E.lt, q6, by rw [List.map_map]; exact v2⟩, hl, hc, hs⟩
end StrChars.Road
end Jvm.Pilot.@@N@@

namespace Jvm.Pilot.@@N@@
open Jvm Jvm.ClassFile Sem Op Lib Jvm.Free Jvm.Stand Jvm.LawKit Jvm.RoadKit Bundle Jvm.Pilot.@@N@@.Jvm.D
theorem own_wid {p : Program} {l : Launch} {e : Env} {R : Room} {s : State} {m : MethodId} {args : Array Value} {below : List Frame} {meth : Method} {c : Code} {T : State} {locs : List Loc} {cells slots c' s' : Nat} (X : Stand p l e R s m args below meth c T locs cells slots) (h1 : cells ≤ c') (h2 : slots ≤ s') : Stand p l e R s m args below meth c T locs c' s' :=
  ⟨X.admits, X.cas, X.clock, X.frames, X.room, X.hears, X.method, X.code, X.here, X.tail, X.warmed, X.limits, X.bytes, X.same.mono h1 h2⟩
abbrev Sx (p : Program) (e : Env) (b : List Frame) (T : State) (m : MethodId) (pc : Nat) (L : Array Slot) (S : List Value) (t : State) : Prop := Steps p.tables e b (T.setTop (mkF m pc L S)) t
abbrev xvi (x : Int32) : Slot := .val (.int x)
abbrev xvj (x : Int64) : Slot := .val (.long x)
abbrev xvr (x : Addr) : Slot := .val (.ref x)
abbrev xwi (x : Int32) : Value := .int x
abbrev xwj (x : Int64) : Value := .long x
abbrev xwr (x : Addr) : Value := .ref x
abbrev xun : Slot := .unset
abbrev xse : Slot := .second
theorem own_selp {Z : State} {a0 : Array Value} {y : MethodName} {n : Nat} (wi : (Cond.instantiable y.cls n).before a0 Z = true) (wp : (Cond.privateMethod y).before a0 Z = true) (wn : (Cond.instanceMethod y).before a0 Z = true) (hy : y.cls ≠ "java/lang/invoke/MethodHandle" ∧ y.cls ≠ "java/lang/invoke/VarHandle") : (Cond.selects y.cls y y).before a0 Z = true := by
  obtain ⟨c, k, h1, h2, -, h4, -⟩ := Cond.instantiable_spec wi
  exact Jvm.Stand.selects_self_of_private h1 h2 (Bool.or_eq_false_iff.mp h4).1 (Cond.privateMethod_at wp) wn hy
theorem y_iload {p : Program} {l : Launch} {e : Env} {R : Room} {s : State} {m : MethodId} {args : Array Value} {below : List Frame} {meth : Method} {c : Code} {T : State} {locs : List Loc} {cells slots : Nat} {t : State} {L : Array Slot} {S : List Value} {pc : Nat} (X : Stand p l e R s m args below meth c T locs cells slots) (hx : p.tables.exec = Jvm.exec) {k : Nat} {v : Int32} (q : Nat) (hd : decode c.code pc = .ok (.iload k, 2)) (hl : L[k]? = some (.val (.int v))) (hq : pc + 2 = q) (hr : Sx p e below T m q L (.int v :: S) t) : Sx p e below T m pc L S t := by subst hq; exact XS.iload X.here hx rfl hd hl hr
theorem y_iloadN {p : Program} {l : Launch} {e : Env} {R : Room} {s : State} {m : MethodId} {args : Array Value} {below : List Frame} {meth : Method} {c : Code} {T : State} {locs : List Loc} {cells slots : Nat} {t : State} {L : Array Slot} {S : List Value} {pc : Nat} (X : Stand p l e R s m args below meth c T locs cells slots) (hx : p.tables.exec = Jvm.exec) {k : Fin 4} {v : Int32} (q : Nat) (hd : decode c.code pc = .ok (.iload_n k, 1)) (hl : L[k.val]? = some (.val (.int v))) (hq : pc + 1 = q) (hr : Sx p e below T m q L (.int v :: S) t) : Sx p e below T m pc L S t := by subst hq; exact XS.iloadN X.here hx rfl hd hl hr
theorem y_lload {p : Program} {l : Launch} {e : Env} {R : Room} {s : State} {m : MethodId} {args : Array Value} {below : List Frame} {meth : Method} {c : Code} {T : State} {locs : List Loc} {cells slots : Nat} {t : State} {L : Array Slot} {S : List Value} {pc : Nat} (X : Stand p l e R s m args below meth c T locs cells slots) (hx : p.tables.exec = Jvm.exec) {k : Nat} {v : Int64} (q : Nat) (hd : decode c.code pc = .ok (.lload k, 2)) (hl : L[k]? = some (.val (.long v))) (hq : pc + 2 = q) (hr : Sx p e below T m q L (.long v :: S) t) : Sx p e below T m pc L S t := by subst hq; exact XS.lload X.here hx rfl hd hl hr
theorem y_lloadN {p : Program} {l : Launch} {e : Env} {R : Room} {s : State} {m : MethodId} {args : Array Value} {below : List Frame} {meth : Method} {c : Code} {T : State} {locs : List Loc} {cells slots : Nat} {t : State} {L : Array Slot} {S : List Value} {pc : Nat} (X : Stand p l e R s m args below meth c T locs cells slots) (hx : p.tables.exec = Jvm.exec) {k : Fin 4} {v : Int64} (q : Nat) (hd : decode c.code pc = .ok (.lload_n k, 1)) (hl : L[k.val]? = some (.val (.long v))) (hq : pc + 1 = q) (hr : Sx p e below T m q L (.long v :: S) t) : Sx p e below T m pc L S t := by subst hq; exact XS.lloadN X.here hx rfl hd hl hr
theorem y_aload {p : Program} {l : Launch} {e : Env} {R : Room} {s : State} {m : MethodId} {args : Array Value} {below : List Frame} {meth : Method} {c : Code} {T : State} {locs : List Loc} {cells slots : Nat} {t : State} {L : Array Slot} {S : List Value} {pc : Nat} (X : Stand p l e R s m args below meth c T locs cells slots) (hx : p.tables.exec = Jvm.exec) {k : Nat} {v : Value} (q : Nat) (hd : decode c.code pc = .ok (.aload k, 2)) (hl : L[k]? = some (.val v)) (hv : v.isRef = true) (hq : pc + 2 = q) (hr : Sx p e below T m q L (v :: S) t) : Sx p e below T m pc L S t := by subst hq; exact XS.aload X.here hx rfl hd hl hv hr
theorem y_aloadN {p : Program} {l : Launch} {e : Env} {R : Room} {s : State} {m : MethodId} {args : Array Value} {below : List Frame} {meth : Method} {c : Code} {T : State} {locs : List Loc} {cells slots : Nat} {t : State} {L : Array Slot} {S : List Value} {pc : Nat} (X : Stand p l e R s m args below meth c T locs cells slots) (hx : p.tables.exec = Jvm.exec) {k : Fin 4} {v : Value} (q : Nat) (hd : decode c.code pc = .ok (.aload_n k, 1)) (hl : L[k.val]? = some (.val v)) (hv : v.isRef = true) (hq : pc + 1 = q) (hr : Sx p e below T m q L (v :: S) t) : Sx p e below T m pc L S t := by subst hq; exact XS.aloadN X.here hx rfl hd hl hv hr
theorem y_iconst {p : Program} {l : Launch} {e : Env} {R : Room} {s : State} {m : MethodId} {args : Array Value} {below : List Frame} {meth : Method} {c : Code} {T : State} {locs : List Loc} {cells slots : Nat} {t : State} {L : Array Slot} {S : List Value} {pc : Nat} (X : Stand p l e R s m args below meth c T locs cells slots) (hx : p.tables.exec = Jvm.exec) {i : Int} (z : Int32) (q : Nat) (hd : decode c.code pc = .ok (.iconst i, 1)) (hz : Int32.ofInt i = z) (hq : pc + 1 = q) (hr : Sx p e below T m q L (.int z :: S) t) : Sx p e below T m pc L S t := by subst hq; exact XS.iconst X.here hx rfl hd (by rw [hz]; exact hr)
theorem y_bipush {p : Program} {l : Launch} {e : Env} {R : Room} {s : State} {m : MethodId} {args : Array Value} {below : List Frame} {meth : Method} {c : Code} {T : State} {locs : List Loc} {cells slots : Nat} {t : State} {L : Array Slot} {S : List Value} {pc : Nat} (X : Stand p l e R s m args below meth c T locs cells slots) (hx : p.tables.exec = Jvm.exec) {i : Int} (z : Int32) (q : Nat) (hd : decode c.code pc = .ok (.bipush i, 2)) (hz : (Int8.ofInt i).toInt32 = z) (hq : pc + 2 = q) (hr : Sx p e below T m q L (.int z :: S) t) : Sx p e below T m pc L S t := by subst hq; exact XS.bipush X.here hx rfl hd (by rw [hz]; exact hr)
theorem y_sipush {p : Program} {l : Launch} {e : Env} {R : Room} {s : State} {m : MethodId} {args : Array Value} {below : List Frame} {meth : Method} {c : Code} {T : State} {locs : List Loc} {cells slots : Nat} {t : State} {L : Array Slot} {S : List Value} {pc : Nat} (X : Stand p l e R s m args below meth c T locs cells slots) (hx : p.tables.exec = Jvm.exec) {i : Int} (z : Int32) (q : Nat) (hd : decode c.code pc = .ok (.sipush i, 3)) (hz : (Int16.ofInt i).toInt32 = z) (hq : pc + 3 = q) (hr : Sx p e below T m q L (.int z :: S) t) : Sx p e below T m pc L S t := by subst hq; exact XS.sipush X.here hx rfl hd (by rw [hz]; exact hr)
theorem y_aconst_null {p : Program} {l : Launch} {e : Env} {R : Room} {s : State} {m : MethodId} {args : Array Value} {below : List Frame} {meth : Method} {c : Code} {T : State} {locs : List Loc} {cells slots : Nat} {t : State} {L : Array Slot} {S : List Value} {pc : Nat} (X : Stand p l e R s m args below meth c T locs cells slots) (hx : p.tables.exec = Jvm.exec) (q : Nat) (hd : decode c.code pc = .ok (.aconst_null, 1)) (hq : pc + 1 = q) (hr : Sx p e below T m q L (.null :: S) t) : Sx p e below T m pc L S t := by subst hq; exact XS.aconstNull X.here hx rfl hd hr
theorem y_iadd {p : Program} {l : Launch} {e : Env} {R : Room} {s : State} {m : MethodId} {args : Array Value} {below : List Frame} {meth : Method} {c : Code} {T : State} {locs : List Loc} {cells slots : Nat} {t : State} {L : Array Slot} {S : List Value} {pc : Nat} (X : Stand p l e R s m args below meth c T locs cells slots) (hx : p.tables.exec = Jvm.exec) {x y : Int32} (q : Nat) (hd : decode c.code pc = .ok (.iadd, 1)) (hq : pc + 1 = q) (hr : Sx p e below T m q L (.int (x + y) :: S) t) : Sx p e below T m pc L (.int y :: .int x :: S) t := by subst hq; exact XS.iadd X.here hx rfl hd rfl hr
theorem y_ladd {p : Program} {l : Launch} {e : Env} {R : Room} {s : State} {m : MethodId} {args : Array Value} {below : List Frame} {meth : Method} {c : Code} {T : State} {locs : List Loc} {cells slots : Nat} {t : State} {L : Array Slot} {S : List Value} {pc : Nat} (X : Stand p l e R s m args below meth c T locs cells slots) (hx : p.tables.exec = Jvm.exec) {x y : Int64} (q : Nat) (hd : decode c.code pc = .ok (.ladd, 1)) (hq : pc + 1 = q) (hr : Sx p e below T m q L (.long (x + y) :: S) t) : Sx p e below T m pc L (.long y :: .long x :: S) t := by subst hq; exact XS.ladd X.here hx rfl hd rfl hr
theorem y_isub {p : Program} {l : Launch} {e : Env} {R : Room} {s : State} {m : MethodId} {args : Array Value} {below : List Frame} {meth : Method} {c : Code} {T : State} {locs : List Loc} {cells slots : Nat} {t : State} {L : Array Slot} {S : List Value} {pc : Nat} (X : Stand p l e R s m args below meth c T locs cells slots) (hx : p.tables.exec = Jvm.exec) {x y : Int32} (q : Nat) (hd : decode c.code pc = .ok (.isub, 1)) (hq : pc + 1 = q) (hr : Sx p e below T m q L (.int (x - y) :: S) t) : Sx p e below T m pc L (.int y :: .int x :: S) t := by subst hq; exact XS.isub X.here hx rfl hd rfl hr
theorem y_lsub {p : Program} {l : Launch} {e : Env} {R : Room} {s : State} {m : MethodId} {args : Array Value} {below : List Frame} {meth : Method} {c : Code} {T : State} {locs : List Loc} {cells slots : Nat} {t : State} {L : Array Slot} {S : List Value} {pc : Nat} (X : Stand p l e R s m args below meth c T locs cells slots) (hx : p.tables.exec = Jvm.exec) {x y : Int64} (q : Nat) (hd : decode c.code pc = .ok (.lsub, 1)) (hq : pc + 1 = q) (hr : Sx p e below T m q L (.long (x - y) :: S) t) : Sx p e below T m pc L (.long y :: .long x :: S) t := by subst hq; exact XS.lsub X.here hx rfl hd rfl hr
theorem y_imul {p : Program} {l : Launch} {e : Env} {R : Room} {s : State} {m : MethodId} {args : Array Value} {below : List Frame} {meth : Method} {c : Code} {T : State} {locs : List Loc} {cells slots : Nat} {t : State} {L : Array Slot} {S : List Value} {pc : Nat} (X : Stand p l e R s m args below meth c T locs cells slots) (hx : p.tables.exec = Jvm.exec) {x y : Int32} (q : Nat) (hd : decode c.code pc = .ok (.imul, 1)) (hq : pc + 1 = q) (hr : Sx p e below T m q L (.int (x * y) :: S) t) : Sx p e below T m pc L (.int y :: .int x :: S) t := by subst hq; exact XS.imul X.here hx rfl hd rfl hr
theorem y_lmul {p : Program} {l : Launch} {e : Env} {R : Room} {s : State} {m : MethodId} {args : Array Value} {below : List Frame} {meth : Method} {c : Code} {T : State} {locs : List Loc} {cells slots : Nat} {t : State} {L : Array Slot} {S : List Value} {pc : Nat} (X : Stand p l e R s m args below meth c T locs cells slots) (hx : p.tables.exec = Jvm.exec) {x y : Int64} (q : Nat) (hd : decode c.code pc = .ok (.lmul, 1)) (hq : pc + 1 = q) (hr : Sx p e below T m q L (.long (x * y) :: S) t) : Sx p e below T m pc L (.long y :: .long x :: S) t := by subst hq; exact XS.lmul X.here hx rfl hd rfl hr
theorem y_iand {p : Program} {l : Launch} {e : Env} {R : Room} {s : State} {m : MethodId} {args : Array Value} {below : List Frame} {meth : Method} {c : Code} {T : State} {locs : List Loc} {cells slots : Nat} {t : State} {L : Array Slot} {S : List Value} {pc : Nat} (X : Stand p l e R s m args below meth c T locs cells slots) (hx : p.tables.exec = Jvm.exec) {x y : Int32} (q : Nat) (hd : decode c.code pc = .ok (.iand, 1)) (hq : pc + 1 = q) (hr : Sx p e below T m q L (.int (x &&& y) :: S) t) : Sx p e below T m pc L (.int y :: .int x :: S) t := by subst hq; exact XS.iand X.here hx rfl hd rfl hr
theorem y_land {p : Program} {l : Launch} {e : Env} {R : Room} {s : State} {m : MethodId} {args : Array Value} {below : List Frame} {meth : Method} {c : Code} {T : State} {locs : List Loc} {cells slots : Nat} {t : State} {L : Array Slot} {S : List Value} {pc : Nat} (X : Stand p l e R s m args below meth c T locs cells slots) (hx : p.tables.exec = Jvm.exec) {x y : Int64} (q : Nat) (hd : decode c.code pc = .ok (.land, 1)) (hq : pc + 1 = q) (hr : Sx p e below T m q L (.long (x &&& y) :: S) t) : Sx p e below T m pc L (.long y :: .long x :: S) t := by subst hq; exact XS.land X.here hx rfl hd rfl hr
theorem y_ior {p : Program} {l : Launch} {e : Env} {R : Room} {s : State} {m : MethodId} {args : Array Value} {below : List Frame} {meth : Method} {c : Code} {T : State} {locs : List Loc} {cells slots : Nat} {t : State} {L : Array Slot} {S : List Value} {pc : Nat} (X : Stand p l e R s m args below meth c T locs cells slots) (hx : p.tables.exec = Jvm.exec) {x y : Int32} (q : Nat) (hd : decode c.code pc = .ok (.ior, 1)) (hq : pc + 1 = q) (hr : Sx p e below T m q L (.int (x ||| y) :: S) t) : Sx p e below T m pc L (.int y :: .int x :: S) t := by subst hq; exact XS.ior X.here hx rfl hd rfl hr
theorem y_lor {p : Program} {l : Launch} {e : Env} {R : Room} {s : State} {m : MethodId} {args : Array Value} {below : List Frame} {meth : Method} {c : Code} {T : State} {locs : List Loc} {cells slots : Nat} {t : State} {L : Array Slot} {S : List Value} {pc : Nat} (X : Stand p l e R s m args below meth c T locs cells slots) (hx : p.tables.exec = Jvm.exec) {x y : Int64} (q : Nat) (hd : decode c.code pc = .ok (.lor, 1)) (hq : pc + 1 = q) (hr : Sx p e below T m q L (.long (x ||| y) :: S) t) : Sx p e below T m pc L (.long y :: .long x :: S) t := by subst hq; exact XS.lor X.here hx rfl hd rfl hr
theorem y_ixor {p : Program} {l : Launch} {e : Env} {R : Room} {s : State} {m : MethodId} {args : Array Value} {below : List Frame} {meth : Method} {c : Code} {T : State} {locs : List Loc} {cells slots : Nat} {t : State} {L : Array Slot} {S : List Value} {pc : Nat} (X : Stand p l e R s m args below meth c T locs cells slots) (hx : p.tables.exec = Jvm.exec) {x y : Int32} (q : Nat) (hd : decode c.code pc = .ok (.ixor, 1)) (hq : pc + 1 = q) (hr : Sx p e below T m q L (.int (x ^^^ y) :: S) t) : Sx p e below T m pc L (.int y :: .int x :: S) t := by subst hq; exact XS.ixor X.here hx rfl hd rfl hr
theorem y_lxor {p : Program} {l : Launch} {e : Env} {R : Room} {s : State} {m : MethodId} {args : Array Value} {below : List Frame} {meth : Method} {c : Code} {T : State} {locs : List Loc} {cells slots : Nat} {t : State} {L : Array Slot} {S : List Value} {pc : Nat} (X : Stand p l e R s m args below meth c T locs cells slots) (hx : p.tables.exec = Jvm.exec) {x y : Int64} (q : Nat) (hd : decode c.code pc = .ok (.lxor, 1)) (hq : pc + 1 = q) (hr : Sx p e below T m q L (.long (x ^^^ y) :: S) t) : Sx p e below T m pc L (.long y :: .long x :: S) t := by subst hq; exact XS.lxor X.here hx rfl hd rfl hr
theorem y_goto {p : Program} {l : Launch} {e : Env} {R : Room} {s : State} {m : MethodId} {args : Array Value} {below : List Frame} {meth : Method} {c : Code} {T : State} {locs : List Loc} {cells slots : Nat} {t : State} {L : Array Slot} {S : List Value} {pc : Nat} (X : Stand p l e R s m args below meth c T locs cells slots) (hx : p.tables.exec = Jvm.exec) {o : Int} (q : Nat) (hd : decode c.code pc = .ok (.goto o, 3)) (ho : 0 ≤ (pc : Int) + o) (hq : ((pc : Int) + o).toNat = q) (hr : Sx p e below T m q L S t) : Sx p e below T m pc L S t := by subst hq; exact XS.goto X.here hx rfl rfl hd ho rfl hr
theorem y_ifYes {p : Program} {l : Launch} {e : Env} {R : Room} {s : State} {m : MethodId} {args : Array Value} {below : List Frame} {meth : Method} {c : Code} {T : State} {locs : List Loc} {cells slots : Nat} {t : State} {L : Array Slot} {S : List Value} {pc : Nat} (X : Stand p l e R s m args below meth c T locs cells slots) (hx : p.tables.exec = Jvm.exec) {cd : ClassFile.Cond} {x : Int32} {o : Int} (q : Nat) (hd : decode c.code pc = .ok (.ifCond cd o, 3)) (hc : ifCond.holds cd x = true) (ho : 0 ≤ (pc : Int) + o) (hq : ((pc : Int) + o).toNat = q) (hr : Sx p e below T m q L S t) : Sx p e below T m pc L (.int x :: S) t := by subst hq; exact XS.ifYes X.here hx rfl rfl hd rfl hc ho rfl hr
theorem y_ifNo {p : Program} {l : Launch} {e : Env} {R : Room} {s : State} {m : MethodId} {args : Array Value} {below : List Frame} {meth : Method} {c : Code} {T : State} {locs : List Loc} {cells slots : Nat} {t : State} {L : Array Slot} {S : List Value} {pc : Nat} (X : Stand p l e R s m args below meth c T locs cells slots) (hx : p.tables.exec = Jvm.exec) {cd : ClassFile.Cond} {x : Int32} {o : Int} (q : Nat) (hd : decode c.code pc = .ok (.ifCond cd o, 3)) (hc : ifCond.holds cd x = false) (hq : pc + 3 = q) (hr : Sx p e below T m q L S t) : Sx p e below T m pc L (.int x :: S) t := by subst hq; exact XS.ifNo X.here hx rfl hd rfl hc hr
theorem y_icmpYes {p : Program} {l : Launch} {e : Env} {R : Room} {s : State} {m : MethodId} {args : Array Value} {below : List Frame} {meth : Method} {c : Code} {T : State} {locs : List Loc} {cells slots : Nat} {t : State} {L : Array Slot} {S : List Value} {pc : Nat} (X : Stand p l e R s m args below meth c T locs cells slots) (hx : p.tables.exec = Jvm.exec) {cd : ClassFile.Cond} {x y : Int32} {o : Int} (q : Nat) (hd : decode c.code pc = .ok (.if_icmp cd o, 3)) (hc : if_icmp.holds cd x y = true) (ho : 0 ≤ (pc : Int) + o) (hq : ((pc : Int) + o).toNat = q) (hr : Sx p e below T m q L S t) : Sx p e below T m pc L (.int y :: .int x :: S) t := by subst hq; exact XS.icmpYes X.here hx rfl rfl hd rfl hc ho rfl hr
theorem y_icmpNo {p : Program} {l : Launch} {e : Env} {R : Room} {s : State} {m : MethodId} {args : Array Value} {below : List Frame} {meth : Method} {c : Code} {T : State} {locs : List Loc} {cells slots : Nat} {t : State} {L : Array Slot} {S : List Value} {pc : Nat} (X : Stand p l e R s m args below meth c T locs cells slots) (hx : p.tables.exec = Jvm.exec) {cd : ClassFile.Cond} {x y : Int32} {o : Int} (q : Nat) (hd : decode c.code pc = .ok (.if_icmp cd o, 3)) (hc : if_icmp.holds cd x y = false) (hq : pc + 3 = q) (hr : Sx p e below T m q L S t) : Sx p e below T m pc L (.int y :: .int x :: S) t := by subst hq; exact XS.icmpNo X.here hx rfl hd rfl hc hr
theorem y_dup {p : Program} {l : Launch} {e : Env} {R : Room} {s : State} {m : MethodId} {args : Array Value} {below : List Frame} {meth : Method} {c : Code} {T : State} {locs : List Loc} {cells slots : Nat} {t : State} {L : Array Slot} {S : List Value} {pc : Nat} (X : Stand p l e R s m args below meth c T locs cells slots) (hx : p.tables.exec = Jvm.exec) {v : Value} (q : Nat) (hd : decode c.code pc = .ok (.dup, 1)) (hc : v.category = 1) (hq : pc + 1 = q) (hr : Sx p e below T m q L (v :: v :: S) t) : Sx p e below T m pc L (v :: S) t := by subst hq; exact XS.dup X.here hx rfl hd rfl hc hr
theorem y_pop {p : Program} {l : Launch} {e : Env} {R : Room} {s : State} {m : MethodId} {args : Array Value} {below : List Frame} {meth : Method} {c : Code} {T : State} {locs : List Loc} {cells slots : Nat} {t : State} {L : Array Slot} {S : List Value} {pc : Nat} (X : Stand p l e R s m args below meth c T locs cells slots) (hx : p.tables.exec = Jvm.exec) {v : Value} (q : Nat) (hd : decode c.code pc = .ok (.pop, 1)) (hc : v.category = 1) (hq : pc + 1 = q) (hr : Sx p e below T m q L S t) : Sx p e below T m pc L (v :: S) t := by subst hq; exact XS.pop X.here hx rfl hd rfl hc hr
theorem own_nar {v : Value} {t : FieldType} (h : v.isRef = true) (ht : t.isReference = true) : narrow t v = v := by
  rcases XT.refc h with rfl | ⟨r, rfl⟩ <;> cases t <;> first | rfl | cases ht
theorem own_fit {v : Value} {t : FieldType} (h : v.isRef = true) (ht : t.isReference = true) : fits t v = true := by
  rcases XT.refc h with rfl | ⟨r, rfl⟩ <;> cases t <;> first | rfl | cases ht
abbrev HW (a0 : Array Value) (Z : State) : Prop := ∀ d ∈ tables_1, d.before a0 Z = true
theorem w_at {a0 : Array Value} {Z : State} (hw : HW a0 Z) {d : Jvm.Cond} (i : Nat) (h : tables_1[i]? = some d) : d.before a0 Z = true := hw _ (List.mem_of_getElem? h)
theorem w_0 {a0 : Array Value} {Z : State} (hw : HW a0 Z) : (Cond.stringLink "com/example/nabao/nabao/DocumentTextStartPinLaw" 19 "").before a0 Z = true := w_at hw 0 rfl
theorem w_1 {a0 : Array Value} {Z : State} (hw : HW a0 Z) : (Cond.initialized "java/lang/String").before a0 Z = true := w_at hw 1 rfl
theorem w_2 {a0 : Array Value} {Z : State} (hw : HW a0 Z) : (Cond.instantiable "java/lang/String" 4).before a0 Z = true := w_at hw 2 rfl
theorem w_3 {a0 : Array Value} {Z : State} (hw : HW a0 Z) : (Cond.arrayClass FieldType.byte).before a0 Z = true := w_at hw 3 rfl
theorem w_4 {a0 : Array Value} {Z : State} (hw : HW a0 Z) : (Cond.laysFinal "java/lang/String" "java/lang/String" "value" "[B").before a0 Z = true := w_at hw 4 rfl
theorem w_5 {a0 : Array Value} {Z : State} (hw : HW a0 Z) : (Cond.laysFinal "java/lang/String" "java/lang/String" "coder" "B").before a0 Z = true := w_at hw 5 rfl
theorem w_8 {a0 : Array Value} {Z : State} (hw : HW a0 Z) : (Cond.classLink "com/example/nabao/nabao/DocumentTextStartPinLaw" 21 "com/example/nabao/nabao/Document").before a0 Z = true := w_at hw 8 rfl
theorem w_9 {a0 : Array Value} {Z : State} (hw : HW a0 Z) : (Cond.instantiable "com/example/nabao/nabao/Document" 3).before a0 Z = true := w_at hw 9 rfl
theorem w_10 {a0 : Array Value} {Z : State} (hw : HW a0 Z) : (Cond.initialized "com/example/nabao/nabao/Document").before a0 Z = true := w_at hw 10 rfl
theorem w_11 {a0 : Array Value} {Z : State} (hw : HW a0 Z) : (Cond.stringLink "com/example/nabao/nabao/DocumentTextStartPinLaw" 23 "d").before a0 Z = true := w_at hw 11 rfl
theorem w_12 {a0 : Array Value} {Z : State} (hw : HW a0 Z) : (Cond.methodLink "com/example/nabao/nabao/DocumentTextStartPinLaw" 25 ⟨"com/example/nabao/nabao/Document", "<init>", "(Ljava/lang/String;Ljava/lang/String;Ljava/lang/String;)V"⟩).before a0 Z = true := w_at hw 12 rfl
theorem w_13 {a0 : Array Value} {Z : State} (hw : HW a0 Z) : (Cond.instanceMethod ⟨"com/example/nabao/nabao/Document", "<init>", "(Ljava/lang/String;Ljava/lang/String;Ljava/lang/String;)V"⟩).before a0 Z = true := w_at hw 13 rfl
theorem w_14 {a0 : Array Value} {Z : State} (hw : HW a0 Z) : (Cond.code ⟨"com/example/nabao/nabao/Document", "<init>", "(Ljava/lang/String;Ljava/lang/String;Ljava/lang/String;)V"⟩ prog_4_method_1_code 4 (Option.none : Option FieldType)).before a0 Z = true := w_at hw 14 rfl
theorem w_15 {a0 : Array Value} {Z : State} (hw : HW a0 Z) : (Cond.methodLink "com/example/nabao/nabao/Document" 1 ⟨"java/lang/Object", "<init>", "()V"⟩).before a0 Z = true := w_at hw 15 rfl
theorem w_16 {a0 : Array Value} {Z : State} (hw : HW a0 Z) : (Cond.instanceMethod ⟨"java/lang/Object", "<init>", "()V"⟩).before a0 Z = true := w_at hw 16 rfl
theorem w_17 {a0 : Array Value} {Z : State} (hw : HW a0 Z) : (Cond.code ⟨"java/lang/Object", "<init>", "()V"⟩ object_method_1_code 1 (Option.none : Option FieldType)).before a0 Z = true := w_at hw 17 rfl
theorem w_18 {a0 : Array Value} {Z : State} (hw : HW a0 Z) : (Cond.stringLink "com/example/nabao/nabao/Document" 7 "id").before a0 Z = true := w_at hw 18 rfl
theorem w_19 {a0 : Array Value} {Z : State} (hw : HW a0 Z) : (Cond.methodLink "com/example/nabao/nabao/Document" 9 ⟨"java/util/Objects", "requireNonNull", "(Ljava/lang/Object;Ljava/lang/String;)Ljava/lang/Object;"⟩).before a0 Z = true := w_at hw 19 rfl
theorem w_20 {a0 : Array Value} {Z : State} (hw : HW a0 Z) : (Cond.static ⟨"java/util/Objects", "requireNonNull", "(Ljava/lang/Object;Ljava/lang/String;)Ljava/lang/Object;"⟩).before a0 Z = true := w_at hw 20 rfl
theorem w_21 {a0 : Array Value} {Z : State} (hw : HW a0 Z) : (Cond.initialized "java/util/Objects").before a0 Z = true := w_at hw 21 rfl
theorem w_22 {a0 : Array Value} {Z : State} (hw : HW a0 Z) : (Cond.code ⟨"java/util/Objects", "requireNonNull", "(Ljava/lang/Object;Ljava/lang/String;)Ljava/lang/Object;"⟩ jdk_31_method_11_code 2 (Option.some (FieldType.object "java/lang/Object"))).before a0 Z = true := w_at hw 22 rfl
theorem w_23 {a0 : Array Value} {Z : State} (hw : HW a0 Z) : (Cond.classLink "com/example/nabao/nabao/Document" 15 "java/lang/String").before a0 Z = true := w_at hw 23 rfl
theorem w_25 {a0 : Array Value} {Z : State} (hw : HW a0 Z) : (Cond.fieldLink "com/example/nabao/nabao/Document" 17 "com/example/nabao/nabao/Document" "id" "Ljava/lang/String;").before a0 Z = true := w_at hw 25 rfl
theorem w_26 {a0 : Array Value} {Z : State} (hw : HW a0 Z) : (Cond.laysFinal "com/example/nabao/nabao/Document" "com/example/nabao/nabao/Document" "id" "Ljava/lang/String;").before a0 Z = true := w_at hw 26 rfl
theorem w_27 {a0 : Array Value} {Z : State} (hw : HW a0 Z) : (Cond.fieldLink "com/example/nabao/nabao/Document" 22 "com/example/nabao/nabao/Document" "title" "Ljava/lang/String;").before a0 Z = true := w_at hw 27 rfl
theorem w_28 {a0 : Array Value} {Z : State} (hw : HW a0 Z) : (Cond.laysFinal "com/example/nabao/nabao/Document" "com/example/nabao/nabao/Document" "title" "Ljava/lang/String;").before a0 Z = true := w_at hw 28 rfl
theorem w_29 {a0 : Array Value} {Z : State} (hw : HW a0 Z) : (Cond.stringLink "com/example/nabao/nabao/Document" 25 "text").before a0 Z = true := w_at hw 29 rfl
theorem w_30 {a0 : Array Value} {Z : State} (hw : HW a0 Z) : (Cond.fieldLink "com/example/nabao/nabao/Document" 27 "com/example/nabao/nabao/Document" "text" "Ljava/lang/String;").before a0 Z = true := w_at hw 30 rfl
theorem w_31 {a0 : Array Value} {Z : State} (hw : HW a0 Z) : (Cond.laysFinal "com/example/nabao/nabao/Document" "com/example/nabao/nabao/Document" "text" "Ljava/lang/String;").before a0 Z = true := w_at hw 31 rfl
theorem w_32 {a0 : Array Value} {Z : State} (hw : HW a0 Z) : (Cond.methodLink "com/example/nabao/nabao/DocumentTextStartPinLaw" 28 ⟨"com/example/nabao/nabao/Document", "textStart", "()I"⟩).before a0 Z = true := w_at hw 32 rfl
theorem w_33 {a0 : Array Value} {Z : State} (hw : HW a0 Z) : (Cond.declares ⟨"com/example/nabao/nabao/Document", "textStart", "()I"⟩).before a0 Z = true := w_at hw 33 rfl
theorem w_34 {a0 : Array Value} {Z : State} (hw : HW a0 Z) : (Cond.instanceMethod ⟨"com/example/nabao/nabao/Document", "textStart", "()I"⟩).before a0 Z = true := w_at hw 34 rfl
theorem w_35 {a0 : Array Value} {Z : State} (hw : HW a0 Z) : (Cond.selects "com/example/nabao/nabao/Document" ⟨"com/example/nabao/nabao/Document", "textStart", "()I"⟩ ⟨"com/example/nabao/nabao/Document", "textStart", "()I"⟩).before a0 Z = true := w_at hw 35 rfl
theorem w_36 {a0 : Array Value} {Z : State} (hw : HW a0 Z) : (Cond.code ⟨"com/example/nabao/nabao/Document", "textStart", "()I"⟩ prog_4_method_5_code 1 (Option.some FieldType.int)).before a0 Z = true := w_at hw 36 rfl
theorem w_37 {a0 : Array Value} {Z : State} (hw : HW a0 Z) : (Cond.methodLink "com/example/nabao/nabao/DocumentTextStartPinLaw" 7 ⟨"com/example/nabao/nabao/DocumentTextStartPinLaw", "make", "(IIIII)Ljava/lang/String;"⟩).before a0 Z = true := w_at hw 37 rfl
theorem w_38 {a0 : Array Value} {Z : State} (hw : HW a0 Z) : (Cond.static ⟨"com/example/nabao/nabao/DocumentTextStartPinLaw", "make", "(IIIII)Ljava/lang/String;"⟩).before a0 Z = true := w_at hw 38 rfl
theorem w_39 {a0 : Array Value} {Z : State} (hw : HW a0 Z) : (Cond.initialized "com/example/nabao/nabao/DocumentTextStartPinLaw").before a0 Z = true := w_at hw 39 rfl
theorem w_40 {a0 : Array Value} {Z : State} (hw : HW a0 Z) : (Cond.code ⟨"com/example/nabao/nabao/DocumentTextStartPinLaw", "make", "(IIIII)Ljava/lang/String;"⟩ method_3_code 9 (Option.some (FieldType.object "java/lang/String"))).before a0 Z = true := w_at hw 40 rfl
theorem w_41 {a0 : Array Value} {Z : State} (hw : HW a0 Z) : (Cond.classLink "com/example/nabao/nabao/DocumentTextStartPinLaw" 14 "java/lang/String").before a0 Z = true := w_at hw 41 rfl
theorem w_42 {a0 : Array Value} {Z : State} (hw : HW a0 Z) : (Cond.arrayClass FieldType.char).before a0 Z = true := w_at hw 42 rfl
theorem w_43 {a0 : Array Value} {Z : State} (hw : HW a0 Z) : (Cond.methodLink "com/example/nabao/nabao/DocumentTextStartPinLaw" 32 ⟨"java/lang/String", "<init>", "([C)V"⟩).before a0 Z = true := w_at hw 43 rfl
theorem w_44 {a0 : Array Value} {Z : State} (hw : HW a0 Z) : (Cond.instanceMethod ⟨"java/lang/String", "<init>", "([C)V"⟩).before a0 Z = true := w_at hw 44 rfl
theorem w_45 {a0 : Array Value} {Z : State} (hw : HW a0 Z) : (Cond.code ⟨"java/lang/String", "<init>", "([C)V"⟩ jdk_42_method_3_code 2 (Option.none : Option FieldType)).before a0 Z = true := w_at hw 45 rfl
theorem w_46 {a0 : Array Value} {Z : State} (hw : HW a0 Z) : (Cond.methodLink "java/lang/String" 27 ⟨"java/lang/String", "<init>", "([CIILjava/lang/Void;)V"⟩).before a0 Z = true := w_at hw 46 rfl
theorem w_47 {a0 : Array Value} {Z : State} (hw : HW a0 Z) : (Cond.instanceMethod ⟨"java/lang/String", "<init>", "([CIILjava/lang/Void;)V"⟩).before a0 Z = true := w_at hw 47 rfl
theorem w_48 {a0 : Array Value} {Z : State} (hw : HW a0 Z) : (Cond.code ⟨"java/lang/String", "<init>", "([CIILjava/lang/Void;)V"⟩ jdk_42_method_149_code 6 (Option.none : Option FieldType)).before a0 Z = true := w_at hw 48 rfl
theorem w_49 {a0 : Array Value} {Z : State} (hw : HW a0 Z) : (Cond.methodLink "java/lang/String" 1 ⟨"java/lang/Object", "<init>", "()V"⟩).before a0 Z = true := w_at hw 49 rfl
theorem w_50 {a0 : Array Value} {Z : State} (hw : HW a0 Z) : (Cond.fieldLink "java/lang/String" 38 "java/lang/String" "COMPACT_STRINGS" "Z").before a0 Z = true := w_at hw 50 rfl
theorem w_61 {a0 : Array Value} {Z : State} (hw : HW a0 Z) : (Cond.fieldLink "java/lang/String" 15 "java/lang/String" "coder" "B").before a0 Z = true := w_at hw 61 rfl
theorem w_62 {a0 : Array Value} {Z : State} (hw : HW a0 Z) : (Cond.fieldLink "java/lang/String" 9 "java/lang/String" "value" "[B").before a0 Z = true := w_at hw 62 rfl
theorem w_63 {a0 : Array Value} {Z : State} (hw : HW a0 Z) : (Cond.methodLink "com/example/nabao/nabao/Document" 29 ⟨"java/lang/String", "length", "()I"⟩).before a0 Z = true := w_at hw 63 rfl
theorem w_64 {a0 : Array Value} {Z : State} (hw : HW a0 Z) : (Cond.declares ⟨"java/lang/String", "length", "()I"⟩).before a0 Z = true := w_at hw 64 rfl
theorem w_65 {a0 : Array Value} {Z : State} (hw : HW a0 Z) : (Cond.instanceMethod ⟨"java/lang/String", "length", "()I"⟩).before a0 Z = true := w_at hw 65 rfl
theorem w_66 {a0 : Array Value} {Z : State} (hw : HW a0 Z) : (Cond.selects "java/lang/String" ⟨"java/lang/String", "length", "()I"⟩ ⟨"java/lang/String", "length", "()I"⟩).before a0 Z = true := w_at hw 66 rfl
theorem w_67 {a0 : Array Value} {Z : State} (hw : HW a0 Z) : (Cond.code ⟨"java/lang/String", "length", "()I"⟩ jdk_42_method_54_code 1 (Option.some FieldType.int)).before a0 Z = true := w_at hw 67 rfl
theorem w_68 {a0 : Array Value} {Z : State} (hw : HW a0 Z) : (Cond.methodLink "java/lang/String" 335 ⟨"java/lang/String", "coder", "()B"⟩).before a0 Z = true := w_at hw 68 rfl
theorem w_69 {a0 : Array Value} {Z : State} (hw : HW a0 Z) : (Cond.declares ⟨"java/lang/String", "coder", "()B"⟩).before a0 Z = true := w_at hw 69 rfl
theorem w_70 {a0 : Array Value} {Z : State} (hw : HW a0 Z) : (Cond.instanceMethod ⟨"java/lang/String", "coder", "()B"⟩).before a0 Z = true := w_at hw 70 rfl
theorem w_71 {a0 : Array Value} {Z : State} (hw : HW a0 Z) : (Cond.selects "java/lang/String" ⟨"java/lang/String", "coder", "()B"⟩ ⟨"java/lang/String", "coder", "()B"⟩).before a0 Z = true := w_at hw 71 rfl
theorem w_72 {a0 : Array Value} {Z : State} (hw : HW a0 Z) : (Cond.code ⟨"java/lang/String", "coder", "()B"⟩ jdk_42_method_152_code 1 (Option.some FieldType.byte)).before a0 Z = true := w_at hw 72 rfl
theorem w_73 {a0 : Array Value} {Z : State} (hw : HW a0 Z) : (Cond.methodLink "com/example/nabao/nabao/DocumentTextStartPinLaw" 13 ⟨"java/lang/String", "valueOf", "(C)Ljava/lang/String;"⟩).before a0 Z = true := w_at hw 73 rfl
theorem w_74 {a0 : Array Value} {Z : State} (hw : HW a0 Z) : (Cond.static ⟨"java/lang/String", "valueOf", "(C)Ljava/lang/String;"⟩).before a0 Z = true := w_at hw 74 rfl
theorem w_75 {a0 : Array Value} {Z : State} (hw : HW a0 Z) : (Cond.code ⟨"java/lang/String", "valueOf", "(C)Ljava/lang/String;"⟩ jdk_42_method_139_code 1 (Option.some (FieldType.object "java/lang/String"))).before a0 Z = true := w_at hw 75 rfl
theorem w_76 {a0 : Array Value} {Z : State} (hw : HW a0 Z) : (Cond.methodLink "java/lang/String" 1015 ⟨"java/lang/StringLatin1", "canEncode", "(C)Z"⟩).before a0 Z = true := w_at hw 76 rfl
theorem w_77 {a0 : Array Value} {Z : State} (hw : HW a0 Z) : (Cond.static ⟨"java/lang/StringLatin1", "canEncode", "(C)Z"⟩).before a0 Z = true := w_at hw 77 rfl
theorem w_78 {a0 : Array Value} {Z : State} (hw : HW a0 Z) : (Cond.initialized "java/lang/StringLatin1").before a0 Z = true := w_at hw 78 rfl
theorem w_79 {a0 : Array Value} {Z : State} (hw : HW a0 Z) : (Cond.code ⟨"java/lang/StringLatin1", "canEncode", "(C)Z"⟩ jdk_43_method_3_code 1 (Option.some FieldType.boolean)).before a0 Z = true := w_at hw 79 rfl
theorem w_80 {a0 : Array Value} {Z : State} (hw : HW a0 Z) : (Cond.classLink "java/lang/String" 10 "java/lang/String").before a0 Z = true := w_at hw 80 rfl
theorem w_81 {a0 : Array Value} {Z : State} (hw : HW a0 Z) : (Cond.methodLink "java/lang/String" 1018 ⟨"java/lang/StringLatin1", "toBytes", "(C)[B"⟩).before a0 Z = true := w_at hw 81 rfl
theorem w_82 {a0 : Array Value} {Z : State} (hw : HW a0 Z) : (Cond.static ⟨"java/lang/StringLatin1", "toBytes", "(C)[B"⟩).before a0 Z = true := w_at hw 82 rfl
theorem w_83 {a0 : Array Value} {Z : State} (hw : HW a0 Z) : (Cond.code ⟨"java/lang/StringLatin1", "toBytes", "(C)[B"⟩ jdk_43_method_46_code 1 (Option.some (FieldType.array FieldType.byte))).before a0 Z = true := w_at hw 83 rfl
theorem w_84 {a0 : Array Value} {Z : State} (hw : HW a0 Z) : (Cond.methodLink "java/lang/String" 209 ⟨"java/lang/String", "<init>", "([BB)V"⟩).before a0 Z = true := w_at hw 84 rfl
theorem w_85 {a0 : Array Value} {Z : State} (hw : HW a0 Z) : (Cond.instanceMethod ⟨"java/lang/String", "<init>", "([BB)V"⟩).before a0 Z = true := w_at hw 85 rfl
theorem w_86 {a0 : Array Value} {Z : State} (hw : HW a0 Z) : (Cond.code ⟨"java/lang/String", "<init>", "([BB)V"⟩ jdk_42_method_151_code 3 (Option.none : Option FieldType)).before a0 Z = true := w_at hw 86 rfl
theorem w_87 {a0 : Array Value} {Z : State} (hw : HW a0 Z) : (Cond.stringLink "java/lang/String" 7 "").before a0 Z = true := w_at hw 87 rfl
theorem own_and255 (x : Int32) : ∃ k : Fin 256, (x &&& (255 : Int32)) = Int32.ofNat k.val := by
  have h : (x &&& 255).toBitVec.toNat < 256 := by
    simp only [Int32.toBitVec_and, BitVec.toNat_and]
    exact Nat.lt_succ_of_le Nat.and_le_right
  refine ⟨⟨_, h⟩, ?_⟩
  apply Int32.toBitVec_inj.mp
  show _ = BitVec.ofNat 32 _
  rw [BitVec.ofNat_toNat]; simp
theorem own_i2c (x : Int32) : (x &&& (255 : Int32)).toUInt32.toUInt16.toUInt32.toInt32 = x &&& 255 := by
  have t : ∀ k : Fin 256, (Int32.ofNat k.val).toUInt32.toUInt16.toUInt32.toInt32 = Int32.ofNat k.val := by decide +kernel
  obtain ⟨k, e⟩ := own_and255 x
  rw [e]; exact t k
theorem own_narc {c : Int32} (h : ¬ c < 0 ∧ ¬ (255 : Int32) < c) : nar .char c = c := by
  have t : ∀ k : Fin 256, nar .char (Int32.ofNat k.val) = Int32.ofNat k.val := by decide +kernel
  have h1 := h.1; have h2 := h.2
  rw [Int32.lt_iff_toInt_lt] at h1 h2
  have e1 : (0 : Int32).toInt = 0 := rfl
  have e2 : (255 : Int32).toInt = 255 := rfl
  have e : c = Int32.ofNat c.toInt.toNat := by
    apply Int32.toInt_inj.mp
    rw [Int32.toInt_ofNat_of_lt (by omega)]; omega
  rw [e]; exact t ⟨c.toInt.toNat, by omega⟩
theorem own_c255 (x : Int32) : ¬ (x &&& (255 : Int32)) < 0 ∧ ¬ (255 : Int32) < (x &&& (255 : Int32)) := by
  have t : ∀ k : Fin 256, ¬ (Int32.ofNat k.val) < 0 ∧ ¬ (255 : Int32) < (Int32.ofNat k.val) := by decide +kernel
  obtain ⟨k, e⟩ := own_and255 x
  rw [e]; exact t k
theorem own_nb (x : Int32) : x.toInt8.toInt32.toInt8.toInt32 = x.toInt8.toInt32 := by
  rw [Int8.toInt8_toInt32]
theorem own_up (cs : List Int32) (h : ∀ c ∈ cs, ¬ c < 0 ∧ ¬ (255 : Int32) < c) : ∀ c ∈ cs, ¬ c < 0 ∧ ¬ (65535 : Int32) < c := fun c hc => ⟨(h c hc).1, fun q => (h c hc).2 (by rw [Int32.lt_iff_toInt_lt] at q ⊢; have e1 : (65535 : Int32).toInt = 65535 := rfl; have e2 : (255 : Int32).toInt = 255 := rfl; omega)⟩
abbrev Gs : Type := Int32
def StartF (Z : State) (G : Gs) : Prop := Sta Z Z.heap "java/lang/String" "COMPACT_STRINGS" "Z" (.int G) ∧ ¬ G = (0 : Int32)
theorem own_mod5 (x : Int32) : (x &&& (7 : Int32)) % (5 : Int32) = 0 ∨ (x &&& (7 : Int32)) % (5 : Int32) = 1 ∨ (x &&& (7 : Int32)) % (5 : Int32) = 2 ∨ (x &&& (7 : Int32)) % (5 : Int32) = 3 ∨ (x &&& (7 : Int32)) % (5 : Int32) = 4 := by
  have h : (x &&& 7).toBitVec.toNat < 8 := by
    simp only [Int32.toBitVec_and, BitVec.toNat_and]
    exact Nat.lt_succ_of_le Nat.and_le_right
  have e : (x &&& 7) = Int32.ofNat (x &&& 7).toBitVec.toNat := by
    apply Int32.toBitVec_inj.mp
    show _ = BitVec.ofNat 32 _
    rw [BitVec.ofNat_toNat]; simp
  have t : ∀ k : Fin 8, Int32.ofNat k.val % 5 = 0 ∨ Int32.ofNat k.val % 5 = 1 ∨ Int32.ofNat k.val % 5 = 2 ∨ Int32.ofNat k.val % 5 = 3 ∨ Int32.ofNat k.val % 5 = 4 := by decide +kernel
  rw [e]; exact t ⟨_, h⟩
theorem own_wV {a0 : Array Value} {Z : State} (hw : ∀ d ∈ tables_1, d.before a0 Z = true) : ∀ d ∈ StrChars.Road.words, d.before a0 Z = true := fun d hd => hw d ((by decide +kernel : ∀ d ∈ StrChars.Road.words, d ∈ tables_1) d hd)
abbrev EL : List (String × Nat) := [("com/example/nabao/nabao/Document", 7), ("com/example/nabao/nabao/Document", 25), ("com/example/nabao/nabao/DocumentTextStartPinLaw", 19), ("com/example/nabao/nabao/DocumentTextStartPinLaw", 23), ("java/lang/String", 7)]
theorem own_EW {a0 : Array Value} {Z : State} (hw : ∀ d ∈ tables_1, d.before a0 Z = true) : EW Z a0 EL := (EW.cons (w_18 hw) (by decide) (EW.cons (w_29 hw) (by decide) (EW.cons (w_0 hw) (by decide) (EW.cons (w_11 hw) (by decide) (EW.cons (w_87 hw) (by decide) EW.nil)))))
theorem own_SA {a0 : Array Value} {Z : State} (hw : ∀ d ∈ tables_1, d.before a0 Z = true) : ∀ d ∈ Bundle.stringAtoms, d.before a0 Z = true := fun d hd => hw d ((by decide +kernel : ∀ d ∈ Bundle.stringAtoms, d ∈ tables_1) d hd)
theorem own_safeN {Z : State} {vm : Vm} {h : Heap} {x : Addr} (hal : Z.vm.Alike vm) (E : Exa Z h x "java/lang/String") (F : Fld Z h x "java/lang/String" "value" "[B" .null) : Safe Z EL vm h x := fun B => by
  obtain ⟨cell, k, e1, e2, e3, -, -⟩ := E
  obtain ⟨p, -, u, a, -, q, -, FB, rfl | rfl⟩ := B
  · cases (show h[q.sa]? = some q.sC from FB.ha).symm.trans e1
    obtain ⟨cS, ⟨⟨-, -, -, ⟨cv, kv, iv, s4, -⟩, -, -, -, s8, -⟩, -⟩, -⟩ := FB
    obtain ⟨k', z4⟩ := ff_back hal s4
    obtain ⟨c2, cf, k2, i, f, f1, f2, -, -, -, -, f7⟩ := F
    cases f1.symm.trans e1
    cases f2.symm.trans z4
    rw [s8] at f7; cases f7
  · cases (show h[q.sd]? = some q.SA from FB.hd).symm.trans e1
    obtain ⟨cS, -, -, f, -⟩ := FB
    have f' : vm.findClass "[B" = some q.SA.cls := f
    rw [hal.findClass] at f'
    obtain ⟨k1, q1, q2⟩ := Vm.findClass_spec f'
    obtain ⟨k2, q3, q4⟩ := Vm.findClass_spec e2
    cases q1.symm.trans q3
    exact absurd (q2.symm.trans q4) (by decide)
theorem own_shr0 (z : Int32) : (z >>> ((0 : Int32) &&& 31)) = z := by
  rw [show ((0 : Int32) &&& 31) = 0 from by decide]
  apply Int32.toBitVec_inj.mp
  rw [Int32.toBitVec_shiftRight]
  simp
theorem ef_rmCE (m : MethodId) (x0 : Int32)  : entryFrame m #[(.int x0)] 1 = mkF m 0 #[.val (.int x0)] [] := by first | (simp [entryFrame, mkF, argsToLocals, Value.category]; done) | rfl
theorem d14_0 : decode jdk_43_method_3_code 0 = .ok (.iload_n 0, 1) := by decide +kernel
theorem d14_1 : decode jdk_43_method_3_code 1 = .ok (.sipush 255, 3) := by decide +kernel
theorem d14_4 : decode jdk_43_method_3_code 4 = .ok (.if_icmp .gt 7, 3) := by decide +kernel
theorem d14_7 : decode jdk_43_method_3_code 7 = .ok (.iconst 1, 1) := by decide +kernel
theorem d14_8 : decode jdk_43_method_3_code 8 = .ok (.goto 4, 3) := by decide +kernel
theorem d14_12 : decode jdk_43_method_3_code 12 = .ok (.ireturn, 1) := by decide +kernel
theorem pn_0 : plainName "java/lang/StringLatin1" = true := by first | (simp [plainName, overriddenIn]; done) | decide +kernel
def QrmCE (Z : State) (G : Gs) (px : Int32) (h0 : Heap) (n0 : Nat) (v : Option Value) (h : Heap) (L : List Loc) : Prop := v = some (.int (1 : Int32)) ∧ Fr n0 L ∧ h = h0
set_option maxRecDepth 65536 in
set_option maxHeartbeats 40000000 in
theorem rmCE (l : Launch) (Z : State) (a0 : Array Value) (hw : HW a0 Z) (G : Gs) (ST : StartF Z G) (ws : List Jvm.Cond) (px : Int32) (h0 : Heap) (n0 : Nat) (X00 : Old Z n0 h0) (hp : ¬ (255 : Int32) < px) :
    MetFree l (⟨"java/lang/StringLatin1", "canEncode", "(C)Z"⟩ : MethodName) (head1 (Jvm.Cond.code (⟨"java/lang/StringLatin1", "canEncode", "(C)Z"⟩ : MethodName) jdk_43_method_3_code 1 (some .boolean) :: ws) ({ frames := 0, cells := 0, slots := 0, locals := 0 } : Room)) (fun a U => a = #[(.int px)] ∧ Z.Warmed39 U.vm ∧ U.heap = h0) (fun _ _ _ _ _ => True) (fun _ U o U' => ∃ v L, o = .returned v ∧ QrmCE Z G px h0 n0 v U'.heap L ∧ FrameEnd U o U' L ({ frames := 0, cells := 0, slots := 0, locals := 0 } : Room).cells ({ frames := 0, cells := 0, slots := 0, locals := 0 } : Room).slots) := by
  refine MetFree.of_bodySF (plainFor_of_name pn_0) hisR ?_
  intro p e s m args below meth c s₁ Bd hml0 hP hK
  obtain ⟨rfl, hZ, hh⟩ := hP
  have hx := Bd.exec
  have hby := Bd.bytes
  have hml : c.maxLocals = 1 := hml0
  have hown : s.vm.findClass "java/lang/StringLatin1" = some m.cls := findClass_of_methodNamed Bd.named
  have hnm := (name_of_methodNamed Bd.named Bd.method).1
  have X0 : Stand p l e ({ frames := 0, cells := 0, slots := 0, locals := 0 } : Room) s m #[(.int px)] below meth c s₁ [] 0 0 := Stand.of_body Bd
  have e0 : s₁.heap = h0 := by rw [← hh, Bd.state]; rfl
  have N0 := Fr.nil n0
  have Z0 : n0 ≤ h0.size := by have q := X00.2.1; rw [X00.1] at q; exact q
  obtain ⟨TG, hTG, hT2⟩ : ∃ P : State → Prop, (∀ t, P t → Steps p.tables e below (s₁.setTop (entryFrame m #[(.int px)] 1)) t) ∧ (∀ t, Steps p.tables e below (s₁.setTop (entryFrame m #[(.int px)] 1)) t → P t) := ⟨_, fun t k => k, fun t k => k⟩
  have pre0 : ∀ t, Sx p e below s₁ m 0 #[xvi px] [] t → TG t := fun t k => hT2 t (castTop (ef_rmCE m px ) k)
  obtain ⟨fs, hr, hrun, hended, hW, hsame⟩ := X0.leave (v := some (.int (1 : Int32))) (fun h => by rw [Bd.returns] at h; cases h)
  refine ⟨_, _, hTG _ (pre0 _ ?_), hrun, hended, _, _, rfl, ?_, ⟨_, rfl⟩, hW, hsame.mono (by decide) (by decide)⟩
  · refine y_iloadN X0 hx 1 (hb hby d14_0) rfl rfl ?_
    refine y_sipush X0 hx (255 : Int32) 4 (hb hby d14_1) rfl rfl ?_
    refine y_icmpNo X0 hx 7 (hb hby d14_4) (XT.ii_gt_f hp) rfl ?_
    refine y_iconst X0 hx (1 : Int32) 8 (hb hby d14_7) rfl rfl ?_
    refine y_goto X0 hx 12 (hb hby d14_8) (by decide) (by decide) ?_
    show Sx p e below s₁ m 12 #[xvi px] [xwi (1 : Int32)] _
    exact retN X0 hx (t := .boolean) Bd.returns (by simp) (hb hby d14_12) (hr)
  · show QrmCE Z G px h0 n0 _ s₁.heap _
    rw [e0]
    exact ⟨rfl, N0, rfl⟩
theorem ef_rmTB (m : MethodId) (x0 : Int32)  : entryFrame m #[(.int x0)] 1 = mkF m 0 #[.val (.int x0)] [] := by first | (simp [entryFrame, mkF, argsToLocals, Value.category]; done) | rfl
theorem d15_0 : decode jdk_43_method_46_code 0 = .ok (.iconst 1, 1) := by decide +kernel
theorem d15_1 : decode jdk_43_method_46_code 1 = .ok (.newarray .byte, 2) := by decide +kernel
theorem d15_3 : decode jdk_43_method_46_code 3 = .ok (.dup, 1) := by decide +kernel
theorem d15_4 : decode jdk_43_method_46_code 4 = .ok (.iconst 0, 1) := by decide +kernel
theorem d15_5 : decode jdk_43_method_46_code 5 = .ok (.iload_n 0, 1) := by decide +kernel
theorem d15_6 : decode jdk_43_method_46_code 6 = .ok (.i2b, 1) := by decide +kernel
theorem d15_7 : decode jdk_43_method_46_code 7 = .ok (.bastore, 1) := by decide +kernel
theorem d15_8 : decode jdk_43_method_46_code 8 = .ok (.areturn, 1) := by decide +kernel
def QrmTB (Z : State) (G : Gs) (px : Int32) (h0 : Heap) (n0 : Nat) (v : Option Value) (h : Heap) (L : List Loc) : Prop := ∃ (bx : Addr), ∃ (kx : ClassId), v = some (.ref bx) ∧ Fr n0 L ∧ Keep h0 h [] ∧ h0.size ≤ bx ∧ Arv Z h bx kx .byte (1 : Int32) [(.int px.toInt8.toInt32)] (.int (0 : Int32))
set_option maxRecDepth 65536 in
set_option maxHeartbeats 40000000 in
theorem rmTB (l : Launch) (Z : State) (a0 : Array Value) (hw : HW a0 Z) (G : Gs) (ST : StartF Z G) (ws : List Jvm.Cond) (px : Int32) (h0 : Heap) (n0 : Nat) (X00 : Old Z n0 h0) :
    MetFree l (⟨"java/lang/StringLatin1", "toBytes", "(C)[B"⟩ : MethodName) (head1 (Jvm.Cond.code (⟨"java/lang/StringLatin1", "toBytes", "(C)[B"⟩ : MethodName) jdk_43_method_46_code 1 (some (.array .byte)) :: ws) ({ frames := 0, cells := 1, slots := 1, locals := 0 } : Room)) (fun a U => a = #[(.int px)] ∧ Z.Warmed39 U.vm ∧ U.heap = h0) (fun _ _ _ _ _ => True) (fun _ U o U' => ∃ v L, o = .returned v ∧ QrmTB Z G px h0 n0 v U'.heap L ∧ FrameEnd U o U' L ({ frames := 0, cells := 1, slots := 1, locals := 0 } : Room).cells ({ frames := 0, cells := 1, slots := 1, locals := 0 } : Room).slots) := by
  refine MetFree.of_bodySF (plainFor_of_name pn_0) hisR ?_
  intro p e s m args below meth c s₁ Bd hml0 hP hK
  obtain ⟨rfl, hZ, hh⟩ := hP
  have hx := Bd.exec
  have hby := Bd.bytes
  have hml : c.maxLocals = 1 := hml0
  have hown : s.vm.findClass "java/lang/StringLatin1" = some m.cls := findClass_of_methodNamed Bd.named
  have hnm := (name_of_methodNamed Bd.named Bd.method).1
  have X0 : Stand p l e ({ frames := 0, cells := 1, slots := 1, locals := 0 } : Room) s m #[(.int px)] below meth c s₁ [] 0 0 := Stand.of_body Bd
  have e0 : s₁.heap = h0 := by rw [← hh, Bd.state]; rfl
  have N0 := Fr.nil n0
  have Z0 : n0 ≤ h0.size := by have q := X00.2.1; rw [X00.1] at q; exact q
  obtain ⟨TG, hTG, hT2⟩ : ∃ P : State → Prop, (∀ t, P t → Steps p.tables e below (s₁.setTop (entryFrame m #[(.int px)] 1)) t) ∧ (∀ t, Steps p.tables e below (s₁.setTop (entryFrame m #[(.int px)] 1)) t → P t) := ⟨_, fun t k => k, fun t k => k⟩
  have pre0 : ∀ t, Sx p e below s₁ m 0 #[xvi px] [] t → TG t := fun t k => hT2 t (castTop (ef_rmTB m px ) k)
  obtain ⟨T101, h101, k101, X101, e101, E101, A101, st101⟩ := newP (aty := .byte) X0 hx hZ (w_3 hw) e0 (g := (mkF m 1 #[xvi px] [xwi (1 : Int32)])) rfl (hb hby d15_1) rfl (by decide) (cap := 1) (by decide) (by decide) (by decide) (by decide)
  obtain ⟨b101, g101⟩ : ∃ z, z = h0.size := ⟨_, rfl⟩
  rw [← g101] at A101 st101
  have V101 : Arv Z h101 b101 k101 .byte (1 : Int32) [(.int (0 : Int32))] (.int (0 : Int32)) := (Arv.new A101 (by decide)).pad (pad_rep [] (.int (0 : Int32)) 1)
  obtain ⟨cl102, Ar102, q102, S102, M102, H102, G102⟩ := id V101
  have in102 : ¬ ((0 : Int32) < 0 ∨ cl102.slots.size ≤ ((0 : Int32)).toNatClampNeg) := inb_of S102 ⟨by decide, by decide⟩
  obtain ⟨T103, h103, X103, e103, W103, st103⟩ := stB X101 hx hZ e101 Ar102 (j := (0 : Int32)) in102 (g := (mkF m 7 #[xvi px] [xwi (px.toInt8.toInt32), xwi (0 : Int32), xwr b101, xwr b101])) rfl rfl (hb hby d15_7)
  have V103 : Arv Z h103 b101 k101 .byte (1 : Int32) [(.int (px.toInt8.toInt32))] (.int (0 : Int32)) := by have q := Arv.set Ar102 q102 S102 M102 H102 G102 (fits_nar_byte _) W103 0 rfl (Nat.le_of_ble_eq_true rfl); rw [own_nb] at q; exact q
  have N103 := Fr.snoc X103 N0 (Nat.le_trans Z0 (Nat.le_trans (Nat.le_refl _) (Nat.le_of_eq g101.symm)))
  obtain ⟨fs, hr, hrun, hended, hW, hsame⟩ := X103.leave (v := some (.ref b101)) (fun h => by rw [Bd.returns] at h; cases h)
  refine ⟨_, _, hTG _ (pre0 _ ?_), hrun, hended, _, _, rfl, ?_, ⟨_, rfl⟩, hW, hsame.mono (by decide) (by decide)⟩
  · refine y_iconst X0 hx (1 : Int32) 1 (hb hby d15_0) rfl rfl ?_
    refine st101 _ ?_
    show Sx p e below T101 m 3 #[xvi px] [xwr b101] _
    refine y_dup X101 hx 4 (hb hby d15_3) rfl rfl ?_
    refine y_iconst X101 hx (0 : Int32) 5 (hb hby d15_4) rfl rfl ?_
    refine y_iloadN X101 hx 6 (hb hby d15_5) rfl rfl ?_
    refine XS.i2b X101.here hx rfl (hb hby d15_6) rfl ?_
    show Sx p e below T101 m 7 #[xvi px] [xwi (px.toInt8.toInt32), xwi (0 : Int32), xwr b101, xwr b101] _
    refine st103 _ ?_
    show Sx p e below T103 m 8 #[xvi px] [xwr b101] _
    exact retOut X103 hx Bd.returns rfl (Or.inr (Or.inr (Or.inr (Or.inr ⟨rfl, rfl, rfl⟩)))) (hb hby d15_8) hr
  · show QrmTB Z G px h0 n0 _ T103.heap _
    rw [e103]
    exact ⟨b101, k101, rfl, N103, (((Keep.refl h0 []).ext E101).wr W103 (Or.inr (Nat.le_trans (Nat.le_refl _) (Nat.le_of_eq g101.symm)))), (Nat.le_trans (Nat.le_refl _) (Nat.le_of_eq g101.symm)), V103⟩
theorem ef_rmBB (m : MethodId) (x0 : Addr) (x1 : Addr) (x2 : Int32)  : entryFrame m #[(.ref x0), (.ref x1), (.int x2)] 3 = mkF m 0 #[.val (.ref x0), .val (.ref x1), .val (.int x2)] [] := by first | (simp [entryFrame, mkF, argsToLocals, Value.category]; done) | rfl
theorem d16_0 : decode jdk_42_method_151_code 0 = .ok (.aload_n 0, 1) := by decide +kernel
theorem d16_1 : decode jdk_42_method_151_code 1 = .ok (.invokespecial 1, 3) := by decide +kernel
theorem d16_4 : decode jdk_42_method_151_code 4 = .ok (.aload_n 0, 1) := by decide +kernel
theorem d16_5 : decode jdk_42_method_151_code 5 = .ok (.aload_n 1, 1) := by decide +kernel
theorem d16_6 : decode jdk_42_method_151_code 6 = .ok (.putfield 9, 3) := by decide +kernel
theorem d16_9 : decode jdk_42_method_151_code 9 = .ok (.aload_n 0, 1) := by decide +kernel
theorem d16_10 : decode jdk_42_method_151_code 10 = .ok (.iload_n 2, 1) := by decide +kernel
theorem d16_11 : decode jdk_42_method_151_code 11 = .ok (.putfield 15, 3) := by decide +kernel
theorem d16_14 : decode jdk_42_method_151_code 14 = .ok (.return_, 1) := by decide +kernel
theorem pn_1 : plainName "java/lang/String" = true := by first | (simp [plainName, overriddenIn]; done) | decide +kernel
def QrmBB (Z : State) (G : Gs) (ax : Addr) (tx : Addr) (u1 : Value) (u2 : Value) (h0 : Heap) (n0 : Nat) (v : Option Value) (h : Heap) (L : List Loc) : Prop := v = none ∧ Fr n0 L ∧ Keep h0 h [ax] ∧ Exa Z h ax "java/lang/String" ∧ Fld Z h ax "java/lang/String" "value" "[B" (.ref tx) ∧ Fld Z h ax "java/lang/String" "coder" "B" (.int (0 : Int32))
set_option maxRecDepth 65536 in
set_option maxHeartbeats 40000000 in
theorem rmBB (l : Launch) (Z : State) (a0 : Array Value) (hw : HW a0 Z) (G : Gs) (ST : StartF Z G) (ws : List Jvm.Cond) (ax : Addr) (tx : Addr) (u1 : Value) (u2 : Value) (h0 : Heap) (n0 : Nat) (X00 : Old Z n0 h0) (E1 : Exa Z h0 ax "java/lang/String") (F1 : Fld Z h0 ax "java/lang/String" "value" "[B" u1) (F2 : Fld Z h0 ax "java/lang/String" "coder" "B" u2) (g1 : n0 ≤ ax) :
    MetFree l (⟨"java/lang/String", "<init>", "([BB)V"⟩ : MethodName) (head1 (Jvm.Cond.code (⟨"java/lang/String", "<init>", "([BB)V"⟩ : MethodName) jdk_42_method_151_code 3 none :: ws) ({ frames := 1, cells := 0, slots := 0, locals := 12 } : Room)) (fun a U => a = #[(.ref ax), (.ref tx), (.int (0 : Int32))] ∧ Z.Warmed39 U.vm ∧ U.heap = h0) (fun _ _ _ _ _ => True) (fun _ U o U' => ∃ v L, o = .returned v ∧ QrmBB Z G ax tx u1 u2 h0 n0 v U'.heap L ∧ FrameEnd U o U' L ({ frames := 1, cells := 0, slots := 0, locals := 12 } : Room).cells ({ frames := 1, cells := 0, slots := 0, locals := 12 } : Room).slots) := by
  refine MetFree.of_bodySF (plainFor_of_name pn_1) hisR ?_
  intro p e s m args below meth c s₁ Bd hml0 hP hK
  obtain ⟨rfl, hZ, hh⟩ := hP
  have hx := Bd.exec
  have hby := Bd.bytes
  have hml : c.maxLocals = 3 := hml0
  have hown : s.vm.findClass "java/lang/String" = some m.cls := findClass_of_methodNamed Bd.named
  have hnm := (name_of_methodNamed Bd.named Bd.method).1
  have X0 : Stand p l e ({ frames := 1, cells := 0, slots := 0, locals := 12 } : Room) s m #[(.ref ax), (.ref tx), (.int (0 : Int32))] below meth c s₁ [] 0 0 := Stand.of_body Bd
  have e0 : s₁.heap = h0 := by rw [← hh, Bd.state]; rfl
  have N0 := Fr.nil n0
  have Z0 : n0 ≤ h0.size := by have q := X00.2.1; rw [X00.1] at q; exact q
  obtain ⟨TG, hTG, hT2⟩ : ∃ P : State → Prop, (∀ t, P t → Steps p.tables e below (s₁.setTop (entryFrame m #[(.ref ax), (.ref tx), (.int (0 : Int32))] 3)) t) ∧ (∀ t, Steps p.tables e below (s₁.setTop (entryFrame m #[(.ref ax), (.ref tx), (.int (0 : Int32))] 3)) t → P t) := ⟨_, fun t k => k, fun t k => k⟩
  have pre0 : ∀ t, Sx p e below s₁ m 0 #[xvr ax, xvr tx, xvi (0 : Int32)] [] t → TG t := fun t k => hT2 t (castTop (ef_rmBB m ax tx (0 : Int32) ) k)
  obtain ⟨T104, X104, e104, st104⟩ := initO X0 hx hZ hown (w_49 hw) (w_16 hw) (w_17 hw) e0 (g := (mkF m 1 #[xvr ax, xvr tx, xvi (0 : Int32)] [xwr ax])) rfl (by rw [hml]; rfl) rfl (hb hby d16_1) (by decide) (W := 0) (by show 2 * 0 + _ ≤ _; exact Nat.le_of_eq rfl) (by decide)
  obtain ⟨T105, h105, X105, e105, W105, st105⟩ := putF X104 hx hZ hown (host := "") (Or.inl (w_62 hw)) Via.refl e104 F1 E1 (Or.inr ⟨(w_4 hw), rfl, hnm⟩) (w_2 hw) (ty := (.array .byte)) (by decide) rfl rfl (g := (mkF m 6 #[xvr ax, xvr tx, xvi (0 : Int32)] [xwr tx, xwr ax])) rfl rfl (hb hby d16_6)
  have Fw105 := F1.same W105
  have N105 := Fr.snoc X105 N0 g1
  have f106 := (F2.other W105 (Or.inr (slot_ne (Or.inr (w_5 hw)) (Or.inr (w_4 hw)) (by decide) (t := .byte) (t' := (.array .byte)) (by decide) (by decide))))
  have f107 := (E1.wr W105)
  obtain ⟨T108, h108, X108, e108, W108, st108⟩ := putFN X105 hx hZ hown (w_61 hw) Via.refl e105 f106 f107 (Or.inr ⟨(w_5 hw), rfl, hnm⟩) (w_2 hw) (ty := .byte) (v' := (.int (0 : Int32))) (by decide) (by decide) (by decide) (g := (mkF m 11 #[xvr ax, xvr tx, xvi (0 : Int32)] [xwi (0 : Int32), xwr ax])) rfl rfl (hb hby d16_11)
  have Fw108 := f106.same W108
  have N108 := Fr.snoc X108 N105 g1
  have f109 := (f107.wr W108)
  have f110 := (Fw105.other W108 (Or.inr (slot_ne (Or.inr (w_4 hw)) (Or.inr (w_5 hw)) (by decide) (t := (.array .byte)) (t' := .byte) (by decide) (by decide))))
  obtain ⟨fs, hr, hrun, hended, hW, hsame⟩ := X108.leave (v := none) (fun _ => rfl)
  refine ⟨_, _, hTG _ (pre0 _ ?_), hrun, hended, _, _, rfl, ?_, ⟨_, rfl⟩, hW, hsame.mono (by decide) (by decide)⟩
  · refine y_aloadN X0 hx 1 (hb hby d16_0) rfl rfl rfl ?_
    refine st104 _ ?_
    show Sx p e below T104 m 4 #[xvr ax, xvr tx, xvi (0 : Int32)] [] _
    refine y_aloadN X104 hx 5 (hb hby d16_4) rfl rfl rfl ?_
    refine y_aloadN X104 hx 6 (hb hby d16_5) rfl rfl rfl ?_
    refine st105 _ ?_
    show Sx p e below T105 m 9 #[xvr ax, xvr tx, xvi (0 : Int32)] [] _
    refine y_aloadN X105 hx 10 (hb hby d16_9) rfl rfl rfl ?_
    refine y_iloadN X105 hx 11 (hb hby d16_10) rfl rfl ?_
    refine st108 _ ?_
    show Sx p e below T108 m 14 #[xvr ax, xvr tx, xvi (0 : Int32)] [] _
    exact X108.returnOut hx Bd.returns (hb hby d16_14) hr
  · show QrmBB Z G ax tx u1 u2 h0 n0 _ T108.heap _
    rw [e108]
    exact ⟨rfl, N108, (((Keep.refl h0 [ax]).wr W105 (Or.inl (List.mem_of_getElem? (i := 0) rfl))).wr W108 (Or.inl (List.mem_of_getElem? (i := 0) rfl))), f109, f110, Fw108⟩
theorem ef_rmVO (m : MethodId) (x0 : Int32)  : entryFrame m #[(.int x0)] 1 = mkF m 0 #[.val (.int x0)] [] := by first | (simp [entryFrame, mkF, argsToLocals, Value.category]; done) | rfl
theorem d13_0 : decode jdk_42_method_139_code 0 = .ok (.getstatic 38, 3) := by decide +kernel
theorem d13_3 : decode jdk_42_method_139_code 3 = .ok (.ifCond .eq 23, 3) := by decide +kernel
theorem d13_6 : decode jdk_42_method_139_code 6 = .ok (.iload_n 0, 1) := by decide +kernel
theorem d13_7 : decode jdk_42_method_139_code 7 = .ok (.invokestatic 1015, 3) := by decide +kernel
theorem pd_0 : parseMethodDescriptor "(C)Z" = some ⟨[.char], some .boolean⟩ := by decide +kernel
theorem d13_10 : decode jdk_42_method_139_code 10 = .ok (.ifCond .eq 16, 3) := by decide +kernel
theorem d13_13 : decode jdk_42_method_139_code 13 = .ok (.new 10, 3) := by decide +kernel
theorem d13_16 : decode jdk_42_method_139_code 16 = .ok (.dup, 1) := by decide +kernel
theorem d13_17 : decode jdk_42_method_139_code 17 = .ok (.iload_n 0, 1) := by decide +kernel
theorem d13_18 : decode jdk_42_method_139_code 18 = .ok (.invokestatic 1018, 3) := by decide +kernel
theorem pd_1 : parseMethodDescriptor "(C)[B" = some ⟨[.char], some (.array .byte)⟩ := by decide +kernel
theorem d13_21 : decode jdk_42_method_139_code 21 = .ok (.iconst 0, 1) := by decide +kernel
theorem d13_22 : decode jdk_42_method_139_code 22 = .ok (.invokespecial 209, 3) := by decide +kernel
theorem pd_2 : parseMethodDescriptor "([BB)V" = some ⟨[(.array .byte), .byte], none⟩ := by decide +kernel
theorem d13_25 : decode jdk_42_method_139_code 25 = .ok (.areturn, 1) := by decide +kernel
def QrmVO (Z : State) (G : Gs) (px : Int32) (h0 : Heap) (n0 : Nat) (v : Option Value) (h : Heap) (L : List Loc) : Prop := ∃ (bx : Addr), ∃ (tx : Addr), ∃ (kx : ClassId), v = some (.ref bx) ∧ Fr n0 L ∧ Keep h0 h [] ∧ h0.size ≤ bx ∧ Exa Z h bx "java/lang/String" ∧ Fld Z h bx "java/lang/String" "coder" "B" (.int (0 : Int32)) ∧ Fld Z h bx "java/lang/String" "value" "[B" (.ref tx) ∧ Arv Z h tx kx .byte (1 : Int32) [(.int px.toInt8.toInt32)] (.int (0 : Int32)) ∧ h0.size ≤ tx
set_option maxRecDepth 65536 in
set_option maxHeartbeats 40000000 in
theorem rmVO (l : Launch) (Z : State) (a0 : Array Value) (hw : HW a0 Z) (G : Gs) (ST : StartF Z G) (ws : List Jvm.Cond) (px : Int32) (h0 : Heap) (n0 : Nat) (X00 : Old Z n0 h0) (hp : ¬ (255 : Int32) < px) :
    MetFree l (⟨"java/lang/String", "valueOf", "(C)Ljava/lang/String;"⟩ : MethodName) (head1 (Jvm.Cond.code (⟨"java/lang/String", "valueOf", "(C)Ljava/lang/String;"⟩ : MethodName) jdk_42_method_139_code 1 (some (.object "java/lang/String")) :: ws) ({ frames := 2, cells := 2, slots := 5, locals := 27 } : Room)) (fun a U => a = #[(.int px)] ∧ Z.Warmed39 U.vm ∧ U.heap = h0) (fun _ _ _ _ _ => True) (fun _ U o U' => ∃ v L, o = .returned v ∧ QrmVO Z G px h0 n0 v U'.heap L ∧ FrameEnd U o U' L ({ frames := 2, cells := 2, slots := 5, locals := 27 } : Room).cells ({ frames := 2, cells := 2, slots := 5, locals := 27 } : Room).slots) := by
  refine MetFree.of_bodySF (plainFor_of_name pn_1) hisR ?_
  intro p e s m args below meth c s₁ Bd hml0 hP hK
  obtain ⟨rfl, hZ, hh⟩ := hP
  have hx := Bd.exec
  have hby := Bd.bytes
  have hml : c.maxLocals = 1 := hml0
  have hown : s.vm.findClass "java/lang/String" = some m.cls := findClass_of_methodNamed Bd.named
  have hnm := (name_of_methodNamed Bd.named Bd.method).1
  have X0 : Stand p l e ({ frames := 2, cells := 2, slots := 5, locals := 27 } : Room) s m #[(.int px)] below meth c s₁ [] 0 0 := Stand.of_body Bd
  have e0 : s₁.heap = h0 := by rw [← hh, Bd.state]; rfl
  have N0 := Fr.nil n0
  have Z0 : n0 ≤ h0.size := by have q := X00.2.1; rw [X00.1] at q; exact q
  obtain ⟨TG, hTG, hT2⟩ : ∃ P : State → Prop, (∀ t, P t → Steps p.tables e below (s₁.setTop (entryFrame m #[(.int px)] 1)) t) ∧ (∀ t, Steps p.tables e below (s₁.setTop (entryFrame m #[(.int px)] 1)) t → P t) := ⟨_, fun t k => k, fun t k => k⟩
  have pre0 : ∀ t, Sx p e below s₁ m 0 #[xvi px] [] t → TG t := fun t k => hT2 t (castTop (ef_rmVO m px ) k)
  obtain ⟨T111, X111, e111, st111⟩ := getS2 X0 hx hZ hown (host := "") (Or.inl (w_50 hw)) Via.refl e0 (ST.1.ext X00.2) (g := (mkF m 0 #[xvi px] [])) rfl (hb hby d13_0)
  obtain ⟨_, _, ⟨T112, L112, k112, n112⟩, -, X112, ⟨Lc112, hQ112, l112, y112, z112⟩, st112⟩ := Jvm.LawKit.callS X111 hx (y := (⟨"java/lang/StringLatin1", "canEncode", "(C)Z"⟩ : MethodName)) hown (mvT hZ (w_76 hw)) (mvT hZ (w_77 hw)) (mvT hZ (w_78 hw)) (mvT hZ (w_79 hw)) (by decide) (backOf (W := 0) (rmCE l Z a0 hw G ST [] px h0 n0 X00 hp) hZ (w_79 hw) (w_78 hw) (by decide) (by decide)) (g := (mkF m 7 #[xvi px] [xwi px])) rfl (by rw [hml]; rfl) (argsL := [(.int px)]) (rest := []) (lenOf pd_0 rfl) rfl (by show 2 * 0 + _ ≤ _; exact Nat.le_of_eq rfl) (hb hby d13_7) (fun _ _ => ⟨rfl, e111, (by decide : 0 + 0 ≤ _), (by decide : 0 + 0 ≤ _)⟩)
  dsimp only [Pt.U, Pt.locs, Pt.cells, Pt.slots] at X112 l112 y112 z112 st112 hQ112
  subst l112 y112 z112
  obtain ⟨rfl, N112q, e112⟩ := hQ112
  have N112 := Fr.app N0 N112q
  obtain ⟨T113, h113, X113, e113, E113, A113, D113, -, st113⟩ := newO X112 hx hZ hown (w_80 hw) (w_2 hw) (w_1 hw) e112 (g := (mkF m 13 #[xvi px] [])) rfl (hb hby d13_13) (by decide) (by decide)
  obtain ⟨b113, g113⟩ : ∃ z, z = h0.size := ⟨_, rfl⟩
  rw [← g113] at A113 D113 st113
  have Fb113_value : Fld Z h113 b113 "java/lang/String" "value" "[B" .null := D113 (Or.inr (w_4 hw)) (ty := (.array .byte)) (by decide)
  have Fb113_coder : Fld Z h113 b113 "java/lang/String" "coder" "B" (.int (0 : Int32)) := D113 (Or.inr (w_5 hw)) (ty := .byte) (by decide)
  have Ol114 : Old Z n0 h113 := (X00.ext E113)
  obtain ⟨_, _, ⟨T115, L115, k115, n115⟩, -, X115, ⟨Lc115, hQ115, l115, y115, z115⟩, st115⟩ := Jvm.LawKit.callS X113 hx (y := (⟨"java/lang/StringLatin1", "toBytes", "(C)[B"⟩ : MethodName)) hown (mvT hZ (w_81 hw)) (mvT hZ (w_82 hw)) (mvT hZ (w_78 hw)) (mvT hZ (w_83 hw)) (by decide) (backOf (W := 2) (rmTB l Z a0 hw G ST [] px h113 n0 Ol114 ) hZ (w_83 hw) (w_78 hw) (by decide) (by decide)) (g := (mkF m 18 #[xvi px] [xwi px, xwr b113, xwr b113])) rfl (by rw [hml]; rfl) (argsL := [(.int px)]) (rest := [(.ref b113), (.ref b113)]) (lenOf pd_1 rfl) rfl (by show 2 * 0 + _ ≤ _; exact Nat.le_of_eq rfl) (hb hby d13_18) (fun _ _ => ⟨rfl, e113, (by decide : 1 + 1 ≤ _), (by decide : 4 + 1 ≤ _)⟩)
  dsimp only [Pt.U, Pt.locs, Pt.cells, Pt.slots] at X115 l115 y115 z115 st115 hQ115
  subst l115 y115 z115
  obtain ⟨hp115, e115⟩ : ∃ z, T115.heap = z := ⟨_, rfl⟩
  rw [e115] at hQ115
  obtain ⟨o116, o117, rfl, N115q, K115, p118, p119⟩ := hQ115
  have N115 := Fr.app N112 N115q
  have f120 := (A113.keep K115)
  have f121 := (Fb113_value.keep K115 nin0)
  have f122 := (Fb113_coder.keep K115 nin0)
  have Ol123 : Old Z n0 hp115 := (Ol114.keep K115 all0)
  obtain ⟨_, _, ⟨T124, L124, k124, n124⟩, -, X124, ⟨Lc124, hQ124, l124, y124, z124⟩, st124⟩ := X115.specialBack hx (y := (⟨"java/lang/String", "<init>", "([BB)V"⟩ : MethodName)) rfl hown (mvT hZ (w_84 hw)) (mvT hZ (w_85 hw)) (mvT hZ (w_86 hw)) (by decide) (backOf (W := 1) (rmBB l Z a0 hw G ST [] b113 o116 .null (.int (0 : Int32)) hp115 n0 Ol123 f120 f121 f122 (Nat.le_trans Z0 (Nat.le_trans (Nat.le_refl _) (Nat.le_of_eq g113.symm)))) hZ (w_86 hw) (w_1 hw) (by decide) (by decide)) (g := (mkF m 22 #[xvi px] [xwi (0 : Int32), xwr o116, xwr b113, xwr b113])) rfl (by rw [hml]; rfl) (Steps.refl _) (a := b113) (argsL := [(.ref o116), (.int (0 : Int32))]) (rest := [(.ref b113)]) (lenOf pd_2 rfl) rfl (by show 2 * 0 + _ ≤ _; exact Nat.le_of_eq rfl) (hb hby d13_22) (fun _ _ => ⟨rfl, e115, (by decide : 2 + 0 ≤ _), (by decide : 5 + 0 ≤ _)⟩)
  dsimp only [Pt.U, Pt.locs, Pt.cells, Pt.slots] at X124 l124 y124 z124 st124 hQ124
  subst l124 y124 z124
  obtain ⟨hp124, e124⟩ : ∃ z, T124.heap = z := ⟨_, rfl⟩
  rw [e124] at hQ124
  obtain ⟨rfl, N124q, K124, p125, p126, p127⟩ := hQ124
  have N124 := Fr.app N115 N124q
  have f128 := (p119.keep K124 (ninS (Ne.symm (Nat.ne_of_lt (Nat.lt_of_lt_of_le (Nat.lt_of_lt_of_le A113.lt (Nat.le_refl _)) p118))) nin0))
  obtain ⟨fs, hr, hrun, hended, hW, hsame⟩ := X124.leave (v := some (.ref b113)) (fun h => by rw [Bd.returns] at h; cases h)
  refine ⟨_, _, hTG _ (pre0 _ ?_), hrun, hended, _, _, rfl, ?_, ⟨_, rfl⟩, hW, hsame.mono (by decide) (by decide)⟩
  · refine st111 _ ?_
    show Sx p e below T111 m 3 #[xvi px] [xwi G] _
    refine y_ifNo X111 hx 6 (hb hby d13_3) (XT.i0_eq_f ST.2) rfl ?_
    refine y_iloadN X111 hx 7 (hb hby d13_6) rfl rfl ?_
    refine st112 _ ?_
    show Sx p e below T112 m 10 #[xvi px] [xwi (1 : Int32)] _
    refine y_ifNo X112 hx 13 (hb hby d13_10) (XT.i0_eq_f (by decide)) rfl ?_
    refine st113 _ ?_
    show Sx p e below T113 m 16 #[xvi px] [xwr b113] _
    refine y_dup X113 hx 17 (hb hby d13_16) rfl rfl ?_
    refine y_iloadN X113 hx 18 (hb hby d13_17) rfl rfl ?_
    refine st115 _ ?_
    show Sx p e below T115 m 21 #[xvi px] [xwr o116, xwr b113, xwr b113] _
    refine y_iconst X115 hx (0 : Int32) 22 (hb hby d13_21) rfl rfl ?_
    refine st124.trans ?_
    show Sx p e below T124 m 25 #[xvi px] [xwr b113] _
    exact retOut X124 hx Bd.returns rfl (Or.inr (Or.inr (Or.inr (Or.inr ⟨rfl, rfl, rfl⟩)))) (hb hby d13_25) hr
  · show QrmVO Z G px h0 n0 _ T124.heap _
    rw [e124]
    exact ⟨b113, o116, o117, rfl, N124, ((((Keep.refl h0 []).ext E113).trans K115 all0).trans K124 (allS (Or.inr (Nat.le_trans (Nat.le_refl _) (Nat.le_of_eq g113.symm))) all0)), (Nat.le_trans (Nat.le_refl _) (Nat.le_of_eq g113.symm)), p125, p127, p126, f128, (Nat.le_trans E113.1 p118)⟩
theorem ef_rmE4 (m : MethodId) (x0 : Addr) (x1 : Addr) (x2 : Int32) (x3 : Int32)  : entryFrame m #[(.ref x0), (.ref x1), (.int x2), (.int x3), .null] 6 = mkF m 0 #[.val (.ref x0), .val (.ref x1), .val (.int x2), .val (.int x3), .val .null, .unset] [] := by first | (simp [entryFrame, mkF, argsToLocals, Value.category]; done) | rfl
theorem d7_0 : decode jdk_42_method_149_code 0 = .ok (.aload_n 0, 1) := by decide +kernel
theorem d7_1 : decode jdk_42_method_149_code 1 = .ok (.invokespecial 1, 3) := by decide +kernel
theorem d7_4 : decode jdk_42_method_149_code 4 = .ok (.iload_n 3, 1) := by decide +kernel
theorem d7_5 : decode jdk_42_method_149_code 5 = .ok (.ifCond .ne 22, 3) := by decide +kernel
theorem d7_8 : decode jdk_42_method_149_code 8 = .ok (.aload_n 0, 1) := by decide +kernel
theorem d7_9 : decode jdk_42_method_149_code 9 = .ok (.ldc 7, 2) := by decide +kernel
theorem d7_11 : decode jdk_42_method_149_code 11 = .ok (.getfield 9, 3) := by decide +kernel
theorem d7_14 : decode jdk_42_method_149_code 14 = .ok (.putfield 9, 3) := by decide +kernel
theorem d7_17 : decode jdk_42_method_149_code 17 = .ok (.aload_n 0, 1) := by decide +kernel
theorem d7_18 : decode jdk_42_method_149_code 18 = .ok (.ldc 7, 2) := by decide +kernel
theorem d7_20 : decode jdk_42_method_149_code 20 = .ok (.getfield 15, 3) := by decide +kernel
theorem d7_23 : decode jdk_42_method_149_code 23 = .ok (.putfield 15, 3) := by decide +kernel
theorem d7_26 : decode jdk_42_method_149_code 26 = .ok (.return_, 1) := by decide +kernel
def QrmE4 (Z : State) (G : Gs) (ax : Addr) (cx : Addr) (kc : ClassId) (cs : List Value) (dv : Value) (h0 : Heap) (n0 : Nat) (v : Option Value) (h : Heap) (L : List Loc) : Prop := ∃ (tx : Addr), ∃ (kb : ClassId), v = none ∧ Fr n0 L ∧ Keep h0 h [ax] ∧ Exa Z h ax "java/lang/String" ∧ Fld Z h ax "java/lang/String" "coder" "B" (.int (0 : Int32)) ∧ Fld Z h ax "java/lang/String" "value" "[B" (.ref tx) ∧ Arv Z h tx kb .byte (0 : Int32) [] (.int (0 : Int32))
set_option maxRecDepth 65536 in
set_option maxHeartbeats 40000000 in
theorem rmE4 (l : Launch) (Z : State) (a0 : Array Value) (hw : HW a0 Z) (G : Gs) (ST : StartF Z G) (ws : List Jvm.Cond) (ax : Addr) (cx : Addr) (kc : ClassId) (cs : List Value) (dv : Value) (h0 : Heap) (n0 : Nat) (X00 : Old Z n0 h0) (E1 : Exa Z h0 ax "java/lang/String") (F1 : Fld Z h0 ax "java/lang/String" "value" "[B" .null) (F2 : Fld Z h0 ax "java/lang/String" "coder" "B" (.int (0 : Int32))) (g1 : n0 ≤ ax) (V1 : Arv Z h0 cx kc .char (0 : Int32) cs dv) :
    MetFree l (⟨"java/lang/String", "<init>", "([CIILjava/lang/Void;)V"⟩ : MethodName) (head1 (Jvm.Cond.code (⟨"java/lang/String", "<init>", "([CIILjava/lang/Void;)V"⟩ : MethodName) jdk_42_method_149_code 6 none :: ws) ({ frames := 1, cells := 2, slots := 4, locals := 12 } : Room)) (fun a U => a = #[(.ref ax), (.ref cx), (.int (0 : Int32)), (.int (0 : Int32)), .null] ∧ Z.Warmed39 U.vm ∧ U.heap = h0 ∧ CHv Z EL U.vm h0) (fun _ _ _ _ _ => True) (fun _ U o U' => ∃ v L, o = .returned v ∧ QrmE4 Z G ax cx kc cs dv h0 n0 v U'.heap L ∧ CHr Z EL U.vm U.heap U'.vm U'.heap ∧ ReturnedEndW U o U' L ({ frames := 1, cells := 2, slots := 4, locals := 12 } : Room).cells ({ frames := 1, cells := 2, slots := 4, locals := 12 } : Room).slots) := by
  refine MetFree.of_bodySF (plainFor_of_name pn_1) hisR ?_
  intro p e s m args below meth c s₁ Bd hml0 hP hK
  obtain ⟨rfl, hZ, hh, HC0⟩ := hP
  have hx := Bd.exec
  have hby := Bd.bytes
  have hml : c.maxLocals = 6 := hml0
  have hown : s.vm.findClass "java/lang/String" = some m.cls := findClass_of_methodNamed Bd.named
  have hnm := (name_of_methodNamed Bd.named Bd.method).1
  have X0 : Stand p l e ({ frames := 1, cells := 2, slots := 4, locals := 12 } : Room) (s.setVm s.vm) m #[(.ref ax), (.ref cx), (.int (0 : Int32)), (.int (0 : Int32)), .null] below meth c s₁ [] 0 0 := Stand.of_body Bd
  have e0 : s₁.heap = h0 := by rw [← hh, Bd.state]; rfl
  have N0 := Fr.nil n0
  have Z0 : n0 ≤ h0.size := by have q := X00.2.1; rw [X00.1] at q; exact q
  have C0 := CHr.refl HC0
  have hS0 : s.Since s.vm h0.size := (State.WarmedH.refl s).since h0.size
  obtain ⟨TG, hTG, hT2⟩ : ∃ P : State → Prop, (∀ t, P t → Steps p.tables e below (s₁.setTop (entryFrame m #[(.ref ax), (.ref cx), (.int (0 : Int32)), (.int (0 : Int32)), .null] 6)) t) ∧ (∀ t, Steps p.tables e below (s₁.setTop (entryFrame m #[(.ref ax), (.ref cx), (.int (0 : Int32)), (.int (0 : Int32)), .null] 6)) t → P t) := ⟨_, fun t k => k, fun t k => k⟩
  have pre0 : ∀ t, Sx p e below s₁ m 0 #[xvr ax, xvr cx, xvi (0 : Int32), xvi (0 : Int32), .val .null, xun] [] t → TG t := fun t k => hT2 t (castTop (ef_rmE4 m ax cx (0 : Int32) (0 : Int32) ) k)
  obtain ⟨T129, X129, e129, st129⟩ := initO X0 hx hZ hown (w_49 hw) (w_16 hw) (w_17 hw) e0 (g := (mkF m 1 #[xvr ax, xvr cx, xvi (0 : Int32), xvi (0 : Int32), .val .null, xun] [xwr ax])) rfl (by rw [hml]; rfl) rfl (hb hby d7_1) (by decide) (W := 0) (by show 2 * 0 + _ ≤ _; exact Nat.le_of_eq rfl) (by decide)
  obtain ⟨a130, T130, h130, kk130, d130, k130, X130, e130, E130, hS130, hk130, hZ130, hown130, A130, Fc130, Fv130, V130, -, -, CH130, Li130, sf130, st130⟩ := ldcCH X129 hx hZ hown (w_87 hw) (own_SA hw) e129 hS0 (Nat.le_refl _) (own_EW hw) (by decide) C0.1 (vs := []) (z := (0 : Int32)) ⟨by decide, rfl⟩ (by decide) (by decide) (g := (mkF m 9 #[xvr ax, xvr cx, xvi (0 : Int32), xvi (0 : Int32), .val .null, xun] [xwr ax])) rfl (hb hby d7_9) (n := 0) (by decide) (by decide) (by decide) (by decide)
  have C131 := C0.trans CH130
  obtain ⟨T132, X132, e132, st132⟩ := getF X130 hx hZ130 hown130 (host := "") (Or.inl (w_62 hw)) Via.refl e130 Fv130 (g := (mkF m 11 #[xvr ax, xvr cx, xvi (0 : Int32), xvi (0 : Int32), .val .null, xun] [xwr a130, xwr ax])) rfl rfl (hb hby d7_11)
  have f133 := (F1.ext E130)
  have f134 := (E1.ext E130)
  obtain ⟨T135, h135, X135, e135, W135, st135⟩ := putF X132 hx hZ130 hown130 (host := "") (Or.inl (w_62 hw)) Via.refl e132 f133 f134 (Or.inr ⟨(w_4 hw), rfl, hnm⟩) (w_2 hw) (ty := (.array .byte)) (by decide) rfl rfl (g := (mkF m 14 #[xvr ax, xvr cx, xvi (0 : Int32), xvi (0 : Int32), .val .null, xun] [xwr d130, xwr ax])) rfl rfl (hb hby d7_14)
  have sf138 := (CHr.safe CH130 (Nat.lt_of_lt_of_le E1.lt (Nat.le_refl _)) (own_safeN hZ.alike E1 F1))
  have ch137 := CHr.wr W135 sf138 C131.1
  have C136 := C131.trans ch137
  have Fw135 := f133.same W135
  have N135 := Fr.snoc X135 N0 g1
  have f139 := (Fc130.other W135 (Or.inl (Ne.symm (sf130 ax sf138).1)))
  obtain ⟨T140, X140, e140, st140⟩ := getF X135 hx hZ130 hown130 (host := "") (Or.inl (w_61 hw)) Via.refl e135 f139 (g := (mkF m 20 #[xvr ax, xvr cx, xvi (0 : Int32), xvi (0 : Int32), .val .null, xun] [xwr a130, xwr ax])) rfl rfl (hb hby d7_20)
  have f141 := ((F2.ext E130).other W135 (Or.inr (slot_ne (Or.inr (w_5 hw)) (Or.inr (w_4 hw)) (by decide) (t := .byte) (t' := (.array .byte)) (by decide) (by decide))))
  have f142 := (f134.wr W135)
  obtain ⟨T143, h143, X143, e143, W143, st143⟩ := putFN X140 hx hZ130 hown130 (w_61 hw) Via.refl e140 f141 f142 (Or.inr ⟨(w_5 hw), rfl, hnm⟩) (w_2 hw) (ty := .byte) (v' := (.int (0 : Int32))) (by decide) (by decide) (by decide) (g := (mkF m 23 #[xvr ax, xvr cx, xvi (0 : Int32), xvi (0 : Int32), .val .null, xun] [xwi (0 : Int32), xwr ax])) rfl rfl (hb hby d7_23)
  have sf146 := (CHr.safe ch137 (Nat.lt_of_lt_of_le E1.lt E130.1) sf138)
  have ch145 := CHr.wr W143 sf146 C136.1
  have C144 := C136.trans ch145
  have Fw143 := f141.same W143
  have N143 := Fr.snoc X143 N135 g1
  have f147 := (f142.wr W143)
  have f148 := (Fw135.other W143 (Or.inr (slot_ne (Or.inr (w_4 hw)) (Or.inr (w_5 hw)) (by decide) (t := (.array .byte)) (t' := .byte) (by decide) (by decide))))
  have f149 := ((V130.other W135 (Ne.symm (sf130 ax (CHr.safe CH130 (Nat.lt_of_lt_of_le E1.lt (Nat.le_refl _)) (own_safeN hZ.alike E1 F1))).2)).other W143 (Ne.symm (sf130 ax (CHr.safe CH130 (Nat.lt_of_lt_of_le E1.lt (Nat.le_refl _)) (own_safeN hZ.alike E1 F1))).2))
  have f150 := ((V130.other W135 (Ne.symm (Exa.neArv f147 f149 (w_2 hw)))).other W143 (Ne.symm (Exa.neArv f147 f149 (w_2 hw))))
  have f151 := ((V130.other W135 (Ne.symm (Exa.neArv f147 f150 (w_2 hw)))).other W143 (Ne.symm (Exa.neArv f147 f150 (w_2 hw))))
  have f152 := ((V130.other W135 (Ne.symm (Exa.neArv f147 f151 (w_2 hw)))).other W143 (Ne.symm (Exa.neArv f147 f151 (w_2 hw))))
  have f153 := ((V130.other W135 (Ne.symm (Exa.neArv f147 f152 (w_2 hw)))).other W143 (Ne.symm (Exa.neArv f147 f152 (w_2 hw))))
  have f154 := ((V130.other W135 (Ne.symm (Exa.neArv f147 f153 (w_2 hw)))).other W143 (Ne.symm (Exa.neArv f147 f153 (w_2 hw))))
  have f155 := ((V130.other W135 (Ne.symm (Exa.neArv f147 f154 (w_2 hw)))).other W143 (Ne.symm (Exa.neArv f147 f154 (w_2 hw))))
  have f156 := ((V130.other W135 (Ne.symm (Exa.neArv f147 f155 (w_2 hw)))).other W143 (Ne.symm (Exa.neArv f147 f155 (w_2 hw))))
  have f157 := ((V130.other W135 (Ne.symm (Exa.neArv f147 f156 (w_2 hw)))).other W143 (Ne.symm (Exa.neArv f147 f156 (w_2 hw))))
  have f158 := ((V130.other W135 (Ne.symm (Exa.neArv f147 f157 (w_2 hw)))).other W143 (Ne.symm (Exa.neArv f147 f157 (w_2 hw))))
  have f159 := ((V130.other W135 (Ne.symm (Exa.neArv f147 f158 (w_2 hw)))).other W143 (Ne.symm (Exa.neArv f147 f158 (w_2 hw))))
  have f160 := ((V130.other W135 (Ne.symm (Exa.neArv f147 f159 (w_2 hw)))).other W143 (Ne.symm (Exa.neArv f147 f159 (w_2 hw))))
  have f161 := ((V130.other W135 (Ne.symm (Exa.neArv f147 f160 (w_2 hw)))).other W143 (Ne.symm (Exa.neArv f147 f160 (w_2 hw))))
  have f162 := ((V130.other W135 (Ne.symm (Exa.neArv f147 f161 (w_2 hw)))).other W143 (Ne.symm (Exa.neArv f147 f161 (w_2 hw))))
  have f163 := ((V130.other W135 (Ne.symm (Exa.neArv f147 f162 (w_2 hw)))).other W143 (Ne.symm (Exa.neArv f147 f162 (w_2 hw))))
  have f164 := ((V130.other W135 (Ne.symm (Exa.neArv f147 f163 (w_2 hw)))).other W143 (Ne.symm (Exa.neArv f147 f163 (w_2 hw))))
  have f165 := ((V130.other W135 (Ne.symm (Exa.neArv f147 f164 (w_2 hw)))).other W143 (Ne.symm (Exa.neArv f147 f164 (w_2 hw))))
  have f166 := ((V130.other W135 (Ne.symm (Exa.neArv f147 f165 (w_2 hw)))).other W143 (Ne.symm (Exa.neArv f147 f165 (w_2 hw))))
  have f167 := ((V130.other W135 (Ne.symm (Exa.neArv f147 f166 (w_2 hw)))).other W143 (Ne.symm (Exa.neArv f147 f166 (w_2 hw))))
  have f168 := ((V130.other W135 (Ne.symm (Exa.neArv f147 f167 (w_2 hw)))).other W143 (Ne.symm (Exa.neArv f147 f167 (w_2 hw))))
  have f169 := ((V130.other W135 (Ne.symm (Exa.neArv f147 f168 (w_2 hw)))).other W143 (Ne.symm (Exa.neArv f147 f168 (w_2 hw))))
  have f170 := ((V130.other W135 (Ne.symm (Exa.neArv f147 f169 (w_2 hw)))).other W143 (Ne.symm (Exa.neArv f147 f169 (w_2 hw))))
  have f171 := ((V130.other W135 (Ne.symm (Exa.neArv f147 f170 (w_2 hw)))).other W143 (Ne.symm (Exa.neArv f147 f170 (w_2 hw))))
  have f172 := ((V130.other W135 (Ne.symm (Exa.neArv f147 f171 (w_2 hw)))).other W143 (Ne.symm (Exa.neArv f147 f171 (w_2 hw))))
  have f173 := ((V130.other W135 (Ne.symm (Exa.neArv f147 f172 (w_2 hw)))).other W143 (Ne.symm (Exa.neArv f147 f172 (w_2 hw))))
  have f174 := ((V130.other W135 (Ne.symm (Exa.neArv f147 f173 (w_2 hw)))).other W143 (Ne.symm (Exa.neArv f147 f173 (w_2 hw))))
  have f175 := ((V130.other W135 (Ne.symm (Exa.neArv f147 f174 (w_2 hw)))).other W143 (Ne.symm (Exa.neArv f147 f174 (w_2 hw))))
  have f176 := ((V130.other W135 (Ne.symm (Exa.neArv f147 f175 (w_2 hw)))).other W143 (Ne.symm (Exa.neArv f147 f175 (w_2 hw))))
  have f177 := ((V130.other W135 (Ne.symm (Exa.neArv f147 f176 (w_2 hw)))).other W143 (Ne.symm (Exa.neArv f147 f176 (w_2 hw))))
  have f178 := ((V130.other W135 (Ne.symm (Exa.neArv f147 f177 (w_2 hw)))).other W143 (Ne.symm (Exa.neArv f147 f177 (w_2 hw))))
  have f179 := ((V130.other W135 (Ne.symm (Exa.neArv f147 f178 (w_2 hw)))).other W143 (Ne.symm (Exa.neArv f147 f178 (w_2 hw))))
  have f180 := ((V130.other W135 (Ne.symm (Exa.neArv f147 f179 (w_2 hw)))).other W143 (Ne.symm (Exa.neArv f147 f179 (w_2 hw))))
  have f181 := ((V130.other W135 (Ne.symm (Exa.neArv f147 f180 (w_2 hw)))).other W143 (Ne.symm (Exa.neArv f147 f180 (w_2 hw))))
  have f182 := ((V130.other W135 (Ne.symm (Exa.neArv f147 f181 (w_2 hw)))).other W143 (Ne.symm (Exa.neArv f147 f181 (w_2 hw))))
  have f183 := ((V130.other W135 (Ne.symm (Exa.neArv f147 f182 (w_2 hw)))).other W143 (Ne.symm (Exa.neArv f147 f182 (w_2 hw))))
  have f184 := ((V130.other W135 (Ne.symm (Exa.neArv f147 f183 (w_2 hw)))).other W143 (Ne.symm (Exa.neArv f147 f183 (w_2 hw))))
  have f185 := ((V130.other W135 (Ne.symm (Exa.neArv f147 f184 (w_2 hw)))).other W143 (Ne.symm (Exa.neArv f147 f184 (w_2 hw))))
  have f186 := ((V130.other W135 (Ne.symm (Exa.neArv f147 f185 (w_2 hw)))).other W143 (Ne.symm (Exa.neArv f147 f185 (w_2 hw))))
  have f187 := ((V130.other W135 (Ne.symm (Exa.neArv f147 f186 (w_2 hw)))).other W143 (Ne.symm (Exa.neArv f147 f186 (w_2 hw))))
  have f188 := ((V130.other W135 (Ne.symm (Exa.neArv f147 f187 (w_2 hw)))).other W143 (Ne.symm (Exa.neArv f147 f187 (w_2 hw))))
  have f189 := ((V130.other W135 (Ne.symm (Exa.neArv f147 f188 (w_2 hw)))).other W143 (Ne.symm (Exa.neArv f147 f188 (w_2 hw))))
  have f190 := ((V130.other W135 (Ne.symm (Exa.neArv f147 f189 (w_2 hw)))).other W143 (Ne.symm (Exa.neArv f147 f189 (w_2 hw))))
  have f191 := ((V130.other W135 (Ne.symm (Exa.neArv f147 f190 (w_2 hw)))).other W143 (Ne.symm (Exa.neArv f147 f190 (w_2 hw))))
  have f192 := ((V130.other W135 (Ne.symm (Exa.neArv f147 f191 (w_2 hw)))).other W143 (Ne.symm (Exa.neArv f147 f191 (w_2 hw))))
  have f193 := ((V130.other W135 (Ne.symm (Exa.neArv f147 f192 (w_2 hw)))).other W143 (Ne.symm (Exa.neArv f147 f192 (w_2 hw))))
  have f194 := ((V130.other W135 (Ne.symm (Exa.neArv f147 f193 (w_2 hw)))).other W143 (Ne.symm (Exa.neArv f147 f193 (w_2 hw))))
  have f195 := ((V130.other W135 (Ne.symm (Exa.neArv f147 f194 (w_2 hw)))).other W143 (Ne.symm (Exa.neArv f147 f194 (w_2 hw))))
  have f196 := ((V130.other W135 (Ne.symm (Exa.neArv f147 f195 (w_2 hw)))).other W143 (Ne.symm (Exa.neArv f147 f195 (w_2 hw))))
  have f197 := ((V130.other W135 (Ne.symm (Exa.neArv f147 f196 (w_2 hw)))).other W143 (Ne.symm (Exa.neArv f147 f196 (w_2 hw))))
  have f198 := ((V130.other W135 (Ne.symm (Exa.neArv f147 f197 (w_2 hw)))).other W143 (Ne.symm (Exa.neArv f147 f197 (w_2 hw))))
  have f199 := ((V130.other W135 (Ne.symm (Exa.neArv f147 f198 (w_2 hw)))).other W143 (Ne.symm (Exa.neArv f147 f198 (w_2 hw))))
  have f200 := ((V130.other W135 (Ne.symm (Exa.neArv f147 f199 (w_2 hw)))).other W143 (Ne.symm (Exa.neArv f147 f199 (w_2 hw))))
  have f201 := ((V130.other W135 (Ne.symm (Exa.neArv f147 f200 (w_2 hw)))).other W143 (Ne.symm (Exa.neArv f147 f200 (w_2 hw))))
  have f202 := ((V130.other W135 (Ne.symm (Exa.neArv f147 f201 (w_2 hw)))).other W143 (Ne.symm (Exa.neArv f147 f201 (w_2 hw))))
  have f203 := ((V130.other W135 (Ne.symm (Exa.neArv f147 f202 (w_2 hw)))).other W143 (Ne.symm (Exa.neArv f147 f202 (w_2 hw))))
  have f204 := ((V130.other W135 (Ne.symm (Exa.neArv f147 f203 (w_2 hw)))).other W143 (Ne.symm (Exa.neArv f147 f203 (w_2 hw))))
  have f205 := ((V130.other W135 (Ne.symm (Exa.neArv f147 f204 (w_2 hw)))).other W143 (Ne.symm (Exa.neArv f147 f204 (w_2 hw))))
  have f206 := ((V130.other W135 (Ne.symm (Exa.neArv f147 f205 (w_2 hw)))).other W143 (Ne.symm (Exa.neArv f147 f205 (w_2 hw))))
  have f207 := ((V130.other W135 (Ne.symm (Exa.neArv f147 f206 (w_2 hw)))).other W143 (Ne.symm (Exa.neArv f147 f206 (w_2 hw))))
  have f208 := ((V130.other W135 (Ne.symm (Exa.neArv f147 f207 (w_2 hw)))).other W143 (Ne.symm (Exa.neArv f147 f207 (w_2 hw))))
  have f209 := ((V130.other W135 (Ne.symm (Exa.neArv f147 f208 (w_2 hw)))).other W143 (Ne.symm (Exa.neArv f147 f208 (w_2 hw))))
  have f210 := ((V130.other W135 (Ne.symm (Exa.neArv f147 f209 (w_2 hw)))).other W143 (Ne.symm (Exa.neArv f147 f209 (w_2 hw))))
  have f211 := ((V130.other W135 (Ne.symm (Exa.neArv f147 f210 (w_2 hw)))).other W143 (Ne.symm (Exa.neArv f147 f210 (w_2 hw))))
  have f212 := ((V130.other W135 (Ne.symm (Exa.neArv f147 f211 (w_2 hw)))).other W143 (Ne.symm (Exa.neArv f147 f211 (w_2 hw))))
  have f213 := ((V130.other W135 (Ne.symm (Exa.neArv f147 f212 (w_2 hw)))).other W143 (Ne.symm (Exa.neArv f147 f212 (w_2 hw))))
  have f214 := ((V130.other W135 (Ne.symm (Exa.neArv f147 f213 (w_2 hw)))).other W143 (Ne.symm (Exa.neArv f147 f213 (w_2 hw))))
  have f215 := ((V130.other W135 (Ne.symm (Exa.neArv f147 f214 (w_2 hw)))).other W143 (Ne.symm (Exa.neArv f147 f214 (w_2 hw))))
  have f216 := ((V130.other W135 (Ne.symm (Exa.neArv f147 f215 (w_2 hw)))).other W143 (Ne.symm (Exa.neArv f147 f215 (w_2 hw))))
  have f217 := ((V130.other W135 (Ne.symm (Exa.neArv f147 f216 (w_2 hw)))).other W143 (Ne.symm (Exa.neArv f147 f216 (w_2 hw))))
  have f218 := ((V130.other W135 (Ne.symm (Exa.neArv f147 f217 (w_2 hw)))).other W143 (Ne.symm (Exa.neArv f147 f217 (w_2 hw))))
  have f219 := ((V130.other W135 (Ne.symm (Exa.neArv f147 f218 (w_2 hw)))).other W143 (Ne.symm (Exa.neArv f147 f218 (w_2 hw))))
  have f220 := ((V130.other W135 (Ne.symm (Exa.neArv f147 f219 (w_2 hw)))).other W143 (Ne.symm (Exa.neArv f147 f219 (w_2 hw))))
  have f221 := ((V130.other W135 (Ne.symm (Exa.neArv f147 f220 (w_2 hw)))).other W143 (Ne.symm (Exa.neArv f147 f220 (w_2 hw))))
  have f222 := ((V130.other W135 (Ne.symm (Exa.neArv f147 f221 (w_2 hw)))).other W143 (Ne.symm (Exa.neArv f147 f221 (w_2 hw))))
  have f223 := ((V130.other W135 (Ne.symm (Exa.neArv f147 f222 (w_2 hw)))).other W143 (Ne.symm (Exa.neArv f147 f222 (w_2 hw))))
  have f224 := ((V130.other W135 (Ne.symm (Exa.neArv f147 f223 (w_2 hw)))).other W143 (Ne.symm (Exa.neArv f147 f223 (w_2 hw))))
  have f225 := ((V130.other W135 (Ne.symm (Exa.neArv f147 f224 (w_2 hw)))).other W143 (Ne.symm (Exa.neArv f147 f224 (w_2 hw))))
  have f226 := ((V130.other W135 (Ne.symm (Exa.neArv f147 f225 (w_2 hw)))).other W143 (Ne.symm (Exa.neArv f147 f225 (w_2 hw))))
  have f227 := ((V130.other W135 (Ne.symm (Exa.neArv f147 f226 (w_2 hw)))).other W143 (Ne.symm (Exa.neArv f147 f226 (w_2 hw))))
  have f228 := ((V130.other W135 (Ne.symm (Exa.neArv f147 f227 (w_2 hw)))).other W143 (Ne.symm (Exa.neArv f147 f227 (w_2 hw))))
  have f229 := ((V130.other W135 (Ne.symm (Exa.neArv f147 f228 (w_2 hw)))).other W143 (Ne.symm (Exa.neArv f147 f228 (w_2 hw))))
  have f230 := ((V130.other W135 (Ne.symm (Exa.neArv f147 f229 (w_2 hw)))).other W143 (Ne.symm (Exa.neArv f147 f229 (w_2 hw))))
  have f231 := ((V130.other W135 (Ne.symm (Exa.neArv f147 f230 (w_2 hw)))).other W143 (Ne.symm (Exa.neArv f147 f230 (w_2 hw))))
  have f232 := ((V130.other W135 (Ne.symm (Exa.neArv f147 f231 (w_2 hw)))).other W143 (Ne.symm (Exa.neArv f147 f231 (w_2 hw))))
  have f233 := ((V130.other W135 (Ne.symm (Exa.neArv f147 f232 (w_2 hw)))).other W143 (Ne.symm (Exa.neArv f147 f232 (w_2 hw))))
  have f234 := ((V130.other W135 (Ne.symm (Exa.neArv f147 f233 (w_2 hw)))).other W143 (Ne.symm (Exa.neArv f147 f233 (w_2 hw))))
  have f235 := ((V130.other W135 (Ne.symm (Exa.neArv f147 f234 (w_2 hw)))).other W143 (Ne.symm (Exa.neArv f147 f234 (w_2 hw))))
  have f236 := ((V130.other W135 (Ne.symm (Exa.neArv f147 f235 (w_2 hw)))).other W143 (Ne.symm (Exa.neArv f147 f235 (w_2 hw))))
  have f237 := ((V130.other W135 (Ne.symm (Exa.neArv f147 f236 (w_2 hw)))).other W143 (Ne.symm (Exa.neArv f147 f236 (w_2 hw))))
  have f238 := ((V130.other W135 (Ne.symm (Exa.neArv f147 f237 (w_2 hw)))).other W143 (Ne.symm (Exa.neArv f147 f237 (w_2 hw))))
  have f239 := ((V130.other W135 (Ne.symm (Exa.neArv f147 f238 (w_2 hw)))).other W143 (Ne.symm (Exa.neArv f147 f238 (w_2 hw))))
  have f240 := ((V130.other W135 (Ne.symm (Exa.neArv f147 f239 (w_2 hw)))).other W143 (Ne.symm (Exa.neArv f147 f239 (w_2 hw))))
  have f241 := ((V130.other W135 (Ne.symm (Exa.neArv f147 f240 (w_2 hw)))).other W143 (Ne.symm (Exa.neArv f147 f240 (w_2 hw))))
  have f242 := ((V130.other W135 (Ne.symm (Exa.neArv f147 f241 (w_2 hw)))).other W143 (Ne.symm (Exa.neArv f147 f241 (w_2 hw))))
  have f243 := ((V130.other W135 (Ne.symm (Exa.neArv f147 f242 (w_2 hw)))).other W143 (Ne.symm (Exa.neArv f147 f242 (w_2 hw))))
  have f244 := ((V130.other W135 (Ne.symm (Exa.neArv f147 f243 (w_2 hw)))).other W143 (Ne.symm (Exa.neArv f147 f243 (w_2 hw))))
  have f245 := ((V130.other W135 (Ne.symm (Exa.neArv f147 f244 (w_2 hw)))).other W143 (Ne.symm (Exa.neArv f147 f244 (w_2 hw))))
  have f246 := ((V130.other W135 (Ne.symm (Exa.neArv f147 f245 (w_2 hw)))).other W143 (Ne.symm (Exa.neArv f147 f245 (w_2 hw))))
  have f247 := ((V130.other W135 (Ne.symm (Exa.neArv f147 f246 (w_2 hw)))).other W143 (Ne.symm (Exa.neArv f147 f246 (w_2 hw))))
  have f248 := ((V130.other W135 (Ne.symm (Exa.neArv f147 f247 (w_2 hw)))).other W143 (Ne.symm (Exa.neArv f147 f247 (w_2 hw))))
  have f249 := ((V130.other W135 (Ne.symm (Exa.neArv f147 f248 (w_2 hw)))).other W143 (Ne.symm (Exa.neArv f147 f248 (w_2 hw))))
  have f250 := ((V130.other W135 (Ne.symm (Exa.neArv f147 f249 (w_2 hw)))).other W143 (Ne.symm (Exa.neArv f147 f249 (w_2 hw))))
  have f251 := ((V130.other W135 (Ne.symm (Exa.neArv f147 f250 (w_2 hw)))).other W143 (Ne.symm (Exa.neArv f147 f250 (w_2 hw))))
  have f252 := ((V130.other W135 (Ne.symm (Exa.neArv f147 f251 (w_2 hw)))).other W143 (Ne.symm (Exa.neArv f147 f251 (w_2 hw))))
  have f253 := ((V130.other W135 (Ne.symm (Exa.neArv f147 f252 (w_2 hw)))).other W143 (Ne.symm (Exa.neArv f147 f252 (w_2 hw))))
  have f254 := ((V130.other W135 (Ne.symm (Exa.neArv f147 f253 (w_2 hw)))).other W143 (Ne.symm (Exa.neArv f147 f253 (w_2 hw))))
  have f255 := ((V130.other W135 (Ne.symm (Exa.neArv f147 f254 (w_2 hw)))).other W143 (Ne.symm (Exa.neArv f147 f254 (w_2 hw))))
  have f256 := ((V130.other W135 (Ne.symm (Exa.neArv f147 f255 (w_2 hw)))).other W143 (Ne.symm (Exa.neArv f147 f255 (w_2 hw))))
  have f257 := ((V130.other W135 (Ne.symm (Exa.neArv f147 f256 (w_2 hw)))).other W143 (Ne.symm (Exa.neArv f147 f256 (w_2 hw))))
  have f258 := ((V130.other W135 (Ne.symm (Exa.neArv f147 f257 (w_2 hw)))).other W143 (Ne.symm (Exa.neArv f147 f257 (w_2 hw))))
  have f259 := ((V130.other W135 (Ne.symm (Exa.neArv f147 f258 (w_2 hw)))).other W143 (Ne.symm (Exa.neArv f147 f258 (w_2 hw))))
  have f260 := ((V130.other W135 (Ne.symm (Exa.neArv f147 f259 (w_2 hw)))).other W143 (Ne.symm (Exa.neArv f147 f259 (w_2 hw))))
  have f261 := ((V130.other W135 (Ne.symm (Exa.neArv f147 f260 (w_2 hw)))).other W143 (Ne.symm (Exa.neArv f147 f260 (w_2 hw))))
  have f262 := ((V130.other W135 (Ne.symm (Exa.neArv f147 f261 (w_2 hw)))).other W143 (Ne.symm (Exa.neArv f147 f261 (w_2 hw))))
  have f263 := ((V130.other W135 (Ne.symm (Exa.neArv f147 f262 (w_2 hw)))).other W143 (Ne.symm (Exa.neArv f147 f262 (w_2 hw))))
  have f264 := ((V130.other W135 (Ne.symm (Exa.neArv f147 f263 (w_2 hw)))).other W143 (Ne.symm (Exa.neArv f147 f263 (w_2 hw))))
  have f265 := ((V130.other W135 (Ne.symm (Exa.neArv f147 f264 (w_2 hw)))).other W143 (Ne.symm (Exa.neArv f147 f264 (w_2 hw))))
  have f266 := ((V130.other W135 (Ne.symm (Exa.neArv f147 f265 (w_2 hw)))).other W143 (Ne.symm (Exa.neArv f147 f265 (w_2 hw))))
  have f267 := ((V130.other W135 (Ne.symm (Exa.neArv f147 f266 (w_2 hw)))).other W143 (Ne.symm (Exa.neArv f147 f266 (w_2 hw))))
  have f268 := ((V130.other W135 (Ne.symm (Exa.neArv f147 f267 (w_2 hw)))).other W143 (Ne.symm (Exa.neArv f147 f267 (w_2 hw))))
  have f269 := ((V130.other W135 (Ne.symm (Exa.neArv f147 f268 (w_2 hw)))).other W143 (Ne.symm (Exa.neArv f147 f268 (w_2 hw))))
  have f270 := ((V130.other W135 (Ne.symm (Exa.neArv f147 f269 (w_2 hw)))).other W143 (Ne.symm (Exa.neArv f147 f269 (w_2 hw))))
  have f271 := ((V130.other W135 (Ne.symm (Exa.neArv f147 f270 (w_2 hw)))).other W143 (Ne.symm (Exa.neArv f147 f270 (w_2 hw))))
  have f272 := ((V130.other W135 (Ne.symm (Exa.neArv f147 f271 (w_2 hw)))).other W143 (Ne.symm (Exa.neArv f147 f271 (w_2 hw))))
  have f273 := ((V130.other W135 (Ne.symm (Exa.neArv f147 f272 (w_2 hw)))).other W143 (Ne.symm (Exa.neArv f147 f272 (w_2 hw))))
  have f274 := ((V130.other W135 (Ne.symm (Exa.neArv f147 f273 (w_2 hw)))).other W143 (Ne.symm (Exa.neArv f147 f273 (w_2 hw))))
  have f275 := ((V130.other W135 (Ne.symm (Exa.neArv f147 f274 (w_2 hw)))).other W143 (Ne.symm (Exa.neArv f147 f274 (w_2 hw))))
  have f276 := ((V130.other W135 (Ne.symm (Exa.neArv f147 f275 (w_2 hw)))).other W143 (Ne.symm (Exa.neArv f147 f275 (w_2 hw))))
  have f277 := ((V130.other W135 (Ne.symm (Exa.neArv f147 f276 (w_2 hw)))).other W143 (Ne.symm (Exa.neArv f147 f276 (w_2 hw))))
  have f278 := ((V130.other W135 (Ne.symm (Exa.neArv f147 f277 (w_2 hw)))).other W143 (Ne.symm (Exa.neArv f147 f277 (w_2 hw))))
  have f279 := ((V130.other W135 (Ne.symm (Exa.neArv f147 f278 (w_2 hw)))).other W143 (Ne.symm (Exa.neArv f147 f278 (w_2 hw))))
  have f280 := ((V130.other W135 (Ne.symm (Exa.neArv f147 f279 (w_2 hw)))).other W143 (Ne.symm (Exa.neArv f147 f279 (w_2 hw))))
  have f281 := ((V130.other W135 (Ne.symm (Exa.neArv f147 f280 (w_2 hw)))).other W143 (Ne.symm (Exa.neArv f147 f280 (w_2 hw))))
  have f282 := ((V130.other W135 (Ne.symm (Exa.neArv f147 f281 (w_2 hw)))).other W143 (Ne.symm (Exa.neArv f147 f281 (w_2 hw))))
  have f283 := ((V130.other W135 (Ne.symm (Exa.neArv f147 f282 (w_2 hw)))).other W143 (Ne.symm (Exa.neArv f147 f282 (w_2 hw))))
  have f284 := ((V130.other W135 (Ne.symm (Exa.neArv f147 f283 (w_2 hw)))).other W143 (Ne.symm (Exa.neArv f147 f283 (w_2 hw))))
  have f285 := ((V130.other W135 (Ne.symm (Exa.neArv f147 f284 (w_2 hw)))).other W143 (Ne.symm (Exa.neArv f147 f284 (w_2 hw))))
  have f286 := ((V130.other W135 (Ne.symm (Exa.neArv f147 f285 (w_2 hw)))).other W143 (Ne.symm (Exa.neArv f147 f285 (w_2 hw))))
  have f287 := ((V130.other W135 (Ne.symm (Exa.neArv f147 f286 (w_2 hw)))).other W143 (Ne.symm (Exa.neArv f147 f286 (w_2 hw))))
  have f288 := ((V130.other W135 (Ne.symm (Exa.neArv f147 f287 (w_2 hw)))).other W143 (Ne.symm (Exa.neArv f147 f287 (w_2 hw))))
  have f289 := ((V130.other W135 (Ne.symm (Exa.neArv f147 f288 (w_2 hw)))).other W143 (Ne.symm (Exa.neArv f147 f288 (w_2 hw))))
  have f290 := ((V130.other W135 (Ne.symm (Exa.neArv f147 f289 (w_2 hw)))).other W143 (Ne.symm (Exa.neArv f147 f289 (w_2 hw))))
  have f291 := ((V130.other W135 (Ne.symm (Exa.neArv f147 f290 (w_2 hw)))).other W143 (Ne.symm (Exa.neArv f147 f290 (w_2 hw))))
  have f292 := ((V130.other W135 (Ne.symm (Exa.neArv f147 f291 (w_2 hw)))).other W143 (Ne.symm (Exa.neArv f147 f291 (w_2 hw))))
  have f293 := ((V130.other W135 (Ne.symm (Exa.neArv f147 f292 (w_2 hw)))).other W143 (Ne.symm (Exa.neArv f147 f292 (w_2 hw))))
  have f294 := ((V130.other W135 (Ne.symm (Exa.neArv f147 f293 (w_2 hw)))).other W143 (Ne.symm (Exa.neArv f147 f293 (w_2 hw))))
  have f295 := ((V130.other W135 (Ne.symm (Exa.neArv f147 f294 (w_2 hw)))).other W143 (Ne.symm (Exa.neArv f147 f294 (w_2 hw))))
  have f296 := ((V130.other W135 (Ne.symm (Exa.neArv f147 f295 (w_2 hw)))).other W143 (Ne.symm (Exa.neArv f147 f295 (w_2 hw))))
  have f297 := ((V130.other W135 (Ne.symm (Exa.neArv f147 f296 (w_2 hw)))).other W143 (Ne.symm (Exa.neArv f147 f296 (w_2 hw))))
  have f298 := ((V130.other W135 (Ne.symm (Exa.neArv f147 f297 (w_2 hw)))).other W143 (Ne.symm (Exa.neArv f147 f297 (w_2 hw))))
  have f299 := ((V130.other W135 (Ne.symm (Exa.neArv f147 f298 (w_2 hw)))).other W143 (Ne.symm (Exa.neArv f147 f298 (w_2 hw))))
  have f300 := ((V130.other W135 (Ne.symm (Exa.neArv f147 f299 (w_2 hw)))).other W143 (Ne.symm (Exa.neArv f147 f299 (w_2 hw))))
  have f301 := ((V130.other W135 (Ne.symm (Exa.neArv f147 f300 (w_2 hw)))).other W143 (Ne.symm (Exa.neArv f147 f300 (w_2 hw))))
  have f302 := ((V130.other W135 (Ne.symm (Exa.neArv f147 f301 (w_2 hw)))).other W143 (Ne.symm (Exa.neArv f147 f301 (w_2 hw))))
  have f303 := ((V130.other W135 (Ne.symm (Exa.neArv f147 f302 (w_2 hw)))).other W143 (Ne.symm (Exa.neArv f147 f302 (w_2 hw))))
  have f304 := ((V130.other W135 (Ne.symm (Exa.neArv f147 f303 (w_2 hw)))).other W143 (Ne.symm (Exa.neArv f147 f303 (w_2 hw))))
  have f305 := ((V130.other W135 (Ne.symm (Exa.neArv f147 f304 (w_2 hw)))).other W143 (Ne.symm (Exa.neArv f147 f304 (w_2 hw))))
  have f306 := ((V130.other W135 (Ne.symm (Exa.neArv f147 f305 (w_2 hw)))).other W143 (Ne.symm (Exa.neArv f147 f305 (w_2 hw))))
  have f307 := ((V130.other W135 (Ne.symm (Exa.neArv f147 f306 (w_2 hw)))).other W143 (Ne.symm (Exa.neArv f147 f306 (w_2 hw))))
  have f308 := ((V130.other W135 (Ne.symm (Exa.neArv f147 f307 (w_2 hw)))).other W143 (Ne.symm (Exa.neArv f147 f307 (w_2 hw))))
  have f309 := ((V130.other W135 (Ne.symm (Exa.neArv f147 f308 (w_2 hw)))).other W143 (Ne.symm (Exa.neArv f147 f308 (w_2 hw))))
  have f310 := ((V130.other W135 (Ne.symm (Exa.neArv f147 f309 (w_2 hw)))).other W143 (Ne.symm (Exa.neArv f147 f309 (w_2 hw))))
  have f311 := ((V130.other W135 (Ne.symm (Exa.neArv f147 f310 (w_2 hw)))).other W143 (Ne.symm (Exa.neArv f147 f310 (w_2 hw))))
  have f312 := ((V130.other W135 (Ne.symm (Exa.neArv f147 f311 (w_2 hw)))).other W143 (Ne.symm (Exa.neArv f147 f311 (w_2 hw))))
  have f313 := ((V130.other W135 (Ne.symm (Exa.neArv f147 f312 (w_2 hw)))).other W143 (Ne.symm (Exa.neArv f147 f312 (w_2 hw))))
  have f314 := ((V130.other W135 (Ne.symm (Exa.neArv f147 f313 (w_2 hw)))).other W143 (Ne.symm (Exa.neArv f147 f313 (w_2 hw))))
  have f315 := ((V130.other W135 (Ne.symm (Exa.neArv f147 f314 (w_2 hw)))).other W143 (Ne.symm (Exa.neArv f147 f314 (w_2 hw))))
  have f316 := ((V130.other W135 (Ne.symm (Exa.neArv f147 f315 (w_2 hw)))).other W143 (Ne.symm (Exa.neArv f147 f315 (w_2 hw))))
  have f317 := ((V130.other W135 (Ne.symm (Exa.neArv f147 f316 (w_2 hw)))).other W143 (Ne.symm (Exa.neArv f147 f316 (w_2 hw))))
  have f318 := ((V130.other W135 (Ne.symm (Exa.neArv f147 f317 (w_2 hw)))).other W143 (Ne.symm (Exa.neArv f147 f317 (w_2 hw))))
  have f319 := ((V130.other W135 (Ne.symm (Exa.neArv f147 f318 (w_2 hw)))).other W143 (Ne.symm (Exa.neArv f147 f318 (w_2 hw))))
  have f320 := ((V130.other W135 (Ne.symm (Exa.neArv f147 f319 (w_2 hw)))).other W143 (Ne.symm (Exa.neArv f147 f319 (w_2 hw))))
  have f321 := ((V130.other W135 (Ne.symm (Exa.neArv f147 f320 (w_2 hw)))).other W143 (Ne.symm (Exa.neArv f147 f320 (w_2 hw))))
  have f322 := ((V130.other W135 (Ne.symm (Exa.neArv f147 f321 (w_2 hw)))).other W143 (Ne.symm (Exa.neArv f147 f321 (w_2 hw))))
  have f323 := ((V130.other W135 (Ne.symm (Exa.neArv f147 f322 (w_2 hw)))).other W143 (Ne.symm (Exa.neArv f147 f322 (w_2 hw))))
  have f324 := ((V130.other W135 (Ne.symm (Exa.neArv f147 f323 (w_2 hw)))).other W143 (Ne.symm (Exa.neArv f147 f323 (w_2 hw))))
  have f325 := ((V130.other W135 (Ne.symm (Exa.neArv f147 f324 (w_2 hw)))).other W143 (Ne.symm (Exa.neArv f147 f324 (w_2 hw))))
  have f326 := ((V130.other W135 (Ne.symm (Exa.neArv f147 f325 (w_2 hw)))).other W143 (Ne.symm (Exa.neArv f147 f325 (w_2 hw))))
  have f327 := ((V130.other W135 (Ne.symm (Exa.neArv f147 f326 (w_2 hw)))).other W143 (Ne.symm (Exa.neArv f147 f326 (w_2 hw))))
  have f328 := ((V130.other W135 (Ne.symm (Exa.neArv f147 f327 (w_2 hw)))).other W143 (Ne.symm (Exa.neArv f147 f327 (w_2 hw))))
  have f329 := ((V130.other W135 (Ne.symm (Exa.neArv f147 f328 (w_2 hw)))).other W143 (Ne.symm (Exa.neArv f147 f328 (w_2 hw))))
  have f330 := ((V130.other W135 (Ne.symm (Exa.neArv f147 f329 (w_2 hw)))).other W143 (Ne.symm (Exa.neArv f147 f329 (w_2 hw))))
  have f331 := ((V130.other W135 (Ne.symm (Exa.neArv f147 f330 (w_2 hw)))).other W143 (Ne.symm (Exa.neArv f147 f330 (w_2 hw))))
  have f332 := ((V130.other W135 (Ne.symm (Exa.neArv f147 f331 (w_2 hw)))).other W143 (Ne.symm (Exa.neArv f147 f331 (w_2 hw))))
  have f333 := ((V130.other W135 (Ne.symm (Exa.neArv f147 f332 (w_2 hw)))).other W143 (Ne.symm (Exa.neArv f147 f332 (w_2 hw))))
  have f334 := ((V130.other W135 (Ne.symm (Exa.neArv f147 f333 (w_2 hw)))).other W143 (Ne.symm (Exa.neArv f147 f333 (w_2 hw))))
  have f335 := ((V130.other W135 (Ne.symm (Exa.neArv f147 f334 (w_2 hw)))).other W143 (Ne.symm (Exa.neArv f147 f334 (w_2 hw))))
  have f336 := ((V130.other W135 (Ne.symm (Exa.neArv f147 f335 (w_2 hw)))).other W143 (Ne.symm (Exa.neArv f147 f335 (w_2 hw))))
  have f337 := ((V130.other W135 (Ne.symm (Exa.neArv f147 f336 (w_2 hw)))).other W143 (Ne.symm (Exa.neArv f147 f336 (w_2 hw))))
  have f338 := ((V130.other W135 (Ne.symm (Exa.neArv f147 f337 (w_2 hw)))).other W143 (Ne.symm (Exa.neArv f147 f337 (w_2 hw))))
  have f339 := ((V130.other W135 (Ne.symm (Exa.neArv f147 f338 (w_2 hw)))).other W143 (Ne.symm (Exa.neArv f147 f338 (w_2 hw))))
  have f340 := ((V130.other W135 (Ne.symm (Exa.neArv f147 f339 (w_2 hw)))).other W143 (Ne.symm (Exa.neArv f147 f339 (w_2 hw))))
  have f341 := ((V130.other W135 (Ne.symm (Exa.neArv f147 f340 (w_2 hw)))).other W143 (Ne.symm (Exa.neArv f147 f340 (w_2 hw))))
  have f342 := ((V130.other W135 (Ne.symm (Exa.neArv f147 f341 (w_2 hw)))).other W143 (Ne.symm (Exa.neArv f147 f341 (w_2 hw))))
  have f343 := ((V130.other W135 (Ne.symm (Exa.neArv f147 f342 (w_2 hw)))).other W143 (Ne.symm (Exa.neArv f147 f342 (w_2 hw))))
  have f344 := ((V130.other W135 (Ne.symm (Exa.neArv f147 f343 (w_2 hw)))).other W143 (Ne.symm (Exa.neArv f147 f343 (w_2 hw))))
  have f345 := ((V130.other W135 (Ne.symm (Exa.neArv f147 f344 (w_2 hw)))).other W143 (Ne.symm (Exa.neArv f147 f344 (w_2 hw))))
  have f346 := ((V130.other W135 (Ne.symm (Exa.neArv f147 f345 (w_2 hw)))).other W143 (Ne.symm (Exa.neArv f147 f345 (w_2 hw))))
  have f347 := ((V130.other W135 (Ne.symm (Exa.neArv f147 f346 (w_2 hw)))).other W143 (Ne.symm (Exa.neArv f147 f346 (w_2 hw))))
  have f348 := ((V130.other W135 (Ne.symm (Exa.neArv f147 f347 (w_2 hw)))).other W143 (Ne.symm (Exa.neArv f147 f347 (w_2 hw))))
  have f349 := ((V130.other W135 (Ne.symm (Exa.neArv f147 f348 (w_2 hw)))).other W143 (Ne.symm (Exa.neArv f147 f348 (w_2 hw))))
  have f350 := ((V130.other W135 (Ne.symm (Exa.neArv f147 f349 (w_2 hw)))).other W143 (Ne.symm (Exa.neArv f147 f349 (w_2 hw))))
  have f351 := ((V130.other W135 (Ne.symm (Exa.neArv f147 f350 (w_2 hw)))).other W143 (Ne.symm (Exa.neArv f147 f350 (w_2 hw))))
  have f352 := ((V130.other W135 (Ne.symm (Exa.neArv f147 f351 (w_2 hw)))).other W143 (Ne.symm (Exa.neArv f147 f351 (w_2 hw))))
  have f353 := ((V130.other W135 (Ne.symm (Exa.neArv f147 f352 (w_2 hw)))).other W143 (Ne.symm (Exa.neArv f147 f352 (w_2 hw))))
  have f354 := ((V130.other W135 (Ne.symm (Exa.neArv f147 f353 (w_2 hw)))).other W143 (Ne.symm (Exa.neArv f147 f353 (w_2 hw))))
  have f355 := ((V130.other W135 (Ne.symm (Exa.neArv f147 f354 (w_2 hw)))).other W143 (Ne.symm (Exa.neArv f147 f354 (w_2 hw))))
  have f356 := ((V130.other W135 (Ne.symm (Exa.neArv f147 f355 (w_2 hw)))).other W143 (Ne.symm (Exa.neArv f147 f355 (w_2 hw))))
  have f357 := ((V130.other W135 (Ne.symm (Exa.neArv f147 f356 (w_2 hw)))).other W143 (Ne.symm (Exa.neArv f147 f356 (w_2 hw))))
  have f358 := ((V130.other W135 (Ne.symm (Exa.neArv f147 f357 (w_2 hw)))).other W143 (Ne.symm (Exa.neArv f147 f357 (w_2 hw))))
  have f359 := ((V130.other W135 (Ne.symm (Exa.neArv f147 f358 (w_2 hw)))).other W143 (Ne.symm (Exa.neArv f147 f358 (w_2 hw))))
  have f360 := ((V130.other W135 (Ne.symm (Exa.neArv f147 f359 (w_2 hw)))).other W143 (Ne.symm (Exa.neArv f147 f359 (w_2 hw))))
  have f361 := ((V130.other W135 (Ne.symm (Exa.neArv f147 f360 (w_2 hw)))).other W143 (Ne.symm (Exa.neArv f147 f360 (w_2 hw))))
  have f362 := ((V130.other W135 (Ne.symm (Exa.neArv f147 f361 (w_2 hw)))).other W143 (Ne.symm (Exa.neArv f147 f361 (w_2 hw))))
  have f363 := ((V130.other W135 (Ne.symm (Exa.neArv f147 f362 (w_2 hw)))).other W143 (Ne.symm (Exa.neArv f147 f362 (w_2 hw))))
  have f364 := ((V130.other W135 (Ne.symm (Exa.neArv f147 f363 (w_2 hw)))).other W143 (Ne.symm (Exa.neArv f147 f363 (w_2 hw))))
  have f365 := ((V130.other W135 (Ne.symm (Exa.neArv f147 f364 (w_2 hw)))).other W143 (Ne.symm (Exa.neArv f147 f364 (w_2 hw))))
  have f366 := ((V130.other W135 (Ne.symm (Exa.neArv f147 f365 (w_2 hw)))).other W143 (Ne.symm (Exa.neArv f147 f365 (w_2 hw))))
  have f367 := ((V130.other W135 (Ne.symm (Exa.neArv f147 f366 (w_2 hw)))).other W143 (Ne.symm (Exa.neArv f147 f366 (w_2 hw))))
  have f368 := ((V130.other W135 (Ne.symm (Exa.neArv f147 f367 (w_2 hw)))).other W143 (Ne.symm (Exa.neArv f147 f367 (w_2 hw))))
  have f369 := ((V130.other W135 (Ne.symm (Exa.neArv f147 f368 (w_2 hw)))).other W143 (Ne.symm (Exa.neArv f147 f368 (w_2 hw))))
  have f370 := ((V130.other W135 (Ne.symm (Exa.neArv f147 f369 (w_2 hw)))).other W143 (Ne.symm (Exa.neArv f147 f369 (w_2 hw))))
  have f371 := ((V130.other W135 (Ne.symm (Exa.neArv f147 f370 (w_2 hw)))).other W143 (Ne.symm (Exa.neArv f147 f370 (w_2 hw))))
  have f372 := ((V130.other W135 (Ne.symm (Exa.neArv f147 f371 (w_2 hw)))).other W143 (Ne.symm (Exa.neArv f147 f371 (w_2 hw))))
  have f373 := ((V130.other W135 (Ne.symm (Exa.neArv f147 f372 (w_2 hw)))).other W143 (Ne.symm (Exa.neArv f147 f372 (w_2 hw))))
  have f374 := ((V130.other W135 (Ne.symm (Exa.neArv f147 f373 (w_2 hw)))).other W143 (Ne.symm (Exa.neArv f147 f373 (w_2 hw))))
  have f375 := ((V130.other W135 (Ne.symm (Exa.neArv f147 f374 (w_2 hw)))).other W143 (Ne.symm (Exa.neArv f147 f374 (w_2 hw))))
  have f376 := ((V130.other W135 (Ne.symm (Exa.neArv f147 f375 (w_2 hw)))).other W143 (Ne.symm (Exa.neArv f147 f375 (w_2 hw))))
  have f377 := ((V130.other W135 (Ne.symm (Exa.neArv f147 f376 (w_2 hw)))).other W143 (Ne.symm (Exa.neArv f147 f376 (w_2 hw))))
  have f378 := ((V130.other W135 (Ne.symm (Exa.neArv f147 f377 (w_2 hw)))).other W143 (Ne.symm (Exa.neArv f147 f377 (w_2 hw))))
  have f379 := ((V130.other W135 (Ne.symm (Exa.neArv f147 f378 (w_2 hw)))).other W143 (Ne.symm (Exa.neArv f147 f378 (w_2 hw))))
  have f380 := ((V130.other W135 (Ne.symm (Exa.neArv f147 f379 (w_2 hw)))).other W143 (Ne.symm (Exa.neArv f147 f379 (w_2 hw))))
  have f381 := ((V130.other W135 (Ne.symm (Exa.neArv f147 f380 (w_2 hw)))).other W143 (Ne.symm (Exa.neArv f147 f380 (w_2 hw))))
  have f382 := ((V130.other W135 (Ne.symm (Exa.neArv f147 f381 (w_2 hw)))).other W143 (Ne.symm (Exa.neArv f147 f381 (w_2 hw))))
  have f383 := ((V130.other W135 (Ne.symm (Exa.neArv f147 f382 (w_2 hw)))).other W143 (Ne.symm (Exa.neArv f147 f382 (w_2 hw))))
  have f384 := ((V130.other W135 (Ne.symm (Exa.neArv f147 f383 (w_2 hw)))).other W143 (Ne.symm (Exa.neArv f147 f383 (w_2 hw))))
  have f385 := ((V130.other W135 (Ne.symm (Exa.neArv f147 f384 (w_2 hw)))).other W143 (Ne.symm (Exa.neArv f147 f384 (w_2 hw))))
  have f386 := ((V130.other W135 (Ne.symm (Exa.neArv f147 f385 (w_2 hw)))).other W143 (Ne.symm (Exa.neArv f147 f385 (w_2 hw))))
  have f387 := ((V130.other W135 (Ne.symm (Exa.neArv f147 f386 (w_2 hw)))).other W143 (Ne.symm (Exa.neArv f147 f386 (w_2 hw))))
  have f388 := ((V130.other W135 (Ne.symm (Exa.neArv f147 f387 (w_2 hw)))).other W143 (Ne.symm (Exa.neArv f147 f387 (w_2 hw))))
  have f389 := ((V130.other W135 (Ne.symm (Exa.neArv f147 f388 (w_2 hw)))).other W143 (Ne.symm (Exa.neArv f147 f388 (w_2 hw))))
  have f390 := ((V130.other W135 (Ne.symm (Exa.neArv f147 f389 (w_2 hw)))).other W143 (Ne.symm (Exa.neArv f147 f389 (w_2 hw))))
  have f391 := ((V130.other W135 (Ne.symm (Exa.neArv f147 f390 (w_2 hw)))).other W143 (Ne.symm (Exa.neArv f147 f390 (w_2 hw))))
  have f392 := ((V130.other W135 (Ne.symm (Exa.neArv f147 f391 (w_2 hw)))).other W143 (Ne.symm (Exa.neArv f147 f391 (w_2 hw))))
  have f393 := ((V130.other W135 (Ne.symm (Exa.neArv f147 f392 (w_2 hw)))).other W143 (Ne.symm (Exa.neArv f147 f392 (w_2 hw))))
  have f394 := ((V130.other W135 (Ne.symm (Exa.neArv f147 f393 (w_2 hw)))).other W143 (Ne.symm (Exa.neArv f147 f393 (w_2 hw))))
  have f395 := ((V130.other W135 (Ne.symm (Exa.neArv f147 f394 (w_2 hw)))).other W143 (Ne.symm (Exa.neArv f147 f394 (w_2 hw))))
  obtain ⟨fs, hr, hrun, hended, hE⟩ := X143.leaveW hS130 (by rw [e143]; exact (Nat.le_trans hk130 (Nat.le_trans (Nat.le_of_eq W135.size.symm) (Nat.le_of_eq W143.size.symm)))) (v := none) (fun _ => rfl)
  refine ⟨_, _, hTG _ (pre0 _ ?_), hrun, hended, _, _, rfl, ?_, ?_, hE.1, hE.2.1, hE.2.2.1, hE.2.2.2.mono (by decide) (by decide)⟩
  · refine y_aloadN X0 hx 1 (hb hby d7_0) rfl rfl rfl ?_
    refine st129 _ ?_
    show Sx p e below T129 m 4 #[xvr ax, xvr cx, xvi (0 : Int32), xvi (0 : Int32), .val .null, xun] [] _
    refine y_iloadN X129 hx 5 (hb hby d7_4) rfl rfl ?_
    refine y_ifNo X129 hx 8 (hb hby d7_5) (XT.i0_ne_f (by decide)) rfl ?_
    refine y_aloadN X129 hx 9 (hb hby d7_8) rfl rfl rfl ?_
    refine st130 _ ?_
    show Sx p e below T130 m 11 #[xvr ax, xvr cx, xvi (0 : Int32), xvi (0 : Int32), .val .null, xun] [xwr a130, xwr ax] _
    refine st132 _ ?_
    show Sx p e below T132 m 14 #[xvr ax, xvr cx, xvi (0 : Int32), xvi (0 : Int32), .val .null, xun] [xwr d130, xwr ax] _
    refine st135 _ ?_
    show Sx p e below T135 m 17 #[xvr ax, xvr cx, xvi (0 : Int32), xvi (0 : Int32), .val .null, xun] [] _
    refine y_aloadN X135 hx 18 (hb hby d7_17) rfl rfl rfl ?_
    refine ldcAgain X135 hx hZ130 hown130 (w_87 hw) Li130 (g := (mkF m 18 #[xvr ax, xvr cx, xvi (0 : Int32), xvi (0 : Int32), .val .null, xun] [xwr ax])) rfl (hb hby d7_18) _ ?_
    show Sx p e below T135 m 20 #[xvr ax, xvr cx, xvi (0 : Int32), xvi (0 : Int32), .val .null, xun] [xwr a130, xwr ax] _
    refine st140 _ ?_
    show Sx p e below T140 m 23 #[xvr ax, xvr cx, xvi (0 : Int32), xvi (0 : Int32), .val .null, xun] [xwi (0 : Int32), xwr ax] _
    refine st143 _ ?_
    show Sx p e below T143 m 26 #[xvr ax, xvr cx, xvi (0 : Int32), xvi (0 : Int32), .val .null, xun] [] _
    exact X143.returnOut hx Bd.returns (hb hby d7_26) hr
  · show QrmE4 Z G ax cx kc cs dv h0 n0 _ T143.heap _
    rw [e143]
    exact ⟨d130, k130, rfl, N143, ((((Keep.refl h0 [ax]).ext E130).wr W135 (Or.inl (List.mem_of_getElem? (i := 0) rfl))).wr W143 (Or.inl (List.mem_of_getElem? (i := 0) rfl))), f147, Fw143, f148, f395⟩
  · rw [hh]; show CHr Z EL s.vm h0 T143.vm T143.heap; rw [e143]; exact C144.trans (CHv.at X143 hZ130 (own_EW hw) C144.1)
theorem ef_rmE1 (m : MethodId) (x0 : Addr) (x1 : Addr)  : entryFrame m #[(.ref x0), (.ref x1)] 2 = mkF m 0 #[.val (.ref x0), .val (.ref x1)] [] := by first | (simp [entryFrame, mkF, argsToLocals, Value.category]; done) | rfl
theorem d6_0 : decode jdk_42_method_3_code 0 = .ok (.aload_n 0, 1) := by decide +kernel
theorem d6_1 : decode jdk_42_method_3_code 1 = .ok (.aload_n 1, 1) := by decide +kernel
theorem d6_2 : decode jdk_42_method_3_code 2 = .ok (.iconst 0, 1) := by decide +kernel
theorem d6_3 : decode jdk_42_method_3_code 3 = .ok (.aload_n 1, 1) := by decide +kernel
theorem d6_4 : decode jdk_42_method_3_code 4 = .ok (.arraylength, 1) := by decide +kernel
theorem d6_5 : decode jdk_42_method_3_code 5 = .ok (.aconst_null, 1) := by decide +kernel
theorem d6_6 : decode jdk_42_method_3_code 6 = .ok (.invokespecial 27, 3) := by decide +kernel
theorem pd_3 : parseMethodDescriptor "([CIILjava/lang/Void;)V" = some ⟨[(.array .char), .int, .int, (.object "java/lang/Void")], none⟩ := by decide +kernel
theorem d6_9 : decode jdk_42_method_3_code 9 = .ok (.return_, 1) := by decide +kernel
def QrmE1 (Z : State) (G : Gs) (ax : Addr) (cx : Addr) (kc : ClassId) (cs : List Value) (dv : Value) (h0 : Heap) (n0 : Nat) (v : Option Value) (h : Heap) (L : List Loc) : Prop := ∃ (tx : Addr), ∃ (kb : ClassId), v = none ∧ Fr n0 L ∧ Keep h0 h [ax] ∧ Exa Z h ax "java/lang/String" ∧ Fld Z h ax "java/lang/String" "coder" "B" (.int (0 : Int32)) ∧ Fld Z h ax "java/lang/String" "value" "[B" (.ref tx) ∧ Arv Z h tx kb .byte (0 : Int32) [] (.int (0 : Int32))
set_option maxRecDepth 65536 in
set_option maxHeartbeats 40000000 in
theorem rmE1 (l : Launch) (Z : State) (a0 : Array Value) (hw : HW a0 Z) (G : Gs) (ST : StartF Z G) (ws : List Jvm.Cond) (ax : Addr) (cx : Addr) (kc : ClassId) (cs : List Value) (dv : Value) (h0 : Heap) (n0 : Nat) (X00 : Old Z n0 h0) (E1 : Exa Z h0 ax "java/lang/String") (F1 : Fld Z h0 ax "java/lang/String" "value" "[B" .null) (F2 : Fld Z h0 ax "java/lang/String" "coder" "B" (.int (0 : Int32))) (g1 : n0 ≤ ax) (V1 : Arv Z h0 cx kc .char (0 : Int32) cs dv) :
    MetFree l (⟨"java/lang/String", "<init>", "([C)V"⟩ : MethodName) (head1 (Jvm.Cond.code (⟨"java/lang/String", "<init>", "([C)V"⟩ : MethodName) jdk_42_method_3_code 2 none :: ws) ({ frames := 2, cells := 2, slots := 4, locals := 29 } : Room)) (fun a U => a = #[(.ref ax), (.ref cx)] ∧ Z.Warmed39 U.vm ∧ U.heap = h0 ∧ CHv Z EL U.vm h0) (fun _ _ _ _ _ => True) (fun _ U o U' => ∃ v L, o = .returned v ∧ QrmE1 Z G ax cx kc cs dv h0 n0 v U'.heap L ∧ CHr Z EL U.vm U.heap U'.vm U'.heap ∧ ReturnedEndW U o U' L ({ frames := 2, cells := 2, slots := 4, locals := 29 } : Room).cells ({ frames := 2, cells := 2, slots := 4, locals := 29 } : Room).slots) := by
  refine MetFree.of_bodySF (plainFor_of_name pn_1) hisR ?_
  intro p e s m args below meth c s₁ Bd hml0 hP hK
  obtain ⟨rfl, hZ, hh, HC0⟩ := hP
  have hx := Bd.exec
  have hby := Bd.bytes
  have hml : c.maxLocals = 2 := hml0
  have hown : s.vm.findClass "java/lang/String" = some m.cls := findClass_of_methodNamed Bd.named
  have hnm := (name_of_methodNamed Bd.named Bd.method).1
  have X0 : Stand p l e ({ frames := 2, cells := 2, slots := 4, locals := 29 } : Room) (s.setVm s.vm) m #[(.ref ax), (.ref cx)] below meth c s₁ [] 0 0 := Stand.of_body Bd
  have e0 : s₁.heap = h0 := by rw [← hh, Bd.state]; rfl
  have N0 := Fr.nil n0
  have Z0 : n0 ≤ h0.size := by have q := X00.2.1; rw [X00.1] at q; exact q
  have C0 := CHr.refl HC0
  have hS0 : s.Since s.vm h0.size := (State.WarmedH.refl s).since h0.size
  obtain ⟨TG, hTG, hT2⟩ : ∃ P : State → Prop, (∀ t, P t → Steps p.tables e below (s₁.setTop (entryFrame m #[(.ref ax), (.ref cx)] 2)) t) ∧ (∀ t, Steps p.tables e below (s₁.setTop (entryFrame m #[(.ref ax), (.ref cx)] 2)) t → P t) := ⟨_, fun t k => k, fun t k => k⟩
  have pre0 : ∀ t, Sx p e below s₁ m 0 #[xvr ax, xvr cx] [] t → TG t := fun t k => hT2 t (castTop (ef_rmE1 m ax cx ) k)
  obtain ⟨cl396, Ar396, q396, S396, M396, H396, G396⟩ := id V1
  obtain ⟨_, _, ⟨T397, L397, k397, n397⟩, -, X397, hS397, g397, ⟨Lc397, hQ397, l397, y397, z397, CH397⟩, st397⟩ := X0.specialBackS hx (y := (⟨"java/lang/String", "<init>", "([CIILjava/lang/Void;)V"⟩ : MethodName)) rfl hown (mvT hZ (w_46 hw)) (mvT hZ (w_47 hw)) (mvT hZ (w_48 hw)) (by decide) (backOfSH (W := 0) (rmE4 l Z a0 hw G ST [] ax cx kc (cs : List Value) dv h0 n0 X00 E1 F1 F2 g1 V1) hZ (w_48 hw) (w_1 hw) (by decide) (by decide) (own_EW hw) C0.1) (g := (mkF m 6 #[xvr ax, xvr cx] [.null, xwi (0 : Int32), xwi (0 : Int32), xwr cx, xwr ax])) rfl (by rw [hml]; rfl) (Steps.refl _) (a := ax) (argsL := [(.ref cx), (.int (0 : Int32)), (.int (0 : Int32)), .null]) (rest := []) (lenOf pd_3 rfl) rfl (by show 2 * 0 + _ ≤ _; exact Nat.le_of_eq rfl) (hb hby d6_6) (fun _ _ => ⟨rfl, e0, (by decide : 0 + 2 ≤ _), (by decide : 0 + 4 ≤ _)⟩)
  dsimp only [Pt.U, Pt.locs, Pt.cells, Pt.slots] at X397 l397 y397 z397 st397 hQ397 CH397 hS397 g397
  subst l397 y397 z397
  obtain ⟨hp397, e397⟩ : ∃ z, T397.heap = z := ⟨_, rfl⟩
  rw [e397] at hQ397 CH397 hS397 g397
  rw [e0] at g397
  obtain ⟨X397, hS397, hZ397, hown397⟩ := rebS hS0 (Nat.le_refl _) X397 hS397 g397 hZ hown
  obtain ⟨o398, o399, rfl, N397q, K397, p400, p401, p402, p403⟩ := hQ397
  have N397 := Fr.app N0 N397q
  have C404 := C0.trans CH397
  obtain ⟨fs, hr, hrun, hended, hE⟩ := X397.leaveW hS397 (by rw [e397]; exact (Nat.le_refl _)) (v := none) (fun _ => rfl)
  refine ⟨_, _, hTG _ (pre0 _ ?_), hrun, hended, _, _, rfl, ?_, ?_, hE.1, hE.2.1, hE.2.2.1, hE.2.2.2.mono (by decide) (by decide)⟩
  · refine y_aloadN X0 hx 1 (hb hby d6_0) rfl rfl rfl ?_
    refine y_aloadN X0 hx 2 (hb hby d6_1) rfl rfl rfl ?_
    refine y_iconst X0 hx (0 : Int32) 3 (hb hby d6_2) rfl rfl ?_
    refine y_aloadN X0 hx 4 (hb hby d6_3) rfl rfl rfl ?_
    refine X0.arraylength hx (by rw [e0]; exact Ar396.1) (State.isArrayOf_alike hZ.alike Ar396.2.1) (g := (mkF m 4 #[xvr ax, xvr cx] [xwr cx, xwi (0 : Int32), xwr cx, xwr ax])) rfl rfl (hb hby d6_4) _ ?_
    rw [len_of S396 M396]
    show Sx p e below s₁ m 5 #[xvr ax, xvr cx] [xwi (0 : Int32), xwi (0 : Int32), xwr cx, xwr ax] _
    refine y_aconst_null X0 hx 6 (hb hby d6_5) rfl ?_
    refine st397.trans ?_
    show Sx p e below T397 m 9 #[xvr ax, xvr cx] [] _
    exact X397.returnOut hx Bd.returns (hb hby d6_9) hr
  · show QrmE1 Z G ax cx kc cs dv h0 n0 _ T397.heap _
    rw [e397]
    exact ⟨o398, o399, rfl, N397, ((Keep.refl h0 [ax]).trans K397 (allS (Or.inl (List.mem_of_getElem? (i := 0) rfl)) all0)), p400, p401, p402, p403⟩
  · rw [hh]; show CHr Z EL s.vm h0 T397.vm T397.heap; rw [e397]; exact C404.trans (CHv.at X397 hZ397 (own_EW hw) C404.1)
theorem ef_rmNN (m : MethodId) (x0 : Addr) (x1 : Addr)  : entryFrame m #[(.ref x0), (.ref x1)] 2 = mkF m 0 #[.val (.ref x0), .val (.ref x1)] [] := by first | (simp [entryFrame, mkF, argsToLocals, Value.category]; done) | rfl
theorem d3_0 : decode jdk_31_method_11_code 0 = .ok (.aload_n 0, 1) := by decide +kernel
theorem d3_1 : decode jdk_31_method_11_code 1 = .ok (.ifnonnull 12, 3) := by decide +kernel
theorem d3_13 : decode jdk_31_method_11_code 13 = .ok (.aload_n 0, 1) := by decide +kernel
theorem d3_14 : decode jdk_31_method_11_code 14 = .ok (.areturn, 1) := by decide +kernel
theorem pn_2 : plainName "java/util/Objects" = true := by first | (simp [plainName, overriddenIn]; done) | decide +kernel
def QrmNN (Z : State) (G : Gs) (ax : Addr) (bx : Addr) (h0 : Heap) (n0 : Nat) (v : Option Value) (h : Heap) (L : List Loc) : Prop := v = some (.ref ax) ∧ Fr n0 L ∧ h = h0
set_option maxRecDepth 65536 in
set_option maxHeartbeats 40000000 in
theorem rmNN (l : Launch) (Z : State) (a0 : Array Value) (hw : HW a0 Z) (G : Gs) (ST : StartF Z G) (ws : List Jvm.Cond) (ax : Addr) (bx : Addr) (h0 : Heap) (n0 : Nat) (X00 : Old Z n0 h0) :
    MetFree l (⟨"java/util/Objects", "requireNonNull", "(Ljava/lang/Object;Ljava/lang/String;)Ljava/lang/Object;"⟩ : MethodName) (head1 (Jvm.Cond.code (⟨"java/util/Objects", "requireNonNull", "(Ljava/lang/Object;Ljava/lang/String;)Ljava/lang/Object;"⟩ : MethodName) jdk_31_method_11_code 2 (some (.object "java/lang/Object")) :: ws) ({ frames := 0, cells := 0, slots := 0, locals := 0 } : Room)) (fun a U => a = #[(.ref ax), (.ref bx)] ∧ Z.Warmed39 U.vm ∧ U.heap = h0) (fun _ _ _ _ _ => True) (fun _ U o U' => ∃ v L, o = .returned v ∧ QrmNN Z G ax bx h0 n0 v U'.heap L ∧ FrameEnd U o U' L ({ frames := 0, cells := 0, slots := 0, locals := 0 } : Room).cells ({ frames := 0, cells := 0, slots := 0, locals := 0 } : Room).slots) := by
  refine MetFree.of_bodySF (plainFor_of_name pn_2) hisR ?_
  intro p e s m args below meth c s₁ Bd hml0 hP hK
  obtain ⟨rfl, hZ, hh⟩ := hP
  have hx := Bd.exec
  have hby := Bd.bytes
  have hml : c.maxLocals = 2 := hml0
  have hown : s.vm.findClass "java/util/Objects" = some m.cls := findClass_of_methodNamed Bd.named
  have hnm := (name_of_methodNamed Bd.named Bd.method).1
  have X0 : Stand p l e ({ frames := 0, cells := 0, slots := 0, locals := 0 } : Room) s m #[(.ref ax), (.ref bx)] below meth c s₁ [] 0 0 := Stand.of_body Bd
  have e0 : s₁.heap = h0 := by rw [← hh, Bd.state]; rfl
  have N0 := Fr.nil n0
  have Z0 : n0 ≤ h0.size := by have q := X00.2.1; rw [X00.1] at q; exact q
  obtain ⟨TG, hTG, hT2⟩ : ∃ P : State → Prop, (∀ t, P t → Steps p.tables e below (s₁.setTop (entryFrame m #[(.ref ax), (.ref bx)] 2)) t) ∧ (∀ t, Steps p.tables e below (s₁.setTop (entryFrame m #[(.ref ax), (.ref bx)] 2)) t → P t) := ⟨_, fun t k => k, fun t k => k⟩
  have pre0 : ∀ t, Sx p e below s₁ m 0 #[xvr ax, xvr bx] [] t → TG t := fun t k => hT2 t (castTop (ef_rmNN m ax bx ) k)
  obtain ⟨fs, hr, hrun, hended, hW, hsame⟩ := X0.leave (v := some (.ref ax)) (fun h => by rw [Bd.returns] at h; cases h)
  refine ⟨_, _, hTG _ (pre0 _ ?_), hrun, hended, _, _, rfl, ?_, ⟨_, rfl⟩, hW, hsame.mono (by decide) (by decide)⟩
  · refine y_aloadN X0 hx 1 (hb hby d3_0) rfl rfl rfl ?_
    refine XS.ifnonnullYes X0.here hx rfl (pc0 := 1) (pc' := 13) rfl (hb hby d3_1) rfl (by decide) (by decide) ?_
    show Sx p e below s₁ m 13 #[xvr ax, xvr bx] [] _
    refine y_aloadN X0 hx 14 (hb hby d3_13) rfl rfl rfl ?_
    show Sx p e below s₁ m 14 #[xvr ax, xvr bx] [xwr ax] _
    exact retOut X0 hx Bd.returns rfl (Or.inr (Or.inr (Or.inr (Or.inr ⟨rfl, rfl, rfl⟩)))) (hb hby d3_14) hr
  · show QrmNN Z G ax bx h0 n0 _ s₁.heap _
    rw [e0]
    exact ⟨rfl, N0, rfl⟩
theorem ef_rmCod (m : MethodId) (x0 : Addr)  : entryFrame m #[(.ref x0)] 1 = mkF m 0 #[.val (.ref x0)] [] := by first | (simp [entryFrame, mkF, argsToLocals, Value.category]; done) | rfl
theorem d12_0 : decode jdk_42_method_152_code 0 = .ok (.getstatic 38, 3) := by decide +kernel
theorem d12_3 : decode jdk_42_method_152_code 3 = .ok (.ifCond .eq 10, 3) := by decide +kernel
theorem d12_6 : decode jdk_42_method_152_code 6 = .ok (.aload_n 0, 1) := by decide +kernel
theorem d12_7 : decode jdk_42_method_152_code 7 = .ok (.getfield 15, 3) := by decide +kernel
theorem d12_10 : decode jdk_42_method_152_code 10 = .ok (.goto 4, 3) := by decide +kernel
theorem d12_14 : decode jdk_42_method_152_code 14 = .ok (.ireturn, 1) := by decide +kernel
def QrmCod (Z : State) (G : Gs) (ax : Addr) (h0 : Heap) (n0 : Nat) (v : Option Value) (h : Heap) (L : List Loc) : Prop := v = some (.int (0 : Int32)) ∧ Fr n0 L ∧ h = h0
set_option maxRecDepth 65536 in
set_option maxHeartbeats 40000000 in
theorem rmCod (l : Launch) (Z : State) (a0 : Array Value) (hw : HW a0 Z) (G : Gs) (ST : StartF Z G) (ws : List Jvm.Cond) (ax : Addr) (h0 : Heap) (n0 : Nat) (X00 : Old Z n0 h0) (F1 : Fld Z h0 ax "java/lang/String" "coder" "B" (.int (0 : Int32))) :
    MetFree l (⟨"java/lang/String", "coder", "()B"⟩ : MethodName) (head1 (Jvm.Cond.code (⟨"java/lang/String", "coder", "()B"⟩ : MethodName) jdk_42_method_152_code 1 (some .byte) :: ws) ({ frames := 0, cells := 0, slots := 0, locals := 0 } : Room)) (fun a U => a = #[(.ref ax)] ∧ Z.Warmed39 U.vm ∧ U.heap = h0) (fun _ _ _ _ _ => True) (fun _ U o U' => ∃ v L, o = .returned v ∧ QrmCod Z G ax h0 n0 v U'.heap L ∧ FrameEnd U o U' L ({ frames := 0, cells := 0, slots := 0, locals := 0 } : Room).cells ({ frames := 0, cells := 0, slots := 0, locals := 0 } : Room).slots) := by
  refine MetFree.of_bodySF (plainFor_of_name pn_1) hisR ?_
  intro p e s m args below meth c s₁ Bd hml0 hP hK
  obtain ⟨rfl, hZ, hh⟩ := hP
  have hx := Bd.exec
  have hby := Bd.bytes
  have hml : c.maxLocals = 1 := hml0
  have hown : s.vm.findClass "java/lang/String" = some m.cls := findClass_of_methodNamed Bd.named
  have hnm := (name_of_methodNamed Bd.named Bd.method).1
  have X0 : Stand p l e ({ frames := 0, cells := 0, slots := 0, locals := 0 } : Room) s m #[(.ref ax)] below meth c s₁ [] 0 0 := Stand.of_body Bd
  have e0 : s₁.heap = h0 := by rw [← hh, Bd.state]; rfl
  have N0 := Fr.nil n0
  have Z0 : n0 ≤ h0.size := by have q := X00.2.1; rw [X00.1] at q; exact q
  obtain ⟨TG, hTG, hT2⟩ : ∃ P : State → Prop, (∀ t, P t → Steps p.tables e below (s₁.setTop (entryFrame m #[(.ref ax)] 1)) t) ∧ (∀ t, Steps p.tables e below (s₁.setTop (entryFrame m #[(.ref ax)] 1)) t → P t) := ⟨_, fun t k => k, fun t k => k⟩
  have pre0 : ∀ t, Sx p e below s₁ m 0 #[xvr ax] [] t → TG t := fun t k => hT2 t (castTop (ef_rmCod m ax ) k)
  obtain ⟨T405, X405, e405, st405⟩ := getS2 X0 hx hZ hown (host := "") (Or.inl (w_50 hw)) Via.refl e0 (ST.1.ext X00.2) (g := (mkF m 0 #[xvr ax] [])) rfl (hb hby d12_0)
  obtain ⟨T406, X406, e406, st406⟩ := getF X405 hx hZ hown (host := "") (Or.inl (w_61 hw)) Via.refl e405 F1 (g := (mkF m 7 #[xvr ax] [xwr ax])) rfl rfl (hb hby d12_7)
  obtain ⟨fs, hr, hrun, hended, hW, hsame⟩ := X406.leave (v := some (.int (0 : Int32))) (fun h => by rw [Bd.returns] at h; cases h)
  refine ⟨_, _, hTG _ (pre0 _ ?_), hrun, hended, _, _, rfl, ?_, ⟨_, rfl⟩, hW, hsame.mono (by decide) (by decide)⟩
  · refine st405 _ ?_
    show Sx p e below T405 m 3 #[xvr ax] [xwi G] _
    refine y_ifNo X405 hx 6 (hb hby d12_3) (XT.i0_eq_f ST.2) rfl ?_
    refine y_aloadN X405 hx 7 (hb hby d12_6) rfl rfl rfl ?_
    refine st406 _ ?_
    show Sx p e below T406 m 10 #[xvr ax] [xwi (0 : Int32)] _
    refine y_goto X406 hx 14 (hb hby d12_10) (by decide) (by decide) ?_
    show Sx p e below T406 m 14 #[xvr ax] [xwi (0 : Int32)] _
    exact retN X406 hx (t := .byte) Bd.returns (by simp) (hb hby d12_14) (hr)
  · show QrmCod Z G ax h0 n0 _ T406.heap _
    rw [e406]
    exact ⟨rfl, N0, rfl⟩
theorem ef_rmLen (m : MethodId) (x0 : Addr)  : entryFrame m #[(.ref x0)] 1 = mkF m 0 #[.val (.ref x0)] [] := by first | (simp [entryFrame, mkF, argsToLocals, Value.category]; done) | rfl
theorem d11_0 : decode jdk_42_method_54_code 0 = .ok (.aload_n 0, 1) := by decide +kernel
theorem d11_1 : decode jdk_42_method_54_code 1 = .ok (.getfield 9, 3) := by decide +kernel
theorem d11_4 : decode jdk_42_method_54_code 4 = .ok (.arraylength, 1) := by decide +kernel
theorem d11_5 : decode jdk_42_method_54_code 5 = .ok (.aload_n 0, 1) := by decide +kernel
theorem d11_6 : decode jdk_42_method_54_code 6 = .ok (.invokevirtual 335, 3) := by decide +kernel
theorem pd_4 : parseMethodDescriptor "()B" = some ⟨[], some .byte⟩ := by decide +kernel
theorem d11_9 : decode jdk_42_method_54_code 9 = .ok (.ishr, 1) := by decide +kernel
theorem d11_10 : decode jdk_42_method_54_code 10 = .ok (.ireturn, 1) := by decide +kernel
def QrmLen (Z : State) (G : Gs) (ax : Addr) (tx : Addr) (kb : ClassId) (zx : Int32) (bs : List Value) (dv : Value) (h0 : Heap) (n0 : Nat) (v : Option Value) (h : Heap) (L : List Loc) : Prop := v = some (.int zx) ∧ Fr n0 L ∧ h = h0
set_option maxRecDepth 65536 in
set_option maxHeartbeats 40000000 in
theorem rmLen (l : Launch) (Z : State) (a0 : Array Value) (hw : HW a0 Z) (G : Gs) (ST : StartF Z G) (ws : List Jvm.Cond) (ax : Addr) (tx : Addr) (kb : ClassId) (zx : Int32) (bs : List Value) (dv : Value) (h0 : Heap) (n0 : Nat) (X00 : Old Z n0 h0) (E1 : Exa Z h0 ax "java/lang/String") (F1 : Fld Z h0 ax "java/lang/String" "coder" "B" (.int (0 : Int32))) (F2 : Fld Z h0 ax "java/lang/String" "value" "[B" (.ref tx)) (V1 : Arv Z h0 tx kb .byte zx bs dv) :
    MetFree l (⟨"java/lang/String", "length", "()I"⟩ : MethodName) (head1 (Jvm.Cond.code (⟨"java/lang/String", "length", "()I"⟩ : MethodName) jdk_42_method_54_code 1 (some .int) :: ws) ({ frames := 1, cells := 0, slots := 0, locals := 13 } : Room)) (fun a U => a = #[(.ref ax)] ∧ Z.Warmed39 U.vm ∧ U.heap = h0) (fun _ _ _ _ _ => True) (fun _ U o U' => ∃ v L, o = .returned v ∧ QrmLen Z G ax tx kb zx bs dv h0 n0 v U'.heap L ∧ FrameEnd U o U' L ({ frames := 1, cells := 0, slots := 0, locals := 13 } : Room).cells ({ frames := 1, cells := 0, slots := 0, locals := 13 } : Room).slots) := by
  refine MetFree.of_bodySF (plainFor_of_name pn_1) hisR ?_
  intro p e s m args below meth c s₁ Bd hml0 hP hK
  obtain ⟨rfl, hZ, hh⟩ := hP
  have hx := Bd.exec
  have hby := Bd.bytes
  have hml : c.maxLocals = 1 := hml0
  have hown : s.vm.findClass "java/lang/String" = some m.cls := findClass_of_methodNamed Bd.named
  have hnm := (name_of_methodNamed Bd.named Bd.method).1
  have X0 : Stand p l e ({ frames := 1, cells := 0, slots := 0, locals := 13 } : Room) s m #[(.ref ax)] below meth c s₁ [] 0 0 := Stand.of_body Bd
  have e0 : s₁.heap = h0 := by rw [← hh, Bd.state]; rfl
  have N0 := Fr.nil n0
  have Z0 : n0 ≤ h0.size := by have q := X00.2.1; rw [X00.1] at q; exact q
  obtain ⟨TG, hTG, hT2⟩ : ∃ P : State → Prop, (∀ t, P t → Steps p.tables e below (s₁.setTop (entryFrame m #[(.ref ax)] 1)) t) ∧ (∀ t, Steps p.tables e below (s₁.setTop (entryFrame m #[(.ref ax)] 1)) t → P t) := ⟨_, fun t k => k, fun t k => k⟩
  have pre0 : ∀ t, Sx p e below s₁ m 0 #[xvr ax] [] t → TG t := fun t k => hT2 t (castTop (ef_rmLen m ax ) k)
  obtain ⟨T407, X407, e407, st407⟩ := getF X0 hx hZ hown (host := "") (Or.inl (w_62 hw)) Via.refl e0 F2 (g := (mkF m 1 #[xvr ax] [xwr ax])) rfl rfl (hb hby d11_1)
  obtain ⟨cl408, Ar408, q408, S408, M408, H408, G408⟩ := id V1
  obtain ⟨cq410, kq410, q410a, q410b, q410c⟩ := isOf hZ e407 E1
  obtain ⟨_, _, ⟨T409, L409, k409, n409⟩, -, X409, ⟨Lc409, hQ409, l409, y409, z409⟩, st409⟩ := X407.virtualBack hx (y := (⟨"java/lang/String", "coder", "()B"⟩ : MethodName)) (z := (⟨"java/lang/String", "coder", "()B"⟩ : MethodName)) hown (mvT hZ (w_68 hw)) (mvT hZ (w_69 hw)) (notFace_of_selects (args := #[]) (mvT hZ (w_71 hw))) (mvT hZ (w_71 hw)) (mvT hZ (w_70 hw)) (by decide) (backOf (W := 1) (rmCod l Z a0 hw G ST [] ax h0 n0 X00 F1) hZ (w_72 hw) (w_1 hw) (by decide) (by decide)) q410a q410c (g := (mkF m 6 #[xvr ax] [xwr ax, xwi zx])) rfl (by rw [hml]; rfl) (Steps.refl _) (argsL := []) (rest := [(.int zx)]) (lenOf pd_4 rfl) rfl (by show 2 * 0 + _ ≤ _; exact Nat.le_of_eq rfl) (hb hby d11_6) (fun _ _ => ⟨rfl, e407, (by decide : 0 + 0 ≤ _), (by decide : 0 + 0 ≤ _)⟩)
  dsimp only [Pt.U, Pt.locs, Pt.cells, Pt.slots] at X409 l409 y409 z409 st409 hQ409
  subst l409 y409 z409
  obtain ⟨rfl, N409q, e409⟩ := hQ409
  have N409 := Fr.app N0 N409q
  obtain ⟨fs, hr, hrun, hended, hW, hsame⟩ := X409.leave (v := some (.int zx)) (fun h => by rw [Bd.returns] at h; cases h)
  refine ⟨_, _, hTG _ (pre0 _ ?_), hrun, hended, _, _, rfl, ?_, ⟨_, rfl⟩, hW, hsame.mono (by decide) (by decide)⟩
  · refine y_aloadN X0 hx 1 (hb hby d11_0) rfl rfl rfl ?_
    refine st407 _ ?_
    show Sx p e below T407 m 4 #[xvr ax] [xwr tx] _
    refine X407.arraylength hx (by rw [e407]; exact Ar408.1) (State.isArrayOf_alike hZ.alike Ar408.2.1) (g := (mkF m 4 #[xvr ax] [xwr tx])) rfl rfl (hb hby d11_4) _ ?_
    rw [len_of S408 M408]
    show Sx p e below T407 m 5 #[xvr ax] [xwi zx] _
    refine y_aloadN X407 hx 6 (hb hby d11_5) rfl rfl rfl ?_
    refine st409.trans ?_
    show Sx p e below T409 m 9 #[xvr ax] [xwi (0 : Int32), xwi zx] _
    refine XS.ishr X409.here hx rfl (hb hby d11_9) rfl ?_
    show Sx p e below T409 m 10 #[xvr ax] [xwi (zx >>> ((0 : Int32) &&& 31))] _
    rw [own_shr0 zx]
    show Sx p e below T409 m 10 #[xvr ax] [xwi zx] _
    exact retOut X409 hx Bd.returns rfl (Or.inl ⟨rfl, Or.inl rfl, _, rfl⟩) (hb hby d11_10) hr
  · show QrmLen Z G ax tx kb zx bs dv h0 n0 _ T409.heap _
    rw [e409]
    exact ⟨rfl, N409, rfl⟩
theorem ef_rmMk (m : MethodId) (x0 : Int32) (x1 : Int32) (x2 : Int32) (x3 : Int32) (x4 : Int32)  : entryFrame m #[(.int x0), (.int x1), (.int x2), (.int x3), (.int x4)] 9 = mkF m 0 #[.val (.int x0), .val (.int x1), .val (.int x2), .val (.int x3), .val (.int x4), .unset, .unset, .unset, .unset] [] := by first | (simp [entryFrame, mkF, argsToLocals, Value.category]; done) | rfl
theorem d5_0 : decode method_3_code 0 = .ok (.iload_n 1, 1) := by decide +kernel
theorem d5_1 : decode method_3_code 1 = .ok (.sipush 255, 3) := by decide +kernel
theorem d5_4 : decode method_3_code 4 = .ok (.iand, 1) := by decide +kernel
theorem d5_5 : decode method_3_code 5 = .ok (.i2c, 1) := by decide +kernel
theorem d5_6 : decode method_3_code 6 = .ok (.istore 5, 2) := by decide +kernel
theorem d5_8 : decode method_3_code 8 = .ok (.iload_n 2, 1) := by decide +kernel
theorem d5_9 : decode method_3_code 9 = .ok (.sipush 255, 3) := by decide +kernel
theorem d5_12 : decode method_3_code 12 = .ok (.iand, 1) := by decide +kernel
theorem d5_13 : decode method_3_code 13 = .ok (.i2c, 1) := by decide +kernel
theorem d5_14 : decode method_3_code 14 = .ok (.istore 6, 2) := by decide +kernel
theorem d5_16 : decode method_3_code 16 = .ok (.iload_n 3, 1) := by decide +kernel
theorem d5_17 : decode method_3_code 17 = .ok (.sipush 255, 3) := by decide +kernel
theorem d5_20 : decode method_3_code 20 = .ok (.iand, 1) := by decide +kernel
theorem d5_21 : decode method_3_code 21 = .ok (.i2c, 1) := by decide +kernel
theorem d5_22 : decode method_3_code 22 = .ok (.istore 7, 2) := by decide +kernel
theorem d5_24 : decode method_3_code 24 = .ok (.iload 4, 2) := by decide +kernel
theorem d5_26 : decode method_3_code 26 = .ok (.sipush 255, 3) := by decide +kernel
theorem d5_29 : decode method_3_code 29 = .ok (.iand, 1) := by decide +kernel
theorem d5_30 : decode method_3_code 30 = .ok (.i2c, 1) := by decide +kernel
theorem d5_31 : decode method_3_code 31 = .ok (.istore 8, 2) := by decide +kernel
theorem d5_33 : decode method_3_code 33 = .ok (.iload_n 0, 1) := by decide +kernel
theorem d5_34 : decode method_3_code 34 = .ok (.ifCond .ne 14, 3) := by decide +kernel
theorem d5_37 : decode method_3_code 37 = .ok (.new 14, 3) := by decide +kernel
theorem d5_40 : decode method_3_code 40 = .ok (.dup, 1) := by decide +kernel
theorem d5_41 : decode method_3_code 41 = .ok (.iconst 0, 1) := by decide +kernel
theorem d5_42 : decode method_3_code 42 = .ok (.newarray .char, 2) := by decide +kernel
theorem d5_44 : decode method_3_code 44 = .ok (.invokespecial 32, 3) := by decide +kernel
theorem pd_5 : parseMethodDescriptor "([C)V" = some ⟨[(.array .char)], none⟩ := by decide +kernel
theorem d5_47 : decode method_3_code 47 = .ok (.areturn, 1) := by decide +kernel
theorem d5_48 : decode method_3_code 48 = .ok (.iload_n 0, 1) := by decide +kernel
theorem d5_49 : decode method_3_code 49 = .ok (.iconst 1, 1) := by decide +kernel
theorem d5_50 : decode method_3_code 50 = .ok (.if_icmp .ne 19, 3) := by decide +kernel
theorem d5_53 : decode method_3_code 53 = .ok (.new 14, 3) := by decide +kernel
theorem d5_56 : decode method_3_code 56 = .ok (.dup, 1) := by decide +kernel
theorem d5_57 : decode method_3_code 57 = .ok (.iconst 1, 1) := by decide +kernel
theorem d5_58 : decode method_3_code 58 = .ok (.newarray .char, 2) := by decide +kernel
theorem d5_60 : decode method_3_code 60 = .ok (.dup, 1) := by decide +kernel
theorem d5_61 : decode method_3_code 61 = .ok (.iconst 0, 1) := by decide +kernel
theorem d5_62 : decode method_3_code 62 = .ok (.iload 5, 2) := by decide +kernel
theorem d5_64 : decode method_3_code 64 = .ok (.castore, 1) := by decide +kernel
theorem d5_65 : decode method_3_code 65 = .ok (.invokespecial 32, 3) := by decide +kernel
theorem d5_68 : decode method_3_code 68 = .ok (.areturn, 1) := by decide +kernel
theorem d5_69 : decode method_3_code 69 = .ok (.iload_n 0, 1) := by decide +kernel
theorem d5_70 : decode method_3_code 70 = .ok (.iconst 2, 1) := by decide +kernel
theorem d5_71 : decode method_3_code 71 = .ok (.if_icmp .ne 24, 3) := by decide +kernel
theorem d5_74 : decode method_3_code 74 = .ok (.new 14, 3) := by decide +kernel
theorem d5_77 : decode method_3_code 77 = .ok (.dup, 1) := by decide +kernel
theorem d5_78 : decode method_3_code 78 = .ok (.iconst 2, 1) := by decide +kernel
theorem d5_79 : decode method_3_code 79 = .ok (.newarray .char, 2) := by decide +kernel
theorem d5_81 : decode method_3_code 81 = .ok (.dup, 1) := by decide +kernel
theorem d5_82 : decode method_3_code 82 = .ok (.iconst 0, 1) := by decide +kernel
theorem d5_83 : decode method_3_code 83 = .ok (.iload 5, 2) := by decide +kernel
theorem d5_85 : decode method_3_code 85 = .ok (.castore, 1) := by decide +kernel
theorem d5_86 : decode method_3_code 86 = .ok (.dup, 1) := by decide +kernel
theorem d5_87 : decode method_3_code 87 = .ok (.iconst 1, 1) := by decide +kernel
theorem d5_88 : decode method_3_code 88 = .ok (.iload 6, 2) := by decide +kernel
theorem d5_90 : decode method_3_code 90 = .ok (.castore, 1) := by decide +kernel
theorem d5_91 : decode method_3_code 91 = .ok (.invokespecial 32, 3) := by decide +kernel
theorem d5_94 : decode method_3_code 94 = .ok (.areturn, 1) := by decide +kernel
theorem d5_95 : decode method_3_code 95 = .ok (.iload_n 0, 1) := by decide +kernel
theorem d5_96 : decode method_3_code 96 = .ok (.iconst 3, 1) := by decide +kernel
theorem d5_97 : decode method_3_code 97 = .ok (.if_icmp .ne 29, 3) := by decide +kernel
theorem d5_100 : decode method_3_code 100 = .ok (.new 14, 3) := by decide +kernel
theorem d5_103 : decode method_3_code 103 = .ok (.dup, 1) := by decide +kernel
theorem d5_104 : decode method_3_code 104 = .ok (.iconst 3, 1) := by decide +kernel
theorem d5_105 : decode method_3_code 105 = .ok (.newarray .char, 2) := by decide +kernel
theorem d5_107 : decode method_3_code 107 = .ok (.dup, 1) := by decide +kernel
theorem d5_108 : decode method_3_code 108 = .ok (.iconst 0, 1) := by decide +kernel
theorem d5_109 : decode method_3_code 109 = .ok (.iload 5, 2) := by decide +kernel
theorem d5_111 : decode method_3_code 111 = .ok (.castore, 1) := by decide +kernel
theorem d5_112 : decode method_3_code 112 = .ok (.dup, 1) := by decide +kernel
theorem d5_113 : decode method_3_code 113 = .ok (.iconst 1, 1) := by decide +kernel
theorem d5_114 : decode method_3_code 114 = .ok (.iload 6, 2) := by decide +kernel
theorem d5_116 : decode method_3_code 116 = .ok (.castore, 1) := by decide +kernel
theorem d5_117 : decode method_3_code 117 = .ok (.dup, 1) := by decide +kernel
theorem d5_118 : decode method_3_code 118 = .ok (.iconst 2, 1) := by decide +kernel
theorem d5_119 : decode method_3_code 119 = .ok (.iload 7, 2) := by decide +kernel
theorem d5_121 : decode method_3_code 121 = .ok (.castore, 1) := by decide +kernel
theorem d5_122 : decode method_3_code 122 = .ok (.invokespecial 32, 3) := by decide +kernel
theorem d5_125 : decode method_3_code 125 = .ok (.areturn, 1) := by decide +kernel
theorem d5_126 : decode method_3_code 126 = .ok (.new 14, 3) := by decide +kernel
theorem d5_129 : decode method_3_code 129 = .ok (.dup, 1) := by decide +kernel
theorem d5_130 : decode method_3_code 130 = .ok (.iconst 4, 1) := by decide +kernel
theorem d5_131 : decode method_3_code 131 = .ok (.newarray .char, 2) := by decide +kernel
theorem d5_133 : decode method_3_code 133 = .ok (.dup, 1) := by decide +kernel
theorem d5_134 : decode method_3_code 134 = .ok (.iconst 0, 1) := by decide +kernel
theorem d5_135 : decode method_3_code 135 = .ok (.iload 5, 2) := by decide +kernel
theorem d5_137 : decode method_3_code 137 = .ok (.castore, 1) := by decide +kernel
theorem d5_138 : decode method_3_code 138 = .ok (.dup, 1) := by decide +kernel
theorem d5_139 : decode method_3_code 139 = .ok (.iconst 1, 1) := by decide +kernel
theorem d5_140 : decode method_3_code 140 = .ok (.iload 6, 2) := by decide +kernel
theorem d5_142 : decode method_3_code 142 = .ok (.castore, 1) := by decide +kernel
theorem d5_143 : decode method_3_code 143 = .ok (.dup, 1) := by decide +kernel
theorem d5_144 : decode method_3_code 144 = .ok (.iconst 2, 1) := by decide +kernel
theorem d5_145 : decode method_3_code 145 = .ok (.iload 7, 2) := by decide +kernel
theorem d5_147 : decode method_3_code 147 = .ok (.castore, 1) := by decide +kernel
theorem d5_148 : decode method_3_code 148 = .ok (.dup, 1) := by decide +kernel
theorem d5_149 : decode method_3_code 149 = .ok (.iconst 3, 1) := by decide +kernel
theorem d5_150 : decode method_3_code 150 = .ok (.iload 8, 2) := by decide +kernel
theorem d5_152 : decode method_3_code 152 = .ok (.castore, 1) := by decide +kernel
theorem d5_153 : decode method_3_code 153 = .ok (.invokespecial 32, 3) := by decide +kernel
theorem d5_156 : decode method_3_code 156 = .ok (.areturn, 1) := by decide +kernel
theorem pn_3 : plainName "com/example/nabao/nabao/DocumentTextStartPinLaw" = true := by first | (simp [plainName, overriddenIn]; done) | decide +kernel
def QrmMk (Z : State) (G : Gs) (nx : Int32) (p1 : Int32) (p2 : Int32) (p3 : Int32) (p4 : Int32) (h0 : Heap) (n0 : Nat) (v : Option Value) (h : Heap) (L : List Loc) : Prop := ∃ (sx : Addr), ∃ (tx : Addr), ∃ (kx : ClassId), ∃ (bs : List Value), v = some (.ref sx) ∧ Fr n0 L ∧ Keep h0 h [] ∧ Exa Z h sx "java/lang/String" ∧ Fld Z h sx "java/lang/String" "coder" "B" (.int (0 : Int32)) ∧ Fld Z h sx "java/lang/String" "value" "[B" (.ref tx) ∧ Arv Z h tx kx .byte nx bs (.int (0 : Int32))
set_option maxRecDepth 65536 in
set_option maxHeartbeats 40000000 in
theorem rmMk (l : Launch) (Z : State) (a0 : Array Value) (hw : HW a0 Z) (G : Gs) (ST : StartF Z G) (ws : List Jvm.Cond) (nx : Int32) (p1 : Int32) (p2 : Int32) (p3 : Int32) (p4 : Int32) (h0 : Heap) (n0 : Nat) (X00 : Old Z n0 h0) (hn : (nx = 0 ∨ nx = 1 ∨ nx = 2 ∨ nx = 3 ∨ nx = 4)) :
    MetFree l (⟨"com/example/nabao/nabao/DocumentTextStartPinLaw", "make", "(IIIII)Ljava/lang/String;"⟩ : MethodName) (head1 (Jvm.Cond.code (⟨"com/example/nabao/nabao/DocumentTextStartPinLaw", "make", "(IIIII)Ljava/lang/String;"⟩ : MethodName) method_3_code 9 (some (.object "java/lang/String")) :: ws) ({ frames := 4, cells := 4, slots := 12, locals := 66 } : Room)) (fun a U => a = #[(.int nx), (.int p1), (.int p2), (.int p3), (.int p4)] ∧ Z.Warmed39 U.vm ∧ U.heap = h0 ∧ CHv Z EL U.vm h0) (fun _ _ _ _ _ => True) (fun _ U o U' => ∃ v L, o = .returned v ∧ QrmMk Z G nx p1 p2 p3 p4 h0 n0 v U'.heap L ∧ CHr Z EL U.vm U.heap U'.vm U'.heap ∧ ReturnedEndW U o U' L ({ frames := 4, cells := 4, slots := 12, locals := 66 } : Room).cells ({ frames := 4, cells := 4, slots := 12, locals := 66 } : Room).slots) := by
  refine MetFree.of_bodySF (plainFor_of_name pn_3) hisR ?_
  intro p e s m args below meth c s₁ Bd hml0 hP hK
  obtain ⟨rfl, hZ, hh, HC0⟩ := hP
  have hx := Bd.exec
  have hby := Bd.bytes
  have hml : c.maxLocals = 9 := hml0
  have hown : s.vm.findClass "com/example/nabao/nabao/DocumentTextStartPinLaw" = some m.cls := findClass_of_methodNamed Bd.named
  have hnm := (name_of_methodNamed Bd.named Bd.method).1
  have X0 : Stand p l e ({ frames := 4, cells := 4, slots := 12, locals := 66 } : Room) (s.setVm s.vm) m #[(.int nx), (.int p1), (.int p2), (.int p3), (.int p4)] below meth c s₁ [] 0 0 := Stand.of_body Bd
  have e0 : s₁.heap = h0 := by rw [← hh, Bd.state]; rfl
  have N0 := Fr.nil n0
  have Z0 : n0 ≤ h0.size := by have q := X00.2.1; rw [X00.1] at q; exact q
  have C0 := CHr.refl HC0
  have hS0 : s.Since s.vm h0.size := (State.WarmedH.refl s).since h0.size
  obtain ⟨TG, hTG, hT2⟩ : ∃ P : State → Prop, (∀ t, P t → Steps p.tables e below (s₁.setTop (entryFrame m #[(.int nx), (.int p1), (.int p2), (.int p3), (.int p4)] 9)) t) ∧ (∀ t, Steps p.tables e below (s₁.setTop (entryFrame m #[(.int nx), (.int p1), (.int p2), (.int p3), (.int p4)] 9)) t → P t) := ⟨_, fun t k => k, fun t k => k⟩
  have pre0 : ∀ t, Sx p e below s₁ m 0 #[xvi nx, xvi p1, xvi p2, xvi p3, xvi p4, xun, xun, xun, xun] [] t → TG t := fun t k => hT2 t (castTop (ef_rmMk m nx p1 p2 p3 p4 ) k)
  rcases hn with hk411 | hk411 | hk411 | hk411 | hk411
  · obtain ⟨T412, h412, X412, e412, E412, A412, D412, -, st412⟩ := newO X0 hx hZ hown (w_41 hw) (w_2 hw) (w_1 hw) e0 (g := (mkF m 37 #[xvi (0 : Int32), xvi p1, xvi p2, xvi p3, xvi p4, xvi (p1 &&& (255 : Int32)), xvi (p2 &&& (255 : Int32)), xvi (p3 &&& (255 : Int32)), xvi (p4 &&& (255 : Int32))] [])) rfl (hb hby d5_37) (by decide) (by decide)
    obtain ⟨b412, g412⟩ : ∃ z, z = h0.size := ⟨_, rfl⟩
    rw [← g412] at A412 D412 st412
    have ch414 := CHr.ext E412 C0.1
    have C413 := C0.trans ch414
    have Fb412_value : Fld Z h412 b412 "java/lang/String" "value" "[B" .null := D412 (Or.inr (w_4 hw)) (ty := (.array .byte)) (by decide)
    have Fb412_coder : Fld Z h412 b412 "java/lang/String" "coder" "B" (.int (0 : Int32)) := D412 (Or.inr (w_5 hw)) (ty := .byte) (by decide)
    obtain ⟨T415, h415, k415, X415, e415, E415, A415, st415⟩ := newP (aty := .char) X412 hx hZ (w_42 hw) e412 (g := (mkF m 42 #[xvi (0 : Int32), xvi p1, xvi p2, xvi p3, xvi p4, xvi (p1 &&& (255 : Int32)), xvi (p2 &&& (255 : Int32)), xvi (p3 &&& (255 : Int32)), xvi (p4 &&& (255 : Int32))] [xwi (0 : Int32), xwr b412, xwr b412])) rfl (hb hby d5_42) rfl (by decide) (cap := 0) (by decide) (by decide) (by decide) (by decide)
    obtain ⟨b415, g415⟩ : ∃ z, z = h412.size := ⟨_, rfl⟩
    rw [← g415] at A415 st415
    have ch417 := CHr.ext E415 C413.1
    have C416 := C413.trans ch417
    have V415 : Arv Z h415 b415 k415 .char (0 : Int32) [] (.int (0 : Int32)) := Arv.new A415 (by decide)
    have f418 := (A412.ext E415)
    have f419 := (Fb412_value.ext E415)
    have f420 := (Fb412_coder.ext E415)
    have Ol421 : Old Z n0 h415 := ((X00.ext E412).ext E415)
    obtain ⟨_, _, ⟨T422, L422, k422, n422⟩, -, X422, hS422, g422, ⟨Lc422, hQ422, l422, y422, z422, CH422⟩, st422⟩ := X415.specialBackS hx (y := (⟨"java/lang/String", "<init>", "([C)V"⟩ : MethodName)) rfl hown (mvT hZ (w_43 hw)) (mvT hZ (w_44 hw)) (mvT hZ (w_45 hw)) (by decide) (backOfSH (W := 1) (rmE1 l Z a0 hw G ST [] b412 b415 k415 ([] : List Value) (.int (0 : Int32)) h415 n0 Ol421 f418 f419 f420 (Nat.le_trans Z0 (Nat.le_trans (Nat.le_refl _) (Nat.le_of_eq g412.symm))) V415) hZ (w_45 hw) (w_1 hw) (by decide) (by decide) (own_EW hw) C416.1) (g := (mkF m 44 #[xvi (0 : Int32), xvi p1, xvi p2, xvi p3, xvi p4, xvi (p1 &&& (255 : Int32)), xvi (p2 &&& (255 : Int32)), xvi (p3 &&& (255 : Int32)), xvi (p4 &&& (255 : Int32))] [xwr b415, xwr b412, xwr b412])) rfl (by rw [hml]; rfl) (Steps.refl _) (a := b412) (argsL := [(.ref b415)]) (rest := [(.ref b412)]) (lenOf pd_5 rfl) rfl (by show 2 * 0 + _ ≤ _; exact Nat.le_of_eq rfl) (hb hby d5_44) (fun _ _ => ⟨rfl, e415, (by decide : 2 + 2 ≤ _), (by decide : 4 + 4 ≤ _)⟩)
    dsimp only [Pt.U, Pt.locs, Pt.cells, Pt.slots] at X422 l422 y422 z422 st422 hQ422 CH422 hS422 g422
    subst l422 y422 z422
    obtain ⟨hp422, e422⟩ : ∃ z, T422.heap = z := ⟨_, rfl⟩
    rw [e422] at hQ422 CH422 hS422 g422
    rw [e415] at g422
    obtain ⟨X422, hS422, hZ422, hown422⟩ := rebS hS0 (Nat.le_trans E412.1 E415.1) X422 hS422 g422 hZ hown
    obtain ⟨o423, o424, rfl, N422q, K422, p425, p426, p427, p428⟩ := hQ422
    have N422 := Fr.app N0 N422q
    have C429 := C416.trans CH422
    have V430 : Arv Z hp422 o423 o424 .byte nx [] (.int (0 : Int32)) := by rw [hk411]; exact p428
    obtain ⟨fs, hr, hrun, hended, hE⟩ := X422.leaveW hS422 (by rw [e422]; exact (Nat.le_refl _)) (v := some (.ref b412)) (fun h => by rw [Bd.returns] at h; cases h)
    refine ⟨_, _, hTG _ (pre0 _ ?_), hrun, hended, _, _, rfl, ?_, ?_, hE.1, hE.2.1, hE.2.2.1, hE.2.2.2.mono (by decide) (by decide)⟩
    · refine y_iloadN X0 hx 1 (hb hby d5_0) rfl rfl ?_
      refine y_sipush X0 hx (255 : Int32) 4 (hb hby d5_1) rfl rfl ?_
      refine y_iand X0 hx 5 (hb hby d5_4) rfl ?_
      refine XS.i2c X0.here hx rfl (hb hby d5_5) rfl ?_
      show Sx p e below s₁ m 6 #[xvi nx, xvi p1, xvi p2, xvi p3, xvi p4, xun, xun, xun, xun] [xwi ((p1 &&& (255 : Int32)).toUInt32.toUInt16.toUInt32.toInt32)] _
      rw [own_i2c p1]
      refine XS.istore X0.here hx rfl (hb hby d5_6) rfl (l' := #[xvi nx, xvi p1, xvi p2, xvi p3, xvi p4, xvi (p1 &&& (255 : Int32)), xun, xun, xun]) rfl ?_
      show Sx p e below s₁ m 8 #[xvi nx, xvi p1, xvi p2, xvi p3, xvi p4, xvi (p1 &&& (255 : Int32)), xun, xun, xun] [] _
      refine y_iloadN X0 hx 9 (hb hby d5_8) rfl rfl ?_
      refine y_sipush X0 hx (255 : Int32) 12 (hb hby d5_9) rfl rfl ?_
      refine y_iand X0 hx 13 (hb hby d5_12) rfl ?_
      refine XS.i2c X0.here hx rfl (hb hby d5_13) rfl ?_
      show Sx p e below s₁ m 14 #[xvi nx, xvi p1, xvi p2, xvi p3, xvi p4, xvi (p1 &&& (255 : Int32)), xun, xun, xun] [xwi ((p2 &&& (255 : Int32)).toUInt32.toUInt16.toUInt32.toInt32)] _
      rw [own_i2c p2]
      refine XS.istore X0.here hx rfl (hb hby d5_14) rfl (l' := #[xvi nx, xvi p1, xvi p2, xvi p3, xvi p4, xvi (p1 &&& (255 : Int32)), xvi (p2 &&& (255 : Int32)), xun, xun]) rfl ?_
      show Sx p e below s₁ m 16 #[xvi nx, xvi p1, xvi p2, xvi p3, xvi p4, xvi (p1 &&& (255 : Int32)), xvi (p2 &&& (255 : Int32)), xun, xun] [] _
      refine y_iloadN X0 hx 17 (hb hby d5_16) rfl rfl ?_
      refine y_sipush X0 hx (255 : Int32) 20 (hb hby d5_17) rfl rfl ?_
      refine y_iand X0 hx 21 (hb hby d5_20) rfl ?_
      refine XS.i2c X0.here hx rfl (hb hby d5_21) rfl ?_
      show Sx p e below s₁ m 22 #[xvi nx, xvi p1, xvi p2, xvi p3, xvi p4, xvi (p1 &&& (255 : Int32)), xvi (p2 &&& (255 : Int32)), xun, xun] [xwi ((p3 &&& (255 : Int32)).toUInt32.toUInt16.toUInt32.toInt32)] _
      rw [own_i2c p3]
      refine XS.istore X0.here hx rfl (hb hby d5_22) rfl (l' := #[xvi nx, xvi p1, xvi p2, xvi p3, xvi p4, xvi (p1 &&& (255 : Int32)), xvi (p2 &&& (255 : Int32)), xvi (p3 &&& (255 : Int32)), xun]) rfl ?_
      show Sx p e below s₁ m 24 #[xvi nx, xvi p1, xvi p2, xvi p3, xvi p4, xvi (p1 &&& (255 : Int32)), xvi (p2 &&& (255 : Int32)), xvi (p3 &&& (255 : Int32)), xun] [] _
      refine y_iload X0 hx 26 (hb hby d5_24) rfl rfl ?_
      refine y_sipush X0 hx (255 : Int32) 29 (hb hby d5_26) rfl rfl ?_
      refine y_iand X0 hx 30 (hb hby d5_29) rfl ?_
      refine XS.i2c X0.here hx rfl (hb hby d5_30) rfl ?_
      show Sx p e below s₁ m 31 #[xvi nx, xvi p1, xvi p2, xvi p3, xvi p4, xvi (p1 &&& (255 : Int32)), xvi (p2 &&& (255 : Int32)), xvi (p3 &&& (255 : Int32)), xun] [xwi ((p4 &&& (255 : Int32)).toUInt32.toUInt16.toUInt32.toInt32)] _
      rw [own_i2c p4]
      refine XS.istore X0.here hx rfl (hb hby d5_31) rfl (l' := #[xvi nx, xvi p1, xvi p2, xvi p3, xvi p4, xvi (p1 &&& (255 : Int32)), xvi (p2 &&& (255 : Int32)), xvi (p3 &&& (255 : Int32)), xvi (p4 &&& (255 : Int32))]) rfl ?_
      show Sx p e below s₁ m 33 #[xvi nx, xvi p1, xvi p2, xvi p3, xvi p4, xvi (p1 &&& (255 : Int32)), xvi (p2 &&& (255 : Int32)), xvi (p3 &&& (255 : Int32)), xvi (p4 &&& (255 : Int32))] [] _
      refine y_iloadN X0 hx 34 (hb hby d5_33) rfl rfl ?_
      rw [hk411]
      refine y_ifNo X0 hx 37 (hb hby d5_34) (XT.i0_ne_f (by decide)) rfl ?_
      refine st412 _ ?_
      show Sx p e below T412 m 40 #[xvi (0 : Int32), xvi p1, xvi p2, xvi p3, xvi p4, xvi (p1 &&& (255 : Int32)), xvi (p2 &&& (255 : Int32)), xvi (p3 &&& (255 : Int32)), xvi (p4 &&& (255 : Int32))] [xwr b412] _
      refine y_dup X412 hx 41 (hb hby d5_40) rfl rfl ?_
      refine y_iconst X412 hx (0 : Int32) 42 (hb hby d5_41) rfl rfl ?_
      refine st415 _ ?_
      show Sx p e below T415 m 44 #[xvi (0 : Int32), xvi p1, xvi p2, xvi p3, xvi p4, xvi (p1 &&& (255 : Int32)), xvi (p2 &&& (255 : Int32)), xvi (p3 &&& (255 : Int32)), xvi (p4 &&& (255 : Int32))] [xwr b415, xwr b412, xwr b412] _
      refine st422.trans ?_
      show Sx p e below T422 m 47 #[xvi (0 : Int32), xvi p1, xvi p2, xvi p3, xvi p4, xvi (p1 &&& (255 : Int32)), xvi (p2 &&& (255 : Int32)), xvi (p3 &&& (255 : Int32)), xvi (p4 &&& (255 : Int32))] [xwr b412] _
      exact retOut X422 hx Bd.returns rfl (Or.inr (Or.inr (Or.inr (Or.inr ⟨rfl, rfl, rfl⟩)))) (hb hby d5_47) hr
    · show QrmMk Z G nx p1 p2 p3 p4 h0 n0 _ T422.heap _
      rw [e422]
      exact ⟨b412, o423, o424, ([] : List Value), rfl, N422, ((((Keep.refl h0 []).ext E412).ext E415).trans K422 (allS (Or.inr (Nat.le_trans (Nat.le_refl _) (Nat.le_of_eq g412.symm))) all0)), p425, p426, p427, V430⟩
    · rw [hh]; show CHr Z EL s.vm h0 T422.vm T422.heap; rw [e422]; exact C429.trans (CHv.at X422 hZ422 (own_EW hw) C429.1)
  · obtain ⟨T431, h431, X431, e431, E431, A431, D431, -, st431⟩ := newO X0 hx hZ hown (w_41 hw) (w_2 hw) (w_1 hw) e0 (g := (mkF m 53 #[xvi (1 : Int32), xvi p1, xvi p2, xvi p3, xvi p4, xvi (p1 &&& (255 : Int32)), xvi (p2 &&& (255 : Int32)), xvi (p3 &&& (255 : Int32)), xvi (p4 &&& (255 : Int32))] [])) rfl (hb hby d5_53) (by decide) (by decide)
    obtain ⟨b431, g431⟩ : ∃ z, z = h0.size := ⟨_, rfl⟩
    rw [← g431] at A431 D431 st431
    have ch433 := CHr.ext E431 C0.1
    have C432 := C0.trans ch433
    have Fb431_value : Fld Z h431 b431 "java/lang/String" "value" "[B" .null := D431 (Or.inr (w_4 hw)) (ty := (.array .byte)) (by decide)
    have Fb431_coder : Fld Z h431 b431 "java/lang/String" "coder" "B" (.int (0 : Int32)) := D431 (Or.inr (w_5 hw)) (ty := .byte) (by decide)
    obtain ⟨T434, h434, k434, X434, e434, E434, A434, st434⟩ := newP (aty := .char) X431 hx hZ (w_42 hw) e431 (g := (mkF m 58 #[xvi (1 : Int32), xvi p1, xvi p2, xvi p3, xvi p4, xvi (p1 &&& (255 : Int32)), xvi (p2 &&& (255 : Int32)), xvi (p3 &&& (255 : Int32)), xvi (p4 &&& (255 : Int32))] [xwi (1 : Int32), xwr b431, xwr b431])) rfl (hb hby d5_58) rfl (by decide) (cap := 1) (by decide) (by decide) (by decide) (by decide)
    obtain ⟨b434, g434⟩ : ∃ z, z = h431.size := ⟨_, rfl⟩
    rw [← g434] at A434 st434
    have ch436 := CHr.ext E434 C432.1
    have C435 := C432.trans ch436
    have V434 : Arv Z h434 b434 k434 .char (1 : Int32) [(.int (0 : Int32))] (.int (0 : Int32)) := (Arv.new A434 (by decide)).pad (pad_rep [] (.int (0 : Int32)) 1)
    obtain ⟨cl437, Ar437, q437, S437, M437, H437, G437⟩ := id V434
    have in437 : ¬ ((0 : Int32) < 0 ∨ cl437.slots.size ≤ ((0 : Int32)).toNatClampNeg) := inb_of S437 ⟨by decide, by decide⟩
    obtain ⟨T438, h438, X438, e438, W438, st438⟩ := stC X434 hx hZ e434 Ar437 (j := (0 : Int32)) in437 (g := (mkF m 64 #[xvi (1 : Int32), xvi p1, xvi p2, xvi p3, xvi p4, xvi (p1 &&& (255 : Int32)), xvi (p2 &&& (255 : Int32)), xvi (p3 &&& (255 : Int32)), xvi (p4 &&& (255 : Int32))] [xwi (p1 &&& (255 : Int32)), xwi (0 : Int32), xwr b434, xwr b434, xwr b431, xwr b431])) rfl rfl (hb hby d5_64)
    have ch440 := CHr.wr W438 (Safe.arv hZ.alike V434 (by decide)) C435.1
    have C439 := C435.trans ch440
    have V438 : Arv Z h438 b434 k434 .char (1 : Int32) [(.int (p1 &&& (255 : Int32)))] (.int (0 : Int32)) := by have q := Arv.set Ar437 q437 S437 M437 H437 G437 (fits_nar_char _) W438 0 rfl (Nat.le_of_ble_eq_true rfl); rw [own_narc (own_c255 p1)] at q; exact q
    have N438 := Fr.snoc X438 N0 (Nat.le_trans Z0 (Nat.le_trans E431.1 (Nat.le_of_eq g434.symm)))
    have hp441 : ∀ c ∈ ([(p1 &&& (255 : Int32))] : List Int32), ¬ c < 0 ∧ ¬ (255 : Int32) < c := by
      intro c hc
      simp only [List.mem_cons, List.not_mem_nil, or_false] at hc
      subst hc
      exact (own_c255 p1)
    have f442 := ((A431.ext E434).wr W438)
    have f443 := ((Fb431_value.ext E434).other W438 (Or.inl (Nat.ne_of_lt (Nat.lt_of_lt_of_le (Nat.lt_of_lt_of_le A431.lt (Nat.le_refl _)) (Nat.le_of_eq g434.symm)))))
    have f444 := ((Fb431_coder.ext E434).other W438 (Or.inl (Nat.ne_of_lt (Nat.lt_of_lt_of_le (Nat.lt_of_lt_of_le A431.lt (Nat.le_refl _)) (Nat.le_of_eq g434.symm)))))
    have Ol445 : Old Z n0 h438 := (((X00.ext E431).ext E434).wr W438 (Nat.le_trans Z0 (Nat.le_trans E431.1 (Nat.le_of_eq g434.symm))))
    obtain ⟨_, _, ⟨T446, L446, k446, n446⟩, -, X446, ⟨Lc446, hQ446, l446, y446, z446⟩, st446⟩ := X438.specialBack hx (y := (⟨"java/lang/String", "<init>", "([C)V"⟩ : MethodName)) rfl hown (mvT hZ (w_43 hw)) (mvT hZ (w_44 hw)) (mvT hZ (w_45 hw)) (by decide) (StrChars.Road.backV (W := 1) hZ (own_wV hw) (kI := 4) (w_2 hw) (cs := ([(p1 &&& (255 : Int32))] : List Int32)) (bs := (([(p1 &&& (255 : Int32))] : List Int32).map (fun c => c.toInt8.toInt32))) (n := 1) (Nat.le_trans Z0 (Nat.le_trans (Nat.le_refl _) (Nat.le_of_eq g431.symm))) (Nat.le_trans Z0 (Nat.le_trans (Nat.le_trans E431.1 E434.1) (Nat.le_of_eq W438.size.symm))) f442 f443 f444 V438 (ST.1.ext Ol445.2) ST.2 rfl rfl (by decide) (by decide) hp441 rfl (by decide) (by decide)) (g := (mkF m 65 #[xvi (1 : Int32), xvi p1, xvi p2, xvi p3, xvi p4, xvi (p1 &&& (255 : Int32)), xvi (p2 &&& (255 : Int32)), xvi (p3 &&& (255 : Int32)), xvi (p4 &&& (255 : Int32))] [xwr b434, xwr b431, xwr b431])) rfl (by rw [hml]; rfl) (Steps.refl _) (a := b431) (argsL := [(.ref b434)]) (rest := [(.ref b431)]) (lenOf pd_5 rfl) rfl (by show 2 * 0 + _ ≤ _; exact Nat.le_of_eq rfl) (hb hby d5_65) (fun _ _ => ⟨rfl, e438, (by decide : 2 + 1 ≤ _), (by decide : 5 + 1 ≤ _)⟩)
    dsimp only [Pt.U, Pt.locs, Pt.cells, Pt.slots] at X446 l446 y446 z446 st446 hQ446
    subst l446 y446 z446
    obtain ⟨hp446, e446⟩ : ∃ z, T446.heap = z := ⟨_, rfl⟩
    rw [e446] at hQ446
    obtain ⟨rfl, N446q, K446, E446, Fc446, t446, kb446, -, gt446, -, Fv446, V446⟩ := hQ446
    have N446 := Fr.app N438 N446q
    have sf449 := (CHr.safe ch440 (Nat.lt_of_lt_of_le A431.lt E434.1) (CHr.safe ch436 (Nat.lt_of_lt_of_le A431.lt (Nat.le_refl _)) (Safe.ext E431 C0.1 (Safe.new (Nat.le_of_eq g431.symm)))))
    have ch448 := CHr.keep K446 (sfS sf449 sf0) C439.1
    have C447 := C439.trans ch448
    have V450 : Arv Z hp446 t446 kb446 .byte nx ((([(p1 &&& (255 : Int32))] : List Int32).map (fun c => c.toInt8.toInt32)).map Value.int) (.int (0 : Int32)) := by rw [hk411]; exact V446
    obtain ⟨fs, hr, hrun, hended, hE⟩ := X446.leaveW hS0 (by rw [e446]; exact (Nat.le_trans (Nat.le_trans (Nat.le_trans E431.1 E434.1) (Nat.le_of_eq W438.size.symm)) K446.1)) (v := some (.ref b431)) (fun h => by rw [Bd.returns] at h; cases h)
    refine ⟨_, _, hTG _ (pre0 _ ?_), hrun, hended, _, _, rfl, ?_, ?_, hE.1, hE.2.1, hE.2.2.1, hE.2.2.2.mono (by decide) (by decide)⟩
    · refine y_iloadN X0 hx 1 (hb hby d5_0) rfl rfl ?_
      refine y_sipush X0 hx (255 : Int32) 4 (hb hby d5_1) rfl rfl ?_
      refine y_iand X0 hx 5 (hb hby d5_4) rfl ?_
      refine XS.i2c X0.here hx rfl (hb hby d5_5) rfl ?_
      show Sx p e below s₁ m 6 #[xvi nx, xvi p1, xvi p2, xvi p3, xvi p4, xun, xun, xun, xun] [xwi ((p1 &&& (255 : Int32)).toUInt32.toUInt16.toUInt32.toInt32)] _
      rw [own_i2c p1]
      refine XS.istore X0.here hx rfl (hb hby d5_6) rfl (l' := #[xvi nx, xvi p1, xvi p2, xvi p3, xvi p4, xvi (p1 &&& (255 : Int32)), xun, xun, xun]) rfl ?_
      show Sx p e below s₁ m 8 #[xvi nx, xvi p1, xvi p2, xvi p3, xvi p4, xvi (p1 &&& (255 : Int32)), xun, xun, xun] [] _
      refine y_iloadN X0 hx 9 (hb hby d5_8) rfl rfl ?_
      refine y_sipush X0 hx (255 : Int32) 12 (hb hby d5_9) rfl rfl ?_
      refine y_iand X0 hx 13 (hb hby d5_12) rfl ?_
      refine XS.i2c X0.here hx rfl (hb hby d5_13) rfl ?_
      show Sx p e below s₁ m 14 #[xvi nx, xvi p1, xvi p2, xvi p3, xvi p4, xvi (p1 &&& (255 : Int32)), xun, xun, xun] [xwi ((p2 &&& (255 : Int32)).toUInt32.toUInt16.toUInt32.toInt32)] _
      rw [own_i2c p2]
      refine XS.istore X0.here hx rfl (hb hby d5_14) rfl (l' := #[xvi nx, xvi p1, xvi p2, xvi p3, xvi p4, xvi (p1 &&& (255 : Int32)), xvi (p2 &&& (255 : Int32)), xun, xun]) rfl ?_
      show Sx p e below s₁ m 16 #[xvi nx, xvi p1, xvi p2, xvi p3, xvi p4, xvi (p1 &&& (255 : Int32)), xvi (p2 &&& (255 : Int32)), xun, xun] [] _
      refine y_iloadN X0 hx 17 (hb hby d5_16) rfl rfl ?_
      refine y_sipush X0 hx (255 : Int32) 20 (hb hby d5_17) rfl rfl ?_
      refine y_iand X0 hx 21 (hb hby d5_20) rfl ?_
      refine XS.i2c X0.here hx rfl (hb hby d5_21) rfl ?_
      show Sx p e below s₁ m 22 #[xvi nx, xvi p1, xvi p2, xvi p3, xvi p4, xvi (p1 &&& (255 : Int32)), xvi (p2 &&& (255 : Int32)), xun, xun] [xwi ((p3 &&& (255 : Int32)).toUInt32.toUInt16.toUInt32.toInt32)] _
      rw [own_i2c p3]
      refine XS.istore X0.here hx rfl (hb hby d5_22) rfl (l' := #[xvi nx, xvi p1, xvi p2, xvi p3, xvi p4, xvi (p1 &&& (255 : Int32)), xvi (p2 &&& (255 : Int32)), xvi (p3 &&& (255 : Int32)), xun]) rfl ?_
      show Sx p e below s₁ m 24 #[xvi nx, xvi p1, xvi p2, xvi p3, xvi p4, xvi (p1 &&& (255 : Int32)), xvi (p2 &&& (255 : Int32)), xvi (p3 &&& (255 : Int32)), xun] [] _
      refine y_iload X0 hx 26 (hb hby d5_24) rfl rfl ?_
      refine y_sipush X0 hx (255 : Int32) 29 (hb hby d5_26) rfl rfl ?_
      refine y_iand X0 hx 30 (hb hby d5_29) rfl ?_
      refine XS.i2c X0.here hx rfl (hb hby d5_30) rfl ?_
      show Sx p e below s₁ m 31 #[xvi nx, xvi p1, xvi p2, xvi p3, xvi p4, xvi (p1 &&& (255 : Int32)), xvi (p2 &&& (255 : Int32)), xvi (p3 &&& (255 : Int32)), xun] [xwi ((p4 &&& (255 : Int32)).toUInt32.toUInt16.toUInt32.toInt32)] _
      rw [own_i2c p4]
      refine XS.istore X0.here hx rfl (hb hby d5_31) rfl (l' := #[xvi nx, xvi p1, xvi p2, xvi p3, xvi p4, xvi (p1 &&& (255 : Int32)), xvi (p2 &&& (255 : Int32)), xvi (p3 &&& (255 : Int32)), xvi (p4 &&& (255 : Int32))]) rfl ?_
      show Sx p e below s₁ m 33 #[xvi nx, xvi p1, xvi p2, xvi p3, xvi p4, xvi (p1 &&& (255 : Int32)), xvi (p2 &&& (255 : Int32)), xvi (p3 &&& (255 : Int32)), xvi (p4 &&& (255 : Int32))] [] _
      refine y_iloadN X0 hx 34 (hb hby d5_33) rfl rfl ?_
      rw [hk411]
      refine y_ifYes X0 hx 48 (hb hby d5_34) (XT.i0_ne_t (by decide)) (by decide) (by decide) ?_
      refine y_iloadN X0 hx 49 (hb hby d5_48) rfl rfl ?_
      refine y_iconst X0 hx (1 : Int32) 50 (hb hby d5_49) rfl rfl ?_
      refine y_icmpNo X0 hx 53 (hb hby d5_50) (XT.ii_ne_f (by decide)) rfl ?_
      refine st431 _ ?_
      show Sx p e below T431 m 56 #[xvi (1 : Int32), xvi p1, xvi p2, xvi p3, xvi p4, xvi (p1 &&& (255 : Int32)), xvi (p2 &&& (255 : Int32)), xvi (p3 &&& (255 : Int32)), xvi (p4 &&& (255 : Int32))] [xwr b431] _
      refine y_dup X431 hx 57 (hb hby d5_56) rfl rfl ?_
      refine y_iconst X431 hx (1 : Int32) 58 (hb hby d5_57) rfl rfl ?_
      refine st434 _ ?_
      show Sx p e below T434 m 60 #[xvi (1 : Int32), xvi p1, xvi p2, xvi p3, xvi p4, xvi (p1 &&& (255 : Int32)), xvi (p2 &&& (255 : Int32)), xvi (p3 &&& (255 : Int32)), xvi (p4 &&& (255 : Int32))] [xwr b434, xwr b431, xwr b431] _
      refine y_dup X434 hx 61 (hb hby d5_60) rfl rfl ?_
      refine y_iconst X434 hx (0 : Int32) 62 (hb hby d5_61) rfl rfl ?_
      refine y_iload X434 hx 64 (hb hby d5_62) rfl rfl ?_
      refine st438 _ ?_
      show Sx p e below T438 m 65 #[xvi (1 : Int32), xvi p1, xvi p2, xvi p3, xvi p4, xvi (p1 &&& (255 : Int32)), xvi (p2 &&& (255 : Int32)), xvi (p3 &&& (255 : Int32)), xvi (p4 &&& (255 : Int32))] [xwr b434, xwr b431, xwr b431] _
      refine st446.trans ?_
      show Sx p e below T446 m 68 #[xvi (1 : Int32), xvi p1, xvi p2, xvi p3, xvi p4, xvi (p1 &&& (255 : Int32)), xvi (p2 &&& (255 : Int32)), xvi (p3 &&& (255 : Int32)), xvi (p4 &&& (255 : Int32))] [xwr b431] _
      exact retOut X446 hx Bd.returns rfl (Or.inr (Or.inr (Or.inr (Or.inr ⟨rfl, rfl, rfl⟩)))) (hb hby d5_68) hr
    · show QrmMk Z G nx p1 p2 p3 p4 h0 n0 _ T446.heap _
      rw [e446]
      exact ⟨b431, t446, kb446, (((([(p1 &&& (255 : Int32))] : List Int32).map (fun c => c.toInt8.toInt32)).map Value.int) : List Value), rfl, N446, (((((Keep.refl h0 []).ext E431).ext E434).wr W438 (Or.inr (Nat.le_trans E431.1 (Nat.le_of_eq g434.symm)))).trans K446 (allS (Or.inr (Nat.le_trans (Nat.le_refl _) (Nat.le_of_eq g431.symm))) all0)), E446, Fc446, Fv446, V450⟩
    · rw [hh]; show CHr Z EL s.vm h0 T446.vm T446.heap; rw [e446]; exact C447.trans (CHv.at X446 hZ (own_EW hw) C447.1)
  · obtain ⟨T451, h451, X451, e451, E451, A451, D451, -, st451⟩ := newO X0 hx hZ hown (w_41 hw) (w_2 hw) (w_1 hw) e0 (g := (mkF m 74 #[xvi (2 : Int32), xvi p1, xvi p2, xvi p3, xvi p4, xvi (p1 &&& (255 : Int32)), xvi (p2 &&& (255 : Int32)), xvi (p3 &&& (255 : Int32)), xvi (p4 &&& (255 : Int32))] [])) rfl (hb hby d5_74) (by decide) (by decide)
    obtain ⟨b451, g451⟩ : ∃ z, z = h0.size := ⟨_, rfl⟩
    rw [← g451] at A451 D451 st451
    have ch453 := CHr.ext E451 C0.1
    have C452 := C0.trans ch453
    have Fb451_value : Fld Z h451 b451 "java/lang/String" "value" "[B" .null := D451 (Or.inr (w_4 hw)) (ty := (.array .byte)) (by decide)
    have Fb451_coder : Fld Z h451 b451 "java/lang/String" "coder" "B" (.int (0 : Int32)) := D451 (Or.inr (w_5 hw)) (ty := .byte) (by decide)
    obtain ⟨T454, h454, k454, X454, e454, E454, A454, st454⟩ := newP (aty := .char) X451 hx hZ (w_42 hw) e451 (g := (mkF m 79 #[xvi (2 : Int32), xvi p1, xvi p2, xvi p3, xvi p4, xvi (p1 &&& (255 : Int32)), xvi (p2 &&& (255 : Int32)), xvi (p3 &&& (255 : Int32)), xvi (p4 &&& (255 : Int32))] [xwi (2 : Int32), xwr b451, xwr b451])) rfl (hb hby d5_79) rfl (by decide) (cap := 2) (by decide) (by decide) (by decide) (by decide)
    obtain ⟨b454, g454⟩ : ∃ z, z = h451.size := ⟨_, rfl⟩
    rw [← g454] at A454 st454
    have ch456 := CHr.ext E454 C452.1
    have C455 := C452.trans ch456
    have V454 : Arv Z h454 b454 k454 .char (2 : Int32) [(.int (0 : Int32)), (.int (0 : Int32))] (.int (0 : Int32)) := (Arv.new A454 (by decide)).pad (pad_rep [] (.int (0 : Int32)) 2)
    obtain ⟨cl457, Ar457, q457, S457, M457, H457, G457⟩ := id V454
    have in457 : ¬ ((0 : Int32) < 0 ∨ cl457.slots.size ≤ ((0 : Int32)).toNatClampNeg) := inb_of S457 ⟨by decide, by decide⟩
    obtain ⟨T458, h458, X458, e458, W458, st458⟩ := stC X454 hx hZ e454 Ar457 (j := (0 : Int32)) in457 (g := (mkF m 85 #[xvi (2 : Int32), xvi p1, xvi p2, xvi p3, xvi p4, xvi (p1 &&& (255 : Int32)), xvi (p2 &&& (255 : Int32)), xvi (p3 &&& (255 : Int32)), xvi (p4 &&& (255 : Int32))] [xwi (p1 &&& (255 : Int32)), xwi (0 : Int32), xwr b454, xwr b454, xwr b451, xwr b451])) rfl rfl (hb hby d5_85)
    have ch460 := CHr.wr W458 (Safe.arv hZ.alike V454 (by decide)) C455.1
    have C459 := C455.trans ch460
    have V458 : Arv Z h458 b454 k454 .char (2 : Int32) [(.int (p1 &&& (255 : Int32))), (.int (0 : Int32))] (.int (0 : Int32)) := by have q := Arv.set Ar457 q457 S457 M457 H457 G457 (fits_nar_char _) W458 0 rfl (Nat.le_of_ble_eq_true rfl); rw [own_narc (own_c255 p1)] at q; exact q
    have N458 := Fr.snoc X458 N0 (Nat.le_trans Z0 (Nat.le_trans E451.1 (Nat.le_of_eq g454.symm)))
    obtain ⟨cl461, Ar461, q461, S461, M461, H461, G461⟩ := id V458
    have in461 : ¬ ((1 : Int32) < 0 ∨ cl461.slots.size ≤ ((1 : Int32)).toNatClampNeg) := inb_of S461 ⟨by decide, by decide⟩
    obtain ⟨T462, h462, X462, e462, W462, st462⟩ := stC X458 hx hZ e458 Ar461 (j := (1 : Int32)) in461 (g := (mkF m 90 #[xvi (2 : Int32), xvi p1, xvi p2, xvi p3, xvi p4, xvi (p1 &&& (255 : Int32)), xvi (p2 &&& (255 : Int32)), xvi (p3 &&& (255 : Int32)), xvi (p4 &&& (255 : Int32))] [xwi (p2 &&& (255 : Int32)), xwi (1 : Int32), xwr b454, xwr b454, xwr b451, xwr b451])) rfl rfl (hb hby d5_90)
    have ch464 := CHr.wr W462 (Safe.arv hZ.alike V458 (by decide)) C459.1
    have C463 := C459.trans ch464
    have V462 : Arv Z h462 b454 k454 .char (2 : Int32) [(.int (p1 &&& (255 : Int32))), (.int (p2 &&& (255 : Int32)))] (.int (0 : Int32)) := by have q := Arv.set Ar461 q461 S461 M461 H461 G461 (fits_nar_char _) W462 1 rfl (Nat.le_of_ble_eq_true rfl); rw [own_narc (own_c255 p2)] at q; exact q
    have N462 := Fr.snoc X462 N458 (Nat.le_trans Z0 (Nat.le_trans E451.1 (Nat.le_of_eq g454.symm)))
    have hp465 : ∀ c ∈ ([(p1 &&& (255 : Int32)), (p2 &&& (255 : Int32))] : List Int32), ¬ c < 0 ∧ ¬ (255 : Int32) < c := by
      intro c hc
      simp only [List.mem_cons, List.not_mem_nil, or_false] at hc
      rcases hc with rfl | rfl
      · exact (own_c255 p1)
      · exact (own_c255 p2)
    have f466 := (((A451.ext E454).wr W458).wr W462)
    have f467 := (((Fb451_value.ext E454).other W458 (Or.inl (Nat.ne_of_lt (Nat.lt_of_lt_of_le (Nat.lt_of_lt_of_le A451.lt (Nat.le_refl _)) (Nat.le_of_eq g454.symm))))).other W462 (Or.inl (Nat.ne_of_lt (Nat.lt_of_lt_of_le (Nat.lt_of_lt_of_le A451.lt (Nat.le_refl _)) (Nat.le_of_eq g454.symm)))))
    have f468 := (((Fb451_coder.ext E454).other W458 (Or.inl (Nat.ne_of_lt (Nat.lt_of_lt_of_le (Nat.lt_of_lt_of_le A451.lt (Nat.le_refl _)) (Nat.le_of_eq g454.symm))))).other W462 (Or.inl (Nat.ne_of_lt (Nat.lt_of_lt_of_le (Nat.lt_of_lt_of_le A451.lt (Nat.le_refl _)) (Nat.le_of_eq g454.symm)))))
    have Ol469 : Old Z n0 h462 := ((((X00.ext E451).ext E454).wr W458 (Nat.le_trans Z0 (Nat.le_trans E451.1 (Nat.le_of_eq g454.symm)))).wr W462 (Nat.le_trans Z0 (Nat.le_trans E451.1 (Nat.le_of_eq g454.symm))))
    obtain ⟨_, _, ⟨T470, L470, k470, n470⟩, -, X470, ⟨Lc470, hQ470, l470, y470, z470⟩, st470⟩ := X462.specialBack hx (y := (⟨"java/lang/String", "<init>", "([C)V"⟩ : MethodName)) rfl hown (mvT hZ (w_43 hw)) (mvT hZ (w_44 hw)) (mvT hZ (w_45 hw)) (by decide) (StrChars.Road.backV (W := 1) hZ (own_wV hw) (kI := 4) (w_2 hw) (cs := ([(p1 &&& (255 : Int32)), (p2 &&& (255 : Int32))] : List Int32)) (bs := (([(p1 &&& (255 : Int32)), (p2 &&& (255 : Int32))] : List Int32).map (fun c => c.toInt8.toInt32))) (n := 2) (Nat.le_trans Z0 (Nat.le_trans (Nat.le_refl _) (Nat.le_of_eq g451.symm))) (Nat.le_trans Z0 (Nat.le_trans (Nat.le_trans (Nat.le_trans E451.1 E454.1) (Nat.le_of_eq W458.size.symm)) (Nat.le_of_eq W462.size.symm))) f466 f467 f468 V462 (ST.1.ext Ol469.2) ST.2 rfl rfl (by decide) (by decide) hp465 rfl (by decide) (by decide)) (g := (mkF m 91 #[xvi (2 : Int32), xvi p1, xvi p2, xvi p3, xvi p4, xvi (p1 &&& (255 : Int32)), xvi (p2 &&& (255 : Int32)), xvi (p3 &&& (255 : Int32)), xvi (p4 &&& (255 : Int32))] [xwr b454, xwr b451, xwr b451])) rfl (by rw [hml]; rfl) (Steps.refl _) (a := b451) (argsL := [(.ref b454)]) (rest := [(.ref b451)]) (lenOf pd_5 rfl) rfl (by show 2 * 0 + _ ≤ _; exact Nat.le_of_eq rfl) (hb hby d5_91) (fun _ _ => ⟨rfl, e462, (by decide : 2 + 1 ≤ _), (by decide : 6 + 2 ≤ _)⟩)
    dsimp only [Pt.U, Pt.locs, Pt.cells, Pt.slots] at X470 l470 y470 z470 st470 hQ470
    subst l470 y470 z470
    obtain ⟨hp470, e470⟩ : ∃ z, T470.heap = z := ⟨_, rfl⟩
    rw [e470] at hQ470
    obtain ⟨rfl, N470q, K470, E470, Fc470, t470, kb470, -, gt470, -, Fv470, V470⟩ := hQ470
    have N470 := Fr.app N462 N470q
    have sf473 := (CHr.safe ch464 (Nat.lt_of_lt_of_le A451.lt (Nat.le_trans E454.1 (Nat.le_of_eq W458.size.symm))) (CHr.safe ch460 (Nat.lt_of_lt_of_le A451.lt E454.1) (CHr.safe ch456 (Nat.lt_of_lt_of_le A451.lt (Nat.le_refl _)) (Safe.ext E451 C0.1 (Safe.new (Nat.le_of_eq g451.symm))))))
    have ch472 := CHr.keep K470 (sfS sf473 sf0) C463.1
    have C471 := C463.trans ch472
    have V474 : Arv Z hp470 t470 kb470 .byte nx ((([(p1 &&& (255 : Int32)), (p2 &&& (255 : Int32))] : List Int32).map (fun c => c.toInt8.toInt32)).map Value.int) (.int (0 : Int32)) := by rw [hk411]; exact V470
    obtain ⟨fs, hr, hrun, hended, hE⟩ := X470.leaveW hS0 (by rw [e470]; exact (Nat.le_trans (Nat.le_trans (Nat.le_trans (Nat.le_trans E451.1 E454.1) (Nat.le_of_eq W458.size.symm)) (Nat.le_of_eq W462.size.symm)) K470.1)) (v := some (.ref b451)) (fun h => by rw [Bd.returns] at h; cases h)
    refine ⟨_, _, hTG _ (pre0 _ ?_), hrun, hended, _, _, rfl, ?_, ?_, hE.1, hE.2.1, hE.2.2.1, hE.2.2.2.mono (by decide) (by decide)⟩
    · refine y_iloadN X0 hx 1 (hb hby d5_0) rfl rfl ?_
      refine y_sipush X0 hx (255 : Int32) 4 (hb hby d5_1) rfl rfl ?_
      refine y_iand X0 hx 5 (hb hby d5_4) rfl ?_
      refine XS.i2c X0.here hx rfl (hb hby d5_5) rfl ?_
      show Sx p e below s₁ m 6 #[xvi nx, xvi p1, xvi p2, xvi p3, xvi p4, xun, xun, xun, xun] [xwi ((p1 &&& (255 : Int32)).toUInt32.toUInt16.toUInt32.toInt32)] _
      rw [own_i2c p1]
      refine XS.istore X0.here hx rfl (hb hby d5_6) rfl (l' := #[xvi nx, xvi p1, xvi p2, xvi p3, xvi p4, xvi (p1 &&& (255 : Int32)), xun, xun, xun]) rfl ?_
      show Sx p e below s₁ m 8 #[xvi nx, xvi p1, xvi p2, xvi p3, xvi p4, xvi (p1 &&& (255 : Int32)), xun, xun, xun] [] _
      refine y_iloadN X0 hx 9 (hb hby d5_8) rfl rfl ?_
      refine y_sipush X0 hx (255 : Int32) 12 (hb hby d5_9) rfl rfl ?_
      refine y_iand X0 hx 13 (hb hby d5_12) rfl ?_
      refine XS.i2c X0.here hx rfl (hb hby d5_13) rfl ?_
      show Sx p e below s₁ m 14 #[xvi nx, xvi p1, xvi p2, xvi p3, xvi p4, xvi (p1 &&& (255 : Int32)), xun, xun, xun] [xwi ((p2 &&& (255 : Int32)).toUInt32.toUInt16.toUInt32.toInt32)] _
      rw [own_i2c p2]
      refine XS.istore X0.here hx rfl (hb hby d5_14) rfl (l' := #[xvi nx, xvi p1, xvi p2, xvi p3, xvi p4, xvi (p1 &&& (255 : Int32)), xvi (p2 &&& (255 : Int32)), xun, xun]) rfl ?_
      show Sx p e below s₁ m 16 #[xvi nx, xvi p1, xvi p2, xvi p3, xvi p4, xvi (p1 &&& (255 : Int32)), xvi (p2 &&& (255 : Int32)), xun, xun] [] _
      refine y_iloadN X0 hx 17 (hb hby d5_16) rfl rfl ?_
      refine y_sipush X0 hx (255 : Int32) 20 (hb hby d5_17) rfl rfl ?_
      refine y_iand X0 hx 21 (hb hby d5_20) rfl ?_
      refine XS.i2c X0.here hx rfl (hb hby d5_21) rfl ?_
      show Sx p e below s₁ m 22 #[xvi nx, xvi p1, xvi p2, xvi p3, xvi p4, xvi (p1 &&& (255 : Int32)), xvi (p2 &&& (255 : Int32)), xun, xun] [xwi ((p3 &&& (255 : Int32)).toUInt32.toUInt16.toUInt32.toInt32)] _
      rw [own_i2c p3]
      refine XS.istore X0.here hx rfl (hb hby d5_22) rfl (l' := #[xvi nx, xvi p1, xvi p2, xvi p3, xvi p4, xvi (p1 &&& (255 : Int32)), xvi (p2 &&& (255 : Int32)), xvi (p3 &&& (255 : Int32)), xun]) rfl ?_
      show Sx p e below s₁ m 24 #[xvi nx, xvi p1, xvi p2, xvi p3, xvi p4, xvi (p1 &&& (255 : Int32)), xvi (p2 &&& (255 : Int32)), xvi (p3 &&& (255 : Int32)), xun] [] _
      refine y_iload X0 hx 26 (hb hby d5_24) rfl rfl ?_
      refine y_sipush X0 hx (255 : Int32) 29 (hb hby d5_26) rfl rfl ?_
      refine y_iand X0 hx 30 (hb hby d5_29) rfl ?_
      refine XS.i2c X0.here hx rfl (hb hby d5_30) rfl ?_
      show Sx p e below s₁ m 31 #[xvi nx, xvi p1, xvi p2, xvi p3, xvi p4, xvi (p1 &&& (255 : Int32)), xvi (p2 &&& (255 : Int32)), xvi (p3 &&& (255 : Int32)), xun] [xwi ((p4 &&& (255 : Int32)).toUInt32.toUInt16.toUInt32.toInt32)] _
      rw [own_i2c p4]
      refine XS.istore X0.here hx rfl (hb hby d5_31) rfl (l' := #[xvi nx, xvi p1, xvi p2, xvi p3, xvi p4, xvi (p1 &&& (255 : Int32)), xvi (p2 &&& (255 : Int32)), xvi (p3 &&& (255 : Int32)), xvi (p4 &&& (255 : Int32))]) rfl ?_
      show Sx p e below s₁ m 33 #[xvi nx, xvi p1, xvi p2, xvi p3, xvi p4, xvi (p1 &&& (255 : Int32)), xvi (p2 &&& (255 : Int32)), xvi (p3 &&& (255 : Int32)), xvi (p4 &&& (255 : Int32))] [] _
      refine y_iloadN X0 hx 34 (hb hby d5_33) rfl rfl ?_
      rw [hk411]
      refine y_ifYes X0 hx 48 (hb hby d5_34) (XT.i0_ne_t (by decide)) (by decide) (by decide) ?_
      refine y_iloadN X0 hx 49 (hb hby d5_48) rfl rfl ?_
      refine y_iconst X0 hx (1 : Int32) 50 (hb hby d5_49) rfl rfl ?_
      refine y_icmpYes X0 hx 69 (hb hby d5_50) (XT.ii_ne_t (by decide)) (by decide) (by decide) ?_
      refine y_iloadN X0 hx 70 (hb hby d5_69) rfl rfl ?_
      refine y_iconst X0 hx (2 : Int32) 71 (hb hby d5_70) rfl rfl ?_
      refine y_icmpNo X0 hx 74 (hb hby d5_71) (XT.ii_ne_f (by decide)) rfl ?_
      refine st451 _ ?_
      show Sx p e below T451 m 77 #[xvi (2 : Int32), xvi p1, xvi p2, xvi p3, xvi p4, xvi (p1 &&& (255 : Int32)), xvi (p2 &&& (255 : Int32)), xvi (p3 &&& (255 : Int32)), xvi (p4 &&& (255 : Int32))] [xwr b451] _
      refine y_dup X451 hx 78 (hb hby d5_77) rfl rfl ?_
      refine y_iconst X451 hx (2 : Int32) 79 (hb hby d5_78) rfl rfl ?_
      refine st454 _ ?_
      show Sx p e below T454 m 81 #[xvi (2 : Int32), xvi p1, xvi p2, xvi p3, xvi p4, xvi (p1 &&& (255 : Int32)), xvi (p2 &&& (255 : Int32)), xvi (p3 &&& (255 : Int32)), xvi (p4 &&& (255 : Int32))] [xwr b454, xwr b451, xwr b451] _
      refine y_dup X454 hx 82 (hb hby d5_81) rfl rfl ?_
      refine y_iconst X454 hx (0 : Int32) 83 (hb hby d5_82) rfl rfl ?_
      refine y_iload X454 hx 85 (hb hby d5_83) rfl rfl ?_
      refine st458 _ ?_
      show Sx p e below T458 m 86 #[xvi (2 : Int32), xvi p1, xvi p2, xvi p3, xvi p4, xvi (p1 &&& (255 : Int32)), xvi (p2 &&& (255 : Int32)), xvi (p3 &&& (255 : Int32)), xvi (p4 &&& (255 : Int32))] [xwr b454, xwr b451, xwr b451] _
      refine y_dup X458 hx 87 (hb hby d5_86) rfl rfl ?_
      refine y_iconst X458 hx (1 : Int32) 88 (hb hby d5_87) rfl rfl ?_
      refine y_iload X458 hx 90 (hb hby d5_88) rfl rfl ?_
      refine st462 _ ?_
      show Sx p e below T462 m 91 #[xvi (2 : Int32), xvi p1, xvi p2, xvi p3, xvi p4, xvi (p1 &&& (255 : Int32)), xvi (p2 &&& (255 : Int32)), xvi (p3 &&& (255 : Int32)), xvi (p4 &&& (255 : Int32))] [xwr b454, xwr b451, xwr b451] _
      refine st470.trans ?_
      show Sx p e below T470 m 94 #[xvi (2 : Int32), xvi p1, xvi p2, xvi p3, xvi p4, xvi (p1 &&& (255 : Int32)), xvi (p2 &&& (255 : Int32)), xvi (p3 &&& (255 : Int32)), xvi (p4 &&& (255 : Int32))] [xwr b451] _
      exact retOut X470 hx Bd.returns rfl (Or.inr (Or.inr (Or.inr (Or.inr ⟨rfl, rfl, rfl⟩)))) (hb hby d5_94) hr
    · show QrmMk Z G nx p1 p2 p3 p4 h0 n0 _ T470.heap _
      rw [e470]
      exact ⟨b451, t470, kb470, (((([(p1 &&& (255 : Int32)), (p2 &&& (255 : Int32))] : List Int32).map (fun c => c.toInt8.toInt32)).map Value.int) : List Value), rfl, N470, ((((((Keep.refl h0 []).ext E451).ext E454).wr W458 (Or.inr (Nat.le_trans E451.1 (Nat.le_of_eq g454.symm)))).wr W462 (Or.inr (Nat.le_trans E451.1 (Nat.le_of_eq g454.symm)))).trans K470 (allS (Or.inr (Nat.le_trans (Nat.le_refl _) (Nat.le_of_eq g451.symm))) all0)), E470, Fc470, Fv470, V474⟩
    · rw [hh]; show CHr Z EL s.vm h0 T470.vm T470.heap; rw [e470]; exact C471.trans (CHv.at X470 hZ (own_EW hw) C471.1)
  · obtain ⟨T475, h475, X475, e475, E475, A475, D475, -, st475⟩ := newO X0 hx hZ hown (w_41 hw) (w_2 hw) (w_1 hw) e0 (g := (mkF m 100 #[xvi (3 : Int32), xvi p1, xvi p2, xvi p3, xvi p4, xvi (p1 &&& (255 : Int32)), xvi (p2 &&& (255 : Int32)), xvi (p3 &&& (255 : Int32)), xvi (p4 &&& (255 : Int32))] [])) rfl (hb hby d5_100) (by decide) (by decide)
    obtain ⟨b475, g475⟩ : ∃ z, z = h0.size := ⟨_, rfl⟩
    rw [← g475] at A475 D475 st475
    have ch477 := CHr.ext E475 C0.1
    have C476 := C0.trans ch477
    have Fb475_value : Fld Z h475 b475 "java/lang/String" "value" "[B" .null := D475 (Or.inr (w_4 hw)) (ty := (.array .byte)) (by decide)
    have Fb475_coder : Fld Z h475 b475 "java/lang/String" "coder" "B" (.int (0 : Int32)) := D475 (Or.inr (w_5 hw)) (ty := .byte) (by decide)
    obtain ⟨T478, h478, k478, X478, e478, E478, A478, st478⟩ := newP (aty := .char) X475 hx hZ (w_42 hw) e475 (g := (mkF m 105 #[xvi (3 : Int32), xvi p1, xvi p2, xvi p3, xvi p4, xvi (p1 &&& (255 : Int32)), xvi (p2 &&& (255 : Int32)), xvi (p3 &&& (255 : Int32)), xvi (p4 &&& (255 : Int32))] [xwi (3 : Int32), xwr b475, xwr b475])) rfl (hb hby d5_105) rfl (by decide) (cap := 3) (by decide) (by decide) (by decide) (by decide)
    obtain ⟨b478, g478⟩ : ∃ z, z = h475.size := ⟨_, rfl⟩
    rw [← g478] at A478 st478
    have ch480 := CHr.ext E478 C476.1
    have C479 := C476.trans ch480
    have V478 : Arv Z h478 b478 k478 .char (3 : Int32) [(.int (0 : Int32)), (.int (0 : Int32)), (.int (0 : Int32))] (.int (0 : Int32)) := (Arv.new A478 (by decide)).pad (pad_rep [] (.int (0 : Int32)) 3)
    obtain ⟨cl481, Ar481, q481, S481, M481, H481, G481⟩ := id V478
    have in481 : ¬ ((0 : Int32) < 0 ∨ cl481.slots.size ≤ ((0 : Int32)).toNatClampNeg) := inb_of S481 ⟨by decide, by decide⟩
    obtain ⟨T482, h482, X482, e482, W482, st482⟩ := stC X478 hx hZ e478 Ar481 (j := (0 : Int32)) in481 (g := (mkF m 111 #[xvi (3 : Int32), xvi p1, xvi p2, xvi p3, xvi p4, xvi (p1 &&& (255 : Int32)), xvi (p2 &&& (255 : Int32)), xvi (p3 &&& (255 : Int32)), xvi (p4 &&& (255 : Int32))] [xwi (p1 &&& (255 : Int32)), xwi (0 : Int32), xwr b478, xwr b478, xwr b475, xwr b475])) rfl rfl (hb hby d5_111)
    have ch484 := CHr.wr W482 (Safe.arv hZ.alike V478 (by decide)) C479.1
    have C483 := C479.trans ch484
    have V482 : Arv Z h482 b478 k478 .char (3 : Int32) [(.int (p1 &&& (255 : Int32))), (.int (0 : Int32)), (.int (0 : Int32))] (.int (0 : Int32)) := by have q := Arv.set Ar481 q481 S481 M481 H481 G481 (fits_nar_char _) W482 0 rfl (Nat.le_of_ble_eq_true rfl); rw [own_narc (own_c255 p1)] at q; exact q
    have N482 := Fr.snoc X482 N0 (Nat.le_trans Z0 (Nat.le_trans E475.1 (Nat.le_of_eq g478.symm)))
    obtain ⟨cl485, Ar485, q485, S485, M485, H485, G485⟩ := id V482
    have in485 : ¬ ((1 : Int32) < 0 ∨ cl485.slots.size ≤ ((1 : Int32)).toNatClampNeg) := inb_of S485 ⟨by decide, by decide⟩
    obtain ⟨T486, h486, X486, e486, W486, st486⟩ := stC X482 hx hZ e482 Ar485 (j := (1 : Int32)) in485 (g := (mkF m 116 #[xvi (3 : Int32), xvi p1, xvi p2, xvi p3, xvi p4, xvi (p1 &&& (255 : Int32)), xvi (p2 &&& (255 : Int32)), xvi (p3 &&& (255 : Int32)), xvi (p4 &&& (255 : Int32))] [xwi (p2 &&& (255 : Int32)), xwi (1 : Int32), xwr b478, xwr b478, xwr b475, xwr b475])) rfl rfl (hb hby d5_116)
    have ch488 := CHr.wr W486 (Safe.arv hZ.alike V482 (by decide)) C483.1
    have C487 := C483.trans ch488
    have V486 : Arv Z h486 b478 k478 .char (3 : Int32) [(.int (p1 &&& (255 : Int32))), (.int (p2 &&& (255 : Int32))), (.int (0 : Int32))] (.int (0 : Int32)) := by have q := Arv.set Ar485 q485 S485 M485 H485 G485 (fits_nar_char _) W486 1 rfl (Nat.le_of_ble_eq_true rfl); rw [own_narc (own_c255 p2)] at q; exact q
    have N486 := Fr.snoc X486 N482 (Nat.le_trans Z0 (Nat.le_trans E475.1 (Nat.le_of_eq g478.symm)))
    obtain ⟨cl489, Ar489, q489, S489, M489, H489, G489⟩ := id V486
    have in489 : ¬ ((2 : Int32) < 0 ∨ cl489.slots.size ≤ ((2 : Int32)).toNatClampNeg) := inb_of S489 ⟨by decide, by decide⟩
    obtain ⟨T490, h490, X490, e490, W490, st490⟩ := stC X486 hx hZ e486 Ar489 (j := (2 : Int32)) in489 (g := (mkF m 121 #[xvi (3 : Int32), xvi p1, xvi p2, xvi p3, xvi p4, xvi (p1 &&& (255 : Int32)), xvi (p2 &&& (255 : Int32)), xvi (p3 &&& (255 : Int32)), xvi (p4 &&& (255 : Int32))] [xwi (p3 &&& (255 : Int32)), xwi (2 : Int32), xwr b478, xwr b478, xwr b475, xwr b475])) rfl rfl (hb hby d5_121)
    have ch492 := CHr.wr W490 (Safe.arv hZ.alike V486 (by decide)) C487.1
    have C491 := C487.trans ch492
    have V490 : Arv Z h490 b478 k478 .char (3 : Int32) [(.int (p1 &&& (255 : Int32))), (.int (p2 &&& (255 : Int32))), (.int (p3 &&& (255 : Int32)))] (.int (0 : Int32)) := by have q := Arv.set Ar489 q489 S489 M489 H489 G489 (fits_nar_char _) W490 2 rfl (Nat.le_of_ble_eq_true rfl); rw [own_narc (own_c255 p3)] at q; exact q
    have N490 := Fr.snoc X490 N486 (Nat.le_trans Z0 (Nat.le_trans E475.1 (Nat.le_of_eq g478.symm)))
    have hp493 : ∀ c ∈ ([(p1 &&& (255 : Int32)), (p2 &&& (255 : Int32)), (p3 &&& (255 : Int32))] : List Int32), ¬ c < 0 ∧ ¬ (255 : Int32) < c := by
      intro c hc
      simp only [List.mem_cons, List.not_mem_nil, or_false] at hc
      rcases hc with rfl | rfl | rfl
      · exact (own_c255 p1)
      · exact (own_c255 p2)
      · exact (own_c255 p3)
    have f494 := ((((A475.ext E478).wr W482).wr W486).wr W490)
    have f495 := ((((Fb475_value.ext E478).other W482 (Or.inl (Nat.ne_of_lt (Nat.lt_of_lt_of_le (Nat.lt_of_lt_of_le A475.lt (Nat.le_refl _)) (Nat.le_of_eq g478.symm))))).other W486 (Or.inl (Nat.ne_of_lt (Nat.lt_of_lt_of_le (Nat.lt_of_lt_of_le A475.lt (Nat.le_refl _)) (Nat.le_of_eq g478.symm))))).other W490 (Or.inl (Nat.ne_of_lt (Nat.lt_of_lt_of_le (Nat.lt_of_lt_of_le A475.lt (Nat.le_refl _)) (Nat.le_of_eq g478.symm)))))
    have f496 := ((((Fb475_coder.ext E478).other W482 (Or.inl (Nat.ne_of_lt (Nat.lt_of_lt_of_le (Nat.lt_of_lt_of_le A475.lt (Nat.le_refl _)) (Nat.le_of_eq g478.symm))))).other W486 (Or.inl (Nat.ne_of_lt (Nat.lt_of_lt_of_le (Nat.lt_of_lt_of_le A475.lt (Nat.le_refl _)) (Nat.le_of_eq g478.symm))))).other W490 (Or.inl (Nat.ne_of_lt (Nat.lt_of_lt_of_le (Nat.lt_of_lt_of_le A475.lt (Nat.le_refl _)) (Nat.le_of_eq g478.symm)))))
    have Ol497 : Old Z n0 h490 := (((((X00.ext E475).ext E478).wr W482 (Nat.le_trans Z0 (Nat.le_trans E475.1 (Nat.le_of_eq g478.symm)))).wr W486 (Nat.le_trans Z0 (Nat.le_trans E475.1 (Nat.le_of_eq g478.symm)))).wr W490 (Nat.le_trans Z0 (Nat.le_trans E475.1 (Nat.le_of_eq g478.symm))))
    obtain ⟨_, _, ⟨T498, L498, k498, n498⟩, -, X498, ⟨Lc498, hQ498, l498, y498, z498⟩, st498⟩ := X490.specialBack hx (y := (⟨"java/lang/String", "<init>", "([C)V"⟩ : MethodName)) rfl hown (mvT hZ (w_43 hw)) (mvT hZ (w_44 hw)) (mvT hZ (w_45 hw)) (by decide) (StrChars.Road.backV (W := 1) hZ (own_wV hw) (kI := 4) (w_2 hw) (cs := ([(p1 &&& (255 : Int32)), (p2 &&& (255 : Int32)), (p3 &&& (255 : Int32))] : List Int32)) (bs := (([(p1 &&& (255 : Int32)), (p2 &&& (255 : Int32)), (p3 &&& (255 : Int32))] : List Int32).map (fun c => c.toInt8.toInt32))) (n := 3) (Nat.le_trans Z0 (Nat.le_trans (Nat.le_refl _) (Nat.le_of_eq g475.symm))) (Nat.le_trans Z0 (Nat.le_trans (Nat.le_trans (Nat.le_trans (Nat.le_trans E475.1 E478.1) (Nat.le_of_eq W482.size.symm)) (Nat.le_of_eq W486.size.symm)) (Nat.le_of_eq W490.size.symm))) f494 f495 f496 V490 (ST.1.ext Ol497.2) ST.2 rfl rfl (by decide) (by decide) hp493 rfl (by decide) (by decide)) (g := (mkF m 122 #[xvi (3 : Int32), xvi p1, xvi p2, xvi p3, xvi p4, xvi (p1 &&& (255 : Int32)), xvi (p2 &&& (255 : Int32)), xvi (p3 &&& (255 : Int32)), xvi (p4 &&& (255 : Int32))] [xwr b478, xwr b475, xwr b475])) rfl (by rw [hml]; rfl) (Steps.refl _) (a := b475) (argsL := [(.ref b478)]) (rest := [(.ref b475)]) (lenOf pd_5 rfl) rfl (by show 2 * 0 + _ ≤ _; exact Nat.le_of_eq rfl) (hb hby d5_122) (fun _ _ => ⟨rfl, e490, (by decide : 2 + 1 ≤ _), (by decide : 7 + 3 ≤ _)⟩)
    dsimp only [Pt.U, Pt.locs, Pt.cells, Pt.slots] at X498 l498 y498 z498 st498 hQ498
    subst l498 y498 z498
    obtain ⟨hp498, e498⟩ : ∃ z, T498.heap = z := ⟨_, rfl⟩
    rw [e498] at hQ498
    obtain ⟨rfl, N498q, K498, E498, Fc498, t498, kb498, -, gt498, -, Fv498, V498⟩ := hQ498
    have N498 := Fr.app N490 N498q
    have sf501 := (CHr.safe ch492 (Nat.lt_of_lt_of_le A475.lt (Nat.le_trans (Nat.le_trans E478.1 (Nat.le_of_eq W482.size.symm)) (Nat.le_of_eq W486.size.symm))) (CHr.safe ch488 (Nat.lt_of_lt_of_le A475.lt (Nat.le_trans E478.1 (Nat.le_of_eq W482.size.symm))) (CHr.safe ch484 (Nat.lt_of_lt_of_le A475.lt E478.1) (CHr.safe ch480 (Nat.lt_of_lt_of_le A475.lt (Nat.le_refl _)) (Safe.ext E475 C0.1 (Safe.new (Nat.le_of_eq g475.symm)))))))
    have ch500 := CHr.keep K498 (sfS sf501 sf0) C491.1
    have C499 := C491.trans ch500
    have V502 : Arv Z hp498 t498 kb498 .byte nx ((([(p1 &&& (255 : Int32)), (p2 &&& (255 : Int32)), (p3 &&& (255 : Int32))] : List Int32).map (fun c => c.toInt8.toInt32)).map Value.int) (.int (0 : Int32)) := by rw [hk411]; exact V498
    obtain ⟨fs, hr, hrun, hended, hE⟩ := X498.leaveW hS0 (by rw [e498]; exact (Nat.le_trans (Nat.le_trans (Nat.le_trans (Nat.le_trans (Nat.le_trans E475.1 E478.1) (Nat.le_of_eq W482.size.symm)) (Nat.le_of_eq W486.size.symm)) (Nat.le_of_eq W490.size.symm)) K498.1)) (v := some (.ref b475)) (fun h => by rw [Bd.returns] at h; cases h)
    refine ⟨_, _, hTG _ (pre0 _ ?_), hrun, hended, _, _, rfl, ?_, ?_, hE.1, hE.2.1, hE.2.2.1, hE.2.2.2.mono (by decide) (by decide)⟩
    · refine y_iloadN X0 hx 1 (hb hby d5_0) rfl rfl ?_
      refine y_sipush X0 hx (255 : Int32) 4 (hb hby d5_1) rfl rfl ?_
      refine y_iand X0 hx 5 (hb hby d5_4) rfl ?_
      refine XS.i2c X0.here hx rfl (hb hby d5_5) rfl ?_
      show Sx p e below s₁ m 6 #[xvi nx, xvi p1, xvi p2, xvi p3, xvi p4, xun, xun, xun, xun] [xwi ((p1 &&& (255 : Int32)).toUInt32.toUInt16.toUInt32.toInt32)] _
      rw [own_i2c p1]
      refine XS.istore X0.here hx rfl (hb hby d5_6) rfl (l' := #[xvi nx, xvi p1, xvi p2, xvi p3, xvi p4, xvi (p1 &&& (255 : Int32)), xun, xun, xun]) rfl ?_
      show Sx p e below s₁ m 8 #[xvi nx, xvi p1, xvi p2, xvi p3, xvi p4, xvi (p1 &&& (255 : Int32)), xun, xun, xun] [] _
      refine y_iloadN X0 hx 9 (hb hby d5_8) rfl rfl ?_
      refine y_sipush X0 hx (255 : Int32) 12 (hb hby d5_9) rfl rfl ?_
      refine y_iand X0 hx 13 (hb hby d5_12) rfl ?_
      refine XS.i2c X0.here hx rfl (hb hby d5_13) rfl ?_
      show Sx p e below s₁ m 14 #[xvi nx, xvi p1, xvi p2, xvi p3, xvi p4, xvi (p1 &&& (255 : Int32)), xun, xun, xun] [xwi ((p2 &&& (255 : Int32)).toUInt32.toUInt16.toUInt32.toInt32)] _
      rw [own_i2c p2]
      refine XS.istore X0.here hx rfl (hb hby d5_14) rfl (l' := #[xvi nx, xvi p1, xvi p2, xvi p3, xvi p4, xvi (p1 &&& (255 : Int32)), xvi (p2 &&& (255 : Int32)), xun, xun]) rfl ?_
      show Sx p e below s₁ m 16 #[xvi nx, xvi p1, xvi p2, xvi p3, xvi p4, xvi (p1 &&& (255 : Int32)), xvi (p2 &&& (255 : Int32)), xun, xun] [] _
      refine y_iloadN X0 hx 17 (hb hby d5_16) rfl rfl ?_
      refine y_sipush X0 hx (255 : Int32) 20 (hb hby d5_17) rfl rfl ?_
      refine y_iand X0 hx 21 (hb hby d5_20) rfl ?_
      refine XS.i2c X0.here hx rfl (hb hby d5_21) rfl ?_
      show Sx p e below s₁ m 22 #[xvi nx, xvi p1, xvi p2, xvi p3, xvi p4, xvi (p1 &&& (255 : Int32)), xvi (p2 &&& (255 : Int32)), xun, xun] [xwi ((p3 &&& (255 : Int32)).toUInt32.toUInt16.toUInt32.toInt32)] _
      rw [own_i2c p3]
      refine XS.istore X0.here hx rfl (hb hby d5_22) rfl (l' := #[xvi nx, xvi p1, xvi p2, xvi p3, xvi p4, xvi (p1 &&& (255 : Int32)), xvi (p2 &&& (255 : Int32)), xvi (p3 &&& (255 : Int32)), xun]) rfl ?_
      show Sx p e below s₁ m 24 #[xvi nx, xvi p1, xvi p2, xvi p3, xvi p4, xvi (p1 &&& (255 : Int32)), xvi (p2 &&& (255 : Int32)), xvi (p3 &&& (255 : Int32)), xun] [] _
      refine y_iload X0 hx 26 (hb hby d5_24) rfl rfl ?_
      refine y_sipush X0 hx (255 : Int32) 29 (hb hby d5_26) rfl rfl ?_
      refine y_iand X0 hx 30 (hb hby d5_29) rfl ?_
      refine XS.i2c X0.here hx rfl (hb hby d5_30) rfl ?_
      show Sx p e below s₁ m 31 #[xvi nx, xvi p1, xvi p2, xvi p3, xvi p4, xvi (p1 &&& (255 : Int32)), xvi (p2 &&& (255 : Int32)), xvi (p3 &&& (255 : Int32)), xun] [xwi ((p4 &&& (255 : Int32)).toUInt32.toUInt16.toUInt32.toInt32)] _
      rw [own_i2c p4]
      refine XS.istore X0.here hx rfl (hb hby d5_31) rfl (l' := #[xvi nx, xvi p1, xvi p2, xvi p3, xvi p4, xvi (p1 &&& (255 : Int32)), xvi (p2 &&& (255 : Int32)), xvi (p3 &&& (255 : Int32)), xvi (p4 &&& (255 : Int32))]) rfl ?_
      show Sx p e below s₁ m 33 #[xvi nx, xvi p1, xvi p2, xvi p3, xvi p4, xvi (p1 &&& (255 : Int32)), xvi (p2 &&& (255 : Int32)), xvi (p3 &&& (255 : Int32)), xvi (p4 &&& (255 : Int32))] [] _
      refine y_iloadN X0 hx 34 (hb hby d5_33) rfl rfl ?_
      rw [hk411]
      refine y_ifYes X0 hx 48 (hb hby d5_34) (XT.i0_ne_t (by decide)) (by decide) (by decide) ?_
      refine y_iloadN X0 hx 49 (hb hby d5_48) rfl rfl ?_
      refine y_iconst X0 hx (1 : Int32) 50 (hb hby d5_49) rfl rfl ?_
      refine y_icmpYes X0 hx 69 (hb hby d5_50) (XT.ii_ne_t (by decide)) (by decide) (by decide) ?_
      refine y_iloadN X0 hx 70 (hb hby d5_69) rfl rfl ?_
      refine y_iconst X0 hx (2 : Int32) 71 (hb hby d5_70) rfl rfl ?_
      refine y_icmpYes X0 hx 95 (hb hby d5_71) (XT.ii_ne_t (by decide)) (by decide) (by decide) ?_
      refine y_iloadN X0 hx 96 (hb hby d5_95) rfl rfl ?_
      refine y_iconst X0 hx (3 : Int32) 97 (hb hby d5_96) rfl rfl ?_
      refine y_icmpNo X0 hx 100 (hb hby d5_97) (XT.ii_ne_f (by decide)) rfl ?_
      refine st475 _ ?_
      show Sx p e below T475 m 103 #[xvi (3 : Int32), xvi p1, xvi p2, xvi p3, xvi p4, xvi (p1 &&& (255 : Int32)), xvi (p2 &&& (255 : Int32)), xvi (p3 &&& (255 : Int32)), xvi (p4 &&& (255 : Int32))] [xwr b475] _
      refine y_dup X475 hx 104 (hb hby d5_103) rfl rfl ?_
      refine y_iconst X475 hx (3 : Int32) 105 (hb hby d5_104) rfl rfl ?_
      refine st478 _ ?_
      show Sx p e below T478 m 107 #[xvi (3 : Int32), xvi p1, xvi p2, xvi p3, xvi p4, xvi (p1 &&& (255 : Int32)), xvi (p2 &&& (255 : Int32)), xvi (p3 &&& (255 : Int32)), xvi (p4 &&& (255 : Int32))] [xwr b478, xwr b475, xwr b475] _
      refine y_dup X478 hx 108 (hb hby d5_107) rfl rfl ?_
      refine y_iconst X478 hx (0 : Int32) 109 (hb hby d5_108) rfl rfl ?_
      refine y_iload X478 hx 111 (hb hby d5_109) rfl rfl ?_
      refine st482 _ ?_
      show Sx p e below T482 m 112 #[xvi (3 : Int32), xvi p1, xvi p2, xvi p3, xvi p4, xvi (p1 &&& (255 : Int32)), xvi (p2 &&& (255 : Int32)), xvi (p3 &&& (255 : Int32)), xvi (p4 &&& (255 : Int32))] [xwr b478, xwr b475, xwr b475] _
      refine y_dup X482 hx 113 (hb hby d5_112) rfl rfl ?_
      refine y_iconst X482 hx (1 : Int32) 114 (hb hby d5_113) rfl rfl ?_
      refine y_iload X482 hx 116 (hb hby d5_114) rfl rfl ?_
      refine st486 _ ?_
      show Sx p e below T486 m 117 #[xvi (3 : Int32), xvi p1, xvi p2, xvi p3, xvi p4, xvi (p1 &&& (255 : Int32)), xvi (p2 &&& (255 : Int32)), xvi (p3 &&& (255 : Int32)), xvi (p4 &&& (255 : Int32))] [xwr b478, xwr b475, xwr b475] _
      refine y_dup X486 hx 118 (hb hby d5_117) rfl rfl ?_
      refine y_iconst X486 hx (2 : Int32) 119 (hb hby d5_118) rfl rfl ?_
      refine y_iload X486 hx 121 (hb hby d5_119) rfl rfl ?_
      refine st490 _ ?_
      show Sx p e below T490 m 122 #[xvi (3 : Int32), xvi p1, xvi p2, xvi p3, xvi p4, xvi (p1 &&& (255 : Int32)), xvi (p2 &&& (255 : Int32)), xvi (p3 &&& (255 : Int32)), xvi (p4 &&& (255 : Int32))] [xwr b478, xwr b475, xwr b475] _
      refine st498.trans ?_
      show Sx p e below T498 m 125 #[xvi (3 : Int32), xvi p1, xvi p2, xvi p3, xvi p4, xvi (p1 &&& (255 : Int32)), xvi (p2 &&& (255 : Int32)), xvi (p3 &&& (255 : Int32)), xvi (p4 &&& (255 : Int32))] [xwr b475] _
      exact retOut X498 hx Bd.returns rfl (Or.inr (Or.inr (Or.inr (Or.inr ⟨rfl, rfl, rfl⟩)))) (hb hby d5_125) hr
    · show QrmMk Z G nx p1 p2 p3 p4 h0 n0 _ T498.heap _
      rw [e498]
      exact ⟨b475, t498, kb498, (((([(p1 &&& (255 : Int32)), (p2 &&& (255 : Int32)), (p3 &&& (255 : Int32))] : List Int32).map (fun c => c.toInt8.toInt32)).map Value.int) : List Value), rfl, N498, (((((((Keep.refl h0 []).ext E475).ext E478).wr W482 (Or.inr (Nat.le_trans E475.1 (Nat.le_of_eq g478.symm)))).wr W486 (Or.inr (Nat.le_trans E475.1 (Nat.le_of_eq g478.symm)))).wr W490 (Or.inr (Nat.le_trans E475.1 (Nat.le_of_eq g478.symm)))).trans K498 (allS (Or.inr (Nat.le_trans (Nat.le_refl _) (Nat.le_of_eq g475.symm))) all0)), E498, Fc498, Fv498, V502⟩
    · rw [hh]; show CHr Z EL s.vm h0 T498.vm T498.heap; rw [e498]; exact C499.trans (CHv.at X498 hZ (own_EW hw) C499.1)
  · obtain ⟨T503, h503, X503, e503, E503, A503, D503, -, st503⟩ := newO X0 hx hZ hown (w_41 hw) (w_2 hw) (w_1 hw) e0 (g := (mkF m 126 #[xvi (4 : Int32), xvi p1, xvi p2, xvi p3, xvi p4, xvi (p1 &&& (255 : Int32)), xvi (p2 &&& (255 : Int32)), xvi (p3 &&& (255 : Int32)), xvi (p4 &&& (255 : Int32))] [])) rfl (hb hby d5_126) (by decide) (by decide)
    obtain ⟨b503, g503⟩ : ∃ z, z = h0.size := ⟨_, rfl⟩
    rw [← g503] at A503 D503 st503
    have ch505 := CHr.ext E503 C0.1
    have C504 := C0.trans ch505
    have Fb503_value : Fld Z h503 b503 "java/lang/String" "value" "[B" .null := D503 (Or.inr (w_4 hw)) (ty := (.array .byte)) (by decide)
    have Fb503_coder : Fld Z h503 b503 "java/lang/String" "coder" "B" (.int (0 : Int32)) := D503 (Or.inr (w_5 hw)) (ty := .byte) (by decide)
    obtain ⟨T506, h506, k506, X506, e506, E506, A506, st506⟩ := newP (aty := .char) X503 hx hZ (w_42 hw) e503 (g := (mkF m 131 #[xvi (4 : Int32), xvi p1, xvi p2, xvi p3, xvi p4, xvi (p1 &&& (255 : Int32)), xvi (p2 &&& (255 : Int32)), xvi (p3 &&& (255 : Int32)), xvi (p4 &&& (255 : Int32))] [xwi (4 : Int32), xwr b503, xwr b503])) rfl (hb hby d5_131) rfl (by decide) (cap := 4) (by decide) (by decide) (by decide) (by decide)
    obtain ⟨b506, g506⟩ : ∃ z, z = h503.size := ⟨_, rfl⟩
    rw [← g506] at A506 st506
    have ch508 := CHr.ext E506 C504.1
    have C507 := C504.trans ch508
    have V506 : Arv Z h506 b506 k506 .char (4 : Int32) [(.int (0 : Int32)), (.int (0 : Int32)), (.int (0 : Int32)), (.int (0 : Int32))] (.int (0 : Int32)) := (Arv.new A506 (by decide)).pad (pad_rep [] (.int (0 : Int32)) 4)
    obtain ⟨cl509, Ar509, q509, S509, M509, H509, G509⟩ := id V506
    have in509 : ¬ ((0 : Int32) < 0 ∨ cl509.slots.size ≤ ((0 : Int32)).toNatClampNeg) := inb_of S509 ⟨by decide, by decide⟩
    obtain ⟨T510, h510, X510, e510, W510, st510⟩ := stC X506 hx hZ e506 Ar509 (j := (0 : Int32)) in509 (g := (mkF m 137 #[xvi (4 : Int32), xvi p1, xvi p2, xvi p3, xvi p4, xvi (p1 &&& (255 : Int32)), xvi (p2 &&& (255 : Int32)), xvi (p3 &&& (255 : Int32)), xvi (p4 &&& (255 : Int32))] [xwi (p1 &&& (255 : Int32)), xwi (0 : Int32), xwr b506, xwr b506, xwr b503, xwr b503])) rfl rfl (hb hby d5_137)
    have ch512 := CHr.wr W510 (Safe.arv hZ.alike V506 (by decide)) C507.1
    have C511 := C507.trans ch512
    have V510 : Arv Z h510 b506 k506 .char (4 : Int32) [(.int (p1 &&& (255 : Int32))), (.int (0 : Int32)), (.int (0 : Int32)), (.int (0 : Int32))] (.int (0 : Int32)) := by have q := Arv.set Ar509 q509 S509 M509 H509 G509 (fits_nar_char _) W510 0 rfl (Nat.le_of_ble_eq_true rfl); rw [own_narc (own_c255 p1)] at q; exact q
    have N510 := Fr.snoc X510 N0 (Nat.le_trans Z0 (Nat.le_trans E503.1 (Nat.le_of_eq g506.symm)))
    obtain ⟨cl513, Ar513, q513, S513, M513, H513, G513⟩ := id V510
    have in513 : ¬ ((1 : Int32) < 0 ∨ cl513.slots.size ≤ ((1 : Int32)).toNatClampNeg) := inb_of S513 ⟨by decide, by decide⟩
    obtain ⟨T514, h514, X514, e514, W514, st514⟩ := stC X510 hx hZ e510 Ar513 (j := (1 : Int32)) in513 (g := (mkF m 142 #[xvi (4 : Int32), xvi p1, xvi p2, xvi p3, xvi p4, xvi (p1 &&& (255 : Int32)), xvi (p2 &&& (255 : Int32)), xvi (p3 &&& (255 : Int32)), xvi (p4 &&& (255 : Int32))] [xwi (p2 &&& (255 : Int32)), xwi (1 : Int32), xwr b506, xwr b506, xwr b503, xwr b503])) rfl rfl (hb hby d5_142)
    have ch516 := CHr.wr W514 (Safe.arv hZ.alike V510 (by decide)) C511.1
    have C515 := C511.trans ch516
    have V514 : Arv Z h514 b506 k506 .char (4 : Int32) [(.int (p1 &&& (255 : Int32))), (.int (p2 &&& (255 : Int32))), (.int (0 : Int32)), (.int (0 : Int32))] (.int (0 : Int32)) := by have q := Arv.set Ar513 q513 S513 M513 H513 G513 (fits_nar_char _) W514 1 rfl (Nat.le_of_ble_eq_true rfl); rw [own_narc (own_c255 p2)] at q; exact q
    have N514 := Fr.snoc X514 N510 (Nat.le_trans Z0 (Nat.le_trans E503.1 (Nat.le_of_eq g506.symm)))
    obtain ⟨cl517, Ar517, q517, S517, M517, H517, G517⟩ := id V514
    have in517 : ¬ ((2 : Int32) < 0 ∨ cl517.slots.size ≤ ((2 : Int32)).toNatClampNeg) := inb_of S517 ⟨by decide, by decide⟩
    obtain ⟨T518, h518, X518, e518, W518, st518⟩ := stC X514 hx hZ e514 Ar517 (j := (2 : Int32)) in517 (g := (mkF m 147 #[xvi (4 : Int32), xvi p1, xvi p2, xvi p3, xvi p4, xvi (p1 &&& (255 : Int32)), xvi (p2 &&& (255 : Int32)), xvi (p3 &&& (255 : Int32)), xvi (p4 &&& (255 : Int32))] [xwi (p3 &&& (255 : Int32)), xwi (2 : Int32), xwr b506, xwr b506, xwr b503, xwr b503])) rfl rfl (hb hby d5_147)
    have ch520 := CHr.wr W518 (Safe.arv hZ.alike V514 (by decide)) C515.1
    have C519 := C515.trans ch520
    have V518 : Arv Z h518 b506 k506 .char (4 : Int32) [(.int (p1 &&& (255 : Int32))), (.int (p2 &&& (255 : Int32))), (.int (p3 &&& (255 : Int32))), (.int (0 : Int32))] (.int (0 : Int32)) := by have q := Arv.set Ar517 q517 S517 M517 H517 G517 (fits_nar_char _) W518 2 rfl (Nat.le_of_ble_eq_true rfl); rw [own_narc (own_c255 p3)] at q; exact q
    have N518 := Fr.snoc X518 N514 (Nat.le_trans Z0 (Nat.le_trans E503.1 (Nat.le_of_eq g506.symm)))
    obtain ⟨cl521, Ar521, q521, S521, M521, H521, G521⟩ := id V518
    have in521 : ¬ ((3 : Int32) < 0 ∨ cl521.slots.size ≤ ((3 : Int32)).toNatClampNeg) := inb_of S521 ⟨by decide, by decide⟩
    obtain ⟨T522, h522, X522, e522, W522, st522⟩ := stC X518 hx hZ e518 Ar521 (j := (3 : Int32)) in521 (g := (mkF m 152 #[xvi (4 : Int32), xvi p1, xvi p2, xvi p3, xvi p4, xvi (p1 &&& (255 : Int32)), xvi (p2 &&& (255 : Int32)), xvi (p3 &&& (255 : Int32)), xvi (p4 &&& (255 : Int32))] [xwi (p4 &&& (255 : Int32)), xwi (3 : Int32), xwr b506, xwr b506, xwr b503, xwr b503])) rfl rfl (hb hby d5_152)
    have ch524 := CHr.wr W522 (Safe.arv hZ.alike V518 (by decide)) C519.1
    have C523 := C519.trans ch524
    have V522 : Arv Z h522 b506 k506 .char (4 : Int32) [(.int (p1 &&& (255 : Int32))), (.int (p2 &&& (255 : Int32))), (.int (p3 &&& (255 : Int32))), (.int (p4 &&& (255 : Int32)))] (.int (0 : Int32)) := by have q := Arv.set Ar521 q521 S521 M521 H521 G521 (fits_nar_char _) W522 3 rfl (Nat.le_of_ble_eq_true rfl); rw [own_narc (own_c255 p4)] at q; exact q
    have N522 := Fr.snoc X522 N518 (Nat.le_trans Z0 (Nat.le_trans E503.1 (Nat.le_of_eq g506.symm)))
    have hp525 : ∀ c ∈ ([(p1 &&& (255 : Int32)), (p2 &&& (255 : Int32)), (p3 &&& (255 : Int32)), (p4 &&& (255 : Int32))] : List Int32), ¬ c < 0 ∧ ¬ (255 : Int32) < c := by
      intro c hc
      simp only [List.mem_cons, List.not_mem_nil, or_false] at hc
      rcases hc with rfl | rfl | rfl | rfl
      · exact (own_c255 p1)
      · exact (own_c255 p2)
      · exact (own_c255 p3)
      · exact (own_c255 p4)
    have f526 := (((((A503.ext E506).wr W510).wr W514).wr W518).wr W522)
    have f527 := (((((Fb503_value.ext E506).other W510 (Or.inl (Nat.ne_of_lt (Nat.lt_of_lt_of_le (Nat.lt_of_lt_of_le A503.lt (Nat.le_refl _)) (Nat.le_of_eq g506.symm))))).other W514 (Or.inl (Nat.ne_of_lt (Nat.lt_of_lt_of_le (Nat.lt_of_lt_of_le A503.lt (Nat.le_refl _)) (Nat.le_of_eq g506.symm))))).other W518 (Or.inl (Nat.ne_of_lt (Nat.lt_of_lt_of_le (Nat.lt_of_lt_of_le A503.lt (Nat.le_refl _)) (Nat.le_of_eq g506.symm))))).other W522 (Or.inl (Nat.ne_of_lt (Nat.lt_of_lt_of_le (Nat.lt_of_lt_of_le A503.lt (Nat.le_refl _)) (Nat.le_of_eq g506.symm)))))
    have f528 := (((((Fb503_coder.ext E506).other W510 (Or.inl (Nat.ne_of_lt (Nat.lt_of_lt_of_le (Nat.lt_of_lt_of_le A503.lt (Nat.le_refl _)) (Nat.le_of_eq g506.symm))))).other W514 (Or.inl (Nat.ne_of_lt (Nat.lt_of_lt_of_le (Nat.lt_of_lt_of_le A503.lt (Nat.le_refl _)) (Nat.le_of_eq g506.symm))))).other W518 (Or.inl (Nat.ne_of_lt (Nat.lt_of_lt_of_le (Nat.lt_of_lt_of_le A503.lt (Nat.le_refl _)) (Nat.le_of_eq g506.symm))))).other W522 (Or.inl (Nat.ne_of_lt (Nat.lt_of_lt_of_le (Nat.lt_of_lt_of_le A503.lt (Nat.le_refl _)) (Nat.le_of_eq g506.symm)))))
    have Ol529 : Old Z n0 h522 := ((((((X00.ext E503).ext E506).wr W510 (Nat.le_trans Z0 (Nat.le_trans E503.1 (Nat.le_of_eq g506.symm)))).wr W514 (Nat.le_trans Z0 (Nat.le_trans E503.1 (Nat.le_of_eq g506.symm)))).wr W518 (Nat.le_trans Z0 (Nat.le_trans E503.1 (Nat.le_of_eq g506.symm)))).wr W522 (Nat.le_trans Z0 (Nat.le_trans E503.1 (Nat.le_of_eq g506.symm))))
    obtain ⟨_, _, ⟨T530, L530, k530, n530⟩, -, X530, ⟨Lc530, hQ530, l530, y530, z530⟩, st530⟩ := X522.specialBack hx (y := (⟨"java/lang/String", "<init>", "([C)V"⟩ : MethodName)) rfl hown (mvT hZ (w_43 hw)) (mvT hZ (w_44 hw)) (mvT hZ (w_45 hw)) (by decide) (StrChars.Road.backV (W := 1) hZ (own_wV hw) (kI := 4) (w_2 hw) (cs := ([(p1 &&& (255 : Int32)), (p2 &&& (255 : Int32)), (p3 &&& (255 : Int32)), (p4 &&& (255 : Int32))] : List Int32)) (bs := (([(p1 &&& (255 : Int32)), (p2 &&& (255 : Int32)), (p3 &&& (255 : Int32)), (p4 &&& (255 : Int32))] : List Int32).map (fun c => c.toInt8.toInt32))) (n := 4) (Nat.le_trans Z0 (Nat.le_trans (Nat.le_refl _) (Nat.le_of_eq g503.symm))) (Nat.le_trans Z0 (Nat.le_trans (Nat.le_trans (Nat.le_trans (Nat.le_trans (Nat.le_trans E503.1 E506.1) (Nat.le_of_eq W510.size.symm)) (Nat.le_of_eq W514.size.symm)) (Nat.le_of_eq W518.size.symm)) (Nat.le_of_eq W522.size.symm))) f526 f527 f528 V522 (ST.1.ext Ol529.2) ST.2 rfl rfl (by decide) (by decide) hp525 rfl (by decide) (by decide)) (g := (mkF m 153 #[xvi (4 : Int32), xvi p1, xvi p2, xvi p3, xvi p4, xvi (p1 &&& (255 : Int32)), xvi (p2 &&& (255 : Int32)), xvi (p3 &&& (255 : Int32)), xvi (p4 &&& (255 : Int32))] [xwr b506, xwr b503, xwr b503])) rfl (by rw [hml]; rfl) (Steps.refl _) (a := b503) (argsL := [(.ref b506)]) (rest := [(.ref b503)]) (lenOf pd_5 rfl) rfl (by show 2 * 0 + _ ≤ _; exact Nat.le_of_eq rfl) (hb hby d5_153) (fun _ _ => ⟨rfl, e522, (by decide : 2 + 1 ≤ _), (by decide : 8 + 4 ≤ _)⟩)
    dsimp only [Pt.U, Pt.locs, Pt.cells, Pt.slots] at X530 l530 y530 z530 st530 hQ530
    subst l530 y530 z530
    obtain ⟨hp530, e530⟩ : ∃ z, T530.heap = z := ⟨_, rfl⟩
    rw [e530] at hQ530
    obtain ⟨rfl, N530q, K530, E530, Fc530, t530, kb530, -, gt530, -, Fv530, V530⟩ := hQ530
    have N530 := Fr.app N522 N530q
    have sf533 := (CHr.safe ch524 (Nat.lt_of_lt_of_le A503.lt (Nat.le_trans (Nat.le_trans (Nat.le_trans E506.1 (Nat.le_of_eq W510.size.symm)) (Nat.le_of_eq W514.size.symm)) (Nat.le_of_eq W518.size.symm))) (CHr.safe ch520 (Nat.lt_of_lt_of_le A503.lt (Nat.le_trans (Nat.le_trans E506.1 (Nat.le_of_eq W510.size.symm)) (Nat.le_of_eq W514.size.symm))) (CHr.safe ch516 (Nat.lt_of_lt_of_le A503.lt (Nat.le_trans E506.1 (Nat.le_of_eq W510.size.symm))) (CHr.safe ch512 (Nat.lt_of_lt_of_le A503.lt E506.1) (CHr.safe ch508 (Nat.lt_of_lt_of_le A503.lt (Nat.le_refl _)) (Safe.ext E503 C0.1 (Safe.new (Nat.le_of_eq g503.symm))))))))
    have ch532 := CHr.keep K530 (sfS sf533 sf0) C523.1
    have C531 := C523.trans ch532
    have V534 : Arv Z hp530 t530 kb530 .byte nx ((([(p1 &&& (255 : Int32)), (p2 &&& (255 : Int32)), (p3 &&& (255 : Int32)), (p4 &&& (255 : Int32))] : List Int32).map (fun c => c.toInt8.toInt32)).map Value.int) (.int (0 : Int32)) := by rw [hk411]; exact V530
    obtain ⟨fs, hr, hrun, hended, hE⟩ := X530.leaveW hS0 (by rw [e530]; exact (Nat.le_trans (Nat.le_trans (Nat.le_trans (Nat.le_trans (Nat.le_trans (Nat.le_trans E503.1 E506.1) (Nat.le_of_eq W510.size.symm)) (Nat.le_of_eq W514.size.symm)) (Nat.le_of_eq W518.size.symm)) (Nat.le_of_eq W522.size.symm)) K530.1)) (v := some (.ref b503)) (fun h => by rw [Bd.returns] at h; cases h)
    refine ⟨_, _, hTG _ (pre0 _ ?_), hrun, hended, _, _, rfl, ?_, ?_, hE.1, hE.2.1, hE.2.2.1, hE.2.2.2.mono (by decide) (by decide)⟩
    · refine y_iloadN X0 hx 1 (hb hby d5_0) rfl rfl ?_
      refine y_sipush X0 hx (255 : Int32) 4 (hb hby d5_1) rfl rfl ?_
      refine y_iand X0 hx 5 (hb hby d5_4) rfl ?_
      refine XS.i2c X0.here hx rfl (hb hby d5_5) rfl ?_
      show Sx p e below s₁ m 6 #[xvi nx, xvi p1, xvi p2, xvi p3, xvi p4, xun, xun, xun, xun] [xwi ((p1 &&& (255 : Int32)).toUInt32.toUInt16.toUInt32.toInt32)] _
      rw [own_i2c p1]
      refine XS.istore X0.here hx rfl (hb hby d5_6) rfl (l' := #[xvi nx, xvi p1, xvi p2, xvi p3, xvi p4, xvi (p1 &&& (255 : Int32)), xun, xun, xun]) rfl ?_
      show Sx p e below s₁ m 8 #[xvi nx, xvi p1, xvi p2, xvi p3, xvi p4, xvi (p1 &&& (255 : Int32)), xun, xun, xun] [] _
      refine y_iloadN X0 hx 9 (hb hby d5_8) rfl rfl ?_
      refine y_sipush X0 hx (255 : Int32) 12 (hb hby d5_9) rfl rfl ?_
      refine y_iand X0 hx 13 (hb hby d5_12) rfl ?_
      refine XS.i2c X0.here hx rfl (hb hby d5_13) rfl ?_
      show Sx p e below s₁ m 14 #[xvi nx, xvi p1, xvi p2, xvi p3, xvi p4, xvi (p1 &&& (255 : Int32)), xun, xun, xun] [xwi ((p2 &&& (255 : Int32)).toUInt32.toUInt16.toUInt32.toInt32)] _
      rw [own_i2c p2]
      refine XS.istore X0.here hx rfl (hb hby d5_14) rfl (l' := #[xvi nx, xvi p1, xvi p2, xvi p3, xvi p4, xvi (p1 &&& (255 : Int32)), xvi (p2 &&& (255 : Int32)), xun, xun]) rfl ?_
      show Sx p e below s₁ m 16 #[xvi nx, xvi p1, xvi p2, xvi p3, xvi p4, xvi (p1 &&& (255 : Int32)), xvi (p2 &&& (255 : Int32)), xun, xun] [] _
      refine y_iloadN X0 hx 17 (hb hby d5_16) rfl rfl ?_
      refine y_sipush X0 hx (255 : Int32) 20 (hb hby d5_17) rfl rfl ?_
      refine y_iand X0 hx 21 (hb hby d5_20) rfl ?_
      refine XS.i2c X0.here hx rfl (hb hby d5_21) rfl ?_
      show Sx p e below s₁ m 22 #[xvi nx, xvi p1, xvi p2, xvi p3, xvi p4, xvi (p1 &&& (255 : Int32)), xvi (p2 &&& (255 : Int32)), xun, xun] [xwi ((p3 &&& (255 : Int32)).toUInt32.toUInt16.toUInt32.toInt32)] _
      rw [own_i2c p3]
      refine XS.istore X0.here hx rfl (hb hby d5_22) rfl (l' := #[xvi nx, xvi p1, xvi p2, xvi p3, xvi p4, xvi (p1 &&& (255 : Int32)), xvi (p2 &&& (255 : Int32)), xvi (p3 &&& (255 : Int32)), xun]) rfl ?_
      show Sx p e below s₁ m 24 #[xvi nx, xvi p1, xvi p2, xvi p3, xvi p4, xvi (p1 &&& (255 : Int32)), xvi (p2 &&& (255 : Int32)), xvi (p3 &&& (255 : Int32)), xun] [] _
      refine y_iload X0 hx 26 (hb hby d5_24) rfl rfl ?_
      refine y_sipush X0 hx (255 : Int32) 29 (hb hby d5_26) rfl rfl ?_
      refine y_iand X0 hx 30 (hb hby d5_29) rfl ?_
      refine XS.i2c X0.here hx rfl (hb hby d5_30) rfl ?_
      show Sx p e below s₁ m 31 #[xvi nx, xvi p1, xvi p2, xvi p3, xvi p4, xvi (p1 &&& (255 : Int32)), xvi (p2 &&& (255 : Int32)), xvi (p3 &&& (255 : Int32)), xun] [xwi ((p4 &&& (255 : Int32)).toUInt32.toUInt16.toUInt32.toInt32)] _
      rw [own_i2c p4]
      refine XS.istore X0.here hx rfl (hb hby d5_31) rfl (l' := #[xvi nx, xvi p1, xvi p2, xvi p3, xvi p4, xvi (p1 &&& (255 : Int32)), xvi (p2 &&& (255 : Int32)), xvi (p3 &&& (255 : Int32)), xvi (p4 &&& (255 : Int32))]) rfl ?_
      show Sx p e below s₁ m 33 #[xvi nx, xvi p1, xvi p2, xvi p3, xvi p4, xvi (p1 &&& (255 : Int32)), xvi (p2 &&& (255 : Int32)), xvi (p3 &&& (255 : Int32)), xvi (p4 &&& (255 : Int32))] [] _
      refine y_iloadN X0 hx 34 (hb hby d5_33) rfl rfl ?_
      rw [hk411]
      refine y_ifYes X0 hx 48 (hb hby d5_34) (XT.i0_ne_t (by decide)) (by decide) (by decide) ?_
      refine y_iloadN X0 hx 49 (hb hby d5_48) rfl rfl ?_
      refine y_iconst X0 hx (1 : Int32) 50 (hb hby d5_49) rfl rfl ?_
      refine y_icmpYes X0 hx 69 (hb hby d5_50) (XT.ii_ne_t (by decide)) (by decide) (by decide) ?_
      refine y_iloadN X0 hx 70 (hb hby d5_69) rfl rfl ?_
      refine y_iconst X0 hx (2 : Int32) 71 (hb hby d5_70) rfl rfl ?_
      refine y_icmpYes X0 hx 95 (hb hby d5_71) (XT.ii_ne_t (by decide)) (by decide) (by decide) ?_
      refine y_iloadN X0 hx 96 (hb hby d5_95) rfl rfl ?_
      refine y_iconst X0 hx (3 : Int32) 97 (hb hby d5_96) rfl rfl ?_
      refine y_icmpYes X0 hx 126 (hb hby d5_97) (XT.ii_ne_t (by decide)) (by decide) (by decide) ?_
      refine st503 _ ?_
      show Sx p e below T503 m 129 #[xvi (4 : Int32), xvi p1, xvi p2, xvi p3, xvi p4, xvi (p1 &&& (255 : Int32)), xvi (p2 &&& (255 : Int32)), xvi (p3 &&& (255 : Int32)), xvi (p4 &&& (255 : Int32))] [xwr b503] _
      refine y_dup X503 hx 130 (hb hby d5_129) rfl rfl ?_
      refine y_iconst X503 hx (4 : Int32) 131 (hb hby d5_130) rfl rfl ?_
      refine st506 _ ?_
      show Sx p e below T506 m 133 #[xvi (4 : Int32), xvi p1, xvi p2, xvi p3, xvi p4, xvi (p1 &&& (255 : Int32)), xvi (p2 &&& (255 : Int32)), xvi (p3 &&& (255 : Int32)), xvi (p4 &&& (255 : Int32))] [xwr b506, xwr b503, xwr b503] _
      refine y_dup X506 hx 134 (hb hby d5_133) rfl rfl ?_
      refine y_iconst X506 hx (0 : Int32) 135 (hb hby d5_134) rfl rfl ?_
      refine y_iload X506 hx 137 (hb hby d5_135) rfl rfl ?_
      refine st510 _ ?_
      show Sx p e below T510 m 138 #[xvi (4 : Int32), xvi p1, xvi p2, xvi p3, xvi p4, xvi (p1 &&& (255 : Int32)), xvi (p2 &&& (255 : Int32)), xvi (p3 &&& (255 : Int32)), xvi (p4 &&& (255 : Int32))] [xwr b506, xwr b503, xwr b503] _
      refine y_dup X510 hx 139 (hb hby d5_138) rfl rfl ?_
      refine y_iconst X510 hx (1 : Int32) 140 (hb hby d5_139) rfl rfl ?_
      refine y_iload X510 hx 142 (hb hby d5_140) rfl rfl ?_
      refine st514 _ ?_
      show Sx p e below T514 m 143 #[xvi (4 : Int32), xvi p1, xvi p2, xvi p3, xvi p4, xvi (p1 &&& (255 : Int32)), xvi (p2 &&& (255 : Int32)), xvi (p3 &&& (255 : Int32)), xvi (p4 &&& (255 : Int32))] [xwr b506, xwr b503, xwr b503] _
      refine y_dup X514 hx 144 (hb hby d5_143) rfl rfl ?_
      refine y_iconst X514 hx (2 : Int32) 145 (hb hby d5_144) rfl rfl ?_
      refine y_iload X514 hx 147 (hb hby d5_145) rfl rfl ?_
      refine st518 _ ?_
      show Sx p e below T518 m 148 #[xvi (4 : Int32), xvi p1, xvi p2, xvi p3, xvi p4, xvi (p1 &&& (255 : Int32)), xvi (p2 &&& (255 : Int32)), xvi (p3 &&& (255 : Int32)), xvi (p4 &&& (255 : Int32))] [xwr b506, xwr b503, xwr b503] _
      refine y_dup X518 hx 149 (hb hby d5_148) rfl rfl ?_
      refine y_iconst X518 hx (3 : Int32) 150 (hb hby d5_149) rfl rfl ?_
      refine y_iload X518 hx 152 (hb hby d5_150) rfl rfl ?_
      refine st522 _ ?_
      show Sx p e below T522 m 153 #[xvi (4 : Int32), xvi p1, xvi p2, xvi p3, xvi p4, xvi (p1 &&& (255 : Int32)), xvi (p2 &&& (255 : Int32)), xvi (p3 &&& (255 : Int32)), xvi (p4 &&& (255 : Int32))] [xwr b506, xwr b503, xwr b503] _
      refine st530.trans ?_
      show Sx p e below T530 m 156 #[xvi (4 : Int32), xvi p1, xvi p2, xvi p3, xvi p4, xvi (p1 &&& (255 : Int32)), xvi (p2 &&& (255 : Int32)), xvi (p3 &&& (255 : Int32)), xvi (p4 &&& (255 : Int32))] [xwr b503] _
      exact retOut X530 hx Bd.returns rfl (Or.inr (Or.inr (Or.inr (Or.inr ⟨rfl, rfl, rfl⟩)))) (hb hby d5_156) hr
    · show QrmMk Z G nx p1 p2 p3 p4 h0 n0 _ T530.heap _
      rw [e530]
      exact ⟨b503, t530, kb530, (((([(p1 &&& (255 : Int32)), (p2 &&& (255 : Int32)), (p3 &&& (255 : Int32)), (p4 &&& (255 : Int32))] : List Int32).map (fun c => c.toInt8.toInt32)).map Value.int) : List Value), rfl, N530, ((((((((Keep.refl h0 []).ext E503).ext E506).wr W510 (Or.inr (Nat.le_trans E503.1 (Nat.le_of_eq g506.symm)))).wr W514 (Or.inr (Nat.le_trans E503.1 (Nat.le_of_eq g506.symm)))).wr W518 (Or.inr (Nat.le_trans E503.1 (Nat.le_of_eq g506.symm)))).wr W522 (Or.inr (Nat.le_trans E503.1 (Nat.le_of_eq g506.symm)))).trans K530 (allS (Or.inr (Nat.le_trans (Nat.le_refl _) (Nat.le_of_eq g503.symm))) all0)), E530, Fc530, Fv530, V534⟩
    · rw [hh]; show CHr Z EL s.vm h0 T530.vm T530.heap; rw [e530]; exact C531.trans (CHv.at X530 hZ (own_EW hw) C531.1)
theorem ef_rmDI (m : MethodId) (x0 : Addr) (x1 : Addr) (x2 : Value) (x3 : Addr) (hx2 : x2.isRef = true) : entryFrame m #[(.ref x0), (.ref x1), x2, (.ref x3)] 4 = mkF m 0 #[.val (.ref x0), .val (.ref x1), .val x2, .val (.ref x3)] [] := by
  rcases XT.refc hx2 with rfl | ⟨_, rfl⟩ <;> first | (simp [entryFrame, mkF, argsToLocals, Value.category]; done) | rfl
theorem d1_0 : decode prog_4_method_1_code 0 = .ok (.aload_n 0, 1) := by decide +kernel
theorem d1_1 : decode prog_4_method_1_code 1 = .ok (.invokespecial 1, 3) := by decide +kernel
theorem d1_4 : decode prog_4_method_1_code 4 = .ok (.aload_n 0, 1) := by decide +kernel
theorem d1_5 : decode prog_4_method_1_code 5 = .ok (.aload_n 1, 1) := by decide +kernel
theorem d1_6 : decode prog_4_method_1_code 6 = .ok (.ldc 7, 2) := by decide +kernel
theorem d1_8 : decode prog_4_method_1_code 8 = .ok (.invokestatic 9, 3) := by decide +kernel
theorem pd_6 : parseMethodDescriptor "(Ljava/lang/Object;Ljava/lang/String;)Ljava/lang/Object;" = some ⟨[(.object "java/lang/Object"), (.object "java/lang/String")], some (.object "java/lang/Object")⟩ := by decide +kernel
theorem d1_11 : decode prog_4_method_1_code 11 = .ok (.checkcast 15, 3) := by decide +kernel
theorem d1_14 : decode prog_4_method_1_code 14 = .ok (.putfield 17, 3) := by decide +kernel
theorem d1_17 : decode prog_4_method_1_code 17 = .ok (.aload_n 0, 1) := by decide +kernel
theorem d1_18 : decode prog_4_method_1_code 18 = .ok (.aload_n 2, 1) := by decide +kernel
theorem d1_19 : decode prog_4_method_1_code 19 = .ok (.putfield 22, 3) := by decide +kernel
theorem d1_22 : decode prog_4_method_1_code 22 = .ok (.aload_n 0, 1) := by decide +kernel
theorem d1_23 : decode prog_4_method_1_code 23 = .ok (.aload_n 3, 1) := by decide +kernel
theorem d1_24 : decode prog_4_method_1_code 24 = .ok (.ldc 25, 2) := by decide +kernel
theorem d1_26 : decode prog_4_method_1_code 26 = .ok (.invokestatic 9, 3) := by decide +kernel
theorem d1_29 : decode prog_4_method_1_code 29 = .ok (.checkcast 15, 3) := by decide +kernel
theorem d1_32 : decode prog_4_method_1_code 32 = .ok (.putfield 27, 3) := by decide +kernel
theorem d1_35 : decode prog_4_method_1_code 35 = .ok (.return_, 1) := by decide +kernel
theorem pn_4 : plainName "com/example/nabao/nabao/Document" = true := by first | (simp [plainName, overriddenIn]; done) | decide +kernel
def QrmDI (Z : State) (G : Gs) (ax : Addr) (ix : Addr) (r2 : Value) (tx : Addr) (u1 : Value) (u2 : Value) (u3 : Value) (h0 : Heap) (n0 : Nat) (v : Option Value) (h : Heap) (L : List Loc) : Prop := v = none ∧ Fr n0 L ∧ Keep h0 h [ax] ∧ Exa Z h ax "com/example/nabao/nabao/Document" ∧ Fld Z h ax "com/example/nabao/nabao/Document" "title" "Ljava/lang/String;" r2
set_option maxRecDepth 65536 in
set_option maxHeartbeats 40000000 in
theorem rmDI (l : Launch) (Z : State) (a0 : Array Value) (hw : HW a0 Z) (G : Gs) (ST : StartF Z G) (ws : List Jvm.Cond) (ax : Addr) (ix : Addr) (r2 : Value) (tx : Addr) (u1 : Value) (u2 : Value) (u3 : Value) (h0 : Heap) (n0 : Nat) (X00 : Old Z n0 h0) (hr2 : r2.isRef = true) (E1 : Exa Z h0 ax "com/example/nabao/nabao/Document") (E2 : Exa Z h0 ix "java/lang/String") (E3 : Exa Z h0 tx "java/lang/String") (F1 : Fld Z h0 ax "com/example/nabao/nabao/Document" "id" "Ljava/lang/String;" u1) (F2 : Fld Z h0 ax "com/example/nabao/nabao/Document" "title" "Ljava/lang/String;" u2) (F3 : Fld Z h0 ax "com/example/nabao/nabao/Document" "text" "Ljava/lang/String;" u3) (g1 : n0 ≤ ax) :
    MetFree l (⟨"com/example/nabao/nabao/Document", "<init>", "(Ljava/lang/String;Ljava/lang/String;Ljava/lang/String;)V"⟩ : MethodName) (head1 (Jvm.Cond.code (⟨"com/example/nabao/nabao/Document", "<init>", "(Ljava/lang/String;Ljava/lang/String;Ljava/lang/String;)V"⟩ : MethodName) prog_4_method_1_code 4 none :: ws) ({ frames := 1, cells := 4, slots := 32, locals := 14 } : Room)) (fun a U => a = #[(.ref ax), (.ref ix), r2, (.ref tx)] ∧ Z.Warmed39 U.vm ∧ U.heap = h0 ∧ CHv Z EL U.vm h0) (fun _ _ _ _ _ => True) (fun _ U o U' => ∃ v L, o = .returned v ∧ QrmDI Z G ax ix r2 tx u1 u2 u3 h0 n0 v U'.heap L ∧ CHr Z EL U.vm U.heap U'.vm U'.heap ∧ ReturnedEndW U o U' L ({ frames := 1, cells := 4, slots := 32, locals := 14 } : Room).cells ({ frames := 1, cells := 4, slots := 32, locals := 14 } : Room).slots) := by
  refine MetFree.of_bodySF (plainFor_of_name pn_4) hisR ?_
  intro p e s m args below meth c s₁ Bd hml0 hP hK
  obtain ⟨rfl, hZ, hh, HC0⟩ := hP
  have hx := Bd.exec
  have hby := Bd.bytes
  have hml : c.maxLocals = 4 := hml0
  have hown : s.vm.findClass "com/example/nabao/nabao/Document" = some m.cls := findClass_of_methodNamed Bd.named
  have hnm := (name_of_methodNamed Bd.named Bd.method).1
  have X0 : Stand p l e ({ frames := 1, cells := 4, slots := 32, locals := 14 } : Room) (s.setVm s.vm) m #[(.ref ax), (.ref ix), r2, (.ref tx)] below meth c s₁ [] 0 0 := Stand.of_body Bd
  have e0 : s₁.heap = h0 := by rw [← hh, Bd.state]; rfl
  have N0 := Fr.nil n0
  have Z0 : n0 ≤ h0.size := by have q := X00.2.1; rw [X00.1] at q; exact q
  have C0 := CHr.refl HC0
  have hS0 : s.Since s.vm h0.size := (State.WarmedH.refl s).since h0.size
  obtain ⟨TG, hTG, hT2⟩ : ∃ P : State → Prop, (∀ t, P t → Steps p.tables e below (s₁.setTop (entryFrame m #[(.ref ax), (.ref ix), r2, (.ref tx)] 4)) t) ∧ (∀ t, Steps p.tables e below (s₁.setTop (entryFrame m #[(.ref ax), (.ref ix), r2, (.ref tx)] 4)) t → P t) := ⟨_, fun t k => k, fun t k => k⟩
  have pre0 : ∀ t, Sx p e below s₁ m 0 #[xvr ax, xvr ix, .val r2, xvr tx] [] t → TG t := fun t k => hT2 t (castTop (ef_rmDI m ax ix r2 tx hr2) k)
  obtain ⟨T535, X535, e535, st535⟩ := initO X0 hx hZ hown (w_15 hw) (w_16 hw) (w_17 hw) e0 (g := (mkF m 1 #[xvr ax, xvr ix, .val r2, xvr tx] [xwr ax])) rfl (by rw [hml]; rfl) rfl (hb hby d1_1) (by decide) (W := 0) (by show 2 * 0 + _ ≤ _; exact Nat.le_of_eq rfl) (by decide)
  obtain ⟨a536, T536, h536, kk536, X536, e536, E536, hS536, hk536, hZ536, hown536, CH536, Li536, st536⟩ := ldcOH X535 hx hZ hown (w_18 hw) (own_SA hw) e535 hS0 (Nat.le_refl _) (own_EW hw) C0.1 (g := (mkF m 6 #[xvr ax, xvr ix, .val r2, xvr tx] [xwr ix, xwr ax])) rfl (hb hby d1_6) (n := 8) (by decide) (by decide) (by decide) (by decide)
  have C537 := C0.trans CH536
  have Ol538 : Old Z n0 h536 := (X00.ext E536)
  obtain ⟨_, _, ⟨T539, L539, k539, n539⟩, -, X539, ⟨Lc539, hQ539, l539, y539, z539⟩, st539⟩ := Jvm.LawKit.callS X536 hx (y := (⟨"java/util/Objects", "requireNonNull", "(Ljava/lang/Object;Ljava/lang/String;)Ljava/lang/Object;"⟩ : MethodName)) hown536 (mvT hZ536 (w_19 hw)) (mvT hZ536 (w_20 hw)) (mvT hZ536 (w_21 hw)) (mvT hZ536 (w_22 hw)) (by decide) (backOf (W := 1) (rmNN l Z a0 hw G ST [] ix a536 h536 n0 Ol538 ) hZ536 (w_22 hw) (w_21 hw) (by decide) (by decide)) (g := (mkF m 8 #[xvr ax, xvr ix, .val r2, xvr tx] [xwr a536, xwr ix, xwr ax])) rfl (by rw [hml]; rfl) (argsL := [(.ref ix), (.ref a536)]) (rest := [(.ref ax)]) (lenOf pd_6 rfl) rfl (by show 2 * 0 + _ ≤ _; exact Nat.le_of_eq rfl) (hb hby d1_8) (fun _ _ => ⟨rfl, e536, (by decide : 2 + 0 ≤ _), (by decide : 12 + 0 ≤ _)⟩)
  dsimp only [Pt.U, Pt.locs, Pt.cells, Pt.slots] at X539 l539 y539 z539 st539 hQ539
  subst l539 y539 z539
  obtain ⟨rfl, N539q, e539⟩ := hQ539
  have N539 := Fr.app N0 N539q
  have f540 := (E2.ext E536)
  obtain ⟨T541, X541, e541, st541⟩ := castY X539 hx hZ536 hown536 (w_23 hw) e539 (Ins.self f540) (g := (mkF m 11 #[xvr ax, xvr ix, .val r2, xvr tx] [xwr ix, xwr ax])) rfl rfl (hb hby d1_11)
  have f542 := (F1.ext E536)
  have f543 := (E1.ext E536)
  obtain ⟨T544, h544, X544, e544, W544, st544⟩ := putF X541 hx hZ536 hown536 (host := "") (Or.inl (w_25 hw)) Via.refl e541 f542 f543 (Or.inr ⟨(w_26 hw), rfl, hnm⟩) (w_9 hw) (ty := (.object "java/lang/String")) (by decide) rfl rfl (g := (mkF m 14 #[xvr ax, xvr ix, .val r2, xvr tx] [xwr ix, xwr ax])) rfl rfl (hb hby d1_14)
  have ch546 := CHr.wr W544 (Safe.exa hZ536.alike f543 (by decide) (by decide)) C537.1
  have C545 := C537.trans ch546
  have Fw544 := f542.same W544
  have N544 := Fr.snoc X544 N539 g1
  have f547 := ((F2.ext E536).other W544 (Or.inr (slot_ne (Or.inr (w_28 hw)) (Or.inr (w_26 hw)) (by decide) (t := (.object "java/lang/String")) (t' := (.object "java/lang/String")) (by decide) (by decide))))
  have f548 := (f543.wr W544)
  obtain ⟨T549, h549, X549, e549, W549, st549⟩ := putF X544 hx hZ536 hown536 (host := "") (Or.inl (w_27 hw)) Via.refl e544 f547 f548 (Or.inr ⟨(w_28 hw), rfl, hnm⟩) (w_9 hw) (ty := (.object "java/lang/String")) (by decide) (own_nar hr2 rfl) (own_fit hr2 rfl) (g := (mkF m 19 #[xvr ax, xvr ix, .val r2, xvr tx] [r2, xwr ax])) rfl rfl (hb hby d1_19)
  have ch551 := CHr.wr W549 (Safe.exa hZ536.alike f548 (by decide) (by decide)) C545.1
  have C550 := C545.trans ch551
  have Fw549 := f547.same W549
  have N549 := Fr.snoc X549 N544 g1
  obtain ⟨a552, T552, h552, kk552, X552, e552, E552, hS552, hk552, hZ552, hown552, CH552, Li552, st552⟩ := ldcOH X549 hx hZ536 hown536 (w_29 hw) (own_SA hw) e549 hS536 (Nat.le_trans hk536 (Nat.le_trans (Nat.le_of_eq W544.size.symm) (Nat.le_of_eq W549.size.symm))) (own_EW hw) C550.1 (g := (mkF m 24 #[xvr ax, xvr ix, .val r2, xvr tx] [xwr tx, xwr ax])) rfl (hb hby d1_24) (n := 16) (by decide) (by decide) (by decide) (by decide)
  have C553 := C550.trans CH552
  have Ol554 : Old Z n0 h552 := (((Ol538.wr W544 g1).wr W549 g1).ext E552)
  obtain ⟨_, _, ⟨T555, L555, k555, n555⟩, -, X555, ⟨Lc555, hQ555, l555, y555, z555⟩, st555⟩ := Jvm.LawKit.callS X552 hx (y := (⟨"java/util/Objects", "requireNonNull", "(Ljava/lang/Object;Ljava/lang/String;)Ljava/lang/Object;"⟩ : MethodName)) hown552 (mvT hZ552 (w_19 hw)) (mvT hZ552 (w_20 hw)) (mvT hZ552 (w_21 hw)) (mvT hZ552 (w_22 hw)) (by decide) (backOf (W := 1) (rmNN l Z a0 hw G ST [] tx a552 h552 n0 Ol554 ) hZ552 (w_22 hw) (w_21 hw) (by decide) (by decide)) (g := (mkF m 26 #[xvr ax, xvr ix, .val r2, xvr tx] [xwr a552, xwr tx, xwr ax])) rfl (by rw [hml]; rfl) (argsL := [(.ref tx), (.ref a552)]) (rest := [(.ref ax)]) (lenOf pd_6 rfl) rfl (by show 2 * 0 + _ ≤ _; exact Nat.le_of_eq rfl) (hb hby d1_26) (fun _ _ => ⟨rfl, e552, (by decide : 4 + 0 ≤ _), (by decide : 32 + 0 ≤ _)⟩)
  dsimp only [Pt.U, Pt.locs, Pt.cells, Pt.slots] at X555 l555 y555 z555 st555 hQ555
  subst l555 y555 z555
  obtain ⟨rfl, N555q, e555⟩ := hQ555
  have N555 := Fr.app N549 N555q
  have f556 := ((((E3.ext E536).wr W544).wr W549).ext E552)
  obtain ⟨T557, X557, e557, st557⟩ := castY X555 hx hZ552 hown552 (w_23 hw) e555 (Ins.self f556) (g := (mkF m 29 #[xvr ax, xvr ix, .val r2, xvr tx] [xwr tx, xwr ax])) rfl rfl (hb hby d1_29)
  have f558 := ((((F3.ext E536).other W544 (Or.inr (slot_ne (Or.inr (w_31 hw)) (Or.inr (w_26 hw)) (by decide) (t := (.object "java/lang/String")) (t' := (.object "java/lang/String")) (by decide) (by decide)))).other W549 (Or.inr (slot_ne (Or.inr (w_31 hw)) (Or.inr (w_28 hw)) (by decide) (t := (.object "java/lang/String")) (t' := (.object "java/lang/String")) (by decide) (by decide)))).ext E552)
  have f559 := ((f548.wr W549).ext E552)
  obtain ⟨T560, h560, X560, e560, W560, st560⟩ := putF X557 hx hZ552 hown552 (host := "") (Or.inl (w_30 hw)) Via.refl e557 f558 f559 (Or.inr ⟨(w_31 hw), rfl, hnm⟩) (w_9 hw) (ty := (.object "java/lang/String")) (by decide) rfl rfl (g := (mkF m 32 #[xvr ax, xvr ix, .val r2, xvr tx] [xwr tx, xwr ax])) rfl rfl (hb hby d1_32)
  have ch562 := CHr.wr W560 (Safe.exa hZ552.alike f559 (by decide) (by decide)) C553.1
  have C561 := C553.trans ch562
  have Fw560 := f558.same W560
  have N560 := Fr.snoc X560 N555 g1
  have f563 := (f559.wr W560)
  have f564 := ((Fw549.ext E552).other W560 (Or.inr (slot_ne (Or.inr (w_28 hw)) (Or.inr (w_31 hw)) (by decide) (t := (.object "java/lang/String")) (t' := (.object "java/lang/String")) (by decide) (by decide))))
  obtain ⟨fs, hr, hrun, hended, hE⟩ := X560.leaveW hS552 (by rw [e560]; exact (Nat.le_trans hk552 (Nat.le_of_eq W560.size.symm))) (v := none) (fun _ => rfl)
  refine ⟨_, _, hTG _ (pre0 _ ?_), hrun, hended, _, _, rfl, ?_, ?_, hE.1, hE.2.1, hE.2.2.1, hE.2.2.2.mono (by decide) (by decide)⟩
  · refine y_aloadN X0 hx 1 (hb hby d1_0) rfl rfl rfl ?_
    refine st535 _ ?_
    show Sx p e below T535 m 4 #[xvr ax, xvr ix, .val r2, xvr tx] [] _
    refine y_aloadN X535 hx 5 (hb hby d1_4) rfl rfl rfl ?_
    refine y_aloadN X535 hx 6 (hb hby d1_5) rfl rfl rfl ?_
    refine st536 _ ?_
    show Sx p e below T536 m 8 #[xvr ax, xvr ix, .val r2, xvr tx] [xwr a536, xwr ix, xwr ax] _
    refine st539 _ ?_
    show Sx p e below T539 m 11 #[xvr ax, xvr ix, .val r2, xvr tx] [xwr ix, xwr ax] _
    refine st541 _ ?_
    show Sx p e below T541 m 14 #[xvr ax, xvr ix, .val r2, xvr tx] [xwr ix, xwr ax] _
    refine st544 _ ?_
    show Sx p e below T544 m 17 #[xvr ax, xvr ix, .val r2, xvr tx] [] _
    refine y_aloadN X544 hx 18 (hb hby d1_17) rfl rfl rfl ?_
    refine y_aloadN X544 hx 19 (hb hby d1_18) rfl hr2 rfl ?_
    refine st549 _ ?_
    show Sx p e below T549 m 22 #[xvr ax, xvr ix, .val r2, xvr tx] [] _
    refine y_aloadN X549 hx 23 (hb hby d1_22) rfl rfl rfl ?_
    refine y_aloadN X549 hx 24 (hb hby d1_23) rfl rfl rfl ?_
    refine st552 _ ?_
    show Sx p e below T552 m 26 #[xvr ax, xvr ix, .val r2, xvr tx] [xwr a552, xwr tx, xwr ax] _
    refine st555 _ ?_
    show Sx p e below T555 m 29 #[xvr ax, xvr ix, .val r2, xvr tx] [xwr tx, xwr ax] _
    refine st557 _ ?_
    show Sx p e below T557 m 32 #[xvr ax, xvr ix, .val r2, xvr tx] [xwr tx, xwr ax] _
    refine st560 _ ?_
    show Sx p e below T560 m 35 #[xvr ax, xvr ix, .val r2, xvr tx] [] _
    exact X560.returnOut hx Bd.returns (hb hby d1_35) hr
  · show QrmDI Z G ax ix r2 tx u1 u2 u3 h0 n0 _ T560.heap _
    rw [e560]
    exact ⟨rfl, N560, ((((((Keep.refl h0 [ax]).ext E536).wr W544 (Or.inl (List.mem_of_getElem? (i := 0) rfl))).wr W549 (Or.inl (List.mem_of_getElem? (i := 0) rfl))).ext E552).wr W560 (Or.inl (List.mem_of_getElem? (i := 0) rfl))), f563, f564⟩
  · rw [hh]; show CHr Z EL s.vm h0 T560.vm T560.heap; rw [e560]; exact C561.trans (CHv.at X560 hZ552 (own_EW hw) C561.1)
theorem ef_rmT0 (m : MethodId) (x0 : Addr)  : entryFrame m #[(.ref x0)] 1 = mkF m 0 #[.val (.ref x0)] [] := by first | (simp [entryFrame, mkF, argsToLocals, Value.category]; done) | rfl
theorem d4_0 : decode prog_4_method_5_code 0 = .ok (.aload_n 0, 1) := by decide +kernel
theorem d4_1 : decode prog_4_method_5_code 1 = .ok (.getfield 22, 3) := by decide +kernel
theorem d4_4 : decode prog_4_method_5_code 4 = .ok (.ifnonnull 7, 3) := by decide +kernel
theorem d4_7 : decode prog_4_method_5_code 7 = .ok (.iconst 0, 1) := by decide +kernel
theorem d4_8 : decode prog_4_method_5_code 8 = .ok (.goto 12, 3) := by decide +kernel
theorem d4_20 : decode prog_4_method_5_code 20 = .ok (.ireturn, 1) := by decide +kernel
def QrmT0 (Z : State) (G : Gs) (ax : Addr) (h0 : Heap) (n0 : Nat) (v : Option Value) (h : Heap) (L : List Loc) : Prop := v = some (.int (0 : Int32)) ∧ Fr n0 L ∧ h = h0
set_option maxRecDepth 65536 in
set_option maxHeartbeats 40000000 in
theorem rmT0 (l : Launch) (Z : State) (a0 : Array Value) (hw : HW a0 Z) (G : Gs) (ST : StartF Z G) (ws : List Jvm.Cond) (ax : Addr) (h0 : Heap) (n0 : Nat) (X00 : Old Z n0 h0) (F1 : Fld Z h0 ax "com/example/nabao/nabao/Document" "title" "Ljava/lang/String;" .null) :
    MetFree l (⟨"com/example/nabao/nabao/Document", "textStart", "()I"⟩ : MethodName) (head1 (Jvm.Cond.code (⟨"com/example/nabao/nabao/Document", "textStart", "()I"⟩ : MethodName) prog_4_method_5_code 1 (some .int) :: ws) ({ frames := 0, cells := 0, slots := 0, locals := 0 } : Room)) (fun a U => a = #[(.ref ax)] ∧ Z.Warmed39 U.vm ∧ U.heap = h0) (fun _ _ _ _ _ => True) (fun _ U o U' => ∃ v L, o = .returned v ∧ QrmT0 Z G ax h0 n0 v U'.heap L ∧ FrameEnd U o U' L ({ frames := 0, cells := 0, slots := 0, locals := 0 } : Room).cells ({ frames := 0, cells := 0, slots := 0, locals := 0 } : Room).slots) := by
  refine MetFree.of_bodySF (plainFor_of_name pn_4) hisR ?_
  intro p e s m args below meth c s₁ Bd hml0 hP hK
  obtain ⟨rfl, hZ, hh⟩ := hP
  have hx := Bd.exec
  have hby := Bd.bytes
  have hml : c.maxLocals = 1 := hml0
  have hown : s.vm.findClass "com/example/nabao/nabao/Document" = some m.cls := findClass_of_methodNamed Bd.named
  have hnm := (name_of_methodNamed Bd.named Bd.method).1
  have X0 : Stand p l e ({ frames := 0, cells := 0, slots := 0, locals := 0 } : Room) s m #[(.ref ax)] below meth c s₁ [] 0 0 := Stand.of_body Bd
  have e0 : s₁.heap = h0 := by rw [← hh, Bd.state]; rfl
  have N0 := Fr.nil n0
  have Z0 : n0 ≤ h0.size := by have q := X00.2.1; rw [X00.1] at q; exact q
  obtain ⟨TG, hTG, hT2⟩ : ∃ P : State → Prop, (∀ t, P t → Steps p.tables e below (s₁.setTop (entryFrame m #[(.ref ax)] 1)) t) ∧ (∀ t, Steps p.tables e below (s₁.setTop (entryFrame m #[(.ref ax)] 1)) t → P t) := ⟨_, fun t k => k, fun t k => k⟩
  have pre0 : ∀ t, Sx p e below s₁ m 0 #[xvr ax] [] t → TG t := fun t k => hT2 t (castTop (ef_rmT0 m ax ) k)
  obtain ⟨T565, X565, e565, st565⟩ := getF X0 hx hZ hown (host := "") (Or.inl (w_27 hw)) Via.refl e0 F1 (g := (mkF m 1 #[xvr ax] [xwr ax])) rfl rfl (hb hby d4_1)
  obtain ⟨fs, hr, hrun, hended, hW, hsame⟩ := X565.leave (v := some (.int (0 : Int32))) (fun h => by rw [Bd.returns] at h; cases h)
  refine ⟨_, _, hTG _ (pre0 _ ?_), hrun, hended, _, _, rfl, ?_, ⟨_, rfl⟩, hW, hsame.mono (by decide) (by decide)⟩
  · refine y_aloadN X0 hx 1 (hb hby d4_0) rfl rfl rfl ?_
    refine st565 _ ?_
    show Sx p e below T565 m 4 #[xvr ax] [.null] _
    refine XS.ifnonnullNo X565.here hx rfl (hb hby d4_4) rfl ?_
    show Sx p e below T565 m 7 #[xvr ax] [] _
    refine y_iconst X565 hx (0 : Int32) 8 (hb hby d4_7) rfl rfl ?_
    refine y_goto X565 hx 20 (hb hby d4_8) (by decide) (by decide) ?_
    show Sx p e below T565 m 20 #[xvr ax] [xwi (0 : Int32)] _
    exact retOut X565 hx Bd.returns rfl (Or.inl ⟨rfl, Or.inl rfl, _, rfl⟩) (hb hby d4_20) hr
  · show QrmT0 Z G ax h0 n0 _ T565.heap _
    rw [e565]
    exact ⟨rfl, N0, rfl⟩
theorem ef_rmT1 (m : MethodId) (x0 : Addr)  : entryFrame m #[(.ref x0)] 1 = mkF m 0 #[.val (.ref x0)] [] := by first | (simp [entryFrame, mkF, argsToLocals, Value.category]; done) | rfl
theorem d4_11 : decode prog_4_method_5_code 11 = .ok (.aload_n 0, 1) := by decide +kernel
theorem d4_12 : decode prog_4_method_5_code 12 = .ok (.getfield 22, 3) := by decide +kernel
theorem d4_15 : decode prog_4_method_5_code 15 = .ok (.invokevirtual 29, 3) := by decide +kernel
theorem pd_7 : parseMethodDescriptor "()I" = some ⟨[], some .int⟩ := by decide +kernel
theorem d4_18 : decode prog_4_method_5_code 18 = .ok (.iconst 1, 1) := by decide +kernel
theorem d4_19 : decode prog_4_method_5_code 19 = .ok (.iadd, 1) := by decide +kernel
def QrmT1 (Z : State) (G : Gs) (ax : Addr) (sx : Addr) (tx : Addr) (kb : ClassId) (zx : Int32) (bs : List Value) (dv : Value) (h0 : Heap) (n0 : Nat) (v : Option Value) (h : Heap) (L : List Loc) : Prop := v = some (.int (zx + (1 : Int32))) ∧ Fr n0 L ∧ h = h0
set_option maxRecDepth 65536 in
set_option maxHeartbeats 40000000 in
theorem rmT1 (l : Launch) (Z : State) (a0 : Array Value) (hw : HW a0 Z) (G : Gs) (ST : StartF Z G) (ws : List Jvm.Cond) (ax : Addr) (sx : Addr) (tx : Addr) (kb : ClassId) (zx : Int32) (bs : List Value) (dv : Value) (h0 : Heap) (n0 : Nat) (X00 : Old Z n0 h0) (F1 : Fld Z h0 ax "com/example/nabao/nabao/Document" "title" "Ljava/lang/String;" (.ref sx)) (E2 : Exa Z h0 sx "java/lang/String") (F2 : Fld Z h0 sx "java/lang/String" "coder" "B" (.int (0 : Int32))) (F3 : Fld Z h0 sx "java/lang/String" "value" "[B" (.ref tx)) (V1 : Arv Z h0 tx kb .byte zx bs dv) :
    MetFree l (⟨"com/example/nabao/nabao/Document", "textStart", "()I"⟩ : MethodName) (head1 (Jvm.Cond.code (⟨"com/example/nabao/nabao/Document", "textStart", "()I"⟩ : MethodName) prog_4_method_5_code 1 (some .int) :: ws) ({ frames := 2, cells := 0, slots := 0, locals := 25 } : Room)) (fun a U => a = #[(.ref ax)] ∧ Z.Warmed39 U.vm ∧ U.heap = h0) (fun _ _ _ _ _ => True) (fun _ U o U' => ∃ v L, o = .returned v ∧ QrmT1 Z G ax sx tx kb zx bs dv h0 n0 v U'.heap L ∧ FrameEnd U o U' L ({ frames := 2, cells := 0, slots := 0, locals := 25 } : Room).cells ({ frames := 2, cells := 0, slots := 0, locals := 25 } : Room).slots) := by
  refine MetFree.of_bodySF (plainFor_of_name pn_4) hisR ?_
  intro p e s m args below meth c s₁ Bd hml0 hP hK
  obtain ⟨rfl, hZ, hh⟩ := hP
  have hx := Bd.exec
  have hby := Bd.bytes
  have hml : c.maxLocals = 1 := hml0
  have hown : s.vm.findClass "com/example/nabao/nabao/Document" = some m.cls := findClass_of_methodNamed Bd.named
  have hnm := (name_of_methodNamed Bd.named Bd.method).1
  have X0 : Stand p l e ({ frames := 2, cells := 0, slots := 0, locals := 25 } : Room) s m #[(.ref ax)] below meth c s₁ [] 0 0 := Stand.of_body Bd
  have e0 : s₁.heap = h0 := by rw [← hh, Bd.state]; rfl
  have N0 := Fr.nil n0
  have Z0 : n0 ≤ h0.size := by have q := X00.2.1; rw [X00.1] at q; exact q
  obtain ⟨TG, hTG, hT2⟩ : ∃ P : State → Prop, (∀ t, P t → Steps p.tables e below (s₁.setTop (entryFrame m #[(.ref ax)] 1)) t) ∧ (∀ t, Steps p.tables e below (s₁.setTop (entryFrame m #[(.ref ax)] 1)) t → P t) := ⟨_, fun t k => k, fun t k => k⟩
  have pre0 : ∀ t, Sx p e below s₁ m 0 #[xvr ax] [] t → TG t := fun t k => hT2 t (castTop (ef_rmT1 m ax ) k)
  obtain ⟨T566, X566, e566, st566⟩ := getF X0 hx hZ hown (host := "") (Or.inl (w_27 hw)) Via.refl e0 F1 (g := (mkF m 1 #[xvr ax] [xwr ax])) rfl rfl (hb hby d4_1)
  obtain ⟨T567, X567, e567, st567⟩ := getF X566 hx hZ hown (host := "") (Or.inl (w_27 hw)) Via.refl e566 F1 (g := (mkF m 12 #[xvr ax] [xwr ax])) rfl rfl (hb hby d4_12)
  obtain ⟨cq569, kq569, q569a, q569b, q569c⟩ := isOf hZ e567 E2
  obtain ⟨_, _, ⟨T568, L568, k568, n568⟩, -, X568, ⟨Lc568, hQ568, l568, y568, z568⟩, st568⟩ := X567.virtualBack hx (y := (⟨"java/lang/String", "length", "()I"⟩ : MethodName)) (z := (⟨"java/lang/String", "length", "()I"⟩ : MethodName)) hown (mvT hZ (w_63 hw)) (mvT hZ (w_64 hw)) (notFace_of_selects (args := #[]) (mvT hZ (w_66 hw))) (mvT hZ (w_66 hw)) (mvT hZ (w_65 hw)) (by decide) (backOf (W := 0) (rmLen l Z a0 hw G ST [] sx tx kb zx (bs : List Value) dv h0 n0 X00 E2 F2 F3 V1) hZ (w_67 hw) (w_1 hw) (by decide) (by decide)) q569a q569c (g := (mkF m 15 #[xvr ax] [xwr sx])) rfl (by rw [hml]; rfl) (Steps.refl _) (argsL := []) (rest := []) (lenOf pd_7 rfl) rfl (by show 2 * 0 + _ ≤ _; exact Nat.le_of_eq rfl) (hb hby d4_15) (fun _ _ => ⟨rfl, e567, (by decide : 0 + 0 ≤ _), (by decide : 0 + 0 ≤ _)⟩)
  dsimp only [Pt.U, Pt.locs, Pt.cells, Pt.slots] at X568 l568 y568 z568 st568 hQ568
  subst l568 y568 z568
  obtain ⟨rfl, N568q, e568⟩ := hQ568
  have N568 := Fr.app N0 N568q
  obtain ⟨fs, hr, hrun, hended, hW, hsame⟩ := X568.leave (v := some (.int (zx + (1 : Int32)))) (fun h => by rw [Bd.returns] at h; cases h)
  refine ⟨_, _, hTG _ (pre0 _ ?_), hrun, hended, _, _, rfl, ?_, ⟨_, rfl⟩, hW, hsame.mono (by decide) (by decide)⟩
  · refine y_aloadN X0 hx 1 (hb hby d4_0) rfl rfl rfl ?_
    refine st566 _ ?_
    show Sx p e below T566 m 4 #[xvr ax] [xwr sx] _
    refine XS.ifnonnullYes X566.here hx rfl (pc0 := 4) (pc' := 11) rfl (hb hby d4_4) rfl (by decide) (by decide) ?_
    show Sx p e below T566 m 11 #[xvr ax] [] _
    refine y_aloadN X566 hx 12 (hb hby d4_11) rfl rfl rfl ?_
    refine st567 _ ?_
    show Sx p e below T567 m 15 #[xvr ax] [xwr sx] _
    refine st568.trans ?_
    show Sx p e below T568 m 18 #[xvr ax] [xwi zx] _
    refine y_iconst X568 hx (1 : Int32) 19 (hb hby d4_18) rfl rfl ?_
    refine y_iadd X568 hx 20 (hb hby d4_19) rfl ?_
    show Sx p e below T568 m 20 #[xvr ax] [xwi (zx + (1 : Int32))] _
    exact retOut X568 hx Bd.returns rfl (Or.inl ⟨rfl, Or.inl rfl, _, rfl⟩) (hb hby d4_20) hr
  · show QrmT1 Z G ax sx tx kb zx bs dv h0 n0 _ T568.heap _
    rw [e568]
    exact ⟨rfl, N568, rfl⟩
theorem ef_rm0 (m : MethodId) (x0 : Int32) (x1 : Int32) (x2 : Int32) (x3 : Int32) (x4 : Int32)  : entryFrame m #[(.int x0), (.int x1), (.int x2), (.int x3), (.int x4)] maxLocals = mkF m 0 #[.val (.int x0), .val (.int x1), .val (.int x2), .val (.int x3), .val (.int x4), .unset, .unset, .unset, .unset, .unset, .unset] [] := by first | (simp [entryFrame, mkF, argsToLocals, Value.category, maxLocals]; done) | rfl
theorem pd_8 : parseMethodDescriptor "(C)Ljava/lang/String;" = some ⟨[.char], some (.object "java/lang/String")⟩ := by decide +kernel
theorem pd_9 : parseMethodDescriptor "(Ljava/lang/String;Ljava/lang/String;Ljava/lang/String;)V" = some ⟨[(.object "java/lang/String"), (.object "java/lang/String"), (.object "java/lang/String")], none⟩ := by decide +kernel
theorem pd_10 : parseMethodDescriptor "(IIIII)Ljava/lang/String;" = some ⟨[.int, .int, .int, .int, .int], some (.object "java/lang/String")⟩ := by decide +kernel
def Qrm0 (Z : State) (G : Gs) (p0 : Int32) (p1 : Int32) (p2 : Int32) (p3 : Int32) (p4 : Int32) (h0 : Heap) (n0 : Nat) (v : Option Value) (h : Heap) (L : List Loc) : Prop := v = some (.int (1 : Int32)) ∧ Fr n0 L ∧ Keep h0 h []
set_option maxRecDepth 65536 in
set_option maxHeartbeats 40000000 in
theorem rm0 (l : Launch) (Z : State) (a0 : Array Value) (hw : HW a0 Z) (G : Gs) (ST : StartF Z G) (ws : List Jvm.Cond) (p0 : Int32) (p1 : Int32) (p2 : Int32) (p3 : Int32) (p4 : Int32) (h0 : Heap) (n0 : Nat) (X00 : Old Z n0 h0) :
    MetFree l x (head1 (Jvm.Cond.code x code maxLocals ret :: ws) room_1) (fun a U => a = #[(.int p0), (.int p1), (.int p2), (.int p3), (.int p4)] ∧ Z.Warmed39 U.vm ∧ U.heap = h0 ∧ CHv Z EL U.vm h0) (fun _ _ _ _ _ => True) (fun _ U o U' => ∃ v L, o = .returned v ∧ Qrm0 Z G p0 p1 p2 p3 p4 h0 n0 v U'.heap L ∧ CHr Z EL U.vm U.heap U'.vm U'.heap ∧ ReturnedEndW U o U' L 13 60) := by
  refine MetFree.of_bodySF (plainFor_of_name pn_3) hisR ?_
  intro p e s m args below meth c s₁ Bd hml0 hP hK
  obtain ⟨rfl, hZ, hh, HC0⟩ := hP
  have hx := Bd.exec
  have hby := Bd.bytes
  have hml : c.maxLocals = 11 := hml0
  have hown : s.vm.findClass "com/example/nabao/nabao/DocumentTextStartPinLaw" = some m.cls := findClass_of_methodNamed Bd.named
  have hnm := (name_of_methodNamed Bd.named Bd.method).1
  have X0 : Stand p l e room_1 (s.setVm s.vm) m #[(.int p0), (.int p1), (.int p2), (.int p3), (.int p4)] below meth c s₁ [] 0 0 := Stand.of_body Bd
  have e0 : s₁.heap = h0 := by rw [← hh, Bd.state]; rfl
  have N0 := Fr.nil n0
  have Z0 : n0 ≤ h0.size := by have q := X00.2.1; rw [X00.1] at q; exact q
  have C0 := CHr.refl HC0
  have hS0 : s.Since s.vm h0.size := (State.WarmedH.refl s).since h0.size
  obtain ⟨TG, hTG, hT2⟩ : ∃ P : State → Prop, (∀ t, P t → Steps p.tables e below (s₁.setTop (entryFrame m #[(.int p0), (.int p1), (.int p2), (.int p3), (.int p4)] maxLocals)) t) ∧ (∀ t, Steps p.tables e below (s₁.setTop (entryFrame m #[(.int p0), (.int p1), (.int p2), (.int p3), (.int p4)] maxLocals)) t → P t) := ⟨_, fun t k => k, fun t k => k⟩
  have pre0 : ∀ t, Sx p e below s₁ m 0 #[xvi p0, xvi p1, xvi p2, xvi p3, xvi p4, xun, xun, xun, xun, xun, xun] [] t → TG t := fun t k => hT2 t (castTop (ef_rm0 m p0 p1 p2 p3 p4 ) k)
  have c570 : ∀ t, Sx p e below s₁ m 3 #[xvi p0, xvi p1, xvi p2, xvi p3, xvi p4, xun, xun, xun, xun, xun, xun] [xwi (p0 &&& (1 : Int32))] t → TG t := fun t k => pre0 t (by
    refine y_iloadN X0 hx 1 (hb hby at_0) rfl rfl ?_
    refine y_iconst X0 hx (1 : Int32) 2 (hb hby at_1) rfl rfl ?_
    refine y_iand X0 hx 3 (hb hby at_2) rfl ?_
    exact k)
  by_cases hc571 : (p0 &&& (1 : Int32)) = (0 : Int32)
  · obtain ⟨nn, e_nn⟩ : ∃ z, z = ((((p0.toUInt32 >>> ((1 : Int32) &&& 31).toUInt32).toInt32) &&& (7 : Int32)) % (5 : Int32)) := ⟨_, rfl⟩
    have c572 : ∀ t, Sx p e below s₁ m 44 #[xvi p0, xvi p1, xvi p2, xvi p3, xvi p4, xvi (0 : Int32), xvi nn, .val .null, xun, xun, xun] [] t → TG t := fun t k => c570 t (by
      refine y_ifYes X0 hx 10 (hb hby at_3) (XT.i0_eq_t hc571) (by decide) (by decide) ?_
      refine y_iconst X0 hx (0 : Int32) 11 (hb hby at_10) rfl rfl ?_
      refine XS.istore X0.here hx rfl (hb hby at_11) rfl (l' := #[xvi p0, xvi p1, xvi p2, xvi p3, xvi p4, xvi (0 : Int32), xun, xun, xun, xun, xun]) rfl ?_
      show Sx p e below s₁ m 13 #[xvi p0, xvi p1, xvi p2, xvi p3, xvi p4, xvi (0 : Int32), xun, xun, xun, xun, xun] [] _
      refine y_iloadN X0 hx 14 (hb hby at_13) rfl rfl ?_
      refine y_iconst X0 hx (1 : Int32) 15 (hb hby at_14) rfl rfl ?_
      refine XS.iushr X0.here hx rfl (hb hby at_15) rfl ?_
      show Sx p e below s₁ m 16 #[xvi p0, xvi p1, xvi p2, xvi p3, xvi p4, xvi (0 : Int32), xun, xun, xun, xun, xun] [xwi ((p0.toUInt32 >>> ((1 : Int32) &&& 31).toUInt32).toInt32)] _
      refine y_bipush X0 hx (7 : Int32) 18 (hb hby at_16) rfl rfl ?_
      refine y_iand X0 hx 19 (hb hby at_18) rfl ?_
      refine y_iconst X0 hx (5 : Int32) 20 (hb hby at_19) rfl rfl ?_
      refine iremM X0 hx rfl (hb hby at_20) rfl (by decide) ?_
      show Sx p e below s₁ m 21 #[xvi p0, xvi p1, xvi p2, xvi p3, xvi p4, xvi (0 : Int32), xun, xun, xun, xun, xun] [xwi ((((p0.toUInt32 >>> ((1 : Int32) &&& 31).toUInt32).toInt32) &&& (7 : Int32)) % (5 : Int32))] _
      rw [← e_nn]
      refine XS.istore X0.here hx rfl (hb hby at_21) rfl (l' := #[xvi p0, xvi p1, xvi p2, xvi p3, xvi p4, xvi (0 : Int32), xvi nn, xun, xun, xun, xun]) rfl ?_
      show Sx p e below s₁ m 23 #[xvi p0, xvi p1, xvi p2, xvi p3, xvi p4, xvi (0 : Int32), xvi nn, xun, xun, xun, xun] [] _
      refine y_iload X0 hx 25 (hb hby at_23) rfl rfl ?_
      refine y_ifYes X0 hx 41 (hb hby at_25) (XT.i0_eq_t (by decide)) (by decide) (by decide) ?_
      refine y_aconst_null X0 hx 42 (hb hby at_41) rfl ?_
      refine XS.astore X0.here hx rfl (hb hby at_42) rfl rfl (l' := #[xvi p0, xvi p1, xvi p2, xvi p3, xvi p4, xvi (0 : Int32), xvi nn, .val .null, xun, xun, xun]) rfl ?_
      exact k)
    have j573 : ∃ (T' : State) (h' : Heap) (locs' : List Loc) (vm' : Vm) (k' : Nat) (s8 : Addr), Stand p l e room_1 (s.setVm vm') m #[(.int p0), (.int p1), (.int p2), (.int p3), (.int p4)] below meth c T' locs' 2 5 ∧ T'.heap = h' ∧ Fr n0 locs' ∧ Keep h0 h' [] ∧ Z.Warmed39 (s.setVm vm').vm ∧ (s.setVm vm').vm.findClass "com/example/nabao/nabao/DocumentTextStartPinLaw" = some m.cls ∧ s.Since vm' k' ∧ k' ≤ h'.size ∧ CHr Z EL s.vm h0 vm' h' ∧ Exa Z h' s8 "java/lang/String" ∧ ∀ t, Sx p e below T' m 69 #[xvi p0, xvi p1, xvi p2, xvi p3, xvi p4, xvi (0 : Int32), xvi nn, .val .null, xun, xun, xun] [xwr s8] t → TG t := by
      have c574 : ∀ t, Sx p e below s₁ m 49 #[xvi p0, xvi p1, xvi p2, xvi p3, xvi p4, xvi (0 : Int32), xvi nn, .val .null, xun, xun, xun] [xwi (p0 &&& (256 : Int32))] t → TG t := fun t k => c572 t (by
        refine y_iloadN X0 hx 45 (hb hby at_44) rfl rfl ?_
        refine y_sipush X0 hx (256 : Int32) 48 (hb hby at_45) rfl rfl ?_
        refine y_iand X0 hx 49 (hb hby at_48) rfl ?_
        exact k)
      by_cases hc575 : (p0 &&& (256 : Int32)) = (0 : Int32)
      · obtain ⟨a576, T576, h576, kk576, d576, k576, X576, e576, E576, hS576, hk576, hZ576, hown576, A576, Fc576, Fv576, V576, -, -, CH576, Li576, sf576, st576⟩ := ldcCH X0 hx hZ hown (w_0 hw) (own_SA hw) e0 hS0 (Nat.le_refl _) (own_EW hw) (by decide) C0.1 (vs := []) (z := (0 : Int32)) ⟨by decide, rfl⟩ (by decide) (by decide) (g := (mkF m 67 #[xvi p0, xvi p1, xvi p2, xvi p3, xvi p4, xvi (0 : Int32), xvi nn, .val .null, xun, xun, xun] [])) rfl (hb hby at_67) (n := 0) (by decide) (by decide) (by decide) (by decide)
        have C577 := C0.trans CH576
        refine ⟨T576, h576, _, T576.vm, _, a576, own_wid X576 (by decide : 2 ≤ 2) (by decide : 4 ≤ 5), e576, N0, ((Keep.refl h0 []).ext E576), hZ576, hown576, hS576, hk576, CH576, A576, fun t k => c574 t ?_⟩
        refine y_ifYes X0 hx 67 (hb hby at_49) (XT.i0_eq_t hc575) (by decide) (by decide) ?_
        refine st576 _ ?_
        show Sx p e below T576 m 69 #[xvi p0, xvi p1, xvi p2, xvi p3, xvi p4, xvi (0 : Int32), xvi nn, .val .null, xun, xun, xun] [xwr a576] _
        exact k
      · obtain ⟨_, _, ⟨T578, L578, k578, n578⟩, -, X578, ⟨Lc578, hQ578, l578, y578, z578⟩, st578⟩ := Jvm.LawKit.callS X0 hx (y := (⟨"java/lang/String", "valueOf", "(C)Ljava/lang/String;"⟩ : MethodName)) hown (mvT hZ (w_73 hw)) (mvT hZ (w_74 hw)) (mvT hZ (w_1 hw)) (mvT hZ (w_75 hw)) (by decide) (backOf (W := 0) (rmVO l Z a0 hw G ST [] (((p0.toUInt32 >>> ((9 : Int32) &&& 31).toUInt32).toInt32) &&& (255 : Int32)) h0 n0 X00 (own_c255 ((p0.toUInt32 >>> ((9 : Int32) &&& 31).toUInt32).toInt32)).2) hZ (w_75 hw) (w_1 hw) (by decide) (by decide)) (g := (mkF m 61 #[xvi p0, xvi p1, xvi p2, xvi p3, xvi p4, xvi (0 : Int32), xvi nn, .val .null, xun, xun, xun] [xwi (((p0.toUInt32 >>> ((9 : Int32) &&& 31).toUInt32).toInt32) &&& (255 : Int32))])) rfl (by rw [hml]; rfl) (argsL := [(.int (((p0.toUInt32 >>> ((9 : Int32) &&& 31).toUInt32).toInt32) &&& (255 : Int32)))]) (rest := []) (lenOf pd_8 rfl) rfl (by show 2 * 0 + _ ≤ _; exact Nat.le_of_eq rfl) (hb hby at_61) (fun _ _ => ⟨rfl, e0, (by decide : 0 + 2 ≤ _), (by decide : 0 + 5 ≤ _)⟩)
        dsimp only [Pt.U, Pt.locs, Pt.cells, Pt.slots] at X578 l578 y578 z578 st578 hQ578
        subst l578 y578 z578
        obtain ⟨hp578, e578⟩ : ∃ z, T578.heap = z := ⟨_, rfl⟩
        rw [e578] at hQ578
        obtain ⟨o579, o580, o581, rfl, N578q, K578, p582, p583, p584, p585, p586, p587⟩ := hQ578
        have N578 := Fr.app N0 N578q
        have ch589 := CHr.keep K578 sf0 C0.1
        have C588 := C0.trans ch589
        refine ⟨T578, hp578, _, s.vm, _, o579, own_wid X578 (by decide : 2 ≤ 2) (by decide : 5 ≤ 5), e578, N578, ((Keep.refl h0 []).trans K578 all0), hZ, hown, hS0, K578.1, ch589, p583, fun t k => c574 t ?_⟩
        refine y_ifNo X0 hx 52 (hb hby at_49) (XT.i0_eq_f hc575) rfl ?_
        refine y_iloadN X0 hx 53 (hb hby at_52) rfl rfl ?_
        refine y_bipush X0 hx (9 : Int32) 55 (hb hby at_53) rfl rfl ?_
        refine XS.iushr X0.here hx rfl (hb hby at_55) rfl ?_
        show Sx p e below s₁ m 56 #[xvi p0, xvi p1, xvi p2, xvi p3, xvi p4, xvi (0 : Int32), xvi nn, .val .null, xun, xun, xun] [xwi ((p0.toUInt32 >>> ((9 : Int32) &&& 31).toUInt32).toInt32)] _
        refine y_sipush X0 hx (255 : Int32) 59 (hb hby at_56) rfl rfl ?_
        refine y_iand X0 hx 60 (hb hby at_59) rfl ?_
        refine XS.i2c X0.here hx rfl (hb hby at_60) rfl ?_
        show Sx p e below s₁ m 61 #[xvi p0, xvi p1, xvi p2, xvi p3, xvi p4, xvi (0 : Int32), xvi nn, .val .null, xun, xun, xun] [xwi ((((p0.toUInt32 >>> ((9 : Int32) &&& 31).toUInt32).toInt32) &&& (255 : Int32)).toUInt32.toUInt16.toUInt32.toInt32)] _
        rw [own_i2c ((p0.toUInt32 >>> ((9 : Int32) &&& 31).toUInt32).toInt32)]
        refine st578 _ ?_
        show Sx p e below T578 m 64 #[xvi p0, xvi p1, xvi p2, xvi p3, xvi p4, xvi (0 : Int32), xvi nn, .val .null, xun, xun, xun] [xwr o579] _
        refine y_goto X578 hx 69 (hb hby at_64) (by decide) (by decide) ?_
        exact k
    obtain ⟨T573, h573, locs573, vm573, kk573, o590, X573, e573, N573, K573, hZ573, hown573, hS573, hk573, CH573, p591, c573⟩ := j573
    have C592 := C0.trans CH573
    obtain ⟨T593, h593, X593, e593, E593, A593, D593, -, st593⟩ := newO X573 hx hZ573 hown573 (w_8 hw) (w_9 hw) (w_10 hw) e573 (g := (mkF m 71 #[xvi p0, xvi p1, xvi p2, xvi p3, xvi p4, xvi (0 : Int32), xvi nn, .val .null, xvr o590, xun, xun] [])) rfl (hb hby at_71) (by decide) (by decide)
    obtain ⟨b593, g593⟩ : ∃ z, z = h573.size := ⟨_, rfl⟩
    rw [← g593] at A593 D593 st593
    have ch595 := CHr.ext E593 C592.1
    have C594 := C592.trans ch595
    have Fb593_id : Fld Z h593 b593 "com/example/nabao/nabao/Document" "id" "Ljava/lang/String;" .null := D593 (Or.inr (w_26 hw)) (ty := (.object "java/lang/String")) (by decide)
    have Fb593_title : Fld Z h593 b593 "com/example/nabao/nabao/Document" "title" "Ljava/lang/String;" .null := D593 (Or.inr (w_28 hw)) (ty := (.object "java/lang/String")) (by decide)
    have Fb593_text : Fld Z h593 b593 "com/example/nabao/nabao/Document" "text" "Ljava/lang/String;" .null := D593 (Or.inr (w_31 hw)) (ty := (.object "java/lang/String")) (by decide)
    obtain ⟨a596, T596, h596, kk596, d596, k596, X596, e596, E596, hS596, hk596, hZ596, hown596, A596, Fc596, Fv596, V596, -, -, CH596, Li596, sf596, st596⟩ := ldcCH X593 hx hZ573 hown573 (w_11 hw) (own_SA hw) e593 hS573 (Nat.le_trans hk573 E593.1) (own_EW hw) (by decide) C594.1 (vs := [(.int (100 : Int32))]) (z := (1 : Int32)) ⟨by decide, rfl⟩ (by decide) (by decide) (g := (mkF m 75 #[xvi p0, xvi p1, xvi p2, xvi p3, xvi p4, xvi (0 : Int32), xvi nn, .val .null, xvr o590, xun, xun] [xwr b593, xwr b593])) rfl (hb hby at_75) (n := 4) (by decide) (by decide) (by decide) (by decide)
    have C597 := C594.trans CH596
    have f598 := (A593.ext E596)
    have f599 := ((p591.ext E593).ext E596)
    have f600 := (Fb593_id.ext E596)
    have f601 := (Fb593_title.ext E596)
    have f602 := (Fb593_text.ext E596)
    have Ol603 : Old Z n0 h596 := (((X00.keep K573 all0).ext E593).ext E596)
    obtain ⟨_, _, ⟨T604, L604, k604, n604⟩, -, X604, hS604, g604, ⟨Lc604, hQ604, l604, y604, z604, CH604⟩, st604⟩ := X596.specialBackS hx (y := (⟨"com/example/nabao/nabao/Document", "<init>", "(Ljava/lang/String;Ljava/lang/String;Ljava/lang/String;)V"⟩ : MethodName)) rfl hown596 (mvT hZ596 (w_12 hw)) (mvT hZ596 (w_13 hw)) (mvT hZ596 (w_14 hw)) (by decide) (backOfSH (W := 1) (rmDI l Z a0 hw G ST [] b593 a596 .null o590 .null .null .null h596 n0 Ol603 rfl f598 A596 f599 f600 f601 f602 (Nat.le_trans Z0 (Nat.le_trans K573.1 (Nat.le_of_eq g593.symm)))) hZ596 (w_14 hw) (w_10 hw) (by decide) (by decide) (own_EW hw) C597.1) (g := (mkF m 81 #[xvi p0, xvi p1, xvi p2, xvi p3, xvi p4, xvi (0 : Int32), xvi nn, .val .null, xvr o590, xun, xun] [xwr o590, .null, xwr a596, xwr b593, xwr b593])) rfl (by rw [hml]; rfl) (Steps.refl _) (a := b593) (argsL := [(.ref a596), .null, (.ref o590)]) (rest := [(.ref b593)]) (lenOf pd_9 rfl) rfl (by show 2 * 0 + _ ≤ _; exact Nat.le_of_eq rfl) (hb hby at_81) (fun _ _ => ⟨rfl, e596, (by decide : 5 + 4 ≤ _), (by decide : 16 + 32 ≤ _)⟩)
    dsimp only [Pt.U, Pt.locs, Pt.cells, Pt.slots] at X604 l604 y604 z604 st604 hQ604 CH604 hS604 g604
    subst l604 y604 z604
    obtain ⟨hp604, e604⟩ : ∃ z, T604.heap = z := ⟨_, rfl⟩
    rw [e604] at hQ604 CH604 hS604 g604
    rw [e596] at g604
    obtain ⟨X604, hS604, hZ604, hown604⟩ := rebS hS596 hk596 X604 hS604 g604 hZ596 hown596
    obtain ⟨rfl, N604q, K604, p605, p606⟩ := hQ604
    have N604 := Fr.app N573 N604q
    have C607 := C597.trans CH604
    have Ol608 : Old Z n0 hp604 := (Ol603.keep K604 (allS (Nat.le_trans Z0 (Nat.le_trans K573.1 (Nat.le_of_eq g593.symm))) all0))
    obtain ⟨cq610, kq610, q610a, q610b, q610c⟩ := isOf hZ604 e604 p605
    obtain ⟨_, _, ⟨T609, L609, k609, n609⟩, -, X609, ⟨Lc609, hQ609, l609, y609, z609⟩, st609⟩ := X604.virtualBack hx (y := (⟨"com/example/nabao/nabao/Document", "textStart", "()I"⟩ : MethodName)) (z := (⟨"com/example/nabao/nabao/Document", "textStart", "()I"⟩ : MethodName)) hown604 (mvT hZ604 (w_32 hw)) (mvT hZ604 (w_33 hw)) (notFace_of_selects (args := #[]) (mvT hZ604 (w_35 hw))) (mvT hZ604 (w_35 hw)) (mvT hZ604 (w_34 hw)) (by decide) (backOf (W := 0) (rmT0 l Z a0 hw G ST [] b593 hp604 n0 Ol608 p606) hZ604 (w_36 hw) (w_10 hw) (by decide) (by decide)) q610a q610c (g := (mkF m 103 #[xvi p0, xvi p1, xvi p2, xvi p3, xvi p4, xvi (0 : Int32), xvi nn, .val .null, xvr o590, xvr b593, xvi (0 : Int32)] [xwr b593])) rfl (by rw [hml]; rfl) (Steps.refl _) (argsL := []) (rest := []) (lenOf pd_7 rfl) rfl (by show 2 * 0 + _ ≤ _; exact Nat.le_of_eq rfl) (hb hby at_103) (fun _ _ => ⟨rfl, e604, (by decide : 9 + 0 ≤ _), (by decide : 48 + 0 ≤ _)⟩)
    dsimp only [Pt.U, Pt.locs, Pt.cells, Pt.slots] at X609 l609 y609 z609 st609 hQ609
    subst l609 y609 z609
    obtain ⟨rfl, N609q, e609⟩ := hQ609
    have N609 := Fr.app N604 N609q
    obtain ⟨fs, hr, hrun, hended, hE⟩ := X609.leaveW hS604 (by rw [e609]; exact (Nat.le_refl _)) (v := some (.int (1 : Int32))) (fun h => by rw [Bd.returns] at h; cases h)
    refine ⟨_, _, hTG _ (c573 _ ?_), hrun, hended, _, _, rfl, ?_, ?_, hE.1, hE.2.1, hE.2.2.1, hE.2.2.2.mono (by decide) (by decide)⟩
    · refine XS.astore X573.here hx rfl (hb hby at_69) rfl rfl (l' := #[xvi p0, xvi p1, xvi p2, xvi p3, xvi p4, xvi (0 : Int32), xvi nn, .val .null, xvr o590, xun, xun]) rfl ?_
      show Sx p e below T573 m 71 #[xvi p0, xvi p1, xvi p2, xvi p3, xvi p4, xvi (0 : Int32), xvi nn, .val .null, xvr o590, xun, xun] [] _
      refine st593 _ ?_
      show Sx p e below T593 m 74 #[xvi p0, xvi p1, xvi p2, xvi p3, xvi p4, xvi (0 : Int32), xvi nn, .val .null, xvr o590, xun, xun] [xwr b593] _
      refine y_dup X593 hx 75 (hb hby at_74) rfl rfl ?_
      refine st596 _ ?_
      show Sx p e below T596 m 77 #[xvi p0, xvi p1, xvi p2, xvi p3, xvi p4, xvi (0 : Int32), xvi nn, .val .null, xvr o590, xun, xun] [xwr a596, xwr b593, xwr b593] _
      refine y_aload X596 hx 79 (hb hby at_77) rfl rfl rfl ?_
      refine y_aload X596 hx 81 (hb hby at_79) rfl rfl rfl ?_
      refine st604.trans ?_
      show Sx p e below T604 m 84 #[xvi p0, xvi p1, xvi p2, xvi p3, xvi p4, xvi (0 : Int32), xvi nn, .val .null, xvr o590, xun, xun] [xwr b593] _
      refine XS.astore X604.here hx rfl (hb hby at_84) rfl rfl (l' := #[xvi p0, xvi p1, xvi p2, xvi p3, xvi p4, xvi (0 : Int32), xvi nn, .val .null, xvr o590, xvr b593, xun]) rfl ?_
      show Sx p e below T604 m 86 #[xvi p0, xvi p1, xvi p2, xvi p3, xvi p4, xvi (0 : Int32), xvi nn, .val .null, xvr o590, xvr b593, xun] [] _
      refine y_iload X604 hx 88 (hb hby at_86) rfl rfl ?_
      refine y_ifYes X604 hx 98 (hb hby at_88) (XT.i0_eq_t (by decide)) (by decide) (by decide) ?_
      refine y_iconst X604 hx (0 : Int32) 99 (hb hby at_98) rfl rfl ?_
      refine XS.istore X604.here hx rfl (hb hby at_99) rfl (l' := #[xvi p0, xvi p1, xvi p2, xvi p3, xvi p4, xvi (0 : Int32), xvi nn, .val .null, xvr o590, xvr b593, xvi (0 : Int32)]) rfl ?_
      show Sx p e below T604 m 101 #[xvi p0, xvi p1, xvi p2, xvi p3, xvi p4, xvi (0 : Int32), xvi nn, .val .null, xvr o590, xvr b593, xvi (0 : Int32)] [] _
      refine y_aload X604 hx 103 (hb hby at_101) rfl rfl rfl ?_
      refine st609.trans ?_
      show Sx p e below T609 m 106 #[xvi p0, xvi p1, xvi p2, xvi p3, xvi p4, xvi (0 : Int32), xvi nn, .val .null, xvr o590, xvr b593, xvi (0 : Int32)] [xwi (0 : Int32)] _
      refine y_iload X609 hx 108 (hb hby at_106) rfl rfl ?_
      refine y_icmpNo X609 hx 111 (hb hby at_108) (XT.ii_ne_f (by decide)) rfl ?_
      refine y_iconst X609 hx (1 : Int32) 112 (hb hby at_111) rfl rfl ?_
      refine y_goto X609 hx 116 (hb hby at_112) (by decide) (by decide) ?_
      show Sx p e below T609 m 116 #[xvi p0, xvi p1, xvi p2, xvi p3, xvi p4, xvi (0 : Int32), xvi nn, .val .null, xvr o590, xvr b593, xvi (0 : Int32)] [xwi (1 : Int32)] _
      exact retN X609 hx (t := .boolean) Bd.returns (by simp) (hb hby at_116) (hr)
    · show Qrm0 Z G p0 p1 p2 p3 p4 h0 n0 _ T609.heap _
      rw [e609]
      exact ⟨rfl, N609, (((((Keep.refl h0 []).trans K573 all0).ext E593).ext E596).trans K604 (allS (Or.inr (Nat.le_trans K573.1 (Nat.le_of_eq g593.symm))) all0))⟩
    · rw [hh]; show CHr Z EL s.vm h0 T609.vm T609.heap; rw [e609]; exact C607.trans (CHv.at X609 hZ604 (own_EW hw) C607.1)
  · obtain ⟨nn, e_nn⟩ : ∃ z, z = ((((p0.toUInt32 >>> ((1 : Int32) &&& 31).toUInt32).toInt32) &&& (7 : Int32)) % (5 : Int32)) := ⟨_, rfl⟩
    obtain ⟨_, _, ⟨T611, L611, k611, n611⟩, -, X611, hS611, g611, ⟨Lc611, hQ611, l611, y611, z611, CH611⟩, st611⟩ := callSS X0 hx (y := (⟨"com/example/nabao/nabao/DocumentTextStartPinLaw", "make", "(IIIII)Ljava/lang/String;"⟩ : MethodName)) hown (mvT hZ (w_37 hw)) (mvT hZ (w_38 hw)) (mvT hZ (w_39 hw)) (mvT hZ (w_40 hw)) (by decide) (backOfSH (W := 0) (rmMk l Z a0 hw G ST [] nn p1 p2 p3 p4 h0 n0 X00 (by rw [e_nn]; exact own_mod5 _)) hZ (w_40 hw) (w_39 hw) (by decide) (by decide) (own_EW hw) C0.1) (g := (mkF m 35 #[xvi p0, xvi p1, xvi p2, xvi p3, xvi p4, xvi (1 : Int32), xvi nn, xun, xun, xun, xun] [xwi p4, xwi p3, xwi p2, xwi p1, xwi nn])) rfl (by rw [hml]; rfl) (argsL := [(.int nn), (.int p1), (.int p2), (.int p3), (.int p4)]) (rest := []) (lenOf pd_10 rfl) rfl (by show 2 * 0 + _ ≤ _; exact Nat.le_of_eq rfl) (hb hby at_35) (fun _ _ => ⟨rfl, e0, (by decide : 0 + 4 ≤ _), (by decide : 0 + 12 ≤ _)⟩)
    dsimp only [Pt.U, Pt.locs, Pt.cells, Pt.slots] at X611 l611 y611 z611 st611 hQ611 CH611 hS611 g611
    subst l611 y611 z611
    obtain ⟨hp611, e611⟩ : ∃ z, T611.heap = z := ⟨_, rfl⟩
    rw [e611] at hQ611 CH611 hS611 g611
    rw [e0] at g611
    obtain ⟨X611, hS611, hZ611, hown611⟩ := rebS hS0 (Nat.le_refl _) X611 hS611 g611 hZ hown
    obtain ⟨o612, o613, o614, o615, rfl, N611q, K611, p616, p617, p618, p619⟩ := hQ611
    have N611 := Fr.app N0 N611q
    have C620 := C0.trans CH611
    have c621 : ∀ t, Sx p e below T611 m 44 #[xvi p0, xvi p1, xvi p2, xvi p3, xvi p4, xvi (1 : Int32), xvi nn, xvr o612, xun, xun, xun] [] t → TG t := fun t k => c570 t (by
      refine y_ifNo X0 hx 6 (hb hby at_3) (XT.i0_eq_f hc571) rfl ?_
      refine y_iconst X0 hx (1 : Int32) 7 (hb hby at_6) rfl rfl ?_
      refine y_goto X0 hx 11 (hb hby at_7) (by decide) (by decide) ?_
      refine XS.istore X0.here hx rfl (hb hby at_11) rfl (l' := #[xvi p0, xvi p1, xvi p2, xvi p3, xvi p4, xvi (1 : Int32), xun, xun, xun, xun, xun]) rfl ?_
      show Sx p e below s₁ m 13 #[xvi p0, xvi p1, xvi p2, xvi p3, xvi p4, xvi (1 : Int32), xun, xun, xun, xun, xun] [] _
      refine y_iloadN X0 hx 14 (hb hby at_13) rfl rfl ?_
      refine y_iconst X0 hx (1 : Int32) 15 (hb hby at_14) rfl rfl ?_
      refine XS.iushr X0.here hx rfl (hb hby at_15) rfl ?_
      show Sx p e below s₁ m 16 #[xvi p0, xvi p1, xvi p2, xvi p3, xvi p4, xvi (1 : Int32), xun, xun, xun, xun, xun] [xwi ((p0.toUInt32 >>> ((1 : Int32) &&& 31).toUInt32).toInt32)] _
      refine y_bipush X0 hx (7 : Int32) 18 (hb hby at_16) rfl rfl ?_
      refine y_iand X0 hx 19 (hb hby at_18) rfl ?_
      refine y_iconst X0 hx (5 : Int32) 20 (hb hby at_19) rfl rfl ?_
      refine iremM X0 hx rfl (hb hby at_20) rfl (by decide) ?_
      show Sx p e below s₁ m 21 #[xvi p0, xvi p1, xvi p2, xvi p3, xvi p4, xvi (1 : Int32), xun, xun, xun, xun, xun] [xwi ((((p0.toUInt32 >>> ((1 : Int32) &&& 31).toUInt32).toInt32) &&& (7 : Int32)) % (5 : Int32))] _
      rw [← e_nn]
      refine XS.istore X0.here hx rfl (hb hby at_21) rfl (l' := #[xvi p0, xvi p1, xvi p2, xvi p3, xvi p4, xvi (1 : Int32), xvi nn, xun, xun, xun, xun]) rfl ?_
      show Sx p e below s₁ m 23 #[xvi p0, xvi p1, xvi p2, xvi p3, xvi p4, xvi (1 : Int32), xvi nn, xun, xun, xun, xun] [] _
      refine y_iload X0 hx 25 (hb hby at_23) rfl rfl ?_
      refine y_ifNo X0 hx 28 (hb hby at_25) (XT.i0_eq_f (by decide)) rfl ?_
      refine y_iload X0 hx 30 (hb hby at_28) rfl rfl ?_
      refine y_iloadN X0 hx 31 (hb hby at_30) rfl rfl ?_
      refine y_iloadN X0 hx 32 (hb hby at_31) rfl rfl ?_
      refine y_iloadN X0 hx 33 (hb hby at_32) rfl rfl ?_
      refine y_iload X0 hx 35 (hb hby at_33) rfl rfl ?_
      refine st611.trans ?_
      show Sx p e below T611 m 38 #[xvi p0, xvi p1, xvi p2, xvi p3, xvi p4, xvi (1 : Int32), xvi nn, xun, xun, xun, xun] [xwr o612] _
      refine y_goto X611 hx 42 (hb hby at_38) (by decide) (by decide) ?_
      refine XS.astore X611.here hx rfl (hb hby at_42) rfl rfl (l' := #[xvi p0, xvi p1, xvi p2, xvi p3, xvi p4, xvi (1 : Int32), xvi nn, xvr o612, xun, xun, xun]) rfl ?_
      exact k)
    have j622 : ∃ (T' : State) (h' : Heap) (locs' : List Loc) (vm' : Vm) (k' : Nat) (s8 : Addr), Stand p l e room_1 (s.setVm vm') m #[(.int p0), (.int p1), (.int p2), (.int p3), (.int p4)] below meth c T' locs' 6 17 ∧ T'.heap = h' ∧ Fr n0 locs' ∧ Keep hp611 h' [] ∧ Z.Warmed39 (s.setVm vm').vm ∧ (s.setVm vm').vm.findClass "com/example/nabao/nabao/DocumentTextStartPinLaw" = some m.cls ∧ s.Since vm' k' ∧ k' ≤ h'.size ∧ CHr Z EL T611.vm hp611 vm' h' ∧ Exa Z h' s8 "java/lang/String" ∧ ∀ t, Sx p e below T' m 69 #[xvi p0, xvi p1, xvi p2, xvi p3, xvi p4, xvi (1 : Int32), xvi nn, xvr o612, xun, xun, xun] [xwr s8] t → TG t := by
      have c623 : ∀ t, Sx p e below T611 m 49 #[xvi p0, xvi p1, xvi p2, xvi p3, xvi p4, xvi (1 : Int32), xvi nn, xvr o612, xun, xun, xun] [xwi (p0 &&& (256 : Int32))] t → TG t := fun t k => c621 t (by
        refine y_iloadN X611 hx 45 (hb hby at_44) rfl rfl ?_
        refine y_sipush X611 hx (256 : Int32) 48 (hb hby at_45) rfl rfl ?_
        refine y_iand X611 hx 49 (hb hby at_48) rfl ?_
        exact k)
      by_cases hc624 : (p0 &&& (256 : Int32)) = (0 : Int32)
      · obtain ⟨a625, T625, h625, kk625, d625, k625, X625, e625, E625, hS625, hk625, hZ625, hown625, A625, Fc625, Fv625, V625, -, -, CH625, Li625, sf625, st625⟩ := ldcCH X611 hx hZ611 hown611 (w_0 hw) (own_SA hw) e611 hS611 (Nat.le_refl _) (own_EW hw) (by decide) C620.1 (vs := []) (z := (0 : Int32)) ⟨by decide, rfl⟩ (by decide) (by decide) (g := (mkF m 67 #[xvi p0, xvi p1, xvi p2, xvi p3, xvi p4, xvi (1 : Int32), xvi nn, xvr o612, xun, xun, xun] [])) rfl (hb hby at_67) (n := 0) (by decide) (by decide) (by decide) (by decide)
        have C626 := C620.trans CH625
        refine ⟨T625, h625, _, T625.vm, _, a625, own_wid X625 (by decide : 6 ≤ 6) (by decide : 16 ≤ 17), e625, N611, ((Keep.refl hp611 []).ext E625), hZ625, hown625, hS625, hk625, CH625, A625, fun t k => c623 t ?_⟩
        refine y_ifYes X611 hx 67 (hb hby at_49) (XT.i0_eq_t hc624) (by decide) (by decide) ?_
        refine st625 _ ?_
        show Sx p e below T625 m 69 #[xvi p0, xvi p1, xvi p2, xvi p3, xvi p4, xvi (1 : Int32), xvi nn, xvr o612, xun, xun, xun] [xwr a625] _
        exact k
      · have Ol627 : Old Z n0 hp611 := (X00.keep K611 all0)
        obtain ⟨_, _, ⟨T628, L628, k628, n628⟩, -, X628, ⟨Lc628, hQ628, l628, y628, z628⟩, st628⟩ := Jvm.LawKit.callS X611 hx (y := (⟨"java/lang/String", "valueOf", "(C)Ljava/lang/String;"⟩ : MethodName)) hown611 (mvT hZ611 (w_73 hw)) (mvT hZ611 (w_74 hw)) (mvT hZ611 (w_1 hw)) (mvT hZ611 (w_75 hw)) (by decide) (backOf (W := 0) (rmVO l Z a0 hw G ST [] (((p0.toUInt32 >>> ((9 : Int32) &&& 31).toUInt32).toInt32) &&& (255 : Int32)) hp611 n0 Ol627 (own_c255 ((p0.toUInt32 >>> ((9 : Int32) &&& 31).toUInt32).toInt32)).2) hZ611 (w_75 hw) (w_1 hw) (by decide) (by decide)) (g := (mkF m 61 #[xvi p0, xvi p1, xvi p2, xvi p3, xvi p4, xvi (1 : Int32), xvi nn, xvr o612, xun, xun, xun] [xwi (((p0.toUInt32 >>> ((9 : Int32) &&& 31).toUInt32).toInt32) &&& (255 : Int32))])) rfl (by rw [hml]; rfl) (argsL := [(.int (((p0.toUInt32 >>> ((9 : Int32) &&& 31).toUInt32).toInt32) &&& (255 : Int32)))]) (rest := []) (lenOf pd_8 rfl) rfl (by show 2 * 0 + _ ≤ _; exact Nat.le_of_eq rfl) (hb hby at_61) (fun _ _ => ⟨rfl, e611, (by decide : 4 + 2 ≤ _), (by decide : 12 + 5 ≤ _)⟩)
        dsimp only [Pt.U, Pt.locs, Pt.cells, Pt.slots] at X628 l628 y628 z628 st628 hQ628
        subst l628 y628 z628
        obtain ⟨hp628, e628⟩ : ∃ z, T628.heap = z := ⟨_, rfl⟩
        rw [e628] at hQ628
        obtain ⟨o629, o630, o631, rfl, N628q, K628, p632, p633, p634, p635, p636, p637⟩ := hQ628
        have N628 := Fr.app N611 N628q
        have ch639 := CHr.keep K628 sf0 C620.1
        have C638 := C620.trans ch639
        refine ⟨T628, hp628, _, T611.vm, _, o629, own_wid X628 (by decide : 6 ≤ 6) (by decide : 17 ≤ 17), e628, N628, ((Keep.refl hp611 []).trans K628 all0), hZ611, hown611, hS611, K628.1, ch639, p633, fun t k => c623 t ?_⟩
        refine y_ifNo X611 hx 52 (hb hby at_49) (XT.i0_eq_f hc624) rfl ?_
        refine y_iloadN X611 hx 53 (hb hby at_52) rfl rfl ?_
        refine y_bipush X611 hx (9 : Int32) 55 (hb hby at_53) rfl rfl ?_
        refine XS.iushr X611.here hx rfl (hb hby at_55) rfl ?_
        show Sx p e below T611 m 56 #[xvi p0, xvi p1, xvi p2, xvi p3, xvi p4, xvi (1 : Int32), xvi nn, xvr o612, xun, xun, xun] [xwi ((p0.toUInt32 >>> ((9 : Int32) &&& 31).toUInt32).toInt32)] _
        refine y_sipush X611 hx (255 : Int32) 59 (hb hby at_56) rfl rfl ?_
        refine y_iand X611 hx 60 (hb hby at_59) rfl ?_
        refine XS.i2c X611.here hx rfl (hb hby at_60) rfl ?_
        show Sx p e below T611 m 61 #[xvi p0, xvi p1, xvi p2, xvi p3, xvi p4, xvi (1 : Int32), xvi nn, xvr o612, xun, xun, xun] [xwi ((((p0.toUInt32 >>> ((9 : Int32) &&& 31).toUInt32).toInt32) &&& (255 : Int32)).toUInt32.toUInt16.toUInt32.toInt32)] _
        rw [own_i2c ((p0.toUInt32 >>> ((9 : Int32) &&& 31).toUInt32).toInt32)]
        refine st628 _ ?_
        show Sx p e below T628 m 64 #[xvi p0, xvi p1, xvi p2, xvi p3, xvi p4, xvi (1 : Int32), xvi nn, xvr o612, xun, xun, xun] [xwr o629] _
        refine y_goto X628 hx 69 (hb hby at_64) (by decide) (by decide) ?_
        exact k
    obtain ⟨T622, h622, locs622, vm622, kk622, o640, X622, e622, N622, K622, hZ622, hown622, hS622, hk622, CH622, p641, c622⟩ := j622
    have C642 := C620.trans CH622
    obtain ⟨T643, h643, X643, e643, E643, A643, D643, -, st643⟩ := newO X622 hx hZ622 hown622 (w_8 hw) (w_9 hw) (w_10 hw) e622 (g := (mkF m 71 #[xvi p0, xvi p1, xvi p2, xvi p3, xvi p4, xvi (1 : Int32), xvi nn, xvr o612, xvr o640, xun, xun] [])) rfl (hb hby at_71) (by decide) (by decide)
    obtain ⟨b643, g643⟩ : ∃ z, z = h622.size := ⟨_, rfl⟩
    rw [← g643] at A643 D643 st643
    have ch645 := CHr.ext E643 C642.1
    have C644 := C642.trans ch645
    have Fb643_id : Fld Z h643 b643 "com/example/nabao/nabao/Document" "id" "Ljava/lang/String;" .null := D643 (Or.inr (w_26 hw)) (ty := (.object "java/lang/String")) (by decide)
    have Fb643_title : Fld Z h643 b643 "com/example/nabao/nabao/Document" "title" "Ljava/lang/String;" .null := D643 (Or.inr (w_28 hw)) (ty := (.object "java/lang/String")) (by decide)
    have Fb643_text : Fld Z h643 b643 "com/example/nabao/nabao/Document" "text" "Ljava/lang/String;" .null := D643 (Or.inr (w_31 hw)) (ty := (.object "java/lang/String")) (by decide)
    obtain ⟨a646, T646, h646, kk646, d646, k646, X646, e646, E646, hS646, hk646, hZ646, hown646, A646, Fc646, Fv646, V646, -, -, CH646, Li646, sf646, st646⟩ := ldcCH X643 hx hZ622 hown622 (w_11 hw) (own_SA hw) e643 hS622 (Nat.le_trans hk622 E643.1) (own_EW hw) (by decide) C644.1 (vs := [(.int (100 : Int32))]) (z := (1 : Int32)) ⟨by decide, rfl⟩ (by decide) (by decide) (g := (mkF m 75 #[xvi p0, xvi p1, xvi p2, xvi p3, xvi p4, xvi (1 : Int32), xvi nn, xvr o612, xvr o640, xun, xun] [xwr b643, xwr b643])) rfl (hb hby at_75) (n := 4) (by decide) (by decide) (by decide) (by decide)
    have C647 := C644.trans CH646
    have f648 := (A643.ext E646)
    have f649 := ((p641.ext E643).ext E646)
    have f650 := (Fb643_id.ext E646)
    have f651 := (Fb643_title.ext E646)
    have f652 := (Fb643_text.ext E646)
    have Ol653 : Old Z n0 h646 := ((((X00.keep K611 all0).keep K622 all0).ext E643).ext E646)
    obtain ⟨_, _, ⟨T654, L654, k654, n654⟩, -, X654, hS654, g654, ⟨Lc654, hQ654, l654, y654, z654, CH654⟩, st654⟩ := X646.specialBackS hx (y := (⟨"com/example/nabao/nabao/Document", "<init>", "(Ljava/lang/String;Ljava/lang/String;Ljava/lang/String;)V"⟩ : MethodName)) rfl hown646 (mvT hZ646 (w_12 hw)) (mvT hZ646 (w_13 hw)) (mvT hZ646 (w_14 hw)) (by decide) (backOfSH (W := 1) (rmDI l Z a0 hw G ST [] b643 a646 (.ref o612) o640 .null .null .null h646 n0 Ol653 rfl f648 A646 f649 f650 f651 f652 (Nat.le_trans Z0 (Nat.le_trans (Nat.le_trans K611.1 K622.1) (Nat.le_of_eq g643.symm)))) hZ646 (w_14 hw) (w_10 hw) (by decide) (by decide) (own_EW hw) C647.1) (g := (mkF m 81 #[xvi p0, xvi p1, xvi p2, xvi p3, xvi p4, xvi (1 : Int32), xvi nn, xvr o612, xvr o640, xun, xun] [xwr o640, xwr o612, xwr a646, xwr b643, xwr b643])) rfl (by rw [hml]; rfl) (Steps.refl _) (a := b643) (argsL := [(.ref a646), (.ref o612), (.ref o640)]) (rest := [(.ref b643)]) (lenOf pd_9 rfl) rfl (by show 2 * 0 + _ ≤ _; exact Nat.le_of_eq rfl) (hb hby at_81) (fun _ _ => ⟨rfl, e646, (by decide : 9 + 4 ≤ _), (by decide : 28 + 32 ≤ _)⟩)
    dsimp only [Pt.U, Pt.locs, Pt.cells, Pt.slots] at X654 l654 y654 z654 st654 hQ654 CH654 hS654 g654
    subst l654 y654 z654
    obtain ⟨hp654, e654⟩ : ∃ z, T654.heap = z := ⟨_, rfl⟩
    rw [e654] at hQ654 CH654 hS654 g654
    rw [e646] at g654
    obtain ⟨X654, hS654, hZ654, hown654⟩ := rebS hS646 hk646 X654 hS654 g654 hZ646 hown646
    obtain ⟨rfl, N654q, K654, p655, p656⟩ := hQ654
    have N654 := Fr.app N622 N654q
    have C657 := C647.trans CH654
    have f658 := ((((p616.keep K622).ext E643).ext E646).keep K654)
    have f659 := ((((p617.keep K622 nin0).ext E643).ext E646).keep K654 (ninS (Nat.ne_of_lt (Nat.lt_of_lt_of_le (Nat.lt_of_lt_of_le p616.lt K622.1) (Nat.le_of_eq g643.symm))) nin0))
    have f660 := ((((p618.keep K622 nin0).ext E643).ext E646).keep K654 (ninS (Nat.ne_of_lt (Nat.lt_of_lt_of_le (Nat.lt_of_lt_of_le p616.lt K622.1) (Nat.le_of_eq g643.symm))) nin0))
    have f661 := ((((p619.keep K622 nin0).ext E643).ext E646).keep K654 (ninS (Nat.ne_of_lt (Nat.lt_of_lt_of_le (Nat.lt_of_lt_of_le p619.lt K622.1) (Nat.le_of_eq g643.symm))) nin0))
    have Ol662 : Old Z n0 hp654 := (Ol653.keep K654 (allS (Nat.le_trans Z0 (Nat.le_trans (Nat.le_trans K611.1 K622.1) (Nat.le_of_eq g643.symm))) all0))
    obtain ⟨cq664, kq664, q664a, q664b, q664c⟩ := isOf hZ654 e654 p655
    obtain ⟨_, _, ⟨T663, L663, k663, n663⟩, -, X663, ⟨Lc663, hQ663, l663, y663, z663⟩, st663⟩ := X654.virtualBack hx (y := (⟨"com/example/nabao/nabao/Document", "textStart", "()I"⟩ : MethodName)) (z := (⟨"com/example/nabao/nabao/Document", "textStart", "()I"⟩ : MethodName)) hown654 (mvT hZ654 (w_32 hw)) (mvT hZ654 (w_33 hw)) (notFace_of_selects (args := #[]) (mvT hZ654 (w_35 hw))) (mvT hZ654 (w_35 hw)) (mvT hZ654 (w_34 hw)) (by decide) (backOf (W := 0) (rmT1 l Z a0 hw G ST [] b643 o612 o613 o614 nn (o615 : List Value) (.int (0 : Int32)) hp654 n0 Ol662 p656 f658 f659 f660 f661) hZ654 (w_36 hw) (w_10 hw) (by decide) (by decide)) q664a q664c (g := (mkF m 103 #[xvi p0, xvi p1, xvi p2, xvi p3, xvi p4, xvi (1 : Int32), xvi nn, xvr o612, xvr o640, xvr b643, xvi (nn + (1 : Int32))] [xwr b643])) rfl (by rw [hml]; rfl) (Steps.refl _) (argsL := []) (rest := []) (lenOf pd_7 rfl) rfl (by show 2 * 0 + _ ≤ _; exact Nat.le_of_eq rfl) (hb hby at_103) (fun _ _ => ⟨rfl, e654, (by decide : 13 + 0 ≤ _), (by decide : 60 + 0 ≤ _)⟩)
    dsimp only [Pt.U, Pt.locs, Pt.cells, Pt.slots] at X663 l663 y663 z663 st663 hQ663
    subst l663 y663 z663
    obtain ⟨rfl, N663q, e663⟩ := hQ663
    have N663 := Fr.app N654 N663q
    obtain ⟨fs, hr, hrun, hended, hE⟩ := X663.leaveW hS654 (by rw [e663]; exact (Nat.le_refl _)) (v := some (.int (1 : Int32))) (fun h => by rw [Bd.returns] at h; cases h)
    refine ⟨_, _, hTG _ (c622 _ ?_), hrun, hended, _, _, rfl, ?_, ?_, hE.1, hE.2.1, hE.2.2.1, hE.2.2.2.mono (by decide) (by decide)⟩
    · refine XS.astore X622.here hx rfl (hb hby at_69) rfl rfl (l' := #[xvi p0, xvi p1, xvi p2, xvi p3, xvi p4, xvi (1 : Int32), xvi nn, xvr o612, xvr o640, xun, xun]) rfl ?_
      show Sx p e below T622 m 71 #[xvi p0, xvi p1, xvi p2, xvi p3, xvi p4, xvi (1 : Int32), xvi nn, xvr o612, xvr o640, xun, xun] [] _
      refine st643 _ ?_
      show Sx p e below T643 m 74 #[xvi p0, xvi p1, xvi p2, xvi p3, xvi p4, xvi (1 : Int32), xvi nn, xvr o612, xvr o640, xun, xun] [xwr b643] _
      refine y_dup X643 hx 75 (hb hby at_74) rfl rfl ?_
      refine st646 _ ?_
      show Sx p e below T646 m 77 #[xvi p0, xvi p1, xvi p2, xvi p3, xvi p4, xvi (1 : Int32), xvi nn, xvr o612, xvr o640, xun, xun] [xwr a646, xwr b643, xwr b643] _
      refine y_aload X646 hx 79 (hb hby at_77) rfl rfl rfl ?_
      refine y_aload X646 hx 81 (hb hby at_79) rfl rfl rfl ?_
      refine st654.trans ?_
      show Sx p e below T654 m 84 #[xvi p0, xvi p1, xvi p2, xvi p3, xvi p4, xvi (1 : Int32), xvi nn, xvr o612, xvr o640, xun, xun] [xwr b643] _
      refine XS.astore X654.here hx rfl (hb hby at_84) rfl rfl (l' := #[xvi p0, xvi p1, xvi p2, xvi p3, xvi p4, xvi (1 : Int32), xvi nn, xvr o612, xvr o640, xvr b643, xun]) rfl ?_
      show Sx p e below T654 m 86 #[xvi p0, xvi p1, xvi p2, xvi p3, xvi p4, xvi (1 : Int32), xvi nn, xvr o612, xvr o640, xvr b643, xun] [] _
      refine y_iload X654 hx 88 (hb hby at_86) rfl rfl ?_
      refine y_ifNo X654 hx 91 (hb hby at_88) (XT.i0_eq_f (by decide)) rfl ?_
      refine y_iload X654 hx 93 (hb hby at_91) rfl rfl ?_
      refine y_iconst X654 hx (1 : Int32) 94 (hb hby at_93) rfl rfl ?_
      refine y_iadd X654 hx 95 (hb hby at_94) rfl ?_
      refine y_goto X654 hx 99 (hb hby at_95) (by decide) (by decide) ?_
      refine XS.istore X654.here hx rfl (hb hby at_99) rfl (l' := #[xvi p0, xvi p1, xvi p2, xvi p3, xvi p4, xvi (1 : Int32), xvi nn, xvr o612, xvr o640, xvr b643, xvi (nn + (1 : Int32))]) rfl ?_
      show Sx p e below T654 m 101 #[xvi p0, xvi p1, xvi p2, xvi p3, xvi p4, xvi (1 : Int32), xvi nn, xvr o612, xvr o640, xvr b643, xvi (nn + (1 : Int32))] [] _
      refine y_aload X654 hx 103 (hb hby at_101) rfl rfl rfl ?_
      refine st663.trans ?_
      show Sx p e below T663 m 106 #[xvi p0, xvi p1, xvi p2, xvi p3, xvi p4, xvi (1 : Int32), xvi nn, xvr o612, xvr o640, xvr b643, xvi (nn + (1 : Int32))] [xwi (nn + (1 : Int32))] _
      refine y_iload X663 hx 108 (hb hby at_106) rfl rfl ?_
      refine y_icmpNo X663 hx 111 (hb hby at_108) (XT.ii_ne_f rfl) rfl ?_
      refine y_iconst X663 hx (1 : Int32) 112 (hb hby at_111) rfl rfl ?_
      refine y_goto X663 hx 116 (hb hby at_112) (by decide) (by decide) ?_
      show Sx p e below T663 m 116 #[xvi p0, xvi p1, xvi p2, xvi p3, xvi p4, xvi (1 : Int32), xvi nn, xvr o612, xvr o640, xvr b643, xvi (nn + (1 : Int32))] [xwi (1 : Int32)] _
      exact retN X663 hx (t := .boolean) Bd.returns (by simp) (hb hby at_116) (hr)
    · show Qrm0 Z G p0 p1 p2 p3 p4 h0 n0 _ T663.heap _
      rw [e663]
      exact ⟨rfl, N663, ((((((Keep.refl h0 []).trans K611 all0).trans K622 all0).ext E643).ext E646).trans K654 (allS (Or.inr (Nat.le_trans (Nat.le_trans K611.1 K622.1) (Nat.le_of_eq g643.symm))) all0))⟩
    · rw [hh]; show CHr Z EL s.vm h0 T663.vm T663.heap; rw [e663]; exact C657.trans (CHv.at X663 hZ654 (own_EW hw) C657.1)
set_option maxRecDepth 65536 in
set_option maxHeartbeats 40000000 in
theorem comes_1 {Post : Tables → Env → Array Value → State → Outcome → State → Prop} (hpost : ∀ tb e args s v u, (limb_1_1.after args s (.returned v) u = true ∧ limb_1_2.after args s (.returned v) u = true ∧ True) → ReturnedEndW s (.returned v) u (Jvm.fieldLocs frame_1_writes args s ++ Jvm.arrayLocs frame_1_arrays args s ++ Jvm.staticLocs frame_1_statics s) 32 5248 → Post tb e args s (.returned v) u) :
    ArmFor flags0 classFile x code maxLocals ret World_1 tables_1 room_1 Calls_1 rest_1 Pre_1 Post := by
  intro l hfl _ _ p e ha hc hk s m args below hf hA hF happ hP
  obtain ⟨hcalls, hrest, hpre⟩ := hP
  obtain ⟨-, -, -, hnamed, -, -, -, hat⟩ := (Spec.applies_iff hf).mp happ
  obtain ⟨hg, hn⟩ := and_e (Cond.before_iff.mp (show (Jvm.Cond.and given_1 narrow_1).before args s = true from hpre))
  obtain ⟨hcnt, hg⟩ := and_e hg
  obtain ⟨w0, w1, w2, w3, w4, rfl⟩ : ∃ w0 w1 w2 w3 w4 : Value, args = #[w0, w1, w2, w3, w4] := by
    have hs : args.size = 5 := by simpa [Cond.value, given_1] using hcnt
    obtain ⟨L⟩ := args
    match L, hs with
    | [w0, w1, w2, w3, w4], _ => exact ⟨w0, w1, w2, w3, w4, rfl⟩
  have hw := fun d (hd : d ∈ tables_1) => atoms_spec (ws := Jvm.Cond.code x code maxLocals ret :: tables_1) hat d (List.mem_cons_of_mem _ hd)
  have hfit : Fit s := fun {y c} hc i hi => by
    obtain ⟨ha, rfl⟩ := Array.getElem?_eq_some_iff.mp hc
    have q := List.all_eq_true.mp ((Array.all_eq_true_iff_forall_mem.mp hF) _ (Array.getElem_mem ha)) i (List.mem_range.mpr hi)
    simpa [Array.getElem?_eq_getElem hi] using q
  obtain ⟨hsets, hown0⟩ := atoms_of _ (rest_1_c_eq ▸ (show rest_1_c.before _ s = true from hrest))
  obtain ⟨ga0, gb0⟩ := and_e hg
  obtain ⟨i0, ei0⟩ := is_v ga0
  obtain rfl : w0 = (.int i0) := Option.some.inj ei0
  obtain ⟨ga1, gb1⟩ := and_e gb0
  obtain ⟨i1, ei1⟩ := is_v ga1
  obtain rfl : w1 = (.int i1) := Option.some.inj ei1
  obtain ⟨ga2, gb2⟩ := and_e gb1
  obtain ⟨i2, ei2⟩ := is_v ga2
  obtain rfl : w2 = (.int i2) := Option.some.inj ei2
  obtain ⟨ga3, gb3⟩ := and_e gb2
  obtain ⟨i3, ei3⟩ := is_v ga3
  obtain rfl : w3 = (.int i3) := Option.some.inj ei3
  obtain ⟨i4, ei4⟩ := is_v gb3
  obtain rfl : w4 = (.int i4) := Option.some.inj ei4
  obtain ⟨z1, ez1⟩ := is_v (Cond.before_iff.mp (hsets _ (List.mem_of_getElem? (i := 1) rfl)))
  have O1 : Sta s s.heap "java/lang/String" "COMPACT_STRINGS" "Z" (.int z1) := Sta.start ez1 (Or.inl (hsets _ (List.mem_of_getElem? (i := 0) rfl)))
  have P1 : ¬ z1 = (0 : Int32) := gotF (Cond.eq_ints ez1 (Term.int_eval (0))) (not_v (Cond.before_iff.mp (hsets _ (List.mem_of_getElem? (i := 2) rfl))))
  obtain ⟨G0, eG⟩ : ∃ g : Gs, g = z1 := ⟨_, rfl⟩
  have ST0 : StartF s G0 := by rw [eG]; exact ⟨O1, P1⟩
  have HC : CHv s EL s.vm s.heap := CHv.start (own_EW hw) (fun p hp => hcalls.1 p hp) (hsets _ (List.mem_of_getElem? (i := 2) rfl)) (w_3 hw) (w_2 hw)
  obtain ⟨n, o, h1, h2, h3, _, L, rfl, ⟨rfl, N, -⟩, -, hq⟩ := rm0 l s _ hw G0 ST0 tables_1 i0 i1 i2 i3 i4 s.heap s.heap.size (Old.start s) p e ha hc hk s m _ below hf ((Spec.applies_iff_loose hf).mp happ).1 ⟨rfl, State.Warmed39.refl s, rfl, HC⟩ trivial
  refine ⟨n, _, h1, h2, h3, hpost _ _ _ _ _ _ ⟨Cond.after_iff.mpr rfl, Cond.after_iff.mpr (eq_i res_at (Term.int_eval (1)) rfl), trivial⟩ ⟨hq.1, hq.2.1, hq.2.2.1, (hq.2.2.2.sift fun y hy => Or.inr (N y hy)).mono (by decide) (by decide)⟩⟩
theorem main_1_1 : Claimed_1_1 := comes_1 fun _ _ _ _ _ _ h hF => ⟨h.1, hF⟩
theorem main_1_2 : Claimed_1_2 := comes_1 fun _ _ _ _ _ _ h hF => ⟨h.2.1, hF⟩
end Jvm.Pilot.@@N@@
namespace Jvm.Pilot.@@N@@
open Jvm Jvm.ClassFile Sem Op Lib Jvm.Free Jvm.Stand Jvm.Pilot.@@N@@.Jvm.D
/-! MADE BY PROGRAM (witnessworld.py) out of the Statement's table words and the real class files: 21 classes; the members and pool entries that the words name. The judged class is class 1, her method 1. -/
namespace start1
open Jvm.ClassFile
def u (s : String) : CpInfo := .utf8 (stringToUtf16 s)
/-- a pool by its gaps: so many unusable entries, then the entry; so many at the end -/
def gap : Nat → List CpInfo → List CpInfo
  | 0, r => r
  | n + 1, r => .unusable :: gap n r
def poolList (es : List (Nat × CpInfo)) (last : Nat) : List CpInfo := es.foldr (fun e r => gap e.1 (e.2 :: r)) (gap last [])
def pool (es : List (Nat × CpInfo)) (last : Nat) : Array CpInfo := ⟨poolList es last⟩
def fileOf (pool : Array CpInfo) (this : Nat) (attrs : Array Attribute := #[]) (ms : Array MethodInfo := #[]) (fl : Nat := 33) (sup : Nat := 0) (ifs : Array Nat := #[]) (fds : Array FieldInfo := #[]) : ClassFile where
  minorVersion := 0
  majorVersion := 65
  constantPool := pool
  accessFlags := fl
  thisClass := this
  superClass := sup
  interfaces := ifs
  fields := fds
  methods := ms
  attributes := attrs
def plain (name : String) (sup : Option ClassId) : Class where
  name := name
  kind := .ordinary
  loader := none
  accessFlags := 33
  super := sup
  interfaces := #[]
  cf := none
  fields := #[]
  methods := #[]
  instanceTypes := #[]
  staticTypes := #[]
  resolved := #[]
  callSites := []
  init := .initialized
  statics := none
  mirror := none

def pool0 : Array CpInfo := pool [(5, u "<init>"), (0, u "()V"), (1, .class_ 10), (1, u "java/lang/Object")] 113

def k0c0 : Code := { maxStack := 0, maxLocals := 1, code := object_method_1_code, exceptionTable := #[], attributes := #[] }
def k0m0 : Method := { name := "<init>", desc := "()V", sig := { parameters := [], returnType := none }, accessFlags := 1, code := some k0c0 }
/-- java/lang/Object -/
def k0 : Class := { plain "java/lang/Object" none with
  accessFlags := 33
  interfaces := #[]
  cf := some (fileOf pool0 8 #[] #[{ accessFlags := 1, nameIndex := 5, descriptorIndex := 6, attributes := #[] }] 33 0 #[] #[])
  fields := #[]
  methods := #[k0m0]
  instanceTypes := #[]
  staticTypes := #[]
  resolved := Array.replicate 124 none
  statics := none }

def pool1 : Array CpInfo := pool [(2, .class_ 4), (1, u "java/lang/Object"), (0, u "<init>"), (0, u "()V"), (0, .methodref 8 9), (0, .class_ 10), (0, .nameAndType 11 12), (0, u "com/example/nabao/nabao/DocumentTextStartPinLaw"), (0, u "make"), (0, u "(IIIII)Ljava/lang/String;"), (0, .methodref 14 15), (0, .class_ 16), (0, .nameAndType 17 18), (0, u "java/lang/String"), (0, u "valueOf"), (0, u "(C)Ljava/lang/String;"), (0, .string 20), (0, u ""), (0, .class_ 22), (0, u "com/example/nabao/nabao/Document"), (0, .string 24), (0, u "d"), (0, .methodref 21 26), (0, .nameAndType 5 27), (0, u "(Ljava/lang/String;Ljava/lang/String;Ljava/lang/String;)V"), (0, .methodref 21 29), (0, .nameAndType 30 31), (0, u "textStart"), (0, u "()I"), (0, .methodref 14 33), (0, .nameAndType 5 34), (0, u "([C)V"), (2, u "law"), (0, u "(IIIII)Z")] 3

def k1m0 : Method := { name := "<init>", desc := "()V", sig := { parameters := [], returnType := none }, accessFlags := 1, code := none }
def k1c1 : Code := { maxStack := 5, maxLocals := 11, code := code, exceptionTable := #[], attributes := #[] }
def k1m1 : Method := { name := "law", desc := "(IIIII)Z", sig := { parameters := [.int, .int, .int, .int, .int], returnType := some .boolean }, accessFlags := 9, code := some k1c1 }
def k1c2 : Code := { maxStack := 6, maxLocals := 9, code := method_3_code, exceptionTable := #[], attributes := #[] }
def k1m2 : Method := { name := "make", desc := "(IIIII)Ljava/lang/String;", sig := { parameters := [.int, .int, .int, .int, .int], returnType := some (.object "java/lang/String") }, accessFlags := 10, code := some k1c2 }
/-- com/example/nabao/nabao/DocumentTextStartPinLaw -/
def k1 : Class := { plain "com/example/nabao/nabao/DocumentTextStartPinLaw" (some 0) with
  accessFlags := 49
  interfaces := #[]
  cf := some (fileOf pool1 8 #[] #[{ accessFlags := 1, nameIndex := 5, descriptorIndex := 6, attributes := #[] }, { accessFlags := 9, nameIndex := 37, descriptorIndex := 38, attributes := #[] }, { accessFlags := 10, nameIndex := 11, descriptorIndex := 12, attributes := #[] }] 49 2 #[] #[])
  fields := #[]
  methods := #[k1m0, k1m1, k1m2]
  instanceTypes := #[]
  staticTypes := #[]
  resolved := Array.replicate 42 none
  statics := none }

def pool2 : Array CpInfo := pool [(1, .class_ 2), (0, u "java/io/Serializable"), (0, .class_ 4), (0, u "java/lang/Object")] 2

/-- java/io/Serializable -/
def k2 : Class := { plain "java/io/Serializable" (some 0) with
  accessFlags := 1537
  interfaces := #[]
  cf := some (fileOf pool2 1 #[] #[] 1537 3 #[] #[])
  fields := #[]
  methods := #[]
  instanceTypes := #[]
  staticTypes := #[]
  resolved := Array.replicate 7 none
  statics := none }

def pool3 : Array CpInfo := pool [(1, .class_ 2), (0, u "java/lang/Comparable"), (0, .class_ 4), (0, u "java/lang/Object")] 7

/-- java/lang/Comparable -/
def k3 : Class := { plain "java/lang/Comparable" (some 0) with
  accessFlags := 1537
  interfaces := #[]
  cf := some (fileOf pool3 1 #[] #[] 1537 3 #[] #[])
  fields := #[]
  methods := #[]
  instanceTypes := #[]
  staticTypes := #[]
  resolved := Array.replicate 12 none
  statics := none }

def pool4 : Array CpInfo := pool [(2, .class_ 4), (1, u "java/lang/CharSequence"), (42, .class_ 48), (0, u "java/lang/CharSequence$1CodePointIterator"), (10, .class_ 60), (0, u "java/lang/CharSequence$1CharIterator"), (5, .class_ 67), (0, u "java/lang/Object")] 63

/-- java/lang/CharSequence -/
def k4 : Class := { plain "java/lang/CharSequence" (some 0) with
  accessFlags := 1537
  interfaces := #[]
  cf := some (fileOf pool4 2 #[.nestMembers #[47, 59]] #[] 1537 66 #[] #[])
  fields := #[]
  methods := #[]
  instanceTypes := #[]
  staticTypes := #[]
  resolved := Array.replicate 131 none
  statics := none }

def pool5 : Array CpInfo := pool [(1, .class_ 2), (0, u "java/lang/constant/Constable"), (0, .class_ 4), (0, u "java/lang/Object")] 6

/-- java/lang/constant/Constable -/
def k5 : Class := { plain "java/lang/constant/Constable" (some 0) with
  accessFlags := 1537
  interfaces := #[]
  cf := some (fileOf pool5 1 #[] #[] 1537 3 #[] #[])
  fields := #[]
  methods := #[]
  instanceTypes := #[]
  staticTypes := #[]
  resolved := Array.replicate 11 none
  statics := none }

def pool6 : Array CpInfo := pool [(1, .class_ 2), (0, u "java/lang/constant/ConstantDesc"), (0, .class_ 4), (0, u "java/lang/Object")] 32

/-- java/lang/constant/ConstantDesc -/
def k6 : Class := { plain "java/lang/constant/ConstantDesc" (some 0) with
  accessFlags := 1537
  interfaces := #[]
  cf := some (fileOf pool6 1 #[] #[] 1537 3 #[] #[])
  fields := #[]
  methods := #[]
  instanceTypes := #[]
  staticTypes := #[]
  resolved := Array.replicate 37 none
  statics := none }

def pool7 : Array CpInfo := pool [(1, .methodref 2 3), (0, .class_ 4), (0, .nameAndType 5 6), (0, u "java/lang/Object"), (0, u "<init>"), (0, u "()V"), (0, .string 8), (0, u ""), (0, .fieldref 10 11), (0, .class_ 12), (0, .nameAndType 13 14), (0, u "java/lang/String"), (0, u "value"), (0, u "[B"), (0, .fieldref 10 16), (0, .nameAndType 17 18), (0, u "coder"), (0, u "B"), (2, u "hash"), (0, u "I"), (2, u "hashIsZero"), (0, u "Z"), (0, .methodref 10 28), (0, .nameAndType 5 29), (0, u "([CIILjava/lang/Void;)V"), (8, .fieldref 10 39), (0, .nameAndType 40 26), (0, u "COMPACT_STRINGS"), (1, .class_ 44), (1, u "java/lang/StringUTF16"), (0, u "compress"), (1, .methodref 42 48), (0, .nameAndType 49 50), (0, u "coderFromArrayLen"), (0, u "([BI)B"), (2, u "toBytes"), (53, .class_ 109), (1, u "java/lang/StringLatin1"), (67, .methodref 42 178), (0, .nameAndType 45 179), (0, u "([CII)[B"), (29, .methodref 10 210), (0, .nameAndType 5 211), (0, u "([BB)V"), (122, u "()I"), (0, .methodref 10 336), (0, .nameAndType 17 337), (0, u "()B"), (31, u "(C)Z"), (137, u "length"), (67, .class_ 576), (0, u "java/lang/CharSequence"), (22, u "CASE_INSENSITIVE_ORDER"), (0, u "Ljava/util/Comparator;"), (181, u "valueOf"), (0, u "(C)Ljava/lang/String;"), (226, u "([C)V"), (4, .methodref 107 1016), (0, .nameAndType 1017 369), (0, u "canEncode"), (0, .methodref 107 1019), (0, .nameAndType 53 1020), (0, u "(C)[B"), (80, u "serialPersistentFields"), (0, u "[Ljava/io/ObjectStreamField;"), (0, .class_ 1104), (0, u "java/lang/String$CaseInsensitiveComparator"), (1, .class_ 1107), (0, u "java/io/Serializable"), (0, .class_ 1109), (0, u "java/lang/Comparable"), (0, .class_ 1111), (0, u "java/lang/constant/Constable"), (0, .class_ 1113), (0, u "java/lang/constant/ConstantDesc"), (2, u "serialVersionUID"), (0, u "J"), (3, u "REPL"), (0, u "C"), (2, u "LATIN1"), (1, u "UTF16")] 323

def k7m0 : Method := { name := "<init>", desc := "()V", sig := { parameters := [], returnType := none }, accessFlags := 1, code := none }
def k7c1 : Code := { maxStack := 5, maxLocals := 2, code := jdk_42_method_3_code, exceptionTable := #[], attributes := #[] }
def k7m1 : Method := { name := "<init>", desc := "([C)V", sig := { parameters := [(.array .char)], returnType := none }, accessFlags := 1, code := some k7c1 }
def k7c2 : Code := { maxStack := 2, maxLocals := 1, code := jdk_42_method_54_code, exceptionTable := #[], attributes := #[] }
def k7m2 : Method := { name := "length", desc := "()I", sig := { parameters := [], returnType := some .int }, accessFlags := 1, code := some k7c2 }
def k7c3 : Code := { maxStack := 4, maxLocals := 1, code := jdk_42_method_139_code, exceptionTable := #[], attributes := #[] }
def k7m3 : Method := { name := "valueOf", desc := "(C)Ljava/lang/String;", sig := { parameters := [.char], returnType := some (.object "java/lang/String") }, accessFlags := 9, code := some k7c3 }
def k7c4 : Code := { maxStack := 4, maxLocals := 6, code := jdk_42_method_149_code, exceptionTable := #[], attributes := #[] }
def k7m4 : Method := { name := "<init>", desc := "([CIILjava/lang/Void;)V", sig := { parameters := [(.array .char), .int, .int, (.object "java/lang/Void")], returnType := none }, accessFlags := 2, code := some k7c4 }
def k7c5 : Code := { maxStack := 2, maxLocals := 3, code := jdk_42_method_151_code, exceptionTable := #[], attributes := #[] }
def k7m5 : Method := { name := "<init>", desc := "([BB)V", sig := { parameters := [(.array .byte), .byte], returnType := none }, accessFlags := 0, code := some k7c5 }
def k7c6 : Code := { maxStack := 1, maxLocals := 1, code := jdk_42_method_152_code, exceptionTable := #[], attributes := #[] }
def k7m6 : Method := { name := "coder", desc := "()B", sig := { parameters := [], returnType := some .byte }, accessFlags := 0, code := some k7c6 }
/-- java/lang/String -/
def k7 : Class := { plain "java/lang/String" (some 0) with
  accessFlags := 49
  interfaces := #[2, 3, 4, 5, 6]
  cf := some (fileOf pool7 10 #[.nestMembers #[1103]] #[{ accessFlags := 1, nameIndex := 5, descriptorIndex := 6, attributes := #[] }, { accessFlags := 1, nameIndex := 5, descriptorIndex := 1010, attributes := #[] }, { accessFlags := 1, nameIndex := 507, descriptorIndex := 334, attributes := #[] }, { accessFlags := 9, nameIndex := 782, descriptorIndex := 783, attributes := #[] }, { accessFlags := 2, nameIndex := 5, descriptorIndex := 29, attributes := #[] }, { accessFlags := 0, nameIndex := 5, descriptorIndex := 211, attributes := #[] }, { accessFlags := 0, nameIndex := 17, descriptorIndex := 337, attributes := #[] }] 49 2 #[1106, 1108, 575, 1110, 1112] #[{ accessFlags := 18, nameIndex := 13, descriptorIndex := 14, attributes := #[] }, { accessFlags := 18, nameIndex := 17, descriptorIndex := 18, attributes := #[] }, { accessFlags := 2, nameIndex := 21, descriptorIndex := 22, attributes := #[] }, { accessFlags := 2, nameIndex := 25, descriptorIndex := 26, attributes := #[] }, { accessFlags := 26, nameIndex := 1116, descriptorIndex := 1117, attributes := #[] }, { accessFlags := 24, nameIndex := 40, descriptorIndex := 26, attributes := #[] }, { accessFlags := 26, nameIndex := 1101, descriptorIndex := 1102, attributes := #[] }, { accessFlags := 26, nameIndex := 1121, descriptorIndex := 1122, attributes := #[] }, { accessFlags := 25, nameIndex := 599, descriptorIndex := 600, attributes := #[] }, { accessFlags := 24, nameIndex := 1125, descriptorIndex := 18, attributes := #[] }, { accessFlags := 24, nameIndex := 1127, descriptorIndex := 18, attributes := #[] }])
  fields := #[{ name := "value", type := (.array .byte), accessFlags := 18, slot := 0, constantValue := 0 }, { name := "coder", type := .byte, accessFlags := 18, slot := 1, constantValue := 0 }, { name := "hash", type := .int, accessFlags := 2, slot := 2, constantValue := 0 }, { name := "hashIsZero", type := .boolean, accessFlags := 2, slot := 3, constantValue := 0 }, { name := "serialVersionUID", type := .long, accessFlags := 26, slot := 0, constantValue := 0 }, { name := "COMPACT_STRINGS", type := .boolean, accessFlags := 24, slot := 1, constantValue := 0 }, { name := "serialPersistentFields", type := (.array (.object "java/io/ObjectStreamField")), accessFlags := 26, slot := 2, constantValue := 0 }, { name := "REPL", type := .char, accessFlags := 26, slot := 3, constantValue := 0 }, { name := "CASE_INSENSITIVE_ORDER", type := (.object "java/util/Comparator"), accessFlags := 25, slot := 4, constantValue := 0 }, { name := "LATIN1", type := .byte, accessFlags := 24, slot := 5, constantValue := 0 }, { name := "UTF16", type := .byte, accessFlags := 24, slot := 6, constantValue := 0 }]
  methods := #[k7m0, k7m1, k7m2, k7m3, k7m4, k7m5, k7m6]
  instanceTypes := #[(.array .byte), .byte, .int, .boolean]
  staticTypes := #[.long, .boolean, (.array (.object "java/io/ObjectStreamField")), .char, (.object "java/util/Comparator"), .byte, .byte]
  resolved := Array.replicate 1451 none
  statics := some 0 }

def pool8 : Array CpInfo := pool [(1, .methodref 2 3), (0, .class_ 4), (0, .nameAndType 5 6), (0, u "java/lang/Object"), (0, u "<init>"), (0, u "()V"), (0, .string 8), (0, u "id"), (0, .methodref 10 11), (0, .class_ 12), (0, .nameAndType 13 14), (0, u "java/util/Objects"), (0, u "requireNonNull"), (0, u "(Ljava/lang/Object;Ljava/lang/String;)Ljava/lang/Object;"), (0, .class_ 16), (0, u "java/lang/String"), (0, .fieldref 18 19), (0, .class_ 20), (0, .nameAndType 8 21), (0, u "com/example/nabao/nabao/Document"), (0, u "Ljava/lang/String;"), (0, .fieldref 18 23), (0, .nameAndType 24 21), (0, u "title"), (0, .string 26), (0, u "text"), (0, .fieldref 18 28), (0, .nameAndType 26 21), (0, .methodref 15 30), (0, .nameAndType 31 32), (0, u "length"), (0, u "()I"), (11, u "(Ljava/lang/String;Ljava/lang/String;Ljava/lang/String;)V"), (3, u "textStart")] 5

def k8c0 : Code := { maxStack := 3, maxLocals := 4, code := prog_4_method_1_code, exceptionTable := #[], attributes := #[] }
def k8m0 : Method := { name := "<init>", desc := "(Ljava/lang/String;Ljava/lang/String;Ljava/lang/String;)V", sig := { parameters := [(.object "java/lang/String"), (.object "java/lang/String"), (.object "java/lang/String")], returnType := none }, accessFlags := 0, code := some k8c0 }
def k8c1 : Code := { maxStack := 2, maxLocals := 1, code := prog_4_method_5_code, exceptionTable := #[], attributes := #[] }
def k8m1 : Method := { name := "textStart", desc := "()I", sig := { parameters := [], returnType := some .int }, accessFlags := 0, code := some k8c1 }
/-- com/example/nabao/nabao/Document -/
def k8 : Class := { plain "com/example/nabao/nabao/Document" (some 0) with
  accessFlags := 48
  interfaces := #[]
  cf := some (fileOf pool8 18 #[] #[{ accessFlags := 0, nameIndex := 5, descriptorIndex := 44, attributes := #[] }, { accessFlags := 0, nameIndex := 48, descriptorIndex := 32, attributes := #[] }] 48 2 #[] #[{ accessFlags := 18, nameIndex := 8, descriptorIndex := 21, attributes := #[] }, { accessFlags := 18, nameIndex := 24, descriptorIndex := 21, attributes := #[] }, { accessFlags := 18, nameIndex := 26, descriptorIndex := 21, attributes := #[] }])
  fields := #[{ name := "id", type := (.object "java/lang/String"), accessFlags := 18, slot := 0, constantValue := 0 }, { name := "title", type := (.object "java/lang/String"), accessFlags := 18, slot := 1, constantValue := 0 }, { name := "text", type := (.object "java/lang/String"), accessFlags := 18, slot := 2, constantValue := 0 }]
  methods := #[k8m0, k8m1]
  instanceTypes := #[(.object "java/lang/String"), (.object "java/lang/String"), (.object "java/lang/String")]
  staticTypes := #[]
  resolved := Array.replicate 54 none
  statics := none }

def pool9 : Array CpInfo := pool [(2, .class_ 4), (1, u "java/lang/Object"), (0, u "<init>"), (0, u "()V"), (35, .class_ 44), (1, u "java/util/Objects"), (0, u "requireNonNull"), (48, u "(Ljava/lang/Object;Ljava/lang/String;)Ljava/lang/Object;")] 89

def k9m0 : Method := { name := "<init>", desc := "()V", sig := { parameters := [], returnType := none }, accessFlags := 2, code := none }
def k9c1 : Code := { maxStack := 3, maxLocals := 2, code := jdk_31_method_11_code, exceptionTable := #[], attributes := #[] }
def k9m1 : Method := { name := "requireNonNull", desc := "(Ljava/lang/Object;Ljava/lang/String;)Ljava/lang/Object;", sig := { parameters := [(.object "java/lang/Object"), (.object "java/lang/String")], returnType := some (.object "java/lang/Object") }, accessFlags := 9, code := some k9c1 }
/-- java/util/Objects -/
def k9 : Class := { plain "java/util/Objects" (some 0) with
  accessFlags := 49
  interfaces := #[]
  cf := some (fileOf pool9 42 #[] #[{ accessFlags := 2, nameIndex := 5, descriptorIndex := 6, attributes := #[] }, { accessFlags := 9, nameIndex := 45, descriptorIndex := 94, attributes := #[] }] 49 2 #[] #[])
  fields := #[]
  methods := #[k9m0, k9m1]
  instanceTypes := #[]
  staticTypes := #[]
  resolved := Array.replicate 184 none
  statics := none }

def pool10 : Array CpInfo := pool [(6, .class_ 8), (1, u "java/lang/Object"), (0, u "<init>"), (0, u "()V"), (1, .class_ 14), (1, u "java/lang/StringUTF16"), (31, u "$assertionsDisabled"), (0, u "Z"), (13, u "HI_BYTE_SHIFT"), (0, u "I"), (2, u "LO_BYTE_SHIFT"), (49, .methodref 12 116), (0, .nameAndType 117 118), (0, u "compress"), (0, u "([CI[BII)I"), (3, u "([CII)[B"), (138, u "coderFromArrayLen"), (0, u "([BI)B"), (106, .class_ 371), (1, u "java/lang/StringUTF16$LinesSpliterator"), (58, u "MAX_LENGTH"), (196, .class_ 628), (0, u "java/lang/StringUTF16$CodePointsSpliterator"), (0, .class_ 630), (0, u "java/lang/StringUTF16$CharsSpliterator")] 4

def k10m0 : Method := { name := "<init>", desc := "()V", sig := { parameters := [], returnType := none }, accessFlags := 0, code := none }
def k10c1 : Code := { maxStack := 2, maxLocals := 2, code := jdk_52_method_15_code, exceptionTable := #[], attributes := #[] }
def k10m1 : Method := { name := "coderFromArrayLen", desc := "([BI)B", sig := { parameters := [(.array .byte), .int], returnType := some .byte }, accessFlags := 8, code := some k10c1 }
def k10c2 : Code := { maxStack := 5, maxLocals := 6, code := jdk_52_method_16_code, exceptionTable := #[], attributes := #[] }
def k10m2 : Method := { name := "compress", desc := "([CII)[B", sig := { parameters := [(.array .char), .int, .int], returnType := some (.array .byte) }, accessFlags := 9, code := some k10c2 }
def k10c3 : Code := { maxStack := 3, maxLocals := 7, code := jdk_52_method_21_code, exceptionTable := #[], attributes := #[] }
def k10m3 : Method := { name := "compress", desc := "([CI[BII)I", sig := { parameters := [(.array .char), .int, (.array .byte), .int, .int], returnType := some .int }, accessFlags := 9, code := some k10c3 }
/-- java/lang/StringUTF16 -/
def k10 : Class := { plain "java/lang/StringUTF16" (some 0) with
  accessFlags := 48
  interfaces := #[]
  cf := some (fileOf pool10 12 #[.nestMembers #[627, 629, 369]] #[{ accessFlags := 0, nameIndex := 9, descriptorIndex := 10, attributes := #[] }, { accessFlags := 8, nameIndex := 261, descriptorIndex := 262, attributes := #[] }, { accessFlags := 9, nameIndex := 117, descriptorIndex := 122, attributes := #[] }, { accessFlags := 9, nameIndex := 117, descriptorIndex := 118, attributes := #[] }] 48 6 #[] #[{ accessFlags := 26, nameIndex := 61, descriptorIndex := 62, attributes := #[] }, { accessFlags := 26, nameIndex := 65, descriptorIndex := 62, attributes := #[] }, { accessFlags := 24, nameIndex := 430, descriptorIndex := 62, attributes := #[] }, { accessFlags := 4120, nameIndex := 46, descriptorIndex := 47, attributes := #[] }])
  fields := #[{ name := "HI_BYTE_SHIFT", type := .int, accessFlags := 26, slot := 0, constantValue := 0 }, { name := "LO_BYTE_SHIFT", type := .int, accessFlags := 26, slot := 1, constantValue := 0 }, { name := "MAX_LENGTH", type := .int, accessFlags := 24, slot := 2, constantValue := 0 }, { name := "$assertionsDisabled", type := .boolean, accessFlags := 4120, slot := 3, constantValue := 0 }]
  methods := #[k10m0, k10m1, k10m2, k10m3]
  instanceTypes := #[]
  staticTypes := #[.int, .int, .int, .boolean]
  resolved := Array.replicate 635 none
  statics := none }

def pool11 : Array CpInfo := pool [(4, .class_ 6), (1, u "java/lang/Object"), (0, u "<init>"), (0, u "()V"), (5, .class_ 16), (1, u "java/lang/StringLatin1"), (73, u "canEncode"), (14, u "(C)Z"), (15, u "$assertionsDisabled"), (0, u "Z"), (98, .class_ 223), (1, u "java/lang/StringLatin1$LinesSpliterator"), (156, u "toBytes"), (1, u "(C)[B"), (7, .class_ 391), (0, u "java/lang/StringLatin1$CharsSpliterator")] 3

def k11m0 : Method := { name := "<init>", desc := "()V", sig := { parameters := [], returnType := none }, accessFlags := 0, code := none }
def k11c1 : Code := { maxStack := 2, maxLocals := 1, code := jdk_43_method_3_code, exceptionTable := #[], attributes := #[] }
def k11m1 : Method := { name := "canEncode", desc := "(C)Z", sig := { parameters := [.char], returnType := some .boolean }, accessFlags := 9, code := some k11c1 }
def k11c2 : Code := { maxStack := 4, maxLocals := 1, code := jdk_43_method_46_code, exceptionTable := #[], attributes := #[] }
def k11m2 : Method := { name := "toBytes", desc := "(C)[B", sig := { parameters := [.char], returnType := some (.array .byte) }, accessFlags := 9, code := some k11c2 }
/-- java/lang/StringLatin1 -/
def k11 : Class := { plain "java/lang/StringLatin1" (some 0) with
  accessFlags := 48
  interfaces := #[]
  cf := some (fileOf pool11 14 #[.nestMembers #[390, 221]] #[{ accessFlags := 0, nameIndex := 7, descriptorIndex := 8, attributes := #[] }, { accessFlags := 9, nameIndex := 90, descriptorIndex := 105, attributes := #[] }, { accessFlags := 9, nameIndex := 380, descriptorIndex := 382, attributes := #[] }] 48 4 #[] #[{ accessFlags := 4120, nameIndex := 121, descriptorIndex := 122, attributes := #[] }])
  fields := #[{ name := "$assertionsDisabled", type := .boolean, accessFlags := 4120, slot := 0, constantValue := 0 }]
  methods := #[k11m0, k11m1, k11m2]
  instanceTypes := #[]
  staticTypes := #[.boolean]
  resolved := Array.replicate 395 none
  statics := none }

def pool12 : Array CpInfo := pool [(2, .class_ 4), (1, u "java/lang/Object"), (0, u "<init>"), (0, u "()V"), (17, .class_ 26), (1, u "jdk/internal/util/Preconditions"), (28, .class_ 56), (0, u "jdk/internal/util/Preconditions$4"), (57, .class_ 115), (0, u "jdk/internal/util/Preconditions$1"), (7, u "SIOOBE_FORMATTER"), (0, u "Ljava/util/function/BiFunction;"), (0, .class_ 126), (0, u "jdk/internal/util/Preconditions$2"), (3, u "AIOOBE_FORMATTER"), (0, .class_ 132), (0, u "jdk/internal/util/Preconditions$3"), (3, u "IOOBE_FORMATTER")] 57

def k12m0 : Method := { name := "<init>", desc := "()V", sig := { parameters := [], returnType := none }, accessFlags := 1, code := none }
/-- jdk/internal/util/Preconditions -/
def k12 : Class := { plain "jdk/internal/util/Preconditions" (some 0) with
  accessFlags := 33
  interfaces := #[]
  cf := some (fileOf pool12 24 #[.nestMembers #[55, 131, 125, 114]] #[{ accessFlags := 1, nameIndex := 5, descriptorIndex := 6, attributes := #[] }] 33 2 #[] #[{ accessFlags := 25, nameIndex := 123, descriptorIndex := 124, attributes := #[] }, { accessFlags := 25, nameIndex := 130, descriptorIndex := 124, attributes := #[] }, { accessFlags := 25, nameIndex := 136, descriptorIndex := 124, attributes := #[] }])
  fields := #[{ name := "SIOOBE_FORMATTER", type := (.object "java/util/function/BiFunction"), accessFlags := 25, slot := 0, constantValue := 0 }, { name := "AIOOBE_FORMATTER", type := (.object "java/util/function/BiFunction"), accessFlags := 25, slot := 1, constantValue := 0 }, { name := "IOOBE_FORMATTER", type := (.object "java/util/function/BiFunction"), accessFlags := 25, slot := 2, constantValue := 0 }]
  methods := #[k12m0]
  instanceTypes := #[]
  staticTypes := #[(.object "java/util/function/BiFunction"), (.object "java/util/function/BiFunction"), (.object "java/util/function/BiFunction")]
  resolved := Array.replicate 194 none
  statics := some 1 }

def pool13 : Array CpInfo := pool [(9, u "<init>"), (6, .class_ 18), (1, u "java/lang/Object"), (0, u "()V"), (1, .class_ 23), (1, u "jdk/internal/util/ArraysSupport"), (0, u "LOG2_ARRAY_LONG_INDEX_SCALE"), (0, u "I"), (2, u "U"), (0, u "Ljdk/internal/misc/Unsafe;"), (8, u "BIG_ENDIAN"), (0, u "Z"), (8, u "LOG2_BYTE_BIT_SIZE"), (4, u "LOG2_ARRAY_INT_INDEX_SCALE"), (54, u "JLA"), (0, u "Ljdk/internal/access/JavaLangAccess;"), (11, u "LOG2_ARRAY_BOOLEAN_INDEX_SCALE"), (9, u "LOG2_ARRAY_BYTE_INDEX_SCALE"), (5, u "LOG2_ARRAY_CHAR_INDEX_SCALE"), (5, u "LOG2_ARRAY_SHORT_INDEX_SCALE"), (18, u "LOG2_ARRAY_FLOAT_INDEX_SCALE"), (24, u "LOG2_ARRAY_DOUBLE_INDEX_SCALE"), (89, u "T_BOOLEAN"), (2, u "T_CHAR"), (1, u "T_FLOAT"), (1, u "T_DOUBLE"), (1, u "T_BYTE"), (1, u "T_SHORT"), (1, u "T_INT"), (1, u "T_LONG"), (1, u "SOFT_MAX_ARRAY_LENGTH")] 83

def k13m0 : Method := { name := "<init>", desc := "()V", sig := { parameters := [], returnType := none }, accessFlags := 2, code := none }
/-- jdk/internal/util/ArraysSupport -/
def k13 : Class := { plain "jdk/internal/util/ArraysSupport" (some 0) with
  accessFlags := 33
  interfaces := #[]
  cf := some (fileOf pool13 21 #[] #[{ accessFlags := 2, nameIndex := 9, descriptorIndex := 19, attributes := #[] }] 33 16 #[] #[{ accessFlags := 24, nameIndex := 28, descriptorIndex := 29, attributes := #[] }, { accessFlags := 26, nameIndex := 38, descriptorIndex := 39, attributes := #[] }, { accessFlags := 25, nameIndex := 121, descriptorIndex := 25, attributes := #[] }, { accessFlags := 25, nameIndex := 131, descriptorIndex := 25, attributes := #[] }, { accessFlags := 25, nameIndex := 137, descriptorIndex := 25, attributes := #[] }, { accessFlags := 25, nameIndex := 143, descriptorIndex := 25, attributes := #[] }, { accessFlags := 25, nameIndex := 53, descriptorIndex := 25, attributes := #[] }, { accessFlags := 25, nameIndex := 24, descriptorIndex := 25, attributes := #[] }, { accessFlags := 25, nameIndex := 162, descriptorIndex := 25, attributes := #[] }, { accessFlags := 25, nameIndex := 187, descriptorIndex := 25, attributes := #[] }, { accessFlags := 26, nameIndex := 48, descriptorIndex := 25, attributes := #[] }, { accessFlags := 25, nameIndex := 277, descriptorIndex := 25, attributes := #[] }, { accessFlags := 25, nameIndex := 280, descriptorIndex := 25, attributes := #[] }, { accessFlags := 25, nameIndex := 282, descriptorIndex := 25, attributes := #[] }, { accessFlags := 25, nameIndex := 284, descriptorIndex := 25, attributes := #[] }, { accessFlags := 25, nameIndex := 286, descriptorIndex := 25, attributes := #[] }, { accessFlags := 25, nameIndex := 288, descriptorIndex := 25, attributes := #[] }, { accessFlags := 25, nameIndex := 290, descriptorIndex := 25, attributes := #[] }, { accessFlags := 25, nameIndex := 292, descriptorIndex := 25, attributes := #[] }, { accessFlags := 26, nameIndex := 108, descriptorIndex := 109, attributes := #[] }, { accessFlags := 25, nameIndex := 294, descriptorIndex := 25, attributes := #[] }])
  fields := #[{ name := "U", type := (.object "jdk/internal/misc/Unsafe"), accessFlags := 24, slot := 0, constantValue := 0 }, { name := "BIG_ENDIAN", type := .boolean, accessFlags := 26, slot := 1, constantValue := 0 }, { name := "LOG2_ARRAY_BOOLEAN_INDEX_SCALE", type := .int, accessFlags := 25, slot := 2, constantValue := 0 }, { name := "LOG2_ARRAY_BYTE_INDEX_SCALE", type := .int, accessFlags := 25, slot := 3, constantValue := 0 }, { name := "LOG2_ARRAY_CHAR_INDEX_SCALE", type := .int, accessFlags := 25, slot := 4, constantValue := 0 }, { name := "LOG2_ARRAY_SHORT_INDEX_SCALE", type := .int, accessFlags := 25, slot := 5, constantValue := 0 }, { name := "LOG2_ARRAY_INT_INDEX_SCALE", type := .int, accessFlags := 25, slot := 6, constantValue := 0 }, { name := "LOG2_ARRAY_LONG_INDEX_SCALE", type := .int, accessFlags := 25, slot := 7, constantValue := 0 }, { name := "LOG2_ARRAY_FLOAT_INDEX_SCALE", type := .int, accessFlags := 25, slot := 8, constantValue := 0 }, { name := "LOG2_ARRAY_DOUBLE_INDEX_SCALE", type := .int, accessFlags := 25, slot := 9, constantValue := 0 }, { name := "LOG2_BYTE_BIT_SIZE", type := .int, accessFlags := 26, slot := 10, constantValue := 0 }, { name := "T_BOOLEAN", type := .int, accessFlags := 25, slot := 11, constantValue := 0 }, { name := "T_CHAR", type := .int, accessFlags := 25, slot := 12, constantValue := 0 }, { name := "T_FLOAT", type := .int, accessFlags := 25, slot := 13, constantValue := 0 }, { name := "T_DOUBLE", type := .int, accessFlags := 25, slot := 14, constantValue := 0 }, { name := "T_BYTE", type := .int, accessFlags := 25, slot := 15, constantValue := 0 }, { name := "T_SHORT", type := .int, accessFlags := 25, slot := 16, constantValue := 0 }, { name := "T_INT", type := .int, accessFlags := 25, slot := 17, constantValue := 0 }, { name := "T_LONG", type := .int, accessFlags := 25, slot := 18, constantValue := 0 }, { name := "JLA", type := (.object "jdk/internal/access/JavaLangAccess"), accessFlags := 26, slot := 19, constantValue := 0 }, { name := "SOFT_MAX_ARRAY_LENGTH", type := .int, accessFlags := 25, slot := 20, constantValue := 0 }]
  methods := #[k13m0]
  instanceTypes := #[]
  staticTypes := #[(.object "jdk/internal/misc/Unsafe"), .boolean, .int, .int, .int, .int, .int, .int, .int, .int, .int, .int, .int, .int, .int, .int, .int, .int, .int, (.object "jdk/internal/access/JavaLangAccess"), .int]
  resolved := Array.replicate 378 none
  statics := none }

def pool14 : Array CpInfo := pool [(1, u "java/lang/Cloneable"), (0, .class_ 1), (0, u "java/lang/Object"), (0, .class_ 3)] 3

/-- java/lang/Cloneable -/
def k14 : Class := { plain "java/lang/Cloneable" (some 0) with
  accessFlags := 1537
  interfaces := #[]
  cf := some (fileOf pool14 2 #[] #[] 1537 4 #[] #[])
  fields := #[]
  methods := #[]
  instanceTypes := #[]
  staticTypes := #[]
  resolved := Array.replicate 8 none
  statics := none }

/-- the primitive byte -/
def k15 : Class := { plain "byte" none with kind := .primitive 'B', accessFlags := 0x411 }
/-- [B -/
def k16 : Class := { plain "[B" (some 0) with kind := .array 15 .byte, interfaces := #[14, 2], accessFlags := 1041 }

/-- the primitive char -/
def k17 : Class := { plain "char" none with kind := .primitive 'C', accessFlags := 0x411 }
/-- [C -/
def k18 : Class := { plain "[C" (some 0) with kind := .array 17 .char, interfaces := #[14, 2], accessFlags := 1041 }

/-- the primitive int -/
def k19 : Class := { plain "int" none with kind := .primitive 'I', accessFlags := 0x411 }
/-- [I -/
def k20 : Class := { plain "[I" (some 0) with kind := .array 19 .int, interfaces := #[14, 2], accessFlags := 1041 }

def heap : Heap := #[{ cls := 7, slots := #[.long 0, .int 1, .null, .int 0, .null, .int 0, .int 0], vm := .statics 7 },
  { cls := 12, slots := #[.null, .null, .null], vm := .statics 12 }]
def classes : Array Class := #[k0, k1, k2, k3, k4, k5, k6, k7, k8, k9, k10, k11, k12, k13, k14, k15, k16, k17, k18, k19, k20]
def interned : List (Array UInt16 × Addr) := []
def slotsUsed : Nat := 10
def theMethod : MethodId := ⟨1, 1⟩
def args0 : Array Value := #[.int 5, .int 5, .int 5, .int 5, .int 5]
def aboutOver (below : List Frame) : State where
  vm := { classes := classes, interned := interned.toArray }
  heap := heap
  slotsUsed := slotsUsed
  threads := #[{ frames := .invoking theMethod args0 :: below }]
def below0 : List Frame := [.native { method := ⟨0, 0⟩, args := #[] }]
def about1 : State := aboutOver below0
def p0 : Program := .bare "" "" ""
def e0 : Env := launch0.env 0 0 0
theorem w_frames : about1.frames = Frame.invoking theMethod args0 :: below0 := rfl
set_option maxRecDepth 65536 in
theorem w_args : argsFit about1.vm theMethod args0 = true := by decide +kernel
set_option maxRecDepth 65536 in
theorem w_heap : heapFits about1 = true := by decide +kernel
set_option maxRecDepth 65536 in
theorem w_runnable : about1.curStatus? = some .runnable := by decide +kernel
set_option maxRecDepth 65536 in
theorem w_alone : about1.alone = true := by decide +kernel
set_option maxRecDepth 65536 in
theorem w_named : about1.methodNamed? x = some theMethod := by decide +kernel
set_option maxRecDepth 65536 in
theorem w_hears : about1.hears theMethod below0 = true := by decide +kernel
set_option maxRecDepth 65536 in
theorem w_ripe : about1.ripe theMethod args0 below0 = true := by decide +kernel
theorem w_running : about1.status = .running := rfl
set_option maxRecDepth 65536 in
theorem w_room : about1.hasRoom e0.platform room_1 = true :=
  launch0.hasRoom_least _ room_1 (by decide +kernel) (by decide +kernel) (by decide +kernel) (by decide +kernel) (by decide +kernel) (by decide +kernel)
theorem allAtoms_all (ts : List Jvm.Cond) (a : Array Jvm.Value) (st : Jvm.State) : (allAtoms ts).before a st = ts.all (fun c => c.before a st) := by
  induction ts with
  | nil => rfl
  | cons c t ih =>
    show (Jvm.Cond.and c (allAtoms t)).before a st = _
    rw [Jvm.Cond.before_and, ih, List.all_cons]
def words1 : List Jvm.Cond := Jvm.Cond.code x code maxLocals ret :: tables_1
/-- a 'code' word, met by the world's own term for the bytes: nothing is compared byte by byte -/
theorem code_word {y : MethodName} {bytes : ByteArray} {mx : Nat} {rt : Option FieldType} {a : Array Value} {s : State} {m : MethodId} {meth : Method} {c : Code} (h1 : s.methodNamed? y = some m) (h2 : s.vm.method? m = some meth) (h3 : meth.code = some c) (h4 : c.code = bytes)
    (h5 : (c.maxLocals == mx && c.exceptionTable.isEmpty && decide (c.maxStack ≤ mostOperands) && decide (meth.sig.returnType = rt) && !meth.locks && decide (parseMethodDescriptor y.desc = some meth.sig)) = true) : (Jvm.Cond.code y bytes mx rt).before a s = true := by
  simp only [Bool.and_eq_true, beq_iff_eq, Bool.not_eq_true', decide_eq_true_eq] at h5
  obtain ⟨⟨⟨⟨⟨g1, g2⟩, g3⟩, g4⟩, g5⟩, g6⟩ := h5
  simp [Cond.before, Cond.holds, Cond.value, h1, h2, h3, h4, g1, g2, g3, g4, g5, g6]
def isCode : Jvm.Cond → Bool
  | .code _ _ _ _ => true
  | _ => false
theorem all_split {L : List Jvm.Cond} {P : Jvm.Cond → Bool} (h1 : L.all (fun c => isCode c || P c) = true) (h2 : ∀ c ∈ L.filter isCode, P c = true) : L.all P = true := by
  refine List.all_eq_true.mpr fun c hc => ?_
  have h := List.all_eq_true.mp h1 c hc
  rcases Bool.eq_false_or_eq_true (isCode c) with hi | hi
  · exact h2 c (List.mem_filter.mpr ⟨hc, hi⟩)
  · simpa [hi] using h
set_option maxRecDepth 65536 in
theorem w_c0 : (Jvm.Cond.code x code maxLocals ret).before args0 about1 = true := code_word (m := ⟨1, 1⟩) (meth := k1m1) (c := k1c1) (by decide +kernel) rfl rfl rfl (by decide +kernel)
set_option maxRecDepth 65536 in
theorem w_c1 : (Jvm.Cond.code ({ cls := "com/example/nabao/nabao/Document", name := "<init>", desc := "(Ljava/lang/String;Ljava/lang/String;Ljava/lang/String;)V" } : Jvm.MethodName) prog_4_method_1_code (4 : Nat) (Option.none : Option Jvm.ClassFile.FieldType)).before args0 about1 = true := code_word (m := ⟨8, 0⟩) (meth := k8m0) (c := k8c0) (by decide +kernel) rfl rfl rfl (by decide +kernel)
set_option maxRecDepth 65536 in
theorem w_c2 : (Jvm.Cond.code ({ cls := "java/lang/Object", name := "<init>", desc := "()V" } : Jvm.MethodName) object_method_1_code (1 : Nat) (Option.none : Option Jvm.ClassFile.FieldType)).before args0 about1 = true := code_word (m := ⟨0, 0⟩) (meth := k0m0) (c := k0c0) (by decide +kernel) rfl rfl rfl (by decide +kernel)
set_option maxRecDepth 65536 in
theorem w_c3 : (Jvm.Cond.code ({ cls := "java/util/Objects", name := "requireNonNull", desc := "(Ljava/lang/Object;Ljava/lang/String;)Ljava/lang/Object;" } : Jvm.MethodName) jdk_31_method_11_code (2 : Nat) (Option.some (Jvm.ClassFile.FieldType.object "java/lang/Object"))).before args0 about1 = true := code_word (m := ⟨9, 1⟩) (meth := k9m1) (c := k9c1) (by decide +kernel) rfl rfl rfl (by decide +kernel)
set_option maxRecDepth 65536 in
theorem w_c4 : (Jvm.Cond.code ({ cls := "com/example/nabao/nabao/Document", name := "textStart", desc := "()I" } : Jvm.MethodName) prog_4_method_5_code (1 : Nat) (Option.some Jvm.ClassFile.FieldType.int)).before args0 about1 = true := code_word (m := ⟨8, 1⟩) (meth := k8m1) (c := k8c1) (by decide +kernel) rfl rfl rfl (by decide +kernel)
set_option maxRecDepth 65536 in
theorem w_c5 : (Jvm.Cond.code ({ cls := "com/example/nabao/nabao/DocumentTextStartPinLaw", name := "make", desc := "(IIIII)Ljava/lang/String;" } : Jvm.MethodName) method_3_code (9 : Nat) (Option.some (Jvm.ClassFile.FieldType.object "java/lang/String"))).before args0 about1 = true := code_word (m := ⟨1, 2⟩) (meth := k1m2) (c := k1c2) (by decide +kernel) rfl rfl rfl (by decide +kernel)
set_option maxRecDepth 65536 in
theorem w_c6 : (Jvm.Cond.code ({ cls := "java/lang/String", name := "<init>", desc := "([C)V" } : Jvm.MethodName) jdk_42_method_3_code (2 : Nat) (Option.none : Option Jvm.ClassFile.FieldType)).before args0 about1 = true := code_word (m := ⟨7, 1⟩) (meth := k7m1) (c := k7c1) (by decide +kernel) rfl rfl rfl (by decide +kernel)
set_option maxRecDepth 65536 in
theorem w_c7 : (Jvm.Cond.code ({ cls := "java/lang/String", name := "<init>", desc := "([CIILjava/lang/Void;)V" } : Jvm.MethodName) jdk_42_method_149_code (6 : Nat) (Option.none : Option Jvm.ClassFile.FieldType)).before args0 about1 = true := code_word (m := ⟨7, 4⟩) (meth := k7m4) (c := k7c4) (by decide +kernel) rfl rfl rfl (by decide +kernel)
set_option maxRecDepth 65536 in
theorem w_c8 : (Jvm.Cond.code ({ cls := "java/lang/StringUTF16", name := "compress", desc := "([CII)[B" } : Jvm.MethodName) jdk_52_method_16_code (6 : Nat) (Option.some (Jvm.ClassFile.FieldType.array Jvm.ClassFile.FieldType.byte))).before args0 about1 = true := code_word (m := ⟨10, 2⟩) (meth := k10m2) (c := k10c2) (by decide +kernel) rfl rfl rfl (by decide +kernel)
set_option maxRecDepth 65536 in
theorem w_c9 : (Jvm.Cond.code ({ cls := "java/lang/StringUTF16", name := "compress", desc := "([CI[BII)I" } : Jvm.MethodName) jdk_52_method_21_code (7 : Nat) (Option.some Jvm.ClassFile.FieldType.int)).before args0 about1 = true := code_word (m := ⟨10, 3⟩) (meth := k10m3) (c := k10c3) (by decide +kernel) rfl rfl rfl (by decide +kernel)
set_option maxRecDepth 65536 in
theorem w_c10 : (Jvm.Cond.code ({ cls := "java/lang/StringUTF16", name := "coderFromArrayLen", desc := "([BI)B" } : Jvm.MethodName) jdk_52_method_15_code (2 : Nat) (Option.some Jvm.ClassFile.FieldType.byte)).before args0 about1 = true := code_word (m := ⟨10, 1⟩) (meth := k10m1) (c := k10c1) (by decide +kernel) rfl rfl rfl (by decide +kernel)
set_option maxRecDepth 65536 in
theorem w_c11 : (Jvm.Cond.code ({ cls := "java/lang/String", name := "length", desc := "()I" } : Jvm.MethodName) jdk_42_method_54_code (1 : Nat) (Option.some Jvm.ClassFile.FieldType.int)).before args0 about1 = true := code_word (m := ⟨7, 2⟩) (meth := k7m2) (c := k7c2) (by decide +kernel) rfl rfl rfl (by decide +kernel)
set_option maxRecDepth 65536 in
theorem w_c12 : (Jvm.Cond.code ({ cls := "java/lang/String", name := "coder", desc := "()B" } : Jvm.MethodName) jdk_42_method_152_code (1 : Nat) (Option.some Jvm.ClassFile.FieldType.byte)).before args0 about1 = true := code_word (m := ⟨7, 6⟩) (meth := k7m6) (c := k7c6) (by decide +kernel) rfl rfl rfl (by decide +kernel)
set_option maxRecDepth 65536 in
theorem w_c13 : (Jvm.Cond.code ({ cls := "java/lang/String", name := "valueOf", desc := "(C)Ljava/lang/String;" } : Jvm.MethodName) jdk_42_method_139_code (1 : Nat) (Option.some (Jvm.ClassFile.FieldType.object "java/lang/String"))).before args0 about1 = true := code_word (m := ⟨7, 3⟩) (meth := k7m3) (c := k7c3) (by decide +kernel) rfl rfl rfl (by decide +kernel)
set_option maxRecDepth 65536 in
theorem w_c14 : (Jvm.Cond.code ({ cls := "java/lang/StringLatin1", name := "canEncode", desc := "(C)Z" } : Jvm.MethodName) jdk_43_method_3_code (1 : Nat) (Option.some Jvm.ClassFile.FieldType.boolean)).before args0 about1 = true := code_word (m := ⟨11, 1⟩) (meth := k11m1) (c := k11c1) (by decide +kernel) rfl rfl rfl (by decide +kernel)
set_option maxRecDepth 65536 in
theorem w_c15 : (Jvm.Cond.code ({ cls := "java/lang/StringLatin1", name := "toBytes", desc := "(C)[B" } : Jvm.MethodName) jdk_43_method_46_code (1 : Nat) (Option.some (Jvm.ClassFile.FieldType.array Jvm.ClassFile.FieldType.byte))).before args0 about1 = true := code_word (m := ⟨11, 2⟩) (meth := k11m2) (c := k11c2) (by decide +kernel) rfl rfl rfl (by decide +kernel)
set_option maxRecDepth 65536 in
theorem w_c16 : (Jvm.Cond.code ({ cls := "java/lang/String", name := "<init>", desc := "([BB)V" } : Jvm.MethodName) jdk_42_method_151_code (3 : Nat) (Option.none : Option Jvm.ClassFile.FieldType)).before args0 about1 = true := code_word (m := ⟨7, 5⟩) (meth := k7m5) (c := k7c5) (by decide +kernel) rfl rfl rfl (by decide +kernel)
def codes1 : List Jvm.Cond := [Jvm.Cond.code x code maxLocals ret, Jvm.Cond.code ({ cls := "com/example/nabao/nabao/Document", name := "<init>", desc := "(Ljava/lang/String;Ljava/lang/String;Ljava/lang/String;)V" } : Jvm.MethodName) prog_4_method_1_code (4 : Nat) (Option.none : Option Jvm.ClassFile.FieldType), Jvm.Cond.code ({ cls := "java/lang/Object", name := "<init>", desc := "()V" } : Jvm.MethodName) object_method_1_code (1 : Nat) (Option.none : Option Jvm.ClassFile.FieldType), Jvm.Cond.code ({ cls := "java/util/Objects", name := "requireNonNull", desc := "(Ljava/lang/Object;Ljava/lang/String;)Ljava/lang/Object;" } : Jvm.MethodName) jdk_31_method_11_code (2 : Nat) (Option.some (Jvm.ClassFile.FieldType.object "java/lang/Object")), Jvm.Cond.code ({ cls := "com/example/nabao/nabao/Document", name := "textStart", desc := "()I" } : Jvm.MethodName) prog_4_method_5_code (1 : Nat) (Option.some Jvm.ClassFile.FieldType.int), Jvm.Cond.code ({ cls := "com/example/nabao/nabao/DocumentTextStartPinLaw", name := "make", desc := "(IIIII)Ljava/lang/String;" } : Jvm.MethodName) method_3_code (9 : Nat) (Option.some (Jvm.ClassFile.FieldType.object "java/lang/String")), Jvm.Cond.code ({ cls := "java/lang/String", name := "<init>", desc := "([C)V" } : Jvm.MethodName) jdk_42_method_3_code (2 : Nat) (Option.none : Option Jvm.ClassFile.FieldType), Jvm.Cond.code ({ cls := "java/lang/String", name := "<init>", desc := "([CIILjava/lang/Void;)V" } : Jvm.MethodName) jdk_42_method_149_code (6 : Nat) (Option.none : Option Jvm.ClassFile.FieldType), Jvm.Cond.code ({ cls := "java/lang/StringUTF16", name := "compress", desc := "([CII)[B" } : Jvm.MethodName) jdk_52_method_16_code (6 : Nat) (Option.some (Jvm.ClassFile.FieldType.array Jvm.ClassFile.FieldType.byte)), Jvm.Cond.code ({ cls := "java/lang/StringUTF16", name := "compress", desc := "([CI[BII)I" } : Jvm.MethodName) jdk_52_method_21_code (7 : Nat) (Option.some Jvm.ClassFile.FieldType.int), Jvm.Cond.code ({ cls := "java/lang/StringUTF16", name := "coderFromArrayLen", desc := "([BI)B" } : Jvm.MethodName) jdk_52_method_15_code (2 : Nat) (Option.some Jvm.ClassFile.FieldType.byte), Jvm.Cond.code ({ cls := "java/lang/String", name := "length", desc := "()I" } : Jvm.MethodName) jdk_42_method_54_code (1 : Nat) (Option.some Jvm.ClassFile.FieldType.int), Jvm.Cond.code ({ cls := "java/lang/String", name := "coder", desc := "()B" } : Jvm.MethodName) jdk_42_method_152_code (1 : Nat) (Option.some Jvm.ClassFile.FieldType.byte), Jvm.Cond.code ({ cls := "java/lang/String", name := "valueOf", desc := "(C)Ljava/lang/String;" } : Jvm.MethodName) jdk_42_method_139_code (1 : Nat) (Option.some (Jvm.ClassFile.FieldType.object "java/lang/String")), Jvm.Cond.code ({ cls := "java/lang/StringLatin1", name := "canEncode", desc := "(C)Z" } : Jvm.MethodName) jdk_43_method_3_code (1 : Nat) (Option.some Jvm.ClassFile.FieldType.boolean), Jvm.Cond.code ({ cls := "java/lang/StringLatin1", name := "toBytes", desc := "(C)[B" } : Jvm.MethodName) jdk_43_method_46_code (1 : Nat) (Option.some (Jvm.ClassFile.FieldType.array Jvm.ClassFile.FieldType.byte)), Jvm.Cond.code ({ cls := "java/lang/String", name := "<init>", desc := "([BB)V" } : Jvm.MethodName) jdk_42_method_151_code (3 : Nat) (Option.none : Option Jvm.ClassFile.FieldType)]
set_option maxRecDepth 65536 in
theorem codes_eq : words1.filter isCode = codes1 := rfl
theorem w_codes : ∀ c ∈ words1.filter isCode, c.before args0 about1 = true := by
  rw [codes_eq]
  intro c hc
  simp only [codes1, List.mem_cons, List.not_mem_nil, or_false] at hc
  rcases hc with rfl | rfl | rfl | rfl | rfl | rfl | rfl | rfl | rfl | rfl | rfl | rfl | rfl | rfl | rfl | rfl | rfl
  · exact w_c0
  · exact w_c1
  · exact w_c2
  · exact w_c3
  · exact w_c4
  · exact w_c5
  · exact w_c6
  · exact w_c7
  · exact w_c8
  · exact w_c9
  · exact w_c10
  · exact w_c11
  · exact w_c12
  · exact w_c13
  · exact w_c14
  · exact w_c15
  · exact w_c16
set_option maxRecDepth 65536 in
theorem w_t1 : (words1.take 24).all (fun c => isCode c || c.before args0 about1) = true := by decide +kernel
set_option maxRecDepth 65536 in
theorem w_t2 : ((words1.drop 24).take 24).all (fun c => isCode c || c.before args0 about1) = true := by decide +kernel
set_option maxRecDepth 65536 in
theorem w_t3 : (((words1.drop 24).drop 24).take 24).all (fun c => isCode c || c.before args0 about1) = true := by decide +kernel
set_option maxRecDepth 65536 in
theorem w_t4 : (((words1.drop 24).drop 24).drop 24).all (fun c => isCode c || c.before args0 about1) = true := by decide +kernel
theorem w_tables : (allAtoms (Jvm.Cond.code x code maxLocals ret :: tables_1)).before args0 about1 = true := by
  rw [allAtoms_all]
  show words1.all (fun c => c.before args0 about1) = true
  refine all_split ?_ w_codes
  rw [← List.take_append_drop 24 words1, List.all_append, w_t1, ← List.take_append_drop 24 (words1.drop 24), List.all_append, w_t2, ← List.take_append_drop 24 ((words1.drop 24).drop 24), List.all_append, w_t3, w_t4]
  rfl
set_option maxRecDepth 65536 in
theorem w_rest : rest_1_c.before args0 about1 = true := by decide +kernel
set_option maxRecDepth 65536 in
theorem w_case : (Jvm.Cond.and given_1 narrow_1).before args0 about1 = true := by decide +kernel
set_option maxRecDepth 65536 in
theorem w_consts : constsHeld consts_1 about1 := Jvm.Lit.constsHeldB_iff.mp (by decide +kernel)
theorem w_applies : (headSpec (Jvm.Cond.code x code maxLocals ret :: tables_1) room_1).applies x e0.platform about1 = true :=
  (Spec.applies_iff w_frames).mpr ⟨w_running, w_runnable, w_alone, w_named, w_hears, w_ripe, w_room, w_tables⟩
theorem atStart : AtStart classFile x code maxLocals ret World_1 tables_1 room_1 Calls_1 rest_1 Pre_1 launch0 p0 e0 about1 theMethod args0 below0 :=
  ⟨lists_1, trivial, launch0.admits_env _ _ _, launch0.least_env, fairChoices_fair.cas, fairChoices_fair.clock, w_frames, w_args, w_heap, w_applies, ⟨w_consts, trivial⟩, w_rest, w_case⟩
end start1
theorem witness_1 : WitnessClaimed_1 := ⟨start1.p0, start1.e0, start1.about1, start1.theMethod, start1.args0, start1.below0, start1.atStart⟩
end Jvm.Pilot.@@N@@
