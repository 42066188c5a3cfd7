import JvmDerived
import JvmDerived.Pilot.@@N@@Statement
import JvmDerived.Pilot.@@N@@Code
set_option linter.unusedVariables false
set_option linter.unusedSimpArgs false
set_option maxRecDepth 65536
set_option maxHeartbeats 40000000
namespace Jvm.Pilot.@@N@@
open Jvm Jvm.ClassFile Sem Op Lib Jvm.Free Jvm.Stand Jvm.LawKit Jvm.RoadKit Bundle Jvm.Pilot.@@N@@.Jvm.D
abbrev mm0 : MethodName := ⟨"java/lang/StringLatin1", "canEncode", "(C)Z"⟩
abbrev mm1 : MethodName := ⟨"java/lang/StringLatin1", "toBytes", "(C)[B"⟩
abbrev mm2 : MethodName := ⟨"java/lang/String", "<init>", "([BB)V"⟩
abbrev mm3 : MethodName := ⟨"java/lang/String", "valueOf", "(C)Ljava/lang/String;"⟩
abbrev mm4 : MethodName := ⟨"java/lang/String", "isLatin1", "()Z"⟩
abbrev mm5 : MethodName := ⟨"java/lang/StringLatin1", "hashCode", "([B)I"⟩
abbrev mm6 : MethodName := ⟨"java/lang/String", "hashCode", "()I"⟩
abbrev mm7 : MethodName := ⟨"java/lang/StringLatin1", "equals", "([B[B)Z"⟩
abbrev mm8 : MethodName := ⟨"java/lang/String", "equals", "(Ljava/lang/Object;)Z"⟩
abbrev mm9 : MethodName := ⟨"com/example/planwright/planwright/model/LatestPayDates", "slot", "(Ljava/lang/String;)I"⟩
abbrev mm10 : MethodName := ⟨"com/example/planwright/planwright/model/LatestPayDates", "number", "(Ljava/lang/String;)I"⟩
abbrev mm11 : MethodName := ⟨"java/lang/Enum", "ordinal", "()I"⟩
abbrev mm12 : MethodName := ⟨"java/util/Arrays", "fill", "([II)V"⟩
abbrev mm13 : MethodName := ⟨"com/example/planwright/planwright/model/LatestPayDates", "column", "(Lcom/example/planwright/planwright/model/PayItem;)[I"⟩
abbrev mm14 : MethodName := ⟨"com/example/planwright/planwright/model/PayItem", "ordinal", "()I"⟩
abbrev mm15 : MethodName := ⟨"java/time/temporal/ValueRange", "getMinimum", "()J"⟩
abbrev mm16 : MethodName := ⟨"java/time/temporal/ValueRange", "getMaximum", "()J"⟩
abbrev mm17 : MethodName := ⟨"java/time/chrono/IsoChronology", "isLeapYear", "(J)Z"⟩
abbrev mm18 : MethodName := ⟨"java/time/LocalDate", "isLeapYear", "()Z"⟩
abbrev mm19 : MethodName := ⟨"java/time/LocalDate", "toEpochDay", "()J"⟩
abbrev mm20 : MethodName := ⟨"java/lang/Math", "toIntExact", "(J)I"⟩
abbrev mm21 : MethodName := ⟨"java/time/LocalDate", "<init>", "(III)V"⟩
abbrev mm22 : MethodName := ⟨"java/time/temporal/ChronoField", "range", "()Ljava/time/temporal/ValueRange;"⟩
abbrev mm23 : MethodName := ⟨"java/time/temporal/ValueRange", "isValidValue", "(J)Z"⟩
abbrev mm24 : MethodName := ⟨"java/time/temporal/ValueRange", "checkValidValue", "(JLjava/time/temporal/TemporalField;)J"⟩
abbrev mm25 : MethodName := ⟨"java/time/temporal/ChronoField", "checkValidValue", "(J)J"⟩
abbrev mm26 : MethodName := ⟨"java/time/LocalDate", "ofEpochDay", "(J)Ljava/time/LocalDate;"⟩
abbrev mm27 : MethodName := ⟨"java/util/BitSet", "checkInvariants", "()V"⟩
abbrev mm28 : MethodName := ⟨"java/util/BitSet", "wordIndex", "(I)I"⟩
abbrev mm29 : MethodName := ⟨"java/util/BitSet", "get", "(I)Z"⟩
abbrev mm30 : MethodName := ⟨"java/util/BitSet", "isEmpty", "()Z"⟩
abbrev mm31 : MethodName := ⟨"com/example/planwright/planwright/model/LatestPayDates", "anyOutOfOrder", "()Z"⟩
abbrev mm32 : MethodName := ⟨"com/example/planwright/planwright/model/LatestPayDatesAnyOutOfOrderPinLaw", "item", "(I)Lcom/example/planwright/planwright/model/PayItem;"⟩
abbrev mm33 : MethodName := ⟨"java/lang/Math", "max", "(II)I"⟩
abbrev mm34 : MethodName := ⟨"java/lang/Integer", "numberOfLeadingZeros", "(I)I"⟩
abbrev mm35 : MethodName := ⟨"java/lang/Integer", "highestOneBit", "(I)I"⟩
abbrev mm36 : MethodName := ⟨"java/util/BitSet", "initWords", "(I)V"⟩
abbrev mm37 : MethodName := ⟨"java/util/BitSet", "<init>", "()V"⟩
abbrev mm38 : MethodName := ⟨"com/example/planwright/planwright/model/LatestPayDates", "<init>", "(I)V"⟩
abbrev mm39 : MethodName := ⟨"com/example/planwright/planwright/model/LatestPayDates", "add", "(Ljava/lang/String;Ljava/time/LocalDate;Lcom/example/planwright/planwright/model/PayItem;)Z"⟩
abbrev mm40 : MethodName := ⟨"java/util/BitSet", "ensureCapacity", "(I)V"⟩
abbrev mm41 : MethodName := ⟨"java/util/BitSet", "expandTo", "(I)V"⟩
abbrev mm42 : MethodName := ⟨"java/util/BitSet", "set", "(I)V"⟩
abbrev rk (f c s l : Nat) : Room := { frames := f, cells := c, slots := s, locals := l }
abbrev ZI : Value := .int (0 : Int32)
abbrev sg0 : String := "com/example/planwright/planwright/model/LatestPayDates"
abbrev sg1 : String := "java/lang/String"
abbrev sg2 : String := "java/util/BitSet"
abbrev sg3 : String := "java/time/LocalDate"
abbrev sg4 : String := "com/example/planwright/planwright/model/PayItem"
abbrev sg5 : String := "[Ljava/lang/String;"
abbrev sg6 : String := "Ljava/util/BitSet;"
abbrev sg7 : String := "java/lang/Enum"
abbrev sg8 : String := "participants"
abbrev sg9 : String := "java/time/temporal/ValueRange"
abbrev sg10 : String := "com/example/planwright/planwright/model/LatestPayDatesAnyOutOfOrderPinLaw"
abbrev sg11 : String := "java/lang/StringLatin1"
abbrev sg12 : String := "java/time/temporal/ChronoField"
abbrev sg13 : String := "sizeIsSticky"
abbrev sg14 : String := "java/lang/Integer"
abbrev sg15 : String := "java/time/chrono/IsoChronology"
abbrev sg16 : String := "java/lang/Math"
abbrev sg17 : String := "java/util/Arrays"
theorem own_wid {p : Program} {l : Launch} {e : Env} {R : Room} {s : State} {m : MethodId} {args : Array Value} {below : List Frame} {meth : Method} {c : Code} {T : State} {locs : List Loc} {cells slots c' s' : Nat} (X : Stand p l e R s m args below meth c T locs cells slots) (h1 : cells ≤ c') (h2 : slots ≤ s') : Stand p l e R s m args below meth c T locs c' s' :=
  ⟨X.admits, X.cas, X.clock, X.frames, X.room, X.hears, X.method, X.code, X.here, X.tail, X.warmed, X.limits, X.bytes, X.same.mono h1 h2⟩
abbrev Sx (p : Program) (e : Env) (b : List Frame) (T : State) (m : MethodId) (pc : Nat) (L : Array Slot) (S : List Value) (t : State) : Prop := Steps p.tables e b (T.setTop (mkF m pc L S)) t
abbrev DC (c : ByteArray) (q : Nat) (i : Instr) (n : Nat) : Prop := decode c q = .ok (i, n)
theorem onb {a b n m : Nat} (h : a < n) (h2 : n ≤ m) (h3 : m ≤ b) : a ≠ b := Nat.ne_of_lt (Nat.lt_of_lt_of_le (Nat.lt_of_lt_of_le h h2) h3)
theorem ntr {a b c : Nat} (h : a ≤ b) (q : b ≤ c) : a ≤ c := Nat.le_trans h q
theorem own_rv {α : Type} {a : Option α} {t : α} {P : Prop} (h : a = some t) (q : a = none) : P := by rw [h] at q; cases q
theorem own_Z0 {Z : State} {n0 : Nat} {h0 : Heap} (X : Old Z n0 h0) : n0 ≤ h0.size := by have q := X.2.1; rw [X.1] at q; exact q
theorem oi {l : List Addr} {x : Addr} {P : Prop} (i : Nat) (h : l[i]? = some x) : x ∈ l ∨ P := Or.inl (List.mem_of_getElem? h)
theorem own_pre (p : Program) (e : Env) (b : List Frame) (T : State) {m : MethodId} {A : Array Value} {n : Nat} {L : Array Slot} (h : entryFrame m A n = mkF m 0 L []) : ∃ P : State → Prop, (∀ t, P t → Steps p.tables e b (T.setTop (entryFrame m A n)) t) ∧ (∀ t, Steps p.tables e b (T.setTop (mkF m 0 L [])) t → P t) := ⟨_, fun t k => k, fun t k => castTop h k⟩
abbrev xvi (x : Int32) : Slot := .val (.int x)
abbrev xvj (x : Int64) : Slot := .val (.long x)
abbrev xvr (x : Addr) : Slot := .val (.ref x)
abbrev xwi (x : Int32) : Value := .int x
abbrev xwj (x : Int64) : Value := .long x
abbrev xwr (x : Addr) : Value := .ref x
abbrev xun : Slot := .unset
abbrev xse : Slot := .second
theorem own_selp {Z : State} {a0 : Array Value} {y : MethodName} {n : Nat} (wi : (Cond.instantiable y.cls n).before a0 Z = true) (wp : (Cond.privateMethod y).before a0 Z = true) (wn : (Cond.instanceMethod y).before a0 Z = true) (hy : y.cls ≠ "java/lang/invoke/MethodHandle" ∧ y.cls ≠ "java/lang/invoke/VarHandle") : (Cond.selects y.cls y y).before a0 Z = true := by
  obtain ⟨c, k, h1, h2, -, h4, -⟩ := Cond.instantiable_spec wi
  exact Jvm.Stand.selects_self_of_private h1 h2 (Bool.or_eq_false_iff.mp h4).1 (Cond.privateMethod_at wp) wn hy
section
variable {p : Program} {l : Launch} {e : Env} {R : Room} {s : State} {m : MethodId} {args : Array Value} {below : List Frame} {meth : Method} {c : Code} {T : State} {locs : List Loc} {cells slots : Nat} {t : State} {L : Array Slot} {S : List Value} {pc : Nat}
theorem y_iload (X : Stand p l e R s m args below meth c T locs cells slots) (hx : p.tables.exec = Jvm.exec) {k : Nat} {v : Int32} (q : Nat) (hd : decode c.code pc = .ok (.iload k, 2)) (hl : L[k]? = some (.val (.int v))) (hq : pc + 2 = q) (hr : Sx p e below T m q L (.int v :: S) t) : Sx p e below T m pc L S t := by subst hq; exact XS.iload X.here hx rfl hd hl hr
theorem y_iloadN (X : Stand p l e R s m args below meth c T locs cells slots) (hx : p.tables.exec = Jvm.exec) {k : Fin 4} {v : Int32} (q : Nat) (hd : decode c.code pc = .ok (.iload_n k, 1)) (hl : L[k.val]? = some (.val (.int v))) (hq : pc + 1 = q) (hr : Sx p e below T m q L (.int v :: S) t) : Sx p e below T m pc L S t := by subst hq; exact XS.iloadN X.here hx rfl hd hl hr
theorem y_lload (X : Stand p l e R s m args below meth c T locs cells slots) (hx : p.tables.exec = Jvm.exec) {k : Nat} {v : Int64} (q : Nat) (hd : decode c.code pc = .ok (.lload k, 2)) (hl : L[k]? = some (.val (.long v))) (hq : pc + 2 = q) (hr : Sx p e below T m q L (.long v :: S) t) : Sx p e below T m pc L S t := by subst hq; exact XS.lload X.here hx rfl hd hl hr
theorem y_lloadN (X : Stand p l e R s m args below meth c T locs cells slots) (hx : p.tables.exec = Jvm.exec) {k : Fin 4} {v : Int64} (q : Nat) (hd : decode c.code pc = .ok (.lload_n k, 1)) (hl : L[k.val]? = some (.val (.long v))) (hq : pc + 1 = q) (hr : Sx p e below T m q L (.long v :: S) t) : Sx p e below T m pc L S t := by subst hq; exact XS.lloadN X.here hx rfl hd hl hr
theorem y_aload (X : Stand p l e R s m args below meth c T locs cells slots) (hx : p.tables.exec = Jvm.exec) {k : Nat} {v : Value} (q : Nat) (hd : decode c.code pc = .ok (.aload k, 2)) (hl : L[k]? = some (.val v)) (hv : v.isRef = true) (hq : pc + 2 = q) (hr : Sx p e below T m q L (v :: S) t) : Sx p e below T m pc L S t := by subst hq; exact XS.aload X.here hx rfl hd hl hv hr
theorem y_aloadN (X : Stand p l e R s m args below meth c T locs cells slots) (hx : p.tables.exec = Jvm.exec) {k : Fin 4} {v : Value} (q : Nat) (hd : decode c.code pc = .ok (.aload_n k, 1)) (hl : L[k.val]? = some (.val v)) (hv : v.isRef = true) (hq : pc + 1 = q) (hr : Sx p e below T m q L (v :: S) t) : Sx p e below T m pc L S t := by subst hq; exact XS.aloadN X.here hx rfl hd hl hv hr
theorem y_iconst (X : Stand p l e R s m args below meth c T locs cells slots) (hx : p.tables.exec = Jvm.exec) {i : Int} (z : Int32) (q : Nat) (hd : decode c.code pc = .ok (.iconst i, 1)) (hz : Int32.ofInt i = z) (hq : pc + 1 = q) (hr : Sx p e below T m q L (.int z :: S) t) : Sx p e below T m pc L S t := by subst hq; exact XS.iconst X.here hx rfl hd (by rw [hz]; exact hr)
theorem y_bipush (X : Stand p l e R s m args below meth c T locs cells slots) (hx : p.tables.exec = Jvm.exec) {i : Int} (z : Int32) (q : Nat) (hd : decode c.code pc = .ok (.bipush i, 2)) (hz : (Int8.ofInt i).toInt32 = z) (hq : pc + 2 = q) (hr : Sx p e below T m q L (.int z :: S) t) : Sx p e below T m pc L S t := by subst hq; exact XS.bipush X.here hx rfl hd (by rw [hz]; exact hr)
theorem y_sipush (X : Stand p l e R s m args below meth c T locs cells slots) (hx : p.tables.exec = Jvm.exec) {i : Int} (z : Int32) (q : Nat) (hd : decode c.code pc = .ok (.sipush i, 3)) (hz : (Int16.ofInt i).toInt32 = z) (hq : pc + 3 = q) (hr : Sx p e below T m q L (.int z :: S) t) : Sx p e below T m pc L S t := by subst hq; exact XS.sipush X.here hx rfl hd (by rw [hz]; exact hr)
theorem y_iadd (X : Stand p l e R s m args below meth c T locs cells slots) (hx : p.tables.exec = Jvm.exec) {x y : Int32} (q : Nat) (hd : decode c.code pc = .ok (.iadd, 1)) (hq : pc + 1 = q) (hr : Sx p e below T m q L (.int (x + y) :: S) t) : Sx p e below T m pc L (.int y :: .int x :: S) t := by subst hq; exact XS.iadd X.here hx rfl hd rfl hr
theorem y_ladd (X : Stand p l e R s m args below meth c T locs cells slots) (hx : p.tables.exec = Jvm.exec) {x y : Int64} (q : Nat) (hd : decode c.code pc = .ok (.ladd, 1)) (hq : pc + 1 = q) (hr : Sx p e below T m q L (.long (x + y) :: S) t) : Sx p e below T m pc L (.long y :: .long x :: S) t := by subst hq; exact XS.ladd X.here hx rfl hd rfl hr
theorem y_isub (X : Stand p l e R s m args below meth c T locs cells slots) (hx : p.tables.exec = Jvm.exec) {x y : Int32} (q : Nat) (hd : decode c.code pc = .ok (.isub, 1)) (hq : pc + 1 = q) (hr : Sx p e below T m q L (.int (x - y) :: S) t) : Sx p e below T m pc L (.int y :: .int x :: S) t := by subst hq; exact XS.isub X.here hx rfl hd rfl hr
theorem y_lsub (X : Stand p l e R s m args below meth c T locs cells slots) (hx : p.tables.exec = Jvm.exec) {x y : Int64} (q : Nat) (hd : decode c.code pc = .ok (.lsub, 1)) (hq : pc + 1 = q) (hr : Sx p e below T m q L (.long (x - y) :: S) t) : Sx p e below T m pc L (.long y :: .long x :: S) t := by subst hq; exact XS.lsub X.here hx rfl hd rfl hr
theorem y_imul (X : Stand p l e R s m args below meth c T locs cells slots) (hx : p.tables.exec = Jvm.exec) {x y : Int32} (q : Nat) (hd : decode c.code pc = .ok (.imul, 1)) (hq : pc + 1 = q) (hr : Sx p e below T m q L (.int (x * y) :: S) t) : Sx p e below T m pc L (.int y :: .int x :: S) t := by subst hq; exact XS.imul X.here hx rfl hd rfl hr
theorem y_lmul (X : Stand p l e R s m args below meth c T locs cells slots) (hx : p.tables.exec = Jvm.exec) {x y : Int64} (q : Nat) (hd : decode c.code pc = .ok (.lmul, 1)) (hq : pc + 1 = q) (hr : Sx p e below T m q L (.long (x * y) :: S) t) : Sx p e below T m pc L (.long y :: .long x :: S) t := by subst hq; exact XS.lmul X.here hx rfl hd rfl hr
theorem y_iand (X : Stand p l e R s m args below meth c T locs cells slots) (hx : p.tables.exec = Jvm.exec) {x y : Int32} (q : Nat) (hd : decode c.code pc = .ok (.iand, 1)) (hq : pc + 1 = q) (hr : Sx p e below T m q L (.int (x &&& y) :: S) t) : Sx p e below T m pc L (.int y :: .int x :: S) t := by subst hq; exact XS.iand X.here hx rfl hd rfl hr
theorem y_land (X : Stand p l e R s m args below meth c T locs cells slots) (hx : p.tables.exec = Jvm.exec) {x y : Int64} (q : Nat) (hd : decode c.code pc = .ok (.land, 1)) (hq : pc + 1 = q) (hr : Sx p e below T m q L (.long (x &&& y) :: S) t) : Sx p e below T m pc L (.long y :: .long x :: S) t := by subst hq; exact XS.land X.here hx rfl hd rfl hr
theorem y_lor (X : Stand p l e R s m args below meth c T locs cells slots) (hx : p.tables.exec = Jvm.exec) {x y : Int64} (q : Nat) (hd : decode c.code pc = .ok (.lor, 1)) (hq : pc + 1 = q) (hr : Sx p e below T m q L (.long (x ||| y) :: S) t) : Sx p e below T m pc L (.long y :: .long x :: S) t := by subst hq; exact XS.lor X.here hx rfl hd rfl hr
theorem y_goto (X : Stand p l e R s m args below meth c T locs cells slots) (hx : p.tables.exec = Jvm.exec) {o : Int} (q : Nat) (hd : decode c.code pc = .ok (.goto o, 3)) (ho : decide (0 ≤ (pc : Int) + o) = true) (hq : ((pc : Int) + o).toNat = q) (hr : Sx p e below T m q L S t) : Sx p e below T m pc L S t := by subst hq; exact XS.goto X.here hx rfl rfl hd (of_decide_eq_true ho) rfl hr
theorem y_ifYes (X : Stand p l e R s m args below meth c T locs cells slots) (hx : p.tables.exec = Jvm.exec) {cd : ClassFile.Cond} {x : Int32} {o : Int} (q : Nat) (hd : decode c.code pc = .ok (.ifCond cd o, 3)) (hc : ifCond.holds cd x = true) (ho : decide (0 ≤ (pc : Int) + o) = true) (hq : ((pc : Int) + o).toNat = q) (hr : Sx p e below T m q L S t) : Sx p e below T m pc L (.int x :: S) t := by subst hq; exact XS.ifYes X.here hx rfl rfl hd rfl hc (of_decide_eq_true ho) rfl hr
theorem y_ifNo (X : Stand p l e R s m args below meth c T locs cells slots) (hx : p.tables.exec = Jvm.exec) {cd : ClassFile.Cond} {x : Int32} {o : Int} (q : Nat) (hd : decode c.code pc = .ok (.ifCond cd o, 3)) (hc : ifCond.holds cd x = false) (hq : pc + 3 = q) (hr : Sx p e below T m q L S t) : Sx p e below T m pc L (.int x :: S) t := by subst hq; exact XS.ifNo X.here hx rfl hd rfl hc hr
theorem y_icmpYes (X : Stand p l e R s m args below meth c T locs cells slots) (hx : p.tables.exec = Jvm.exec) {cd : ClassFile.Cond} {x y : Int32} {o : Int} (q : Nat) (hd : decode c.code pc = .ok (.if_icmp cd o, 3)) (hc : if_icmp.holds cd x y = true) (ho : decide (0 ≤ (pc : Int) + o) = true) (hq : ((pc : Int) + o).toNat = q) (hr : Sx p e below T m q L S t) : Sx p e below T m pc L (.int y :: .int x :: S) t := by subst hq; exact XS.icmpYes X.here hx rfl rfl hd rfl hc (of_decide_eq_true ho) rfl hr
theorem y_icmpNo (X : Stand p l e R s m args below meth c T locs cells slots) (hx : p.tables.exec = Jvm.exec) {cd : ClassFile.Cond} {x y : Int32} {o : Int} (q : Nat) (hd : decode c.code pc = .ok (.if_icmp cd o, 3)) (hc : if_icmp.holds cd x y = false) (hq : pc + 3 = q) (hr : Sx p e below T m q L S t) : Sx p e below T m pc L (.int y :: .int x :: S) t := by subst hq; exact XS.icmpNo X.here hx rfl hd rfl hc hr
theorem y_dup (X : Stand p l e R s m args below meth c T locs cells slots) (hx : p.tables.exec = Jvm.exec) {v : Value} (q : Nat) (hd : decode c.code pc = .ok (.dup, 1)) (hc : v.category = 1) (hq : pc + 1 = q) (hr : Sx p e below T m q L (v :: v :: S) t) : Sx p e below T m pc L (v :: S) t := by subst hq; exact XS.dup X.here hx rfl hd rfl hc hr
theorem y_pop (X : Stand p l e R s m args below meth c T locs cells slots) (hx : p.tables.exec = Jvm.exec) {v : Value} (q : Nat) (hd : decode c.code pc = .ok (.pop, 1)) (hc : v.category = 1) (hq : pc + 1 = q) (hr : Sx p e below T m q L S t) : Sx p e below T m pc L (v :: S) t := by subst hq; exact XS.pop X.here hx rfl hd rfl hc hr
theorem y_istore (X : Stand p l e R s m args below meth c T locs cells slots) (hx : p.tables.exec = Jvm.exec) {k : Nat} {v : Int32} {L' : Array Slot} (q : Nat) (hd : decode c.code pc = .ok (.istore k, 2)) (hl : storeLocals L k (.int v) = some L') (hq : pc + 2 = q) (hr : Sx p e below T m q L' S t) : Sx p e below T m pc L ((.int v) :: S) t := by subst hq; exact XS.istore X.here hx rfl hd rfl hl hr
theorem y_istoreN (X : Stand p l e R s m args below meth c T locs cells slots) (hx : p.tables.exec = Jvm.exec) {k : Fin 4} {v : Int32} {L' : Array Slot} (q : Nat) (hd : decode c.code pc = .ok (.istore_n k, 1)) (hl : storeLocals L k.val (.int v) = some L') (hq : pc + 1 = q) (hr : Sx p e below T m q L' S t) : Sx p e below T m pc L ((.int v) :: S) t := by subst hq; exact XS.istoreN X.here hx rfl hd rfl hl hr
theorem y_astore (X : Stand p l e R s m args below meth c T locs cells slots) (hx : p.tables.exec = Jvm.exec) {k : Nat} {v : Value} {L' : Array Slot} (q : Nat) (hd : decode c.code pc = .ok (.astore k, 2)) (hv : v.isRef = true) (hl : storeLocals L k v = some L') (hq : pc + 2 = q) (hr : Sx p e below T m q L' S t) : Sx p e below T m pc L (v :: S) t := by subst hq; exact XS.astore X.here hx rfl hd rfl hv hl hr
theorem y_astoreN (X : Stand p l e R s m args below meth c T locs cells slots) (hx : p.tables.exec = Jvm.exec) {k : Fin 4} {v : Value} {L' : Array Slot} (q : Nat) (hd : decode c.code pc = .ok (.astore_n k, 1)) (hv : v.isRef = true) (hl : storeLocals L k.val v = some L') (hq : pc + 1 = q) (hr : Sx p e below T m q L' S t) : Sx p e below T m pc L (v :: S) t := by subst hq; exact XS.astoreN X.here hx rfl hd rfl hv hl hr
theorem y_lstore (X : Stand p l e R s m args below meth c T locs cells slots) (hx : p.tables.exec = Jvm.exec) {k : Nat} {v : Int64} {L' : Array Slot} (q : Nat) (hd : decode c.code pc = .ok (.lstore k, 2)) (hl : storeLocals L k (.long v) = some L') (hq : pc + 2 = q) (hr : Sx p e below T m q L' S t) : Sx p e below T m pc L (.long v :: S) t := by subst hq; exact XS.lstore X.here hx rfl hd rfl hl hr
theorem y_lstoreN (X : Stand p l e R s m args below meth c T locs cells slots) (hx : p.tables.exec = Jvm.exec) {k : Fin 4} {v : Int64} {L' : Array Slot} (q : Nat) (hd : decode c.code pc = .ok (.lstore_n k, 1)) (hl : storeLocals L k.val (.long v) = some L') (hq : pc + 1 = q) (hr : Sx p e below T m q L' S t) : Sx p e below T m pc L (.long v :: S) t := by subst hq; exact XS.lstoreN X.here hx rfl hd rfl hl hr
theorem y_ldcJ (X : Stand p l e R s m args below meth c T locs cells slots) (hx : p.tables.exec = Jvm.exec) {own : String} {ix : Nat} {v : Int64} (hown : s.vm.findClass own = some m.cls) (hk : (Jvm.Cond.constantLong own ix v).before args s = true) (q : Nat) (hd : decode c.code pc = .ok (.ldc2_w ix, 3)) (hq : pc + 3 = q) (hr : Sx p e below T m q L (.long v :: S) t) : Sx p e below T m pc L S t := by
  subst hq; exact X.ldc2Long hx hown hk (g := mkF m pc L S) rfl hd _ hr
theorem y_ldiv (X : Stand p l e R s m args below meth c T locs cells slots) (hx : p.tables.exec = Jvm.exec) {x y : Int64} (q : Nat) (hd : decode c.code pc = .ok (.ldiv, 1)) (hy : y ≠ 0) (hq : pc + 1 = q) (hr : Sx p e below T m q L (.long (x / y) :: S) t) : Sx p e below T m pc L (.long y :: .long x :: S) t := by subst hq; exact XT.ldiv X.here hx rfl hd rfl hy hr
theorem y_lcmp (X : Stand p l e R s m args below meth c T locs cells slots) (hx : p.tables.exec = Jvm.exec) {x y : Int64} (q : Nat) (hd : decode c.code pc = .ok (.lcmp, 1)) (hq : pc + 1 = q) (hr : Sx p e below T m q L (.int (XT.cmpL x y) :: S) t) : Sx p e below T m pc L (.long y :: .long x :: S) t := by subst hq; exact XT.lcmp X.here hx rfl hd rfl hr
theorem y_i2l (X : Stand p l e R s m args below meth c T locs cells slots) (hx : p.tables.exec = Jvm.exec) {x : Int32} (q : Nat) (hd : decode c.code pc = .ok (.i2l, 1)) (hq : pc + 1 = q) (hr : Sx p e below T m q L (.long (x.toInt64) :: S) t) : Sx p e below T m pc L (.int x :: S) t := by subst hq; exact XS.i2l X.here hx rfl hd rfl hr
theorem y_l2i (X : Stand p l e R s m args below meth c T locs cells slots) (hx : p.tables.exec = Jvm.exec) {x : Int64} (q : Nat) (hd : decode c.code pc = .ok (.l2i, 1)) (hq : pc + 1 = q) (hr : Sx p e below T m q L (.int (x.toInt32) :: S) t) : Sx p e below T m pc L (.long x :: S) t := by subst hq; exact XS.l2i X.here hx rfl hd rfl hr
theorem y_lsw (X : Stand p l e R s m args below meth c T locs cells slots) (hx : p.tables.exec = Jvm.exec) {dflt : Int} {ps : Array (Int × Int)} {len : Nat} {i : Int32} (q : Nat) (o : Int) (hd : decode c.code pc = .ok (.lookupswitch dflt ps, len)) (hps : (ps.toList.zip (ps.toList.drop 1)).all (fun (a, next) => a.1 < next.1) = true) (hoff : lookupswitch.offset ps.toList dflt i.toInt = o) (ho : 0 ≤ (pc : Int) + o) (hq : ((pc : Int) + o).toNat = q) (hr : Sx p e below T m q L S t) : Sx p e below T m pc L (.int i :: S) t := by
  subst hq
  jvm_step X.here [X.here.top, hx, hd, hps, hoff, ho, lookupswitch.wp_chain]
  exact ⟨by simpa using hps, hr⟩
end
theorem own_nar {v : Value} {t : FieldType} (h : v.isRef = true) (ht : t.isReference = true) : narrow t v = v := by
  rcases XT.refc h with rfl | ⟨r, rfl⟩ <;> cases t <;> first | rfl | cases ht
theorem own_fit {v : Value} {t : FieldType} (h : v.isRef = true) (ht : t.isReference = true) : fits t v = true := by
  rcases XT.refc h with rfl | ⟨r, rfl⟩ <;> cases t <;> first | rfl | cases ht
abbrev HW (a0 : Array Value) (Z : State) : Prop := ∀ d ∈ tables_1, d.before a0 Z = true
theorem w_at {a0 : Array Value} {Z : State} (hw : HW a0 Z) {d : Jvm.Cond} (i : Nat) (h : tables_1[i]? = some d) : d.before a0 Z = true := hw _ (List.mem_of_getElem? h)
section
variable {a0 : Array Value} {Z : State} (hw : HW a0 Z)
def w_0 := w_at hw 0 rfl
def w_1 := w_at hw 1 rfl
def w_2 := w_at hw 2 rfl
def w_3 := w_at hw 3 rfl
def w_4 := w_at hw 4 rfl
def w_5 := w_at hw 5 rfl
def w_6 := w_at hw 6 rfl
def w_7 := w_at hw 7 rfl
def w_8 := w_at hw 8 rfl
def w_9 := w_at hw 9 rfl
def w_10 := w_at hw 10 rfl
def w_11 := w_at hw 11 rfl
def w_12 := w_at hw 12 rfl
def w_13 := w_at hw 13 rfl
def w_14 := w_at hw 14 rfl
def w_15 := w_at hw 15 rfl
def w_16 := w_at hw 16 rfl
def w_18 := w_at hw 18 rfl
def w_19 := w_at hw 19 rfl
def w_20 := w_at hw 20 rfl
def w_21 := w_at hw 21 rfl
def w_22 := w_at hw 22 rfl
def w_23 := w_at hw 23 rfl
def w_24 := w_at hw 24 rfl
def w_25 := w_at hw 25 rfl
def w_26 := w_at hw 26 rfl
def w_27 := w_at hw 27 rfl
def w_28 := w_at hw 28 rfl
def w_29 := w_at hw 29 rfl
def w_30 := w_at hw 30 rfl
def w_31 := w_at hw 31 rfl
def w_32 := w_at hw 32 rfl
def w_33 := w_at hw 33 rfl
def w_34 := w_at hw 34 rfl
def w_35 := w_at hw 35 rfl
def w_36 := w_at hw 36 rfl
def w_37 := w_at hw 37 rfl
def w_38 := w_at hw 38 rfl
def w_39 := w_at hw 39 rfl
def w_40 := w_at hw 40 rfl
def w_41 := w_at hw 41 rfl
def w_42 := w_at hw 42 rfl
def w_43 := w_at hw 43 rfl
def w_44 := w_at hw 44 rfl
def w_45 := w_at hw 45 rfl
def w_46 := w_at hw 46 rfl
def w_47 := w_at hw 47 rfl
def w_48 := w_at hw 48 rfl
def w_49 := w_at hw 49 rfl
def w_50 := w_at hw 50 rfl
def w_51 := w_at hw 51 rfl
def w_52 := w_at hw 52 rfl
def w_53 := w_at hw 53 rfl
def w_55 := w_at hw 55 rfl
def w_56 := w_at hw 56 rfl
def w_57 := w_at hw 57 rfl
def w_58 := w_at hw 58 rfl
def w_59 := w_at hw 59 rfl
def w_60 := w_at hw 60 rfl
def w_61 := w_at hw 61 rfl
def w_62 := w_at hw 62 rfl
def w_63 := w_at hw 63 rfl
def w_64 := w_at hw 64 rfl
def w_65 := w_at hw 65 rfl
def w_66 := w_at hw 66 rfl
def w_67 := w_at hw 67 rfl
def w_68 := w_at hw 68 rfl
def w_69 := w_at hw 69 rfl
def w_70 := w_at hw 70 rfl
def w_71 := w_at hw 71 rfl
def w_73 := w_at hw 73 rfl
def w_74 := w_at hw 74 rfl
def w_75 := w_at hw 75 rfl
def w_76 := w_at hw 76 rfl
def w_77 := w_at hw 77 rfl
def w_78 := w_at hw 78 rfl
def w_80 := w_at hw 80 rfl
def w_81 := w_at hw 81 rfl
def w_82 := w_at hw 82 rfl
def w_83 := w_at hw 83 rfl
def w_84 := w_at hw 84 rfl
def w_85 := w_at hw 85 rfl
def w_86 := w_at hw 86 rfl
def w_87 := w_at hw 87 rfl
def w_88 := w_at hw 88 rfl
def w_89 := w_at hw 89 rfl
def w_90 := w_at hw 90 rfl
def w_91 := w_at hw 91 rfl
def w_93 := w_at hw 93 rfl
def w_94 := w_at hw 94 rfl
def w_95 := w_at hw 95 rfl
def w_96 := w_at hw 96 rfl
def w_97 := w_at hw 97 rfl
def w_98 := w_at hw 98 rfl
def w_99 := w_at hw 99 rfl
def w_100 := w_at hw 100 rfl
def w_101 := w_at hw 101 rfl
def w_102 := w_at hw 102 rfl
def w_103 := w_at hw 103 rfl
def w_104 := w_at hw 104 rfl
def w_105 := w_at hw 105 rfl
def w_106 := w_at hw 106 rfl
def w_107 := w_at hw 107 rfl
def w_108 := w_at hw 108 rfl
def w_109 := w_at hw 109 rfl
def w_110 := w_at hw 110 rfl
def w_111 := w_at hw 111 rfl
def w_112 := w_at hw 112 rfl
def w_113 := w_at hw 113 rfl
def w_114 := w_at hw 114 rfl
def w_115 := w_at hw 115 rfl
def w_116 := w_at hw 116 rfl
def w_117 := w_at hw 117 rfl
def w_118 := w_at hw 118 rfl
def w_119 := w_at hw 119 rfl
def w_120 := w_at hw 120 rfl
def w_121 := w_at hw 121 rfl
def w_122 := w_at hw 122 rfl
def w_123 := w_at hw 123 rfl
def w_124 := w_at hw 124 rfl
def w_125 := w_at hw 125 rfl
def w_126 := w_at hw 126 rfl
def w_127 := w_at hw 127 rfl
def w_128 := w_at hw 128 rfl
def w_129 := w_at hw 129 rfl
def w_130 := w_at hw 130 rfl
def w_131 := w_at hw 131 rfl
def w_132 := w_at hw 132 rfl
def w_133 := w_at hw 133 rfl
def w_134 := w_at hw 134 rfl
def w_135 := w_at hw 135 rfl
def w_136 := w_at hw 136 rfl
def w_137 := w_at hw 137 rfl
def w_138 := w_at hw 138 rfl
def w_139 := w_at hw 139 rfl
def w_140 := w_at hw 140 rfl
def w_141 := w_at hw 141 rfl
def w_142 := w_at hw 142 rfl
def w_143 := w_at hw 143 rfl
def w_144 := w_at hw 144 rfl
def w_145 := w_at hw 145 rfl
def w_146 := w_at hw 146 rfl
def w_147 := w_at hw 147 rfl
def w_148 := w_at hw 148 rfl
def w_149 := w_at hw 149 rfl
def w_150 := w_at hw 150 rfl
def w_151 := w_at hw 151 rfl
def w_152 := w_at hw 152 rfl
def w_153 := w_at hw 153 rfl
def w_154 := w_at hw 154 rfl
def w_155 := w_at hw 155 rfl
def w_156 := w_at hw 156 rfl
def w_157 := w_at hw 157 rfl
def w_158 := w_at hw 158 rfl
def w_159 := w_at hw 159 rfl
def w_160 := w_at hw 160 rfl
def w_161 := w_at hw 161 rfl
def w_162 := w_at hw 162 rfl
def w_163 := w_at hw 163 rfl
def w_164 := w_at hw 164 rfl
def w_165 := w_at hw 165 rfl
def w_166 := w_at hw 166 rfl
def w_167 := w_at hw 167 rfl
def w_168 := w_at hw 168 rfl
def w_169 := w_at hw 169 rfl
def w_170 := w_at hw 170 rfl
def w_171 := w_at hw 171 rfl
def w_172 := w_at hw 172 rfl
def w_173 := w_at hw 173 rfl
def w_174 := w_at hw 174 rfl
def w_175 := w_at hw 175 rfl
def w_176 := w_at hw 176 rfl
def w_177 := w_at hw 177 rfl
def w_178 := w_at hw 178 rfl
def w_179 := w_at hw 179 rfl
def w_180 := w_at hw 180 rfl
def w_181 := w_at hw 181 rfl
def w_182 := w_at hw 182 rfl
def w_183 := w_at hw 183 rfl
def w_184 := w_at hw 184 rfl
def w_185 := w_at hw 185 rfl
def w_186 := w_at hw 186 rfl
def w_187 := w_at hw 187 rfl
def w_188 := w_at hw 188 rfl
def w_189 := w_at hw 189 rfl
def w_190 := w_at hw 190 rfl
def w_191 := w_at hw 191 rfl
def w_192 := w_at hw 192 rfl
def w_193 := w_at hw 193 rfl
def w_194 := w_at hw 194 rfl
def w_195 := w_at hw 195 rfl
def w_196 := w_at hw 196 rfl
def w_197 := w_at hw 197 rfl
def w_198 := w_at hw 198 rfl
def w_199 := w_at hw 199 rfl
def w_200 := w_at hw 200 rfl
def w_201 := w_at hw 201 rfl
def w_202 := w_at hw 202 rfl
def w_203 := w_at hw 203 rfl
def w_204 := w_at hw 204 rfl
def w_205 := w_at hw 205 rfl
def w_206 := w_at hw 206 rfl
def w_207 := w_at hw 207 rfl
def w_208 := w_at hw 208 rfl
def w_209 := w_at hw 209 rfl
def w_210 := w_at hw 210 rfl
def w_211 := w_at hw 211 rfl
def w_212 := w_at hw 212 rfl
def w_213 := w_at hw 213 rfl
def w_214 := w_at hw 214 rfl
def w_215 := w_at hw 215 rfl
def w_216 := w_at hw 216 rfl
def w_217 := w_at hw 217 rfl
def w_218 := w_at hw 218 rfl
def w_219 := w_at hw 219 rfl
def w_220 := w_at hw 220 rfl
def w_221 := w_at hw 221 rfl
def w_222 := w_at hw 222 rfl
def w_223 := w_at hw 223 rfl
def w_224 := w_at hw 224 rfl
def w_225 := w_at hw 225 rfl
def w_226 := w_at hw 226 rfl
def w_227 := w_at hw 227 rfl
def w_228 := w_at hw 228 rfl
def w_230 := w_at hw 230 rfl
def w_231 := w_at hw 231 rfl
def w_232 := w_at hw 232 rfl
def w_233 := w_at hw 233 rfl
def w_234 := w_at hw 234 rfl
def w_236 := w_at hw 236 rfl
def w_237 := w_at hw 237 rfl
def w_238 := w_at hw 238 rfl
def w_239 := w_at hw 239 rfl
def w_240 := w_at hw 240 rfl
def w_241 := w_at hw 241 rfl
def w_242 := w_at hw 242 rfl
def w_243 := w_at hw 243 rfl
def w_244 := w_at hw 244 rfl
def w_245 := w_at hw 245 rfl
def w_246 := w_at hw 246 rfl
def w_247 := w_at hw 247 rfl
def w_248 := w_at hw 248 rfl
def w_249 := w_at hw 249 rfl
def w_250 := w_at hw 250 rfl
def w_251 := w_at hw 251 rfl
def w_252 := w_at hw 252 rfl
def w_253 := w_at hw 253 rfl
def w_254 := w_at hw 254 rfl
def w_255 := w_at hw 255 rfl
def w_256 := w_at hw 256 rfl
def w_257 := w_at hw 257 rfl
def w_258 := w_at hw 258 rfl
def w_259 := w_at hw 259 rfl
def w_260 := w_at hw 260 rfl
def w_261 := w_at hw 261 rfl
def w_262 := w_at hw 262 rfl
def w_263 := w_at hw 263 rfl
def w_264 := w_at hw 264 rfl
def w_265 := w_at hw 265 rfl
def w_266 := w_at hw 266 rfl
def w_267 := w_at hw 267 rfl
def w_268 := w_at hw 268 rfl
def w_269 := w_at hw 269 rfl
def w_270 := w_at hw 270 rfl
def w_271 := w_at hw 271 rfl
def w_272 := w_at hw 272 rfl
def w_273 := w_at hw 273 rfl
def w_274 := w_at hw 274 rfl
def w_275 := w_at hw 275 rfl
def w_276 := w_at hw 276 rfl
def w_277 := w_at hw 277 rfl
def w_278 := w_at hw 278 rfl
def w_279 := w_at hw 279 rfl
def w_280 := w_at hw 280 rfl
def w_281 := w_at hw 281 rfl
def w_282 := w_at hw 282 rfl
def w_283 := w_at hw 283 rfl
def w_284 := w_at hw 284 rfl
def w_285 := w_at hw 285 rfl
def w_286 := w_at hw 286 rfl
def w_287 := w_at hw 287 rfl
def w_288 := w_at hw 288 rfl
def w_289 := w_at hw 289 rfl
def w_290 := w_at hw 290 rfl
def w_291 := w_at hw 291 rfl
def w_292 := w_at hw 292 rfl
def w_293 := w_at hw 293 rfl
def w_294 := w_at hw 294 rfl
def w_295 := w_at hw 295 rfl
def w_296 := w_at hw 296 rfl
def w_297 := w_at hw 297 rfl
def w_298 := w_at hw 298 rfl
def w_299 := w_at hw 299 rfl
def w_300 := w_at hw 300 rfl
def w_301 := w_at hw 301 rfl
def w_302 := w_at hw 302 rfl
def w_303 := w_at hw 303 rfl
def w_304 := w_at hw 304 rfl
def w_305 := w_at hw 305 rfl
end
theorem own_fn {P : Int32 → Prop} : ∀ c ∈ ([] : List Int32), P c := fun c hc => by cases hc
theorem own_fc {P : Int32 → Prop} {a : Int32} {l : List Int32} (h : P a) (t : ∀ c ∈ l, P c) : ∀ c ∈ a :: l, P c := List.forall_mem_cons.mpr ⟨h, t⟩
theorem own_and255 (x : Int32) : ∃ k : Fin 256, (x &&& (255 : Int32)) = Int32.ofNat k.val := by
  have h : (x &&& 255).toBitVec.toNat < 256 := by
    simp only [Int32.toBitVec_and, BitVec.toNat_and]
    exact Nat.lt_succ_of_le Nat.and_le_right
  refine ⟨⟨_, h⟩, ?_⟩
  apply Int32.toBitVec_inj.mp
  show _ = BitVec.ofNat 32 _
  rw [BitVec.ofNat_toNat]; simp
theorem own_i2c (x : Int32) : (x &&& (255 : Int32)).toUInt32.toUInt16.toUInt32.toInt32 = x &&& 255 := by
  have t : ∀ k : Fin 256, (Int32.ofNat k.val).toUInt32.toUInt16.toUInt32.toInt32 = Int32.ofNat k.val := by decide +kernel
  obtain ⟨k, e⟩ := own_and255 x
  rw [e]; exact t k
theorem own_narc {c : Int32} (h : ¬ c < 0 ∧ ¬ (255 : Int32) < c) : nar .char c = c := by
  have t : ∀ k : Fin 256, nar .char (Int32.ofNat k.val) = Int32.ofNat k.val := by decide +kernel
  have h1 := h.1; have h2 := h.2
  rw [Int32.lt_iff_toInt_lt] at h1 h2
  have e1 : (0 : Int32).toInt = 0 := rfl
  have e2 : (255 : Int32).toInt = 255 := rfl
  have e : c = Int32.ofNat c.toInt.toNat := by
    apply Int32.toInt_inj.mp
    rw [Int32.toInt_ofNat_of_lt (by omega)]; omega
  rw [e]; exact t ⟨c.toInt.toNat, by omega⟩
theorem own_c255 (x : Int32) : ¬ (x &&& (255 : Int32)) < 0 ∧ ¬ (255 : Int32) < (x &&& (255 : Int32)) := by
  have t : ∀ k : Fin 256, ¬ (Int32.ofNat k.val) < 0 ∧ ¬ (255 : Int32) < (Int32.ofNat k.val) := by decide +kernel
  obtain ⟨k, e⟩ := own_and255 x
  rw [e]; exact t k
theorem own_nb (x : Int32) : x.toInt8.toInt32.toInt8.toInt32 = x.toInt8.toInt32 := by
  rw [Int8.toInt8_toInt32]
theorem own_up (cs : List Int32) (h : ∀ c ∈ cs, ¬ c < 0 ∧ ¬ (255 : Int32) < c) : ∀ c ∈ cs, ¬ c < 0 ∧ ¬ (65535 : Int32) < c := fun c hc => ⟨(h c hc).1, fun q => (h c hc).2 (by rw [Int32.lt_iff_toInt_lt] at q ⊢; have e1 : (65535 : Int32).toInt = 65535 := rfl; have e2 : (255 : Int32).toInt = 255 := rfl; omega)⟩
theorem own_ofc {c : Int32} (h : ¬ c < 0 ∧ ¬ (255 : Int32) < c) : ∃ k : Fin 256, c = Int32.ofNat k.val := by
  have h1 := h.1; have h2 := h.2
  rw [Int32.lt_iff_toInt_lt] at h1 h2
  have e1 : (0 : Int32).toInt = 0 := rfl
  have e2 : (255 : Int32).toInt = 255 := rfl
  refine ⟨⟨c.toInt.toNat, by omega⟩, ?_⟩
  apply Int32.toInt_inj.mp
  show c.toInt = (Int32.ofNat c.toInt.toNat).toInt
  rw [Int32.toInt_ofNat_of_lt (by omega)]; omega
theorem own_b8 {c : Int32} (h : ¬ c < 0 ∧ ¬ (255 : Int32) < c) : (c.toInt8.toInt32 &&& (255 : Int32)) = c := by
  have t : ∀ k : Fin 256, ((Int32.ofNat k.val).toInt8.toInt32 &&& (255 : Int32)) = Int32.ofNat k.val := by decide +kernel
  obtain ⟨k, rfl⟩ := own_ofc h
  exact t k
abbrev Gs : Type := Int32 × Addr × Addr × Addr × Addr × Addr × Addr × Addr × Addr × Addr × Addr × Addr × Addr
abbrev Gs.a0 (G : Gs) : Int32 := G.1
abbrev Gs.a1 (G : Gs) : Addr := G.2.1
abbrev Gs.a2 (G : Gs) : Addr := G.2.2.1
abbrev Gs.a3 (G : Gs) : Addr := G.2.2.2.1
abbrev Gs.a4 (G : Gs) : Addr := G.2.2.2.2.1
abbrev Gs.a5 (G : Gs) : Addr := G.2.2.2.2.2.1
abbrev Gs.a6 (G : Gs) : Addr := G.2.2.2.2.2.2.1
abbrev Gs.a7 (G : Gs) : Addr := G.2.2.2.2.2.2.2.1
abbrev Gs.a8 (G : Gs) : Addr := G.2.2.2.2.2.2.2.2.1
abbrev Gs.a9 (G : Gs) : Addr := G.2.2.2.2.2.2.2.2.2.1
abbrev Gs.a10 (G : Gs) : Addr := G.2.2.2.2.2.2.2.2.2.2.1
abbrev Gs.a11 (G : Gs) : Addr := G.2.2.2.2.2.2.2.2.2.2.2.1
abbrev Gs.a12 (G : Gs) : Addr := G.2.2.2.2.2.2.2.2.2.2.2.2
def StartF (Z : State) (G : Gs) : Prop := Sta Z Z.heap "java/lang/String" "COMPACT_STRINGS" "Z" (.int G.a0) ∧ ¬ G.a0 = (0 : Int32) ∧ Sta Z Z.heap "java/time/temporal/ChronoField" "EPOCH_DAY" "Ljava/time/temporal/ChronoField;" (.ref G.a1) ∧ Exa Z Z.heap G.a1 "java/time/temporal/ChronoField" ∧ Fld Z Z.heap G.a1 "java/lang/Enum" "ordinal" "I" (.int (20 : Int32)) ∧ Fld Z Z.heap G.a1 "java/time/temporal/ChronoField" "range" "Ljava/time/temporal/ValueRange;" (.ref G.a2) ∧ Exa Z Z.heap G.a2 "java/time/temporal/ValueRange" ∧ Fld Z Z.heap G.a2 "java/time/temporal/ValueRange" "minSmallest" "J" (.long (-365243219162 : Int64)) ∧ Fld Z Z.heap G.a2 "java/time/temporal/ValueRange" "minLargest" "J" (.long (-365243219162 : Int64)) ∧ Fld Z Z.heap G.a2 "java/time/temporal/ValueRange" "maxSmallest" "J" (.long (365241780471 : Int64)) ∧ Fld Z Z.heap G.a2 "java/time/temporal/ValueRange" "maxLargest" "J" (.long (365241780471 : Int64)) ∧ Fld Z Z.heap G.a1 "java/time/temporal/ChronoField" "displayNameKey" "Ljava/lang/String;" .null ∧ Sta Z Z.heap "java/time/chrono/IsoChronology" "INSTANCE" "Ljava/time/chrono/IsoChronology;" (.ref G.a3) ∧ Exa Z Z.heap G.a3 "java/time/chrono/IsoChronology" ∧ Sta Z Z.heap "java/util/BitSet" "$assertionsDisabled" "Z" (.int (1 : Int32)) ∧ Sta Z Z.heap "com/example/planwright/planwright/model/LatestPayDates" "ITEMS" "I" (.int (9 : Int32)) ∧ Sta Z Z.heap "com/example/planwright/planwright/model/PayItem" "SALARY" "Lcom/example/planwright/planwright/model/PayItem;" (.ref G.a4) ∧ Exa Z Z.heap G.a4 "com/example/planwright/planwright/model/PayItem" ∧ Fld Z Z.heap G.a4 "java/lang/Enum" "ordinal" "I" (.int (0 : Int32)) ∧ Sta Z Z.heap "com/example/planwright/planwright/model/PayItem" "OVERTIME" "Lcom/example/planwright/planwright/model/PayItem;" (.ref G.a5) ∧ Exa Z Z.heap G.a5 "com/example/planwright/planwright/model/PayItem" ∧ Fld Z Z.heap G.a5 "java/lang/Enum" "ordinal" "I" (.int (1 : Int32)) ∧ Sta Z Z.heap "com/example/planwright/planwright/model/PayItem" "BONUS" "Lcom/example/planwright/planwright/model/PayItem;" (.ref G.a6) ∧ Exa Z Z.heap G.a6 "com/example/planwright/planwright/model/PayItem" ∧ Fld Z Z.heap G.a6 "java/lang/Enum" "ordinal" "I" (.int (2 : Int32)) ∧ Sta Z Z.heap "com/example/planwright/planwright/model/PayItem" "COMMISSION" "Lcom/example/planwright/planwright/model/PayItem;" (.ref G.a7) ∧ Exa Z Z.heap G.a7 "com/example/planwright/planwright/model/PayItem" ∧ Fld Z Z.heap G.a7 "java/lang/Enum" "ordinal" "I" (.int (3 : Int32)) ∧ Sta Z Z.heap "com/example/planwright/planwright/model/PayItem" "SEVERANCE" "Lcom/example/planwright/planwright/model/PayItem;" (.ref G.a8) ∧ Exa Z Z.heap G.a8 "com/example/planwright/planwright/model/PayItem" ∧ Fld Z Z.heap G.a8 "java/lang/Enum" "ordinal" "I" (.int (4 : Int32)) ∧ Sta Z Z.heap "com/example/planwright/planwright/model/PayItem" "MOVING" "Lcom/example/planwright/planwright/model/PayItem;" (.ref G.a9) ∧ Exa Z Z.heap G.a9 "com/example/planwright/planwright/model/PayItem" ∧ Fld Z Z.heap G.a9 "java/lang/Enum" "ordinal" "I" (.int (5 : Int32)) ∧ Sta Z Z.heap "com/example/planwright/planwright/model/PayItem" "HOURS" "Lcom/example/planwright/planwright/model/PayItem;" (.ref G.a10) ∧ Exa Z Z.heap G.a10 "com/example/planwright/planwright/model/PayItem" ∧ Fld Z Z.heap G.a10 "java/lang/Enum" "ordinal" "I" (.int (6 : Int32)) ∧ Sta Z Z.heap "com/example/planwright/planwright/model/PayItem" "DEFERRAL_401K" "Lcom/example/planwright/planwright/model/PayItem;" (.ref G.a11) ∧ Exa Z Z.heap G.a11 "com/example/planwright/planwright/model/PayItem" ∧ Fld Z Z.heap G.a11 "java/lang/Enum" "ordinal" "I" (.int (7 : Int32)) ∧ Sta Z Z.heap "com/example/planwright/planwright/model/PayItem" "DEFERRAL_NQ" "Lcom/example/planwright/planwright/model/PayItem;" (.ref G.a12) ∧ Exa Z Z.heap G.a12 "com/example/planwright/planwright/model/PayItem" ∧ Fld Z Z.heap G.a12 "java/lang/Enum" "ordinal" "I" (.int (8 : Int32))
theorem StartF.c0 {Z : State} {G : Gs} (ST : StartF Z G) : Sta Z Z.heap "java/lang/String" "COMPACT_STRINGS" "Z" (.int G.a0) := ST.1
theorem StartF.c1 {Z : State} {G : Gs} (ST : StartF Z G) : ¬ G.a0 = (0 : Int32) := ST.2.1
theorem StartF.c2 {Z : State} {G : Gs} (ST : StartF Z G) : Sta Z Z.heap "java/time/temporal/ChronoField" "EPOCH_DAY" "Ljava/time/temporal/ChronoField;" (.ref G.a1) := ST.2.2.1
theorem StartF.c3 {Z : State} {G : Gs} (ST : StartF Z G) : Exa Z Z.heap G.a1 "java/time/temporal/ChronoField" := ST.2.2.2.1
theorem StartF.c4 {Z : State} {G : Gs} (ST : StartF Z G) : Fld Z Z.heap G.a1 "java/lang/Enum" "ordinal" "I" (.int (20 : Int32)) := ST.2.2.2.2.1
theorem StartF.c5 {Z : State} {G : Gs} (ST : StartF Z G) : Fld Z Z.heap G.a1 "java/time/temporal/ChronoField" "range" "Ljava/time/temporal/ValueRange;" (.ref G.a2) := ST.2.2.2.2.2.1
theorem StartF.c6 {Z : State} {G : Gs} (ST : StartF Z G) : Exa Z Z.heap G.a2 "java/time/temporal/ValueRange" := ST.2.2.2.2.2.2.1
theorem StartF.c7 {Z : State} {G : Gs} (ST : StartF Z G) : Fld Z Z.heap G.a2 "java/time/temporal/ValueRange" "minSmallest" "J" (.long (-365243219162 : Int64)) := ST.2.2.2.2.2.2.2.1
theorem StartF.c8 {Z : State} {G : Gs} (ST : StartF Z G) : Fld Z Z.heap G.a2 "java/time/temporal/ValueRange" "minLargest" "J" (.long (-365243219162 : Int64)) := ST.2.2.2.2.2.2.2.2.1
theorem StartF.c9 {Z : State} {G : Gs} (ST : StartF Z G) : Fld Z Z.heap G.a2 "java/time/temporal/ValueRange" "maxSmallest" "J" (.long (365241780471 : Int64)) := ST.2.2.2.2.2.2.2.2.2.1
theorem StartF.c10 {Z : State} {G : Gs} (ST : StartF Z G) : Fld Z Z.heap G.a2 "java/time/temporal/ValueRange" "maxLargest" "J" (.long (365241780471 : Int64)) := ST.2.2.2.2.2.2.2.2.2.2.1
theorem StartF.c11 {Z : State} {G : Gs} (ST : StartF Z G) : Fld Z Z.heap G.a1 "java/time/temporal/ChronoField" "displayNameKey" "Ljava/lang/String;" .null := ST.2.2.2.2.2.2.2.2.2.2.2.1
theorem StartF.c12 {Z : State} {G : Gs} (ST : StartF Z G) : Sta Z Z.heap "java/time/chrono/IsoChronology" "INSTANCE" "Ljava/time/chrono/IsoChronology;" (.ref G.a3) := ST.2.2.2.2.2.2.2.2.2.2.2.2.1
theorem StartF.c13 {Z : State} {G : Gs} (ST : StartF Z G) : Exa Z Z.heap G.a3 "java/time/chrono/IsoChronology" := ST.2.2.2.2.2.2.2.2.2.2.2.2.2.1
theorem StartF.c14 {Z : State} {G : Gs} (ST : StartF Z G) : Sta Z Z.heap "java/util/BitSet" "$assertionsDisabled" "Z" (.int (1 : Int32)) := ST.2.2.2.2.2.2.2.2.2.2.2.2.2.2.1
theorem StartF.c15 {Z : State} {G : Gs} (ST : StartF Z G) : Sta Z Z.heap "com/example/planwright/planwright/model/LatestPayDates" "ITEMS" "I" (.int (9 : Int32)) := ST.2.2.2.2.2.2.2.2.2.2.2.2.2.2.2.1
theorem StartF.c16 {Z : State} {G : Gs} (ST : StartF Z G) : Sta Z Z.heap "com/example/planwright/planwright/model/PayItem" "SALARY" "Lcom/example/planwright/planwright/model/PayItem;" (.ref G.a4) := ST.2.2.2.2.2.2.2.2.2.2.2.2.2.2.2.2.1
theorem StartF.c17 {Z : State} {G : Gs} (ST : StartF Z G) : Exa Z Z.heap G.a4 "com/example/planwright/planwright/model/PayItem" := ST.2.2.2.2.2.2.2.2.2.2.2.2.2.2.2.2.2.1
theorem StartF.c18 {Z : State} {G : Gs} (ST : StartF Z G) : Fld Z Z.heap G.a4 "java/lang/Enum" "ordinal" "I" (.int (0 : Int32)) := ST.2.2.2.2.2.2.2.2.2.2.2.2.2.2.2.2.2.2.1
theorem StartF.c19 {Z : State} {G : Gs} (ST : StartF Z G) : Sta Z Z.heap "com/example/planwright/planwright/model/PayItem" "OVERTIME" "Lcom/example/planwright/planwright/model/PayItem;" (.ref G.a5) := ST.2.2.2.2.2.2.2.2.2.2.2.2.2.2.2.2.2.2.2.1
theorem StartF.c20 {Z : State} {G : Gs} (ST : StartF Z G) : Exa Z Z.heap G.a5 "com/example/planwright/planwright/model/PayItem" := ST.2.2.2.2.2.2.2.2.2.2.2.2.2.2.2.2.2.2.2.2.1
theorem StartF.c21 {Z : State} {G : Gs} (ST : StartF Z G) : Fld Z Z.heap G.a5 "java/lang/Enum" "ordinal" "I" (.int (1 : Int32)) := ST.2.2.2.2.2.2.2.2.2.2.2.2.2.2.2.2.2.2.2.2.2.1
theorem StartF.c22 {Z : State} {G : Gs} (ST : StartF Z G) : Sta Z Z.heap "com/example/planwright/planwright/model/PayItem" "BONUS" "Lcom/example/planwright/planwright/model/PayItem;" (.ref G.a6) := ST.2.2.2.2.2.2.2.2.2.2.2.2.2.2.2.2.2.2.2.2.2.2.1
theorem StartF.c23 {Z : State} {G : Gs} (ST : StartF Z G) : Exa Z Z.heap G.a6 "com/example/planwright/planwright/model/PayItem" := ST.2.2.2.2.2.2.2.2.2.2.2.2.2.2.2.2.2.2.2.2.2.2.2.1
theorem StartF.c24 {Z : State} {G : Gs} (ST : StartF Z G) : Fld Z Z.heap G.a6 "java/lang/Enum" "ordinal" "I" (.int (2 : Int32)) := ST.2.2.2.2.2.2.2.2.2.2.2.2.2.2.2.2.2.2.2.2.2.2.2.2.1
theorem StartF.c25 {Z : State} {G : Gs} (ST : StartF Z G) : Sta Z Z.heap "com/example/planwright/planwright/model/PayItem" "COMMISSION" "Lcom/example/planwright/planwright/model/PayItem;" (.ref G.a7) := ST.2.2.2.2.2.2.2.2.2.2.2.2.2.2.2.2.2.2.2.2.2.2.2.2.2.1
theorem StartF.c26 {Z : State} {G : Gs} (ST : StartF Z G) : Exa Z Z.heap G.a7 "com/example/planwright/planwright/model/PayItem" := ST.2.2.2.2.2.2.2.2.2.2.2.2.2.2.2.2.2.2.2.2.2.2.2.2.2.2.1
theorem StartF.c27 {Z : State} {G : Gs} (ST : StartF Z G) : Fld Z Z.heap G.a7 "java/lang/Enum" "ordinal" "I" (.int (3 : Int32)) := ST.2.2.2.2.2.2.2.2.2.2.2.2.2.2.2.2.2.2.2.2.2.2.2.2.2.2.2.1
theorem StartF.c28 {Z : State} {G : Gs} (ST : StartF Z G) : Sta Z Z.heap "com/example/planwright/planwright/model/PayItem" "SEVERANCE" "Lcom/example/planwright/planwright/model/PayItem;" (.ref G.a8) := ST.2.2.2.2.2.2.2.2.2.2.2.2.2.2.2.2.2.2.2.2.2.2.2.2.2.2.2.2.1
theorem StartF.c29 {Z : State} {G : Gs} (ST : StartF Z G) : Exa Z Z.heap G.a8 "com/example/planwright/planwright/model/PayItem" := ST.2.2.2.2.2.2.2.2.2.2.2.2.2.2.2.2.2.2.2.2.2.2.2.2.2.2.2.2.2.1
theorem StartF.c30 {Z : State} {G : Gs} (ST : StartF Z G) : Fld Z Z.heap G.a8 "java/lang/Enum" "ordinal" "I" (.int (4 : Int32)) := ST.2.2.2.2.2.2.2.2.2.2.2.2.2.2.2.2.2.2.2.2.2.2.2.2.2.2.2.2.2.2.1
theorem StartF.c31 {Z : State} {G : Gs} (ST : StartF Z G) : Sta Z Z.heap "com/example/planwright/planwright/model/PayItem" "MOVING" "Lcom/example/planwright/planwright/model/PayItem;" (.ref G.a9) := ST.2.2.2.2.2.2.2.2.2.2.2.2.2.2.2.2.2.2.2.2.2.2.2.2.2.2.2.2.2.2.2.1
theorem StartF.c32 {Z : State} {G : Gs} (ST : StartF Z G) : Exa Z Z.heap G.a9 "com/example/planwright/planwright/model/PayItem" := ST.2.2.2.2.2.2.2.2.2.2.2.2.2.2.2.2.2.2.2.2.2.2.2.2.2.2.2.2.2.2.2.2.1
theorem StartF.c33 {Z : State} {G : Gs} (ST : StartF Z G) : Fld Z Z.heap G.a9 "java/lang/Enum" "ordinal" "I" (.int (5 : Int32)) := ST.2.2.2.2.2.2.2.2.2.2.2.2.2.2.2.2.2.2.2.2.2.2.2.2.2.2.2.2.2.2.2.2.2.1
theorem StartF.c34 {Z : State} {G : Gs} (ST : StartF Z G) : Sta Z Z.heap "com/example/planwright/planwright/model/PayItem" "HOURS" "Lcom/example/planwright/planwright/model/PayItem;" (.ref G.a10) := ST.2.2.2.2.2.2.2.2.2.2.2.2.2.2.2.2.2.2.2.2.2.2.2.2.2.2.2.2.2.2.2.2.2.2.1
theorem StartF.c35 {Z : State} {G : Gs} (ST : StartF Z G) : Exa Z Z.heap G.a10 "com/example/planwright/planwright/model/PayItem" := ST.2.2.2.2.2.2.2.2.2.2.2.2.2.2.2.2.2.2.2.2.2.2.2.2.2.2.2.2.2.2.2.2.2.2.2.1
theorem StartF.c36 {Z : State} {G : Gs} (ST : StartF Z G) : Fld Z Z.heap G.a10 "java/lang/Enum" "ordinal" "I" (.int (6 : Int32)) := ST.2.2.2.2.2.2.2.2.2.2.2.2.2.2.2.2.2.2.2.2.2.2.2.2.2.2.2.2.2.2.2.2.2.2.2.2.1
theorem StartF.c37 {Z : State} {G : Gs} (ST : StartF Z G) : Sta Z Z.heap "com/example/planwright/planwright/model/PayItem" "DEFERRAL_401K" "Lcom/example/planwright/planwright/model/PayItem;" (.ref G.a11) := ST.2.2.2.2.2.2.2.2.2.2.2.2.2.2.2.2.2.2.2.2.2.2.2.2.2.2.2.2.2.2.2.2.2.2.2.2.2.1
theorem StartF.c38 {Z : State} {G : Gs} (ST : StartF Z G) : Exa Z Z.heap G.a11 "com/example/planwright/planwright/model/PayItem" := ST.2.2.2.2.2.2.2.2.2.2.2.2.2.2.2.2.2.2.2.2.2.2.2.2.2.2.2.2.2.2.2.2.2.2.2.2.2.2.1
theorem StartF.c39 {Z : State} {G : Gs} (ST : StartF Z G) : Fld Z Z.heap G.a11 "java/lang/Enum" "ordinal" "I" (.int (7 : Int32)) := ST.2.2.2.2.2.2.2.2.2.2.2.2.2.2.2.2.2.2.2.2.2.2.2.2.2.2.2.2.2.2.2.2.2.2.2.2.2.2.2.1
theorem StartF.c40 {Z : State} {G : Gs} (ST : StartF Z G) : Sta Z Z.heap "com/example/planwright/planwright/model/PayItem" "DEFERRAL_NQ" "Lcom/example/planwright/planwright/model/PayItem;" (.ref G.a12) := ST.2.2.2.2.2.2.2.2.2.2.2.2.2.2.2.2.2.2.2.2.2.2.2.2.2.2.2.2.2.2.2.2.2.2.2.2.2.2.2.2.1
theorem StartF.c41 {Z : State} {G : Gs} (ST : StartF Z G) : Exa Z Z.heap G.a12 "com/example/planwright/planwright/model/PayItem" := ST.2.2.2.2.2.2.2.2.2.2.2.2.2.2.2.2.2.2.2.2.2.2.2.2.2.2.2.2.2.2.2.2.2.2.2.2.2.2.2.2.2.1
theorem StartF.c42 {Z : State} {G : Gs} (ST : StartF Z G) : Fld Z Z.heap G.a12 "java/lang/Enum" "ordinal" "I" (.int (8 : Int32)) := ST.2.2.2.2.2.2.2.2.2.2.2.2.2.2.2.2.2.2.2.2.2.2.2.2.2.2.2.2.2.2.2.2.2.2.2.2.2.2.2.2.2.2
theorem own_alen {args : Array Value} {s : State} {t : Term} {a : Addr} {cl : Cell} {ty : FieldType} {z : Int32} (ev : t.eval args s none [] s = some (.ref a)) (A : Arr s s.heap a cl ty) (ln : (Term.length t).eval args s none [] s = some (.int z)) : cl.slots.size < 2 ^ 31 ∧ cl.slots.size.toInt32 = z := by
  have hA := A.fin (U := s) (Vm.Alike.refl _)
  have h1 := SBG.length_lt ev hA ln
  refine ⟨h1, ?_⟩
  rw [len_f ev hA h1] at ln
  simpa using ln
abbrev MI : Value := .int (-2147483648 : Int32)
theorem own_neV {Z : State} {h : Heap} {a b : Addr} {k k' : ClassId} {ty ty' : FieldType} {z z' : Int32} {vs vs' : List Value} {dv dv' : Value} (A : Arv Z h a k ty z vs dv) (B : Arv Z h b k' ty' z' vs' dv') (q : ty ≠ ty') : a ≠ b := fun e => by
  subst e
  obtain ⟨c, A1, -⟩ := A
  obtain ⟨c', B1, -⟩ := B
  cases A1.1.symm.trans B1.1
  obtain ⟨-, k1, h1, c1, e1⟩ := A1.2.1
  obtain ⟨-, k2, h2, c2, e2⟩ := B1.2.1
  cases h1.symm.trans h2
  rw [e1] at e2
  cases e2
  exact q rfl
theorem own_pad {Z : State} {h : Heap} {a : Addr} {k : ClassId} {ty : FieldType} {z : Int32} {vs vs' : List Value} {dv : Value} (A : Arv Z h a k ty z vs dv) (q : ∀ i, i < z.toNatClampNeg → vs'.getD i dv = vs.getD i dv) : Arv Z h a k ty z vs' dv := by
  obtain ⟨c, A1, r1, r2, r3, H, G⟩ := A
  exact ⟨c, A1, r1, r2, r3, fun i hi => by rw [q i (by rw [← r2]; exact hi)]; exact H i hi, fun i hi => by rw [q i (by rw [← r2]; exact hi)]; exact G i hi⟩
theorem own_rep (n k : Nat) (v : Value) : (List.replicate n v).getD k v = v := by
  rw [List.getD_eq_getElem?_getD, List.getElem?_replicate]; split <;> rfl
theorem own_lrep {n : Nat} {v : Value} : (List.replicate n v).length = n := by simp
theorem own_gs {l : List Value} {i : Nat} {v d : Value} (h : i < l.length) : (List.set l i v).getD i d = v := by
  rw [List.getD_eq_getElem?_getD, List.getElem?_set_self h]; rfl
theorem own_gso {l : List Value} {i j : Nat} {v w d : Value} (p : l.getD i d = v) (h : i ≠ j) : (List.set l j w).getD i d = v := by
  rw [List.getD_eq_getElem?_getD, List.getElem?_set_ne (Ne.symm h), ← List.getD_eq_getElem?_getD]; exact p
theorem own_setsame {l : List Value} {n : Nat} {v d : Value} (hl : n < l.length) (h : l.getD n d = v) : List.set l n v = l := by
  subst h
  rw [List.getD_eq_getElem?_getD, List.getElem?_eq_getElem hl]
  simp
theorem own_cn {x : Int32} (h : ¬ x < 0) : (x.toNatClampNeg : Int) = x.toInt := by
  rw [Int32.lt_iff_toInt_lt] at h
  have e : (0 : Int32).toInt = 0 := rfl
  simp only [Int32.toNatClampNeg]; omega
theorem own_cinj {x y : Int32} (hx : ¬ x < 0) (hy : ¬ y < 0) (h : x.toNatClampNeg = y.toNatClampNeg) : x = y := by
  apply Int32.toInt_inj.mp
  rw [← own_cn hx, ← own_cn hy, h]
def SL4 (s : Int32) : Prop := s = (4 : Int32) ∨ s = (8 : Int32) ∨ s = (16 : Int32) ∨ s = (32 : Int32)
def SLS (s f : Int32) : Prop := (s = (4 : Int32) ∧ f = (30 : Int32)) ∨ (s = (8 : Int32) ∧ f = (29 : Int32)) ∨ (s = (16 : Int32) ∧ f = (28 : Int32)) ∨ (s = (32 : Int32) ∧ f = (27 : Int32))
def hs (c s : Int32) : Int32 := (((c * (-1640531527 : Int32)).toUInt32 >>> (s &&& 31).toUInt32).toInt32)
def nxs (c f s : Int32) : Int32 := ((hs c f + (1 : Int32)) &&& (s - (1 : Int32)))
theorem own_ub {n : Nat} {x : UInt32} (h : x.toNat < n) (hn : n < 2147483648) : ¬ x.toInt32 < 0 ∧ x.toInt32.toInt < n := by
  have e : x.toInt32.toInt = x.toNat := by
    show x.toBitVec.toInt = _
    rw [BitVec.toInt_eq_toNat_cond]
    have : x.toBitVec.toNat = x.toNat := rfl
    rw [this]
    split <;> omega
  rw [Int32.lt_iff_toInt_lt, e]
  have e0 : (0 : Int32).toInt = 0 := rfl
  omega
theorem own_hsb {x : UInt32} {k : Nat} {f : UInt32} (hf : f.toNat = k) (hk : k < 32) : (x >>> f).toNat < 2 ^ (32 - k) := by
  rw [UInt32.toNat_shiftRight, hf, Nat.mod_eq_of_lt hk, Nat.shiftRight_eq_div_pow]
  have := x.toNat_lt
  apply Nat.div_lt_of_lt_mul
  rw [← Nat.pow_add]
  have : k + (32 - k) = 32 := by omega
  rw [this]; omega
theorem own_hs {sl sf : Int32} (h : SLS sl sf) (c : Int32) : ¬ hs c sf < 0 ∧ hs c sf < sl := by
  rcases h with ⟨rfl, rfl⟩ | ⟨rfl, rfl⟩ | ⟨rfl, rfl⟩ | ⟨rfl, rfl⟩
  · have q := own_ub (own_hsb (x := (c * (-1640531527 : Int32)).toUInt32) (k := 30) (f := ((30 : Int32) &&& 31).toUInt32) (by decide) (by decide)) (by decide)
    exact ⟨q.1, Int32.lt_iff_toInt_lt.mpr q.2⟩
  · have q := own_ub (own_hsb (x := (c * (-1640531527 : Int32)).toUInt32) (k := 29) (f := ((29 : Int32) &&& 31).toUInt32) (by decide) (by decide)) (by decide)
    exact ⟨q.1, Int32.lt_iff_toInt_lt.mpr q.2⟩
  · have q := own_ub (own_hsb (x := (c * (-1640531527 : Int32)).toUInt32) (k := 28) (f := ((28 : Int32) &&& 31).toUInt32) (by decide) (by decide)) (by decide)
    exact ⟨q.1, Int32.lt_iff_toInt_lt.mpr q.2⟩
  · have q := own_ub (own_hsb (x := (c * (-1640531527 : Int32)).toUInt32) (k := 27) (f := ((27 : Int32) &&& 31).toUInt32) (by decide) (by decide)) (by decide)
    exact ⟨q.1, Int32.lt_iff_toInt_lt.mpr q.2⟩
theorem own_of32 {x : Int32} {n : Nat} (h : ¬ x < 0) (h2 : x.toInt < n) : ∃ k : Fin n, x = Int32.ofNat k.val := by
  rw [Int32.lt_iff_toInt_lt] at h
  have e1 : (0 : Int32).toInt = 0 := rfl
  have hb := x.toInt_lt
  refine ⟨⟨x.toInt.toNat, by omega⟩, ?_⟩
  apply Int32.toInt_inj.mp
  show x.toInt = (Int32.ofNat x.toInt.toNat).toInt
  rw [Int32.toInt_ofNat_of_lt (by omega)]; omega
theorem own_nx1 {sl x : Int32} (h : SL4 sl) (h0 : ¬ x < 0) (h1 : x < sl) : (¬ ((x + (1 : Int32)) &&& (sl - (1 : Int32))) < 0 ∧ ((x + (1 : Int32)) &&& (sl - (1 : Int32))) < sl) ∧ ¬ ((x + (1 : Int32)) &&& (sl - (1 : Int32))) = x := by
  rcases h with rfl | rfl | rfl | rfl
  · have t : ∀ k : Fin 4, (¬ ((Int32.ofNat k.val + (1 : Int32)) &&& ((4 : Int32) - (1 : Int32))) < 0 ∧ ((Int32.ofNat k.val + (1 : Int32)) &&& ((4 : Int32) - (1 : Int32))) < (4 : Int32)) ∧ ¬ ((Int32.ofNat k.val + (1 : Int32)) &&& ((4 : Int32) - (1 : Int32))) = Int32.ofNat k.val := by decide +kernel
    obtain ⟨k, rfl⟩ := own_of32 (n := 4) h0 (Int32.lt_iff_toInt_lt.mp h1); exact t k
  · have t : ∀ k : Fin 8, (¬ ((Int32.ofNat k.val + (1 : Int32)) &&& ((8 : Int32) - (1 : Int32))) < 0 ∧ ((Int32.ofNat k.val + (1 : Int32)) &&& ((8 : Int32) - (1 : Int32))) < (8 : Int32)) ∧ ¬ ((Int32.ofNat k.val + (1 : Int32)) &&& ((8 : Int32) - (1 : Int32))) = Int32.ofNat k.val := by decide +kernel
    obtain ⟨k, rfl⟩ := own_of32 (n := 8) h0 (Int32.lt_iff_toInt_lt.mp h1); exact t k
  · have t : ∀ k : Fin 16, (¬ ((Int32.ofNat k.val + (1 : Int32)) &&& ((16 : Int32) - (1 : Int32))) < 0 ∧ ((Int32.ofNat k.val + (1 : Int32)) &&& ((16 : Int32) - (1 : Int32))) < (16 : Int32)) ∧ ¬ ((Int32.ofNat k.val + (1 : Int32)) &&& ((16 : Int32) - (1 : Int32))) = Int32.ofNat k.val := by decide +kernel
    obtain ⟨k, rfl⟩ := own_of32 (n := 16) h0 (Int32.lt_iff_toInt_lt.mp h1); exact t k
  · have t : ∀ k : Fin 32, (¬ ((Int32.ofNat k.val + (1 : Int32)) &&& ((32 : Int32) - (1 : Int32))) < 0 ∧ ((Int32.ofNat k.val + (1 : Int32)) &&& ((32 : Int32) - (1 : Int32))) < (32 : Int32)) ∧ ¬ ((Int32.ofNat k.val + (1 : Int32)) &&& ((32 : Int32) - (1 : Int32))) = Int32.ofNat k.val := by decide +kernel
    obtain ⟨k, rfl⟩ := own_of32 (n := 32) h0 (Int32.lt_iff_toInt_lt.mp h1); exact t k
theorem own_s4 {sl sf : Int32} (h : SLS sl sf) : SL4 sl := by
  rcases h with ⟨rfl, -⟩ | ⟨rfl, -⟩ | ⟨rfl, -⟩ | ⟨rfl, -⟩
  · exact Or.inl rfl
  · exact Or.inr (Or.inl rfl)
  · exact Or.inr (Or.inr (Or.inl rfl))
  · exact Or.inr (Or.inr (Or.inr rfl))
theorem own_nx {sl sf : Int32} (h : SLS sl sf) (c : Int32) : ¬ nxs c sf sl < 0 ∧ nxs c sf sl < sl := (own_nx1 (own_s4 h) (own_hs h c).1 (own_hs h c).2).1
theorem own_sl32 {sl : Int32} (h : SL4 sl) {i : Int32} (ok : ¬ i < 0 ∧ i < sl) : i.toNatClampNeg < 32 := by
  have a := own_cn ok.1; have b := Int32.lt_iff_toInt_lt.mp ok.2
  have : sl.toInt ≤ 32 := by rcases h with rfl | rfl | rfl | rfl <;> decide
  omega
theorem own_lt32 {sl sf i : Int32} {l : List Value} (h : SLS sl sf) (hl : l.length = 32) (ok : ¬ i < 0 ∧ i < sl) : i.toNatClampNeg < l.length := by
  rw [hl]; exact own_sl32 (own_s4 h) ok
def T1 (pv : List Value) (s : Int32) (q : Addr) : Prop := pv.getD s.toNatClampNeg .null = .ref q ∧ ∀ k, k ≠ s.toNatClampNeg → pv.getD k .null = .null
theorem own_T1 {s : Int32} {q : Addr} (h : s.toNatClampNeg < (List.replicate 32 Value.null).length) : T1 (List.set (List.replicate 32 .null) s.toNatClampNeg (.ref q)) s q := ⟨own_gs h, fun k hk => own_gso (own_rep _ _ _) hk⟩
theorem own_T1a {pv : List Value} {s0 c sf : Int32} {q : Addr} (hT : T1 pv s0 q) (h : hs c sf = s0) : pv.getD (hs c sf).toNatClampNeg .null = .ref q := by rw [h]; exact hT.1
theorem own_T1b {pv : List Value} {s0 c sf sl : Int32} {q : Addr} (hT : T1 pv s0 q) (hsl : SLS sl sf) (h0 : ¬ s0 < 0 ∧ s0 < sl) (h : hs c sf = s0) : pv.getD (nxs c sf sl).toNatClampNeg .null = .null := by
  refine hT.2 _ fun e => ?_
  have k := own_nx1 (own_s4 hsl) h0.1 h0.2
  have e2 : nxs c sf sl = ((s0 + (1 : Int32)) &&& (sl - (1 : Int32))) := by unfold nxs; rw [h]
  rw [e2] at e
  exact k.2 (own_cinj k.1.1 h0.1 e)
theorem own_T1c {pv : List Value} {s0 c sf sl : Int32} {q : Addr} (hT : T1 pv s0 q) (h0 : ¬ s0 < 0 ∧ s0 < sl) (h1 : ¬ hs c sf < 0 ∧ hs c sf < sl) (h : ¬ hs c sf = s0) : pv.getD (hs c sf).toNatClampNeg .null = .null := hT.2 _ fun e => h (own_cinj h1.1 h0.1 e)
def IXP (c sf sl s0 ix : Int32) : Prop := (ix = hs c sf ∧ ¬ hs c sf = s0) ∨ (hs c sf = s0 ∧ ix = nxs c sf sl)
theorem own_ixin {c sf sl s0 ix : Int32} (h : SLS sl sf) (p : IXP c sf sl s0 ix) : ¬ ix < 0 ∧ ix < sl := by
  rcases p with ⟨rfl, -⟩ | ⟨-, rfl⟩
  · exact own_hs h c
  · exact own_nx h c
theorem own_ixne {c c0 sf sl ix : Int32} (h : SLS sl sf) (p : IXP c sf sl (hs c0 sf) ix) : (hs c0 sf).toNatClampNeg ≠ ix.toNatClampNeg := fun e => by
  have e2 := own_cinj (own_hs h c0).1 (own_ixin h p).1 e
  rcases p with ⟨h1, h2⟩ | ⟨h1, h2⟩
  · exact h2 (h1.symm.trans e2.symm)
  · have k := own_nx1 (own_s4 h) (own_hs h c0).1 (own_hs h c0).2
    have e3 : nxs c sf sl = ((hs c0 sf + (1 : Int32)) &&& (sl - (1 : Int32))) := by unfold nxs; rw [h1]
    exact k.2 (by rw [← e3, ← h2]; exact e2.symm)
theorem own_ixc {a b sf sl s0 ix : Int32} (h : a = b) (p : IXP b sf sl s0 ix) : IXP a sf sl s0 ix := by rw [h]; exact p
theorem own_tab0 {l : List Value} {a b sf : Int32} {d v : Value} (h : a = b) (p : l.getD (hs b sf).toNatClampNeg d = v) : l.getD (hs a sf).toNatClampNeg d = v := by rw [h]; exact p
theorem own_dt {l : List Value} {a b : Int32} {d v : Value} (h : a = b) (p : l.getD b.toNatClampNeg d = v) : l.getD a.toNatClampNeg d = v := by rw [h]; exact p
theorem own_i9 {i : Int32} {l : List Value} (h : ¬ i < 0 ∧ i < (9 : Int32)) (hl : l.length = 9) : i.toNatClampNeg < l.length := by
  have a := own_cn h.1; have b := Int32.lt_iff_toInt_lt.mp h.2
  have e : (9 : Int32).toInt = 9 := rfl
  omega
theorem own_l9 {n : Nat} {l : List Value} (hl : l.length = 9) (h : n < 9) : n < l.length := by omega
theorem own_ine {a b : Int32} (ha : ¬ a < 0 ∧ a < (9 : Int32)) (hb : ¬ b < 0 ∧ b < (9 : Int32)) (h : ¬ a = b) : b.toNatClampNeg ≠ a.toNatClampNeg := fun e => h (own_cinj ha.1 hb.1 e.symm)
def Mo (m : Int32) : Prop := m = (2 : Int32) ∨ m = (3 : Int32) ∨ m = (4 : Int32) ∨ m = (5 : Int32) ∨ m = (6 : Int32) ∨ m = (7 : Int32) ∨ m = (8 : Int32) ∨ m = (9 : Int32)
theorem own_mo0 {m : Int32} (h : Mo m) : (0 : Int32) < m := by rcases h with rfl | rfl | rfl | rfl | rfl | rfl | rfl | rfl <;> decide
theorem own_mo1 {m : Int32} (h : Mo m) : (1 : Int32) < m := by rcases h with rfl | rfl | rfl | rfl | rfl | rfl | rfl | rfl <;> decide
theorem own_mog1 {m : Int32} (h : Mo m) : ¬ m < (1 : Int32) := by rcases h with rfl | rfl | rfl | rfl | rfl | rfl | rfl | rfl <;> decide
theorem own_mo9 {m : Int32} (h : Mo m) : ¬ (9 : Int32) < m := by rcases h with rfl | rfl | rfl | rfl | rfl | rfl | rfl | rfl <;> decide
theorem own_moz {m : Int32} (h : Mo m) : ¬ m < 0 := by rcases h with rfl | rfl | rfl | rfl | rfl | rfl | rfl | rfl <;> decide
theorem own_mocap {m : Int32} (h : Mo m) : m.toNatClampNeg ≤ 9 := by rcases h with rfl | rfl | rfl | rfl | rfl | rfl | rfl | rfl <;> decide
theorem own_mon {m j : Int32} (h : Mo m) (hn : ¬ j < m) : m.toNatClampNeg ≤ j.toNatClampNeg := by
  have a := own_moz h
  rw [Int32.lt_iff_toInt_lt] at a hn
  have e : (0 : Int32).toInt = 0 := rfl
  simp only [Int32.toNatClampNeg]; omega
theorem own_and7 (x : Int32) : ∃ k : Fin 8, (x &&& (7 : Int32)) = Int32.ofNat k.val := by
  have h : (x &&& 7).toBitVec.toNat < 8 := by
    simp only [Int32.toBitVec_and, BitVec.toNat_and]
    exact Nat.lt_succ_of_le Nat.and_le_right
  refine ⟨⟨_, h⟩, ?_⟩
  apply Int32.toBitVec_inj.mp
  show _ = BitVec.ofNat 32 _
  rw [BitVec.ofNat_toNat]; simp
theorem own_mo8 {mo x : Int32} (e : mo = ((2 : Int32) + (x &&& (7 : Int32)))) : Mo mo := by
  obtain ⟨k, hk⟩ := own_and7 x
  rw [e, hk]
  have t : ∀ k : Fin 8, ((2 : Int32) + Int32.ofNat k.val) = (2 : Int32) ∨ ((2 : Int32) + Int32.ofNat k.val) = (3 : Int32) ∨ ((2 : Int32) + Int32.ofNat k.val) = (4 : Int32) ∨ ((2 : Int32) + Int32.ofNat k.val) = (5 : Int32) ∨ ((2 : Int32) + Int32.ofNat k.val) = (6 : Int32) ∨ ((2 : Int32) + Int32.ofNat k.val) = (7 : Int32) ∨ ((2 : Int32) + Int32.ofNat k.val) = (8 : Int32) ∨ ((2 : Int32) + Int32.ofNat k.val) = (9 : Int32) := by decide +kernel
  exact t k
def nlzf (x : Int32) : Int32 := if x < (16 : Int32) then (if x < (4 : Int32) then ((31 : Int32) - ((x.toUInt32 >>> ((1 : Int32) &&& 31).toUInt32).toInt32)) else ((29 : Int32) - ((((x.toUInt32 >>> ((2 : Int32) &&& 31).toUInt32).toInt32).toUInt32 >>> ((1 : Int32) &&& 31).toUInt32).toInt32)))
  else (if ((x.toUInt32 >>> ((4 : Int32) &&& 31).toUInt32).toInt32) < (4 : Int32) then ((27 : Int32) - ((((x.toUInt32 >>> ((4 : Int32) &&& 31).toUInt32).toInt32).toUInt32 >>> ((1 : Int32) &&& 31).toUInt32).toInt32)) else ((25 : Int32) - ((((((x.toUInt32 >>> ((4 : Int32) &&& 31).toUInt32).toInt32).toUInt32 >>> ((2 : Int32) &&& 31).toUInt32).toInt32).toUInt32 >>> ((1 : Int32) &&& 31).toUInt32).toInt32)))
def hob (x : Int32) : Int32 := (x &&& (((-2147483648 : Int32).toUInt32 >>> ((nlzf x) &&& 31).toUInt32).toInt32))
theorem own_lt64k {x : Int32} (h : x < (256 : Int32)) : x < (65536 : Int32) := by
  rw [Int32.lt_iff_toInt_lt] at h ⊢
  have e1 : (256 : Int32).toInt = 256 := rfl
  have e2 : (65536 : Int32).toInt = 65536 := rfl
  omega
theorem own_nl1 {m : Int32} (h : Mo m) : (0 : Int32) < (((2 : Int32) * m) - (1 : Int32)) ∧ (((2 : Int32) * m) - (1 : Int32)) < (256 : Int32) := by rcases h with rfl | rfl | rfl | rfl | rfl | rfl | rfl | rfl <;> decide
theorem own_slx {m : Int32} (h : Mo m) : SL4 ((2 : Int32) * (hob (((2 : Int32) * m) - (1 : Int32)))) := by
  have t : ∀ k : Fin 8, ((2 : Int32) * (hob (((2 : Int32) * (Int32.ofNat (k.val + 2))) - (1 : Int32)))) = (4 : Int32) ∨ ((2 : Int32) * (hob (((2 : Int32) * (Int32.ofNat (k.val + 2))) - (1 : Int32)))) = (8 : Int32) ∨ ((2 : Int32) * (hob (((2 : Int32) * (Int32.ofNat (k.val + 2))) - (1 : Int32)))) = (16 : Int32) ∨ ((2 : Int32) * (hob (((2 : Int32) * (Int32.ofNat (k.val + 2))) - (1 : Int32)))) = (32 : Int32) := by decide +kernel
  rcases h with rfl | rfl | rfl | rfl | rfl | rfl | rfl | rfl
  · exact t 0
  · exact t 1
  · exact t 2
  · exact t 3
  · exact t 4
  · exact t 5
  · exact t 6
  · exact t 7
theorem own_sl0 {s : Int32} (h : SL4 s) : ¬ s < 0 := by rcases h with rfl | rfl | rfl | rfl <;> decide
theorem own_slc {s : Int32} (h : SL4 s) : s.toNatClampNeg ≤ 32 := by rcases h with rfl | rfl | rfl | rfl <;> decide
theorem own_sln {s : Int32} (h : SL4 s) : (0 : Int32) < s ∧ s < (256 : Int32) := by rcases h with rfl | rfl | rfl | rfl <;> decide
theorem own_SLS {s : Int32} (h : SL4 s) : SLS s ((nlzf s) + (1 : Int32)) := by
  rcases h with rfl | rfl | rfl | rfl
  · exact Or.inl ⟨rfl, by decide +kernel⟩
  · exact Or.inr (Or.inl ⟨rfl, by decide +kernel⟩)
  · exact Or.inr (Or.inr (Or.inl ⟨rfl, by decide +kernel⟩))
  · exact Or.inr (Or.inr (Or.inr ⟨rfl, by decide +kernel⟩))
def BW (bu : Int32) (wx : Int64) : Prop := (bu = (0 : Int32) ∧ wx = (0 : Int64)) ∨ (bu = (1 : Int32) ∧ wx = (1 : Int64))
theorem own_bw {bu : Int32} {wx : Int64} (h : BW bu wx) : (wx &&& (2 : Int64)) = (0 : Int64) := by rcases h with ⟨-, rfl⟩ | ⟨-, rfl⟩ <;> decide
theorem own_n01 {b : Int32} (h : b = 1 ∨ b = 0) : nar .boolean b = b := by rcases h with rfl | rfl <;> decide
theorem own_one {b : Int32} (h : b = 1 ∨ b = 0) (q : ¬ b = (0 : Int32)) : (1 : Int32) = b := by rcases h with rfl | rfl; rfl; exact absurd rfl q
theorem own_is8 {k : Int32} (h : ¬ k < 0 ∧ k < (9 : Int32)) (a0 : ¬ k = (0 : Int32)) (a1 : ¬ k = (1 : Int32)) (a2 : ¬ k = (2 : Int32)) (a3 : ¬ k = (3 : Int32)) (a4 : ¬ k = (4 : Int32)) (a5 : ¬ k = (5 : Int32)) (a6 : ¬ k = (6 : Int32)) (a7 : ¬ k = (7 : Int32)) : k = (8 : Int32) := by
  have t : ∀ j : Fin 9, Int32.ofNat j.val = (0 : Int32) ∨ Int32.ofNat j.val = (1 : Int32) ∨ Int32.ofNat j.val = (2 : Int32) ∨ Int32.ofNat j.val = (3 : Int32) ∨ Int32.ofNat j.val = (4 : Int32) ∨ Int32.ofNat j.val = (5 : Int32) ∨ Int32.ofNat j.val = (6 : Int32) ∨ Int32.ofNat j.val = (7 : Int32) ∨ Int32.ofNat j.val = (8 : Int32) := by decide +kernel
  obtain ⟨j, rfl⟩ := own_of32 (n := 9) h.1 (Int32.lt_iff_toInt_lt.mp h.2)
  rcases t j with q | q | q | q | q | q | q | q | q
  · exact absurd q a0
  · exact absurd q a1
  · exact absurd q a2
  · exact absurd q a3
  · exact absurd q a4
  · exact absurd q a5
  · exact absurd q a6
  · exact absurd q a7
  · exact q
theorem own_cor {c a b : Int32} (h : c = a ∨ c = b) (ha : ¬ a < 0 ∧ ¬ (255 : Int32) < a) (hb : ¬ b < 0 ∧ ¬ (255 : Int32) < b) : ¬ c < 0 ∧ ¬ (255 : Int32) < c := by
  rcases h with rfl | rfl
  · exact ha
  · exact hb
theorem own_and15 (x : Int32) : ∃ k : Fin 16, (x &&& (15 : Int32)) = Int32.ofNat k.val := by
  have h : (x &&& 15).toBitVec.toNat < 16 := by
    simp only [Int32.toBitVec_and, BitVec.toNat_and]
    exact Nat.lt_succ_of_le Nat.and_le_right
  refine ⟨⟨_, h⟩, ?_⟩
  apply Int32.toBitVec_inj.mp
  show _ = BitVec.ofNat 32 _
  rw [BitVec.ofNat_toNat]; simp
theorem own_rem9 {i x : Int32} (e : i = ((x &&& (15 : Int32)) % (9 : Int32))) : ¬ i < 0 ∧ i < (9 : Int32) := by
  obtain ⟨k, hk⟩ := own_and15 x
  rw [e, hk]
  have t : ∀ k : Fin 16, ¬ (Int32.ofNat k.val % (9 : Int32)) < 0 ∧ (Int32.ofNat k.val % (9 : Int32)) < (9 : Int32) := by decide +kernel
  exact t k
theorem own_third {a b x y z : Int32} (hx : x = a ∨ x = b) (hy : y = a ∨ y = b) (hz : z = a ∨ z = b) (h1 : ¬ y = x) (h2 : ¬ z = x) : z = y := by
  rcases hx with hx | hx <;> rcases hy with hy | hy <;> rcases hz with hz | hz <;> first | exact hz.trans hy.symm | exact absurd (hy.trans hx.symm) h1 | exact absurd (hz.trans hx.symm) h2
theorem own_be {x y : Int32} (h : x = y) : y.toInt8.toInt32 = x.toInt8.toInt32 := by rw [h]
theorem own_bn {x y : Int32} (hx : ¬ x < 0 ∧ ¬ (255 : Int32) < x) (hy : ¬ y < 0 ∧ ¬ (255 : Int32) < y) (h : ¬ x = y) : ¬ x.toInt8.toInt32 = y.toInt8.toInt32 := fun e => h (by rw [← own_b8 hx, e, own_b8 hy])
theorem own_eq {a b : Int32} (h : a = b) : a.toInt = b.toInt := by rw [h]
theorem own_neq {a b : Int32} (h : ¬ a = b) : ¬ a.toInt = b.toInt := fun q => h (Int32.toInt_inj.mp q)
theorem own_lt {a b : Int32} (h : a < b) : a.toInt < b.toInt := Int32.lt_iff_toInt_lt.mp h
theorem own_nlt {a b : Int32} (h : ¬ a < b) : ¬ a.toInt < b.toInt := fun q => h (Int32.lt_iff_toInt_lt.mpr q)
theorem own_asym {a b : Int32} (h : a < b) : ¬ b < a := fun q => by have := own_lt h; have := own_lt q; omega
theorem own_nel {a b : Int32} (h : a < b) : ¬ a = b := fun q => by have := own_lt h; have := own_eq q; omega
theorem own_tri {a b : Int32} (h : ¬ a < b) (q : ¬ b < a) : a = b := Int32.toInt_inj.mp (by have := own_nlt h; have := own_nlt q; omega)
def Bo (b : Int32) (P : Prop) : Prop := (b = 1 ∧ P) ∨ (b = 0 ∧ ¬ P)
theorem own_bo0 {b : Int32} {P : Prop} (h : Bo b P) (q : b = (0 : Int32)) : ¬ P := by
  rcases h with ⟨rfl, -⟩ | ⟨-, p⟩
  · exact absurd q (by decide)
  · exact p
theorem own_bo1 {b : Int32} {P : Prop} (h : Bo b P) (q : ¬ b = (0 : Int32)) : P := by
  rcases h with ⟨-, p⟩ | ⟨rfl, -⟩
  · exact p
  · exact absurd rfl q
abbrev R23 (r2 r3 : Int32) (c0 c1 c2 i0 i1 i2 d0 d1 d2 : Int) : Prop := ((r2 = 1 ∧ (c0 = c1 ∧ i0 = i1 ∧ d1 < d0)) ∨ (r2 = 0 ∧ ¬ (c0 = c1 ∧ i0 = i1 ∧ d1 < d0))) ∧ ((r3 = 1 ∧ ((c0 = c1 ∧ i0 = i1 ∧ d1 < d0) ∨ (c0 = c2 ∧ i0 = i2 ∧ d2 < d0) ∨ (c1 = c2 ∧ i1 = i2 ∧ d2 < d1))) ∨ (r3 = 0 ∧ ¬ ((c0 = c1 ∧ i0 = i1 ∧ d1 < d0) ∨ (c0 = c2 ∧ i0 = i2 ∧ d2 < d0) ∨ (c1 = c2 ∧ i1 = i2 ∧ d2 < d1))))
theorem own_r3 {r2 r3 : Int32} {c0 c1 c2 i0 i1 i2 d0 d1 d2 : Int} (h : R23 r2 r3 c0 c1 c2 i0 i1 i2 d0 d1 d2) : r3 = 1 ∨ r3 = 0 := h.2.elim (fun q => Or.inl q.1) (fun q => Or.inr q.1)
theorem own_fin {r2 r3 b0 b1 b2 : Int32} {c0 c1 c2 i0 i1 i2 d0 d1 d2 : Int} (h : R23 r2 r3 c0 c1 c2 i0 i1 i2 d0 d1 d2) (h0 : Bo b0 ((c0 = c1 ∧ i0 = i1) ∧ d1 < d0)) (h1 : Bo b1 ((c0 = c2 ∧ i0 = i2) ∧ d2 < d0)) (h2 : Bo b2 ((c1 = c2 ∧ i1 = i2) ∧ d2 < d1)) : r2 = b0 ∧ ((r3 = 1 ∧ (b0 = 1 ∨ b1 = 1 ∨ b2 = 1)) ∨ (r3 = 0 ∧ b0 = 0 ∧ b1 = 0 ∧ b2 = 0)) := by
  obtain ⟨a, b⟩ := h
  refine ⟨?_, ?_⟩
  · rcases a with ⟨a1, a2⟩ | ⟨a1, a2⟩ <;> rcases h0 with ⟨q1, q2⟩ | ⟨q1, q2⟩
    · rw [a1, q1]
    · exact absurd ⟨⟨a2.1, a2.2.1⟩, a2.2.2⟩ q2
    · exact absurd ⟨q2.1.1, q2.1.2, q2.2⟩ a2
    · rw [a1, q1]
  · rcases b with ⟨b1', b2'⟩ | ⟨b1', b2'⟩
    · refine Or.inl ⟨b1', ?_⟩
      rcases h0 with ⟨q1, q2⟩ | ⟨q1, q2⟩
      · exact Or.inl q1
      · rcases h1 with ⟨s1, s2⟩ | ⟨s1, s2⟩
        · exact Or.inr (Or.inl s1)
        · rcases h2 with ⟨t1, t2⟩ | ⟨t1, t2⟩
          · exact Or.inr (Or.inr t1)
          · exfalso
            rcases b2' with x | x | x
            · exact q2 ⟨⟨x.1, x.2.1⟩, x.2.2⟩
            · exact s2 ⟨⟨x.1, x.2.1⟩, x.2.2⟩
            · exact t2 ⟨⟨x.1, x.2.1⟩, x.2.2⟩
    · refine Or.inr ⟨b1', ?_, ?_, ?_⟩
      · rcases h0 with ⟨q1, q2⟩ | ⟨q1, q2⟩
        · exact absurd (Or.inl ⟨q2.1.1, q2.1.2, q2.2⟩) b2'
        · exact q1
      · rcases h1 with ⟨q1, q2⟩ | ⟨q1, q2⟩
        · exact absurd (Or.inr (Or.inl ⟨q2.1.1, q2.1.2, q2.2⟩)) b2'
        · exact q1
      · rcases h2 with ⟨q1, q2⟩ | ⟨q1, q2⟩
        · exact absurd (Or.inr (Or.inr ⟨q2.1.1, q2.1.2, q2.2⟩)) b2'
        · exact q1
theorem own_f1 {r3 b0 b1 b2 : Int32} (h : (r3 = 1 ∧ (b0 = 1 ∨ b1 = 1 ∨ b2 = 1)) ∨ (r3 = 0 ∧ b0 = 0 ∧ b1 = 0 ∧ b2 = 0)) (q : ¬ b0 = (0 : Int32) ∨ ¬ b1 = (0 : Int32) ∨ ¬ b2 = (0 : Int32)) : r3 = (1 : Int32) := by
  rcases h with h | h
  · exact h.1
  · rcases q with q | q | q
    · exact absurd h.2.1 q
    · exact absurd h.2.2.1 q
    · exact absurd h.2.2.2 q
theorem own_f0 {r3 b0 b1 b2 : Int32} (h : (r3 = 1 ∧ (b0 = 1 ∨ b1 = 1 ∨ b2 = 1)) ∨ (r3 = 0 ∧ b0 = 0 ∧ b1 = 0 ∧ b2 = 0)) (q0 : b0 = (0 : Int32)) (q1 : b1 = (0 : Int32)) (q2 : b2 = (0 : Int32)) : r3 = (0 : Int32) := by
  rcases h with ⟨-, h | h | h⟩ | h
  · rw [q0] at h; exact absurd h (by decide)
  · rw [q1] at h; exact absurd h (by decide)
  · rw [q2] at h; exact absurd h (by decide)
  · exact h.1
def DR (d : Int32) : Prop := -1048576 ≤ d.toInt ∧ d.toInt ≤ 1048583
theorem own_min {d : Int32} (h : DR d) : (-2147483648 : Int32) < d := by
  rw [Int32.lt_iff_toInt_lt, show (-2147483648 : Int32).toInt = -2147483648 from rfl]; unfold DR at h; omega
theorem own_nmin (d : Int32) : ¬ d < (-2147483648 : Int32) := by
  rw [Int32.lt_iff_toInt_lt, show (-2147483648 : Int32).toInt = -2147483648 from rfl]; have := d.le_toInt; omega
theorem own_bm {x : Int} (h1 : -2147483648 ≤ x) (h2 : x < 2147483648) : x.bmod (2 ^ 32) = x := by
  apply Int.bmod_eq_of_le <;> omega
theorem own_bj {x : Int} (h1 : -9223372036854775808 ≤ x) (h2 : x < 9223372036854775808) : x.bmod (2 ^ 64) = x := by
  apply Int.bmod_eq_of_le <;> omega
theorem own_and21 (x : Int32) : 0 ≤ (x &&& (2097151 : Int32)).toInt ∧ (x &&& (2097151 : Int32)).toInt ≤ 2097151 := by
  have h : (x &&& 2097151).toBitVec.toNat ≤ 2097151 := by
    simp only [Int32.toBitVec_and, BitVec.toNat_and]
    exact Nat.and_le_right
  have e : (x &&& 2097151).toInt = (x &&& 2097151).toBitVec.toNat := by
    show (x &&& 2097151).toBitVec.toInt = _
    rw [BitVec.toInt_eq_toNat_cond]
    split <;> omega
  omega
theorem own_a7i (x : Int32) : 0 ≤ (x &&& (7 : Int32)).toInt ∧ (x &&& (7 : Int32)).toInt ≤ 7 := by
  have t : ∀ k : Fin 8, 0 ≤ (Int32.ofNat k.val).toInt ∧ (Int32.ofNat k.val).toInt ≤ 7 := by decide +kernel
  obtain ⟨k, e⟩ := own_and7 x
  rw [e]; exact t k
theorem own_dr {b d x y : Int32} (eb : b = ((x &&& (2097151 : Int32)) - (1048576 : Int32))) (ed : d = (b + (y &&& (7 : Int32)))) : DR d := by
  have h1 := own_and21 x; have h2 := own_a7i y
  have e1 : b.toInt = (x &&& (2097151 : Int32)).toInt - 1048576 := by
    rw [eb, Int32.toInt_sub, show (1048576 : Int32).toInt = 1048576 from rfl, own_bm] <;> omega
  have e2 : d.toInt = b.toInt + (y &&& (7 : Int32)).toInt := by
    rw [ed, Int32.toInt_add, own_bm] <;> omega
  unfold DR; omega
theorem own_l2i (d : Int32) : d.toInt64.toInt32 = d := by simp
def Sm (x : Int32) : Prop := 0 ≤ x.toInt ∧ x.toInt ≤ 100
theorem own_smk {x : Int32} (h : Sm x) : ∃ k : Fin 101, x = Int32.ofNat k.val := by
  unfold Sm at h
  exact own_of32 (by rw [Int32.lt_iff_toInt_lt, show (0 : Int32).toInt = 0 from rfl]; omega) (by omega)
theorem own_i2s {x : Int32} (h : Sm x) : x.toInt16.toInt32 = x := by
  have t : ∀ k : Fin 101, (Int32.ofNat k.val).toInt16.toInt32 = Int32.ofNat k.val := by decide +kernel
  obtain ⟨k, rfl⟩ := own_smk h; exact t k
theorem own_ns {x : Int32} (h : Sm x) : narrow .short (.int x) = .int x := by
  have q := own_i2s h
  show Value.int _ = _
  first | rw [q] | (simp only [Value.int.injEq]; exact q)
theorem own_fs {x : Int32} (h : Sm x) : fits .short (.int x) = true := by
  have t : ∀ k : Fin 101, fits .short (.int (Int32.ofNat k.val)) = true := by decide +kernel
  obtain ⟨k, rfl⟩ := own_smk h; exact t k
def TE1 (y : Int) : Int := 365 * y + (y + 3) / 4 - (y + 99) / 100 + (y + 399) / 400
def Leap (y : Int) : Prop := y % 4 = 0 ∧ (y % 100 ≠ 0 ∨ y % 400 = 0)
def TD (y m d dx : Int32) : Prop := (-3000 ≤ y.toInt ∧ y.toInt ≤ 6000) ∧ Sm m ∧ Sm d ∧ DR dx ∧ (1 ≤ m.toInt ∧ m.toInt ≤ 12) ∧
  ((m.toInt ≤ 2 ∧ dx.toInt = TE1 y.toInt + (367 * m.toInt - 362) / 12 + d.toInt - 1 - 719528) ∨ (2 < m.toInt ∧ Leap y.toInt ∧ dx.toInt = TE1 y.toInt + (367 * m.toInt - 362) / 12 + d.toInt - 1 - 1 - 719528) ∨ (2 < m.toInt ∧ ¬ Leap y.toInt ∧ dx.toInt = TE1 y.toInt + (367 * m.toInt - 362) / 12 + d.toInt - 1 - 1 - 1 - 719528))
theorem own_jd {x : Int64} {a k : Int} {b : Int64} (hx : x.toInt = a) (hb : b.toInt = k) (h0 : 0 ≤ a) (h1 : a < 9223372036854775808) (hk : 0 < k) : (x / b).toInt = a / k := by
  rw [Int64.toInt_div, hx, hb, Int.tdiv_eq_ediv_of_nonneg h0]
  have := Int.ediv_le_self k h0
  have := Int.ediv_nonneg h0 (Int.le_of_lt hk)
  rw [own_bj] <;> omega
theorem own_jn {x : Int64} {a k : Int} {b : Int64} (hx : x.toInt = a) (hb : b.toInt = -k) (h0 : a ≤ 0) (h1 : -9223372036854775808 < a) (hk : 0 < k) : (x / b).toInt = (-a) / k := by
  have e : a.tdiv (-k) = (-a) / k := by rw [Int.tdiv_neg, ← Int.neg_tdiv, Int.tdiv_eq_ediv_of_nonneg (by omega)]
  rw [Int64.toInt_div, hx, hb, e]
  have := Int.ediv_le_self (a := -a) k (by omega)
  have := Int.ediv_nonneg (a := -a) (by omega) (Int.le_of_lt hk)
  rw [own_bj] <;> omega
theorem own_jm {x : Int64} {a k : Int} {b : Int64} (hx : x.toInt = a) (hb : b.toInt = k) (h0 : a ≤ 0) (h1 : -9223372036854775808 < a) (hk : 0 < k) : (x / b).toInt = -((-a) / k) := by
  have e : a.tdiv k = -((-a) / k) := by
    have q := Int.neg_tdiv (-a) k
    rw [Int.neg_neg] at q
    rw [q, Int.tdiv_eq_ediv_of_nonneg (by omega)]
  rw [Int64.toInt_div, hx, hb, e]
  have := Int.ediv_le_self (a := -a) k (by omega)
  have := Int.ediv_nonneg (a := -a) (by omega) (Int.le_of_lt hk)
  rw [own_bj] <;> omega
theorem own_te1p {y m d dx : Int32} (h : TD y m d dx) (hn : ¬ (y.toInt64) < (0 : Int64)) : ((((0 : Int64) + ((365 : Int64) * (y.toInt64))) + (((((y.toInt64) + (3 : Int64)) / (4 : Int64)) - (((y.toInt64) + (99 : Int64)) / (100 : Int64))) + (((y.toInt64) + (399 : Int64)) / (400 : Int64))))).toInt = TE1 y.toInt := by
  obtain ⟨⟨b1, b2⟩, -⟩ := h
  have Y : y.toInt64.toInt = y.toInt := Int32.toInt_toInt64 y
  rw [Int64.lt_iff_toInt_lt, Y, show (0 : Int64).toInt = 0 from rfl] at hn
  have a1 : ((365 : Int64) * y.toInt64).toInt = 365 * y.toInt := by rw [Int64.toInt_mul, Y, show (365 : Int64).toInt = 365 from rfl, own_bj] <;> omega
  have a2 : ((0 : Int64) + ((365 : Int64) * y.toInt64)).toInt = 365 * y.toInt := by rw [Int64.toInt_add, a1, show (0 : Int64).toInt = 0 from rfl, own_bj] <;> omega
  have q1 : (y.toInt64 + (3 : Int64)).toInt = y.toInt + 3 := by rw [Int64.toInt_add, Y, show (3 : Int64).toInt = 3 from rfl, own_bj] <;> omega
  have q2 : (y.toInt64 + (99 : Int64)).toInt = y.toInt + 99 := by rw [Int64.toInt_add, Y, show (99 : Int64).toInt = 99 from rfl, own_bj] <;> omega
  have q3 : (y.toInt64 + (399 : Int64)).toInt = y.toInt + 399 := by rw [Int64.toInt_add, Y, show (399 : Int64).toInt = 399 from rfl, own_bj] <;> omega
  have d1 := own_jd (k := 4) q1 (show (4 : Int64).toInt = 4 from rfl) (by omega) (by omega) (by omega)
  have d2 := own_jd (k := 100) q2 (show (100 : Int64).toInt = 100 from rfl) (by omega) (by omega) (by omega)
  have d3 := own_jd (k := 400) q3 (show (400 : Int64).toInt = 400 from rfl) (by omega) (by omega) (by omega)
  have s1 : ((y.toInt64 + (3 : Int64)) / (4 : Int64) - (y.toInt64 + (99 : Int64)) / (100 : Int64)).toInt = (y.toInt + 3) / 4 - (y.toInt + 99) / 100 := by rw [Int64.toInt_sub, d1, d2, own_bj] <;> omega
  have s2 : ((y.toInt64 + (3 : Int64)) / (4 : Int64) - (y.toInt64 + (99 : Int64)) / (100 : Int64) + (y.toInt64 + (399 : Int64)) / (400 : Int64)).toInt = (y.toInt + 3) / 4 - (y.toInt + 99) / 100 + (y.toInt + 399) / 400 := by rw [Int64.toInt_add, s1, d3, own_bj] <;> omega
  unfold TE1
  rw [Int64.toInt_add, a2, s2, own_bj] <;> omega
theorem own_te1n {y m d dx : Int32} (h : TD y m d dx) (hn : (y.toInt64) < (0 : Int64)) : ((((0 : Int64) + ((365 : Int64) * (y.toInt64))) - ((((y.toInt64) / (-4 : Int64)) - ((y.toInt64) / (-100 : Int64))) + ((y.toInt64) / (-400 : Int64))))).toInt = TE1 y.toInt := by
  obtain ⟨⟨b1, b2⟩, -⟩ := h
  have Y : y.toInt64.toInt = y.toInt := Int32.toInt_toInt64 y
  rw [Int64.lt_iff_toInt_lt, Y, show (0 : Int64).toInt = 0 from rfl] at hn
  have a1 : ((365 : Int64) * y.toInt64).toInt = 365 * y.toInt := by rw [Int64.toInt_mul, Y, show (365 : Int64).toInt = 365 from rfl, own_bj] <;> omega
  have a2 : ((0 : Int64) + ((365 : Int64) * y.toInt64)).toInt = 365 * y.toInt := by rw [Int64.toInt_add, a1, show (0 : Int64).toInt = 0 from rfl, own_bj] <;> omega
  have d1 := own_jn (k := 4) Y (show (-4 : Int64).toInt = -4 from rfl) (by omega) (by omega) (by omega)
  have d2 := own_jn (k := 100) Y (show (-100 : Int64).toInt = -100 from rfl) (by omega) (by omega) (by omega)
  have d3 := own_jn (k := 400) Y (show (-400 : Int64).toInt = -400 from rfl) (by omega) (by omega) (by omega)
  have s1 : (y.toInt64 / (-4 : Int64) - y.toInt64 / (-100 : Int64)).toInt = (-y.toInt) / 4 - (-y.toInt) / 100 := by rw [Int64.toInt_sub, d1, d2, own_bj] <;> omega
  have s2 : (y.toInt64 / (-4 : Int64) - y.toInt64 / (-100 : Int64) + y.toInt64 / (-400 : Int64)).toInt = (-y.toInt) / 4 - (-y.toInt) / 100 + (-y.toInt) / 400 := by rw [Int64.toInt_add, s1, d3, own_bj] <;> omega
  unfold TE1
  rw [Int64.toInt_sub, a2, s2, own_bj] <;> omega
theorem own_TE1b {y : Int} (h1 : -3000 ≤ y) (h2 : y ≤ 6000) : -1200000 ≤ TE1 y ∧ TE1 y ≤ 2400000 := by unfold TE1; omega
theorem own_te2 {y m d dx : Int32} {t5 t7 : Int64} (h : TD y m d dx) (h5 : t5.toInt = TE1 y.toInt) (e : t7 = ((t5 + ((((367 : Int64) * (m.toInt64)) - (362 : Int64)) / (12 : Int64))) + ((d - (1 : Int32)).toInt64))) : t7.toInt = TE1 y.toInt + (367 * m.toInt - 362) / 12 + d.toInt - 1 := by
  obtain ⟨⟨b1, b2⟩, sm, sd, -, ⟨m1, m2⟩, -⟩ := h
  unfold Sm at sm sd
  have bt := own_TE1b b1 b2
  have M : m.toInt64.toInt = m.toInt := Int32.toInt_toInt64 m
  have a1 : ((367 : Int64) * m.toInt64).toInt = 367 * m.toInt := by rw [Int64.toInt_mul, M, show (367 : Int64).toInt = 367 from rfl, own_bj] <;> omega
  have a2 : (((367 : Int64) * m.toInt64) - (362 : Int64)).toInt = 367 * m.toInt - 362 := by rw [Int64.toInt_sub, a1, show (362 : Int64).toInt = 362 from rfl, own_bj] <;> omega
  have a3 := own_jd (k := 12) a2 (show (12 : Int64).toInt = 12 from rfl) (by omega) (by omega) (by omega)
  have a4 : (d - (1 : Int32)).toInt = d.toInt - 1 := by rw [Int32.toInt_sub, show (1 : Int32).toInt = 1 from rfl, own_bm] <;> omega
  have a5 : (d - (1 : Int32)).toInt64.toInt = d.toInt - 1 := by rw [Int32.toInt_toInt64, a4]
  have a6 : (t5 + ((((367 : Int64) * m.toInt64) - (362 : Int64)) / (12 : Int64))).toInt = TE1 y.toInt + (367 * m.toInt - 362) / 12 := by rw [Int64.toInt_add, h5, a3, own_bj] <;> omega
  rw [e, Int64.toInt_add, a6, a5, own_bj] <;> omega
theorem own_jt {a b : Int64} (h : a.toInt = b.toInt) : a = b := Int64.toInt_inj.mp h
theorem own_leap (y : Int32) : ((y.toInt64) &&& (3 : Int64)) = (0 : Int64) ↔ y.toInt % 4 = 0 := by
  have Y : y.toInt64.toInt = y.toInt := Int32.toInt_toInt64 y
  rw [← Y]
  generalize y.toInt64 = x
  have e : (x &&& 3).toBitVec.toNat = x.toBitVec.toNat % 4 := by
    rw [Int64.toBitVec_and, BitVec.toNat_and]
    exact Nat.and_two_pow_sub_one_eq_mod _ 2
  have t : x.toInt = x.toBitVec.toInt := rfl
  have c : x.toBitVec.toInt % 4 = (x.toBitVec.toNat : Int) % 4 := by
    rw [BitVec.toInt_eq_toNat_cond]; split <;> omega
  rw [t, c]
  constructor
  · intro q
    rw [q] at e
    have : ((0 : Int64).toBitVec.toNat) = 0 := rfl
    omega
  · intro q
    apply Int64.toBitVec_inj.mp
    apply BitVec.eq_of_toNat_eq
    rw [e]
    have : ((0 : Int64).toBitVec.toNat) = 0 := rfl
    omega
theorem own_rem {y : Int32} {b : Int64} {k : Int} (hb : b.toInt = k) (hk : 0 < k) : ((y.toInt64) % b) = (0 : Int64) ↔ y.toInt % k = 0 := by
  have Y : y.toInt64.toInt = y.toInt := Int32.toInt_toInt64 y
  have e : ((y.toInt64) % b).toInt = y.toInt.tmod k := by rw [Int64.toInt_mod, Y, hb]
  constructor
  · intro q
    rw [q] at e
    have z : (0 : Int64).toInt = 0 := rfl
    rw [z] at e
    exact Int.emod_eq_zero_of_dvd (Int.dvd_of_tmod_eq_zero e.symm)
  · intro q
    apply own_jt
    rw [e]
    exact Int.tmod_eq_zero_of_dvd (Int.dvd_of_emod_eq_zero q)
def LeapJ (j : Int64) : Prop := (j &&& (3 : Int64)) = (0 : Int64) ∧ (¬ (j % (100 : Int64)) = (0 : Int64) ∨ (j % (400 : Int64)) = (0 : Int64))
def Lp (b : Int32) (j : Int64) : Prop := (b = 1 ∧ LeapJ j) ∨ (b = 0 ∧ ¬ LeapJ j)
theorem own_nz {b : Int32} {j : Int64} (h : Lp b j) : nar .boolean b = b := by rcases h with ⟨rfl, -⟩ | ⟨rfl, -⟩ <;> decide
theorem own_lj (y : Int32) : LeapJ (y.toInt64) ↔ Leap y.toInt := by
  unfold LeapJ Leap
  rw [own_leap, own_rem (k := 100) rfl (by omega), own_rem (k := 400) rfl (by omega)]
theorem own_t1 {t : Int64} {a k : Int} {b : Int64} (h : t.toInt = a) (hb : b.toInt = k) (h1 : -9000000000 ≤ a ∧ a ≤ 9000000000) (h2 : 0 ≤ k ∧ k ≤ 9000000000) : (t - b).toInt = a - k := by
  rw [Int64.toInt_sub, h, hb, own_bj] <;> omega
theorem own_te3 {y m d dx : Int32} {t7 : Int64} (h : TD y m d dx) (h7 : t7.toInt = TE1 y.toInt + (367 * m.toInt - 362) / 12 + d.toInt - 1) (hm : ¬ (2 : Int64) < (m.toInt64)) : (t7 - (719528 : Int64)) = dx.toInt64 := by
  obtain ⟨⟨b1, b2⟩, sm, sd, -, ⟨m1, m2⟩, q⟩ := h
  unfold Sm at sm sd
  have bt := own_TE1b b1 b2
  rw [Int64.lt_iff_toInt_lt, Int32.toInt_toInt64, show (2 : Int64).toInt = 2 from rfl] at hm
  apply own_jt
  rw [own_t1 h7 (show (719528 : Int64).toInt = 719528 from rfl) (by omega) (by omega), Int32.toInt_toInt64]
  rcases q with ⟨-, q⟩ | ⟨q, -⟩ | ⟨q, -⟩ <;> omega
theorem own_te4 {y m d dx : Int32} {t7 : Int64} (h : TD y m d dx) (h7 : t7.toInt = TE1 y.toInt + (367 * m.toInt - 362) / 12 + d.toInt - 1) (hm : (2 : Int64) < (m.toInt64)) (hl : LeapJ (y.toInt64)) : ((t7 - (1 : Int64)) - (719528 : Int64)) = dx.toInt64 := by
  obtain ⟨⟨b1, b2⟩, sm, sd, -, ⟨m1, m2⟩, q⟩ := h
  unfold Sm at sm sd
  have bt := own_TE1b b1 b2
  rw [Int64.lt_iff_toInt_lt, Int32.toInt_toInt64, show (2 : Int64).toInt = 2 from rfl] at hm
  rw [own_lj] at hl
  apply own_jt
  rw [own_t1 (own_t1 h7 (show (1 : Int64).toInt = 1 from rfl) (by omega) (by omega)) (show (719528 : Int64).toInt = 719528 from rfl) (by omega) (by omega), Int32.toInt_toInt64]
  rcases q with ⟨q, -⟩ | ⟨-, -, q⟩ | ⟨-, q, -⟩
  · omega
  · omega
  · exact absurd hl q
theorem own_te5 {y m d dx : Int32} {t7 : Int64} (h : TD y m d dx) (h7 : t7.toInt = TE1 y.toInt + (367 * m.toInt - 362) / 12 + d.toInt - 1) (hm : (2 : Int64) < (m.toInt64)) (hl : ¬ LeapJ (y.toInt64)) : (((t7 - (1 : Int64)) - (1 : Int64)) - (719528 : Int64)) = dx.toInt64 := by
  obtain ⟨⟨b1, b2⟩, sm, sd, -, ⟨m1, m2⟩, q⟩ := h
  unfold Sm at sm sd
  have bt := own_TE1b b1 b2
  rw [Int64.lt_iff_toInt_lt, Int32.toInt_toInt64, show (2 : Int64).toInt = 2 from rfl] at hm
  rw [own_lj] at hl
  apply own_jt
  rw [own_t1 (own_t1 (own_t1 h7 (show (1 : Int64).toInt = 1 from rfl) (by omega) (by omega)) (show (1 : Int64).toInt = 1 from rfl) (by omega) (by omega)) (show (719528 : Int64).toInt = 719528 from rfl) (by omega) (by omega), Int32.toInt_toInt64]
  rcases q with ⟨q, -⟩ | ⟨-, q, -⟩ | ⟨-, -, q⟩
  · omega
  · exact absurd q hl
  · omega
theorem own_ed1 {d : Int32} (h : DR d) : ¬ (d.toInt64) < (-365243219162 : Int64) := by
  rw [Int64.lt_iff_toInt_lt, Int32.toInt_toInt64, show (-365243219162 : Int64).toInt = -365243219162 from rfl]; unfold DR at h; omega
theorem own_ed2 {d : Int32} (h : DR d) : ¬ (365241780471 : Int64) < (d.toInt64) := by
  rw [Int64.lt_iff_toInt_lt, Int32.toInt_toInt64, show (365241780471 : Int64).toInt = 365241780471 from rfl]; unfold DR at h; omega
theorem own_zd {d : Int32} {z : Int64} (h : DR d) (e : z = (((d.toInt64) + (719528 : Int64)) - (60 : Int64))) : z.toInt = d.toInt + 719468 ∧ DR d := by
  refine ⟨?_, h⟩
  unfold DR at h
  have a : ((d.toInt64) + (719528 : Int64)).toInt = d.toInt + 719528 := by rw [Int64.toInt_add, Int32.toInt_toInt64, show (719528 : Int64).toInt = 719528 from rfl, own_bj] <;> omega
  rw [e, Int64.toInt_sub, a, show (60 : Int64).toInt = 60 from rfl, own_bj] <;> omega
theorem own_ac {d : Int32} {z c : Int64} (h : z.toInt = d.toInt + 719468 ∧ DR d) (hn : z < (0 : Int64)) (e : c = (((z + (1 : Int64)) / (146097 : Int64)) - (1 : Int64))) : c.toInt = -((-(z.toInt + 1)) / 146097) - 1 ∧ z.toInt < 0 := by
  obtain ⟨h1, h2⟩ := h
  unfold DR at h2
  rw [Int64.lt_iff_toInt_lt, show (0 : Int64).toInt = 0 from rfl] at hn
  refine ⟨?_, hn⟩
  have a : (z + (1 : Int64)).toInt = z.toInt + 1 := by rw [Int64.toInt_add, show (1 : Int64).toInt = 1 from rfl, own_bj] <;> omega
  have b := own_jm (k := 146097) a (show (146097 : Int64).toInt = 146097 from rfl) (by omega) (by omega) (by omega)
  rw [e, Int64.toInt_sub, b, show (1 : Int64).toInt = 1 from rfl, own_bj] <;> omega
def HZ2 (d : Int32) (z a : Int64) : Prop := ∃ c : Int, a.toInt = 400 * c ∧ z.toInt = d.toInt + 719468 - 146097 * c ∧ 0 ≤ z.toInt ∧ z.toInt ≤ 2000000 ∧ -20 ≤ c ∧ c ≤ 0
theorem own_z2n {d : Int32} {z c a z2 : Int64} (h : z.toInt = d.toInt + 719468 ∧ DR d) (hc : c.toInt = -((-(z.toInt + 1)) / 146097) - 1 ∧ z.toInt < 0) (ea : a = (c * (400 : Int64))) (ez : z2 = (z + ((-c) * (146097 : Int64)))) : HZ2 d z2 a := by
  obtain ⟨h1, h2⟩ := h
  obtain ⟨c1, c2⟩ := hc
  unfold DR at h2
  have cb : -20 ≤ c.toInt ∧ c.toInt ≤ 0 := by omega
  have a1 : a.toInt = 400 * c.toInt := by rw [ea, Int64.toInt_mul, show (400 : Int64).toInt = 400 from rfl, own_bj] <;> omega
  have n1 : (-c).toInt = -c.toInt := by rw [Int64.toInt_neg, own_bj] <;> omega
  have m1 : ((-c) * (146097 : Int64)).toInt = -c.toInt * 146097 := by rw [Int64.toInt_mul, n1, show (146097 : Int64).toInt = 146097 from rfl, own_bj] <;> omega
  have z1 : z2.toInt = z.toInt - 146097 * c.toInt := by rw [ez, Int64.toInt_add, m1, own_bj] <;> omega
  exact ⟨c.toInt, a1, by omega, by omega, by omega, cb.1, cb.2⟩
theorem own_z2p {d : Int32} {z : Int64} (h : z.toInt = d.toInt + 719468 ∧ DR d) (hn : ¬ z < (0 : Int64)) : HZ2 d z (0 : Int64) := by
  obtain ⟨h1, h2⟩ := h
  unfold DR at h2
  rw [Int64.lt_iff_toInt_lt, show (0 : Int64).toInt = 0 from rfl] at hn
  exact ⟨0, rfl, by omega, by omega, by omega, by omega, by omega⟩
theorem own_ye {d : Int32} {z a y : Int64} (h : HZ2 d z a) (e : y = ((((400 : Int64) * z) + (591 : Int64)) / (146097 : Int64))) : y.toInt = (400 * z.toInt + 591) / 146097 := by
  obtain ⟨c, -, -, z0, z1, -, -⟩ := h
  have a1 : ((400 : Int64) * z).toInt = 400 * z.toInt := by rw [Int64.toInt_mul, show (400 : Int64).toInt = 400 from rfl, own_bj] <;> omega
  have a2 : (((400 : Int64) * z) + (591 : Int64)).toInt = 400 * z.toInt + 591 := by rw [Int64.toInt_add, a1, show (591 : Int64).toInt = 591 from rfl, own_bj] <;> omega
  rw [e]; exact own_jd (k := 146097) a2 (show (146097 : Int64).toInt = 146097 from rfl) (by omega) (by omega) (by omega)
theorem own_dq {z y d : Int64} (z0 : 0 ≤ z.toInt ∧ z.toInt ≤ 2000000) (y0 : 0 ≤ y.toInt ∧ y.toInt ≤ 6000) (e : d = (z - (((((365 : Int64) * y) + (y / (4 : Int64))) - (y / (100 : Int64))) + (y / (400 : Int64))))) : d.toInt = z.toInt - (365 * y.toInt + y.toInt / 4 - y.toInt / 100 + y.toInt / 400) := by
  have a1 : ((365 : Int64) * y).toInt = 365 * y.toInt := by rw [Int64.toInt_mul, show (365 : Int64).toInt = 365 from rfl, own_bj] <;> omega
  have d1 := own_jd (k := 4) (rfl : y.toInt = y.toInt) (show (4 : Int64).toInt = 4 from rfl) (by omega) (by omega) (by omega)
  have d2 := own_jd (k := 100) (rfl : y.toInt = y.toInt) (show (100 : Int64).toInt = 100 from rfl) (by omega) (by omega) (by omega)
  have d3 := own_jd (k := 400) (rfl : y.toInt = y.toInt) (show (400 : Int64).toInt = 400 from rfl) (by omega) (by omega) (by omega)
  have s1 : (((365 : Int64) * y) + (y / (4 : Int64))).toInt = 365 * y.toInt + y.toInt / 4 := by rw [Int64.toInt_add, a1, d1, own_bj] <;> omega
  have s2 : ((((365 : Int64) * y) + (y / (4 : Int64))) - (y / (100 : Int64))).toInt = 365 * y.toInt + y.toInt / 4 - y.toInt / 100 := by rw [Int64.toInt_sub, s1, d2, own_bj] <;> omega
  have s3 : (((((365 : Int64) * y) + (y / (4 : Int64))) - (y / (100 : Int64))) + (y / (400 : Int64))).toInt = 365 * y.toInt + y.toInt / 4 - y.toInt / 100 + y.toInt / 400 := by rw [Int64.toInt_add, s2, d3, own_bj] <;> omega
  rw [e, Int64.toInt_sub, s3, own_bj] <;> omega
theorem own_de {d : Int32} {z a y e0 : Int64} (h : HZ2 d z a) (hy : y.toInt = (400 * z.toInt + 591) / 146097) (e : e0 = (z - (((((365 : Int64) * y) + (y / (4 : Int64))) - (y / (100 : Int64))) + (y / (400 : Int64))))) : e0.toInt = z.toInt - (365 * y.toInt + y.toInt / 4 - y.toInt / 100 + y.toInt / 400) := by
  obtain ⟨c, -, -, z0, z1, -, -⟩ := h
  exact own_dq ⟨z0, z1⟩ (by omega) e
theorem own_ye1 {d : Int32} {z a y e0 y1 : Int64} (h : HZ2 d z a) (hy : y.toInt = (400 * z.toInt + 591) / 146097) (hd : e0.toInt = z.toInt - (365 * y.toInt + y.toInt / 4 - y.toInt / 100 + y.toInt / 400)) (hn : e0 < (0 : Int64)) (e : y1 = (y - (1 : Int64))) : y1.toInt = y.toInt - 1 ∧ 0 ≤ y1.toInt := by
  obtain ⟨c, -, -, z0, z1, -, -⟩ := h
  rw [Int64.lt_iff_toInt_lt, show (0 : Int64).toInt = 0 from rfl] at hn
  have a1 : y1.toInt = y.toInt - 1 := by rw [e, Int64.toInt_sub, show (1 : Int64).toInt = 1 from rfl, own_bj] <;> omega
  refine ⟨a1, ?_⟩
  by_cases q : y.toInt = 0
  · rw [q] at hd; omega
  · omega
def DE (z y e : Int64) : Prop := e.toInt = z.toInt - (365 * y.toInt + y.toInt / 4 - y.toInt / 100 + y.toInt / 400) ∧ (0 ≤ e.toInt ∧ e.toInt ≤ 365) ∧ 0 ≤ y.toInt ∧ y.toInt ≤ 6000
theorem own_dez {z y : Int} (z0 : 0 ≤ z) (hy : y = (400 * z + 591) / 146097) (h1 : 1 ≤ y) (hn : z - (365 * y + y / 4 - y / 100 + y / 400) < 0) : 0 ≤ z - (365 * (y - 1) + (y - 1) / 4 - (y - 1) / 100 + (y - 1) / 400) ∧ z - (365 * (y - 1) + (y - 1) / 4 - (y - 1) / 100 + (y - 1) / 400) ≤ 365 := by
  have lo : -2 ≤ z - (365 * y + y / 4 - y / 100 + y / 400) := by omega
  clear hy
  have e1 : y / 400 = y / 100 / 4 := by omega
  have e2 : (y - 1) / 400 = (y - 1) / 100 / 4 := by omega
  have s4 : (y - 1) / 4 = y / 4 ∨ (y - 1) / 4 = y / 4 - 1 := by omega
  have s1 : (y - 1) / 100 = y / 100 ∨ (y - 1) / 100 = y / 100 - 1 := by omega
  rcases s1 with s1 | s1
  · rw [e1] at hn lo
    rw [e2, s1]
    generalize y / 100 = a at *
    generalize a / 4 = b at *
    omega
  · have s5 : (y - 1) / 400 = y / 400 ∨ (y - 1) / 400 = y / 400 - 1 := by omega
    omega
theorem own_de1 {d : Int32} {z a y e0 y1 e1 : Int64} (h : HZ2 d z a) (hy : y.toInt = (400 * z.toInt + 591) / 146097) (hd : e0.toInt = z.toInt - (365 * y.toInt + y.toInt / 4 - y.toInt / 100 + y.toInt / 400)) (hn : e0 < (0 : Int64)) (h1 : y1.toInt = y.toInt - 1 ∧ 0 ≤ y1.toInt) (e : e1 = (z - (((((365 : Int64) * y1) + (y1 / (4 : Int64))) - (y1 / (100 : Int64))) + (y1 / (400 : Int64))))) : DE z y1 e1 := by
  obtain ⟨c, -, -, z0, z1, -, -⟩ := h
  rw [Int64.lt_iff_toInt_lt, show (0 : Int64).toInt = 0 from rfl] at hn
  have q := own_dq ⟨z0, z1⟩ (y := y1) (by omega) e
  refine ⟨q, ?_, by omega⟩
  rw [q, h1.1]
  exact own_dez z0 hy (by omega) (by omega)
theorem own_dp {d : Int32} {z a y e0 : Int64} (h : HZ2 d z a) (hy : y.toInt = (400 * z.toInt + 591) / 146097) (hd : e0.toInt = z.toInt - (365 * y.toInt + y.toInt / 4 - y.toInt / 100 + y.toInt / 400)) (hn : ¬ e0 < (0 : Int64)) : DE z y e0 := by
  obtain ⟨c, -, -, z0, z1, -, -⟩ := h
  rw [Int64.lt_iff_toInt_lt, show (0 : Int64).toInt = 0 from rfl] at hn
  exact ⟨hd, by omega, by omega⟩
def YD (d a y e : Int) : Prop := ∃ c : Int, a = 400 * c ∧ (-20 ≤ c ∧ c ≤ 0) ∧ (0 ≤ y ∧ y ≤ 6000) ∧ (0 ≤ e ∧ e ≤ 365) ∧ d + 719468 = 146097 * c + 365 * y + y / 4 - y / 100 + y / 400 + e ∧ -1048576 ≤ d ∧ d ≤ 1048583
theorem own_yd {d : Int32} {z a y e : Int64} (h : HZ2 d z a) (q : DE z y e) (hr : DR d) : YD d.toInt a.toInt y.toInt e.toInt := by
  obtain ⟨c, c1, c2, -, -, c3, c4⟩ := h
  obtain ⟨q1, q2, q3⟩ := q
  unfold DR at hr
  exact ⟨c, c1, ⟨c3, c4⟩, q3, q2, by omega, hr.1, hr.2⟩
theorem own_y3 {d : Int} {a y e y3 : Int64} (h : YD d a.toInt y.toInt e.toInt) (eq : y3 = (y + a)) : y3.toInt = y.toInt + a.toInt := by
  obtain ⟨c, c1, c2, c3, -⟩ := h
  rw [eq, Int64.toInt_add, own_bj] <;> omega
theorem own_md {d : Int} {a y e : Int64} {md : Int32} (h : YD d a.toInt y.toInt e.toInt) (eq : md = (e.toInt32)) : md.toInt = e.toInt ∧ 0 ≤ md.toInt ∧ md.toInt ≤ 365 := by
  obtain ⟨c, c1, c2, c3, c4, -⟩ := h
  have q : md.toInt = e.toInt := by rw [eq, Int64.toInt_toInt32, own_bm] <;> omega
  omega
theorem own_id {x y : Int32} {a k : Int} (hx : x.toInt = a) (hy : y.toInt = k) (h0 : 0 ≤ a) (h1 : a < 2147483648) (hk : 0 < k) : (x / y).toInt = a / k := by
  rw [Int32.toInt_div, hx, hy, Int.tdiv_eq_ediv_of_nonneg h0]
  have := Int.ediv_le_self k h0
  have := Int.ediv_nonneg h0 (Int.le_of_lt hk)
  rw [own_bm] <;> omega
theorem own_mm {e : Int} {md mm : Int32} (h : md.toInt = e ∧ 0 ≤ md.toInt ∧ md.toInt ≤ 365) (eq : mm = (((md * (5 : Int32)) + (2 : Int32)) / (153 : Int32))) : mm.toInt = (5 * md.toInt + 2) / 153 := by
  have a1 : (md * (5 : Int32)).toInt = 5 * md.toInt := by rw [Int32.toInt_mul, show (5 : Int32).toInt = 5 from rfl, own_bm] <;> omega
  have a2 : ((md * (5 : Int32)) + (2 : Int32)).toInt = 5 * md.toInt + 2 := by rw [Int32.toInt_add, a1, show (2 : Int32).toInt = 2 from rfl, own_bm] <;> omega
  rw [eq]; exact own_id (k := 153) a2 (show (153 : Int32).toInt = 153 from rfl) (by omega) (by omega) (by omega)
theorem own_m3 {e : Int} {md mm : Int32} (h : md.toInt = e ∧ 0 ≤ md.toInt ∧ md.toInt ≤ 365) (hm : mm.toInt = (5 * md.toInt + 2) / 153) : (mm + (3 : Int32)).toInt = mm.toInt + 3 := by
  rw [Int32.toInt_add, show (3 : Int32).toInt = 3 from rfl, own_bm] <;> omega
theorem own_monj {e : Int} {md mm mon : Int32} (h : md.toInt = e ∧ 0 ≤ md.toInt ∧ md.toInt ≤ 365) (hm : mm.toInt = (5 * md.toInt + 2) / 153) (hb : (12 : Int32) < (mm + (3 : Int32))) (eq : mon = ((mm + (3 : Int32)) + (-12 : Int32))) : mon.toInt = mm.toInt - 9 := by
  have q := own_m3 h hm
  rw [eq, Int32.toInt_add, q, show (-12 : Int32).toInt = -12 from rfl, own_bm] <;> omega
theorem own_monm {e : Int} {md mm mon : Int32} (h : md.toInt = e ∧ 0 ≤ md.toInt ∧ md.toInt ≤ 365) (hm : mm.toInt = (5 * md.toInt + 2) / 153) (hb : ¬ (12 : Int32) < (mm + (3 : Int32))) (eq : mon = (mm + (3 : Int32))) : mon.toInt = mm.toInt + 3 := by rw [eq]; exact own_m3 h hm
theorem own_dom {e : Int} {md mm dom : Int32} (h : md.toInt = e ∧ 0 ≤ md.toInt ∧ md.toInt ≤ 365) (hm : mm.toInt = (5 * md.toInt + 2) / 153) (eq : dom = ((md - (((mm * (306 : Int32)) + (5 : Int32)) / (10 : Int32))) + (1 : Int32))) : dom.toInt = md.toInt - (306 * mm.toInt + 5) / 10 + 1 := by
  have a1 : (mm * (306 : Int32)).toInt = 306 * mm.toInt := by rw [Int32.toInt_mul, show (306 : Int32).toInt = 306 from rfl, own_bm] <;> omega
  have a2 : ((mm * (306 : Int32)) + (5 : Int32)).toInt = 306 * mm.toInt + 5 := by rw [Int32.toInt_add, a1, show (5 : Int32).toInt = 5 from rfl, own_bm] <;> omega
  have a3 := own_id (k := 10) a2 (show (10 : Int32).toInt = 10 from rfl) (by omega) (by omega) (by omega)
  have a4 : (md - (((mm * (306 : Int32)) + (5 : Int32)) / (10 : Int32))).toInt = md.toInt - (306 * mm.toInt + 5) / 10 := by rw [Int32.toInt_sub, a3, own_bm] <;> omega
  rw [eq, Int32.toInt_add, a4, show (1 : Int32).toInt = 1 from rfl, own_bm] <;> omega
theorem own_306j {e : Int} {md mm : Int32} (h : md.toInt = e ∧ 0 ≤ md.toInt ∧ md.toInt ≤ 365) (hm : mm.toInt = (5 * md.toInt + 2) / 153) (hb : (12 : Int32) < (mm + (3 : Int32))) : ¬ md < (306 : Int32) := by
  rw [Int32.lt_iff_toInt_lt, own_m3 h hm, show (12 : Int32).toInt = 12 from rfl] at hb
  rw [Int32.lt_iff_toInt_lt, show (306 : Int32).toInt = 306 from rfl]; omega
theorem own_306m {e : Int} {md mm : Int32} (h : md.toInt = e ∧ 0 ≤ md.toInt ∧ md.toInt ≤ 365) (hm : mm.toInt = (5 * md.toInt + 2) / 153) (hb : ¬ (12 : Int32) < (mm + (3 : Int32))) : md < (306 : Int32) := by
  rw [Int32.lt_iff_toInt_lt, own_m3 h hm, show (12 : Int32).toInt = 12 from rfl] at hb
  rw [Int32.lt_iff_toInt_lt, show (306 : Int32).toInt = 306 from rfl]; omega
theorem own_y4 {d : Int} {a y e y3 y4 : Int64} (h : YD d a.toInt y.toInt e.toInt) (h3 : y3.toInt = y.toInt + a.toInt) (eq : y4 = (y3 + (1 : Int64))) : y4.toInt = y.toInt + a.toInt + 1 := by
  obtain ⟨c, c1, c2, c3, -⟩ := h
  rw [eq, Int64.toInt_add, h3, show (1 : Int64).toInt = 1 from rfl, own_bj] <;> omega
theorem own_yrj {d : Int} {a y e y4 : Int64} {yr : Int32} (h : YD d a.toInt y.toInt e.toInt) (h4 : y4.toInt = y.toInt + a.toInt + 1) (eq : yr = (y4.toInt32)) : yr.toInt = y.toInt + a.toInt + 1 := by
  obtain ⟨c, c1, c2, c3, -⟩ := h
  rw [eq, Int64.toInt_toInt32, h4, own_bm] <;> omega
theorem own_yrm {d : Int} {a y e y3 : Int64} {yr : Int32} (h : YD d a.toInt y.toInt e.toInt) (h3 : y3.toInt = y.toInt + a.toInt) (eq : yr = (y3.toInt32)) : yr.toInt = y.toInt + a.toInt := by
  obtain ⟨c, c1, c2, c3, -⟩ := h
  rw [eq, Int64.toInt_toInt32, h3, own_bm] <;> omega
theorem own_TDj {d : Int32} {a y e : Int64} {md mm mon dom yr : Int32} (h : YD d.toInt a.toInt y.toInt e.toInt) (hd : md.toInt = e.toInt ∧ 0 ≤ md.toInt ∧ md.toInt ≤ 365) (hm : mm.toInt = (5 * md.toInt + 2) / 153) (hb : (12 : Int32) < (mm + (3 : Int32))) (hn : mon.toInt = mm.toInt - 9) (ho : dom.toInt = md.toInt - (306 * mm.toInt + 5) / 10 + 1) (hy : yr.toInt = y.toInt + a.toInt + 1) : TD yr mon dom d := by
  rw [Int32.lt_iff_toInt_lt, own_m3 hd hm, show (12 : Int32).toInt = 12 from rfl] at hb
  obtain ⟨c, c1, c2, c3, c4, c5, c6, c7⟩ := h
  obtain ⟨d1, d2, d3⟩ := hd
  have mb : mm.toInt = 10 ∨ mm.toInt = 11 := by omega
  have k4 : (y.toInt + 400 * c + 1 + 3) / 4 = y.toInt / 4 + 100 * c + 1 := by omega
  have k1 : (y.toInt + 400 * c + 1 + 99) / 100 = y.toInt / 100 + 4 * c + 1 := by omega
  have k0 : (y.toInt + 400 * c + 1 + 399) / 400 = y.toInt / 400 + c + 1 := by omega
  unfold TD Sm DR TE1
  rcases mb with q | q
  · rw [q] at hn ho hm
    refine ⟨by omega, by omega, by omega, ⟨c6, c7⟩, by omega, Or.inl ⟨by omega, ?_⟩⟩
    rw [hn, ho, hy, c1, k4, k1, k0, show (367 * (10 - 9 : Int) - 362) / 12 = 0 from by decide, show (306 * (10 : Int) + 5) / 10 = 306 from by decide]
    clear hm hn ho k4 k1 k0
    omega
  · rw [q] at hn ho hm
    refine ⟨by omega, by omega, by omega, ⟨c6, c7⟩, by omega, Or.inl ⟨by omega, ?_⟩⟩
    rw [hn, ho, hy, c1, k4, k1, k0, show (367 * (11 - 9 : Int) - 362) / 12 = 31 from by decide, show (306 * (11 : Int) + 5) / 10 = 337 from by decide]
    clear hm hn ho k4 k1 k0
    omega
theorem own_mmt {x mm : Int} (h : mm = (5 * x + 2) / 153) (h0 : 0 ≤ x) (h1 : mm ≤ 9) : (367 * (mm + 3) - 362) / 12 - (306 * mm + 5) / 10 = 61 := by
  have : mm = 0 ∨ mm = 1 ∨ mm = 2 ∨ mm = 3 ∨ mm = 4 ∨ mm = 5 ∨ mm = 6 ∨ mm = 7 ∨ mm = 8 ∨ mm = 9 := by omega
  clear h
  rcases this with rfl | rfl | rfl | rfl | rfl | rfl | rfl | rfl | rfl | rfl <;> decide
theorem own_TDm {d : Int32} {a y e : Int64} {md mm mon dom yr : Int32} (h : YD d.toInt a.toInt y.toInt e.toInt) (hd : md.toInt = e.toInt ∧ 0 ≤ md.toInt ∧ md.toInt ≤ 365) (hm : mm.toInt = (5 * md.toInt + 2) / 153) (hb : ¬ (12 : Int32) < (mm + (3 : Int32))) (hn : mon.toInt = mm.toInt + 3) (ho : dom.toInt = md.toInt - (306 * mm.toInt + 5) / 10 + 1) (hy : yr.toInt = y.toInt + a.toInt) : TD yr mon dom d := by
  rw [Int32.lt_iff_toInt_lt, own_m3 hd hm, show (12 : Int32).toInt = 12 from rfl] at hb
  obtain ⟨c, c1, c2, c3, c4, c5, c6, c7⟩ := h
  obtain ⟨d1, d2, d3⟩ := hd
  have mb : 0 ≤ mm.toInt ∧ mm.toInt ≤ 9 := by omega
  have t := own_mmt hm d2 mb.2
  rw [← hn] at t
  unfold TD Sm DR TE1
  refine ⟨by omega, by omega, by omega, ⟨c6, c7⟩, by omega, Or.inr ?_⟩
  generalize hA : (367 * mon.toInt - 362) / 12 = A at t ⊢
  generalize hB : (306 * mm.toInt + 5) / 10 = B at t ho
  rw [c1] at hy
  have k4 : (y.toInt % 4 = 0 ∧ (yr.toInt + 3) / 4 = y.toInt / 4 + 100 * c) ∨ (y.toInt % 4 ≠ 0 ∧ (yr.toInt + 3) / 4 = y.toInt / 4 + 100 * c + 1) := by
    by_cases q : y.toInt % 4 = 0
    · exact Or.inl ⟨q, by omega⟩
    · exact Or.inr ⟨q, by omega⟩
  have k1 : (y.toInt % 100 = 0 ∧ (yr.toInt + 99) / 100 = y.toInt / 100 + 4 * c) ∨ (y.toInt % 100 ≠ 0 ∧ (yr.toInt + 99) / 100 = y.toInt / 100 + 4 * c + 1) := by
    by_cases q : y.toInt % 100 = 0
    · exact Or.inl ⟨q, by omega⟩
    · exact Or.inr ⟨q, by omega⟩
  have k0 : (y.toInt % 400 = 0 ∧ (yr.toInt + 399) / 400 = y.toInt / 400 + c) ∨ (y.toInt % 400 ≠ 0 ∧ (yr.toInt + 399) / 400 = y.toInt / 400 + c + 1) := by
    by_cases q : y.toInt % 400 = 0
    · exact Or.inl ⟨q, by omega⟩
    · exact Or.inr ⟨q, by omega⟩
  have m4 : yr.toInt % 4 = y.toInt % 4 := by omega
  have m1 : yr.toInt % 100 = y.toInt % 100 := by omega
  have m0 : yr.toInt % 400 = y.toInt % 400 := by omega
  have i1 : y.toInt % 400 = 0 → y.toInt % 100 = 0 := by omega
  have i2 : y.toInt % 100 = 0 → y.toInt % 4 = 0 := by omega
  have g3 : 2 < mon.toInt := by omega
  clear hA hB hm hn hb d2 d3 mb
  have key : (Leap yr.toInt ∧ (yr.toInt + 3) / 4 - (yr.toInt + 99) / 100 + (yr.toInt + 399) / 400 = y.toInt / 4 - y.toInt / 100 + y.toInt / 400 + 97 * c) ∨ (¬ Leap yr.toInt ∧ (yr.toInt + 3) / 4 - (yr.toInt + 99) / 100 + (yr.toInt + 399) / 400 = y.toInt / 4 - y.toInt / 100 + y.toInt / 400 + 97 * c + 1) := by
    unfold Leap
    rw [m4, m1, m0]
    rcases k4 with ⟨a1, a2⟩ | ⟨a1, a2⟩ <;> rcases k1 with ⟨b1, b2⟩ | ⟨b1, b2⟩ <;> rcases k0 with ⟨e1, e2⟩ | ⟨e1, e2⟩ <;> rw [a2, b2, e2] <;> clear a2 b2 e2 c5 <;> omega
  clear k4 k1 k0 m4 m1 m0 i1 i2
  generalize (yr.toInt + 3) / 4 = u4 at *
  generalize (yr.toInt + 99) / 100 = u1 at *
  generalize (yr.toInt + 399) / 400 = u0 at *
  generalize y.toInt / 4 = v4 at *
  generalize y.toInt / 100 = v1 at *
  generalize y.toInt / 400 = v0 at *
  rcases key with ⟨q, r⟩ | ⟨q, r⟩
  · exact Or.inl ⟨g3, q, by omega⟩
  · exact Or.inr ⟨g3, q, by omega⟩
theorem ef_rmCE (m : MethodId) (x0 : Int32)  : entryFrame m #[(.int x0)] 1 = mkF m 0 #[.val (.int x0)] [] := by first | (simp [entryFrame, mkF, argsToLocals, Value.category]; done) | rfl
abbrev kc2 : ByteArray := jdk_43_method_3_code
def d2_0 : DC kc2 0 (.iload_n 0) 1 := by decide +kernel
def d2_1 : DC kc2 1 (.sipush 255) 3 := by decide +kernel
def d2_4 : DC kc2 4 (.if_icmp .gt 7) 3 := by decide +kernel
def d2_7 : DC kc2 7 (.iconst 1) 1 := by decide +kernel
def d2_8 : DC kc2 8 (.goto 4) 3 := by decide +kernel
def d2_12 : DC kc2 12 (.ireturn) 1 := by decide +kernel
theorem pn_0 : plainName "java/lang/StringLatin1" = true := by first | (simp [plainName, overriddenIn]; done) | decide +kernel
abbrev LQ0 (a0 : Int32) (a1 : Int32) (a2 : Int32) (a3 : Int32) (a4 : Int32) (a5 : Int32) (a6 : Int32) (a7 : Int32) (a8 : Int32) (a9 : Int32) (a10 : Addr) (a11 : Addr) (a12 : Addr) (a13 : Int32) (a14 : Int32) (a15 : Int32) (a16 : Addr) (a17 : Addr) (a18 : Addr) (a19 : Int32) (a20 : Int32) (a21 : Int32) (a22 : Int32) (a23 : Addr) (a24 : Addr) (a25 : Addr) (a26 : Addr) (b0 b1 b2 b3 b4 b5 b6 b7 b8 b9 : Slot) : Array Slot := #[xvi a0, xvi a1, xvi a2, xvi a3, xvi a4, xvi a5, xvi a6, xvi a7, xvi a8, xvi a9, xvr a10, xvr a11, xvr a12, xvi a13, xvi a14, xvi a15, xvr a16, xvr a17, xvr a18, xvi a19, xvi a20, xvi a21, xvi a22, xvr a23, xvr a24, xvr a25, xvr a26, b0, b1, b2, b3, b4, b5, b6, b7, b8, b9]
abbrev MF (l : Launch) (Z : State) (ws : List Jvm.Cond) (y : MethodName) (cd : ByteArray) (ml : Nat) (rt : Option FieldType) (r : Room) (as : Array Value) (h0 : Heap) (Q : Option Value → Heap → List Loc → Prop) : Prop := MetFree l y (head1 (Jvm.Cond.code y cd ml rt :: ws) r) (fun a U => a = as ∧ Z.Warmed39 U.vm ∧ U.heap = h0) (fun _ _ _ _ _ => True) (fun _ U o U' => ∃ v L, o = .returned v ∧ Q v U'.heap L ∧ FrameEnd U o U' L r.cells r.slots)
def QrmCE (Z : State) (G : Gs) (px : Int32) (h0 : Heap) (n0 : Nat) (v : Option Value) (h : Heap) (L : List Loc) : Prop := v = some (.int (1 : Int32)) ∧ Fr n0 L ∧ h = h0
theorem rmCE (l : Launch) (Z : State) (a0 : Array Value) (hw : HW a0 Z) (G : Gs) (ST : StartF Z G) (ws : List Jvm.Cond) (px : Int32) (h0 : Heap) (n0 : Nat) (X00 : Old Z n0 h0) (hp : ¬ (255 : Int32) < px) :
  MF l Z ws mm0 jdk_43_method_3_code 1 (some .boolean) (rk 0 0 0 0) #[(.int px)] h0 (QrmCE Z G px h0 n0) := by
 refine MetFree.of_bodySF (plainFor_of_name pn_0) hisR ?_
 intro p e s m args below meth c s₁ Bd hml0 hP hK
 obtain ⟨rfl, hZ, hh⟩ := hP
 have hx := Bd.exec
 have B := Bd.bytes
 have X0 : Stand p l e (rk 0 0 0 0) s m #[(.int px)] below meth c s₁ [] 0 0 := Stand.of_body Bd
 have e0 : s₁.heap = h0 := by rw [← hh, Bd.state]; rfl
 have N0 := Fr.nil n0
 obtain ⟨TG, hTG, pre0⟩ := own_pre p e below s₁ (ef_rmCE m px )
 obtain ⟨fs, hr, hrun, hended, hW, hsame⟩ := X0.leave (v := some (.int (1 : Int32))) (own_rv Bd.returns)
 refine ⟨_, _, hTG _ (pre0 _ ?_), hrun, hended, _, _, rfl, ?_, ⟨_, rfl⟩, hW, hsame.mono (by decide) (by decide)⟩
 ·refine y_iloadN X0 hx 1 (hb B d2_0) rfl rfl <| y_sipush X0 hx (255 : Int32) 4 (hb B d2_1) rfl rfl <| y_icmpNo X0 hx 7 (hb B d2_4) (XT.ii_gt_f hp) rfl <| y_iconst X0 hx (1 : Int32) 8 (hb B d2_7) rfl rfl <| y_goto X0 hx 12 (hb B d2_8) rfl rfl ?_
  show Sx p e below s₁ m 12 #[xvi px] [xwi (1 : Int32)] _
  exact retN X0 hx (t := .boolean) Bd.returns (by simp) (hb B d2_12) (hr)
 ·show QrmCE Z G px h0 n0 _ s₁.heap _
  rw [e0]
  exact ⟨rfl, N0, rfl⟩
abbrev kc3 : ByteArray := jdk_43_method_46_code
def d3_0 : DC kc3 0 (.iconst 1) 1 := by decide +kernel
def d3_1 : DC kc3 1 (.newarray .byte) 2 := by decide +kernel
def d3_3 : DC kc3 3 (.dup) 1 := by decide +kernel
def d3_4 : DC kc3 4 (.iconst 0) 1 := by decide +kernel
def d3_5 : DC kc3 5 (.iload_n 0) 1 := by decide +kernel
def d3_6 : DC kc3 6 (.i2b) 1 := by decide +kernel
def d3_7 : DC kc3 7 (.bastore) 1 := by decide +kernel
def d3_8 : DC kc3 8 (.areturn) 1 := by decide +kernel
def QrmTB (Z : State) (G : Gs) (px : Int32) (h0 : Heap) (n0 : Nat) (v : Option Value) (h : Heap) (L : List Loc) : Prop := ∃ (bx : Addr), ∃ (kx : ClassId), v = some (.ref bx) ∧ Fr n0 L ∧ Keep h0 h [] ∧ h0.size ≤ bx ∧ Arv Z h bx kx .byte (1 : Int32) [(.int px.toInt8.toInt32)] ZI
theorem rmTB (l : Launch) (Z : State) (a0 : Array Value) (hw : HW a0 Z) (G : Gs) (ST : StartF Z G) (ws : List Jvm.Cond) (px : Int32) (h0 : Heap) (n0 : Nat) (X00 : Old Z n0 h0) :
  MF l Z ws mm1 jdk_43_method_46_code 1 (some (.array .byte)) (rk 0 1 1 0) #[(.int px)] h0 (QrmTB Z G px h0 n0) := by
 refine MetFree.of_bodySF (plainFor_of_name pn_0) hisR ?_
 intro p e s m args below meth c s₁ Bd hml0 hP hK
 obtain ⟨rfl, hZ, hh⟩ := hP
 have hx := Bd.exec
 have B := Bd.bytes
 have X0 : Stand p l e (rk 0 1 1 0) s m #[(.int px)] below meth c s₁ [] 0 0 := Stand.of_body Bd
 have e0 : s₁.heap = h0 := by rw [← hh, Bd.state]; rfl
 have N0 := Fr.nil n0
 have Z0 := own_Z0 X00
 obtain ⟨TG, hTG, pre0⟩ := own_pre p e below s₁ (ef_rmCE m px )
 obtain ⟨T10, h10, k10, X10, e10, E10, A10, st10⟩ := newP (aty := .byte) X0 hx hZ (w_14 hw) e0 (g := (mkF m 1 #[xvi px] [xwi (1 : Int32)])) rfl (hb B d3_1) rfl (by decide) (cap := 1) (by decide) (by decide) (by decide) (by decide)
 obtain ⟨b10, g10⟩ : ∃ z, z = h0.size := ⟨_, rfl⟩
 rw [← g10] at A10 st10
 have V10 : Arv Z h10 b10 k10 .byte (1 : Int32) [ZI] ZI := (Arv.new A10 (by decide)).pad (pad_rep [] ZI 1)
 obtain ⟨cl11, Ar11, q11, S11, M11, H11, G11⟩ := id V10
 have in11 : ¬ ((0 : Int32) < 0 ∨ cl11.slots.size ≤ ((0 : Int32)).toNatClampNeg) := inb_of S11 ⟨by decide, by decide⟩
 obtain ⟨T12, h12, X12, e12, W12, st12⟩ := stB X10 hx hZ e10 Ar11 (j := (0 : Int32)) in11 (g := (mkF m 7 #[xvi px] [xwi (px.toInt8.toInt32), xwi (0 : Int32), xwr b10, xwr b10])) rfl rfl (hb B d3_7)
 have V12 : Arv Z h12 b10 k10 .byte (1 : Int32) [(.int (px.toInt8.toInt32))] ZI := by have q := Arv.set Ar11 q11 S11 M11 H11 G11 (fits_nar_byte _) W12 0 rfl (Nat.le_of_ble_eq_true rfl); rw [own_nb] at q; exact q
 have N12 := Fr.snoc X12 N0 (ntr Z0 (ntr (Nat.le_refl _) (Nat.le_of_eq g10.symm)))
 obtain ⟨fs, hr, hrun, hended, hW, hsame⟩ := X12.leave (v := some (.ref b10)) (own_rv Bd.returns)
 refine ⟨_, _, hTG _ (pre0 _ ?_), hrun, hended, _, _, rfl, ?_, ⟨_, rfl⟩, hW, hsame.mono (by decide) (by decide)⟩
 ·refine y_iconst X0 hx (1 : Int32) 1 (hb B d3_0) rfl rfl ?_
  refine st10 _ ?_
  refine y_dup X10 hx 4 (hb B d3_3) rfl rfl <| y_iconst X10 hx (0 : Int32) 5 (hb B d3_4) rfl rfl <| y_iloadN X10 hx 6 (hb B d3_5) rfl rfl ?_
  refine XS.i2b X10.here hx rfl (hb B d3_6) rfl ?_
  refine st12 _ ?_
  show Sx p e below T12 m 8 #[xvi px] [xwr b10] _
  exact retOut X12 hx Bd.returns rfl (Or.inr (Or.inr (Or.inr (Or.inr ⟨rfl, rfl, rfl⟩)))) (hb B d3_8) hr
 ·show QrmTB Z G px h0 n0 _ T12.heap _
  rw [e12]
  exact ⟨b10, k10, rfl, N12, (((Keep.refl h0 []).ext E10).wr W12 (Or.inr (ntr (Nat.le_refl _) (Nat.le_of_eq g10.symm)))), (ntr (Nat.le_refl _) (Nat.le_of_eq g10.symm)), V12⟩
theorem ef_rmBB (m : MethodId) (x0 x1 : Addr) (x2 : Int32)  : entryFrame m #[(.ref x0), (.ref x1), (.int x2)] 3 = mkF m 0 #[.val (.ref x0), .val (.ref x1), .val (.int x2)] [] := by first | (simp [entryFrame, mkF, argsToLocals, Value.category]; done) | rfl
abbrev kc4 : ByteArray := jdk_42_method_151_code
def d4_0 : DC kc4 0 (.aload_n 0) 1 := by decide +kernel
def d4_1 : DC kc4 1 (.invokespecial 1) 3 := by decide +kernel
def d4_4 : DC kc4 4 (.aload_n 0) 1 := by decide +kernel
def d4_5 : DC kc4 5 (.aload_n 1) 1 := by decide +kernel
def d4_6 : DC kc4 6 (.putfield 9) 3 := by decide +kernel
def d4_9 : DC kc4 9 (.aload_n 0) 1 := by decide +kernel
def d4_10 : DC kc4 10 (.iload_n 2) 1 := by decide +kernel
def d4_11 : DC kc4 11 (.putfield 15) 3 := by decide +kernel
def d4_14 : DC kc4 14 (.return_) 1 := by decide +kernel
theorem pn_1 : plainName "java/lang/String" = true := by first | (simp [plainName, overriddenIn]; done) | decide +kernel
def QrmBB (Z : State) (G : Gs) (ax tx : Addr) (u1 u2 : Value) (h0 : Heap) (n0 : Nat) (v : Option Value) (h : Heap) (L : List Loc) : Prop := v = none ∧ Fr n0 L ∧ Keep h0 h [ax] ∧ Exa Z h ax sg1 ∧ Fld Z h ax sg1 "value" "[B" (.ref tx) ∧ Fld Z h ax sg1 "coder" "B" ZI ∧ Fld Z h ax sg1 "hash" "I" ZI ∧ Fld Z h ax sg1 "hashIsZero" "Z" ZI
theorem rmBB (l : Launch) (Z : State) (a0 : Array Value) (hw : HW a0 Z) (G : Gs) (ST : StartF Z G) (ws : List Jvm.Cond) (ax tx : Addr) (u1 u2 : Value) (h0 : Heap) (n0 : Nat) (X00 : Old Z n0 h0) (E1 : Exa Z h0 ax sg1) (F1 : Fld Z h0 ax sg1 "value" "[B" u1) (F2 : Fld Z h0 ax sg1 "coder" "B" u2) (F3 : Fld Z h0 ax sg1 "hash" "I" ZI) (F4 : Fld Z h0 ax sg1 "hashIsZero" "Z" ZI) (g1 : n0 ≤ ax) :
  MF l Z ws mm2 jdk_42_method_151_code 3 none (rk 1 0 0 12) #[(.ref ax), (.ref tx), ZI] h0 (QrmBB Z G ax tx u1 u2 h0 n0) := by
 refine MetFree.of_bodySF (plainFor_of_name pn_1) hisR ?_
 intro p e s m args below meth c s₁ Bd hml0 hP hK
 obtain ⟨rfl, hZ, hh⟩ := hP
 have hx := Bd.exec
 have B := Bd.bytes
 have hml : c.maxLocals = 3 := hml0
 have hown : s.vm.findClass sg1 = some m.cls := findClass_of_methodNamed Bd.named
 have hnm := (name_of_methodNamed Bd.named Bd.method).1
 have X0 : Stand p l e (rk 1 0 0 12) s m #[(.ref ax), (.ref tx), ZI] below meth c s₁ [] 0 0 := Stand.of_body Bd
 have e0 : s₁.heap = h0 := by rw [← hh, Bd.state]; rfl
 have N0 := Fr.nil n0
 obtain ⟨TG, hTG, pre0⟩ := own_pre p e below s₁ (ef_rmBB m ax tx (0 : Int32) )
 obtain ⟨T10, X10, e10, st10⟩ := initO X0 hx hZ hown (w_19 hw) (w_20 hw) (w_21 hw) e0 (g := (mkF m 1 #[xvr ax, xvr tx, xvi (0 : Int32)] [xwr ax])) rfl (by rw [hml]; rfl) rfl (hb B d4_1) (by decide) (W := 0) (by show 2 * 0 + _ ≤ _; exact Nat.le_of_eq rfl) (by decide)
 obtain ⟨T11, h11, X11, e11, W11, st11⟩ := putF X10 hx hZ hown (host := "") (Or.inl (w_22 hw)) Via.refl e10 F1 E1 (Or.inr ⟨(w_23 hw), rfl, hnm⟩) (w_10 hw) (ty := (.array .byte)) (by decide) rfl rfl (g := (mkF m 6 #[xvr ax, xvr tx, xvi (0 : Int32)] [xwr tx, xwr ax])) rfl rfl (hb B d4_6)
 have Fw11 := F1.same W11
 have N11 := Fr.snoc X11 N0 g1
 have f12 := (F2.other W11 (Or.inr (slot_ne (Or.inr (w_25 hw)) (Or.inr (w_23 hw)) (by decide) (t := .byte) (t' := (.array .byte)) (by decide) (by decide))))
 have f13 := (E1.wr W11)
 obtain ⟨T14, h14, X14, e14, W14, st14⟩ := putFN X11 hx hZ hown (w_24 hw) Via.refl e11 f12 f13 (Or.inr ⟨(w_25 hw), rfl, hnm⟩) (w_10 hw) (ty := .byte) (v' := ZI) (by decide) (by decide) (by decide) (g := (mkF m 11 #[xvr ax, xvr tx, xvi (0 : Int32)] [xwi (0 : Int32), xwr ax])) rfl rfl (hb B d4_11)
 have Fw14 := f12.same W14
 have N14 := Fr.snoc X14 N11 g1
 have f15 := (f13.wr W14)
 have f16 := (Fw11.other W14 (Or.inr (slot_ne (Or.inr (w_23 hw)) (Or.inr (w_25 hw)) (by decide) (t := (.array .byte)) (t' := .byte) (by decide) (by decide))))
 have f17 := ((F3.other W11 (Or.inr (slot_ne (Or.inl (w_192 hw)) (Or.inr (w_23 hw)) (by decide) (t := .int) (t' := (.array .byte)) (by decide) (by decide)))).other W14 (Or.inr (slot_ne (Or.inl (w_192 hw)) (Or.inr (w_25 hw)) (by decide) (t := .int) (t' := .byte) (by decide) (by decide))))
 have f18 := ((F4.other W11 (Or.inr (slot_ne (Or.inl (w_194 hw)) (Or.inr (w_23 hw)) (by decide) (t := .boolean) (t' := (.array .byte)) (by decide) (by decide)))).other W14 (Or.inr (slot_ne (Or.inl (w_194 hw)) (Or.inr (w_25 hw)) (by decide) (t := .boolean) (t' := .byte) (by decide) (by decide))))
 obtain ⟨fs, hr, hrun, hended, hW, hsame⟩ := X14.leave (v := none) (fun _ => rfl)
 refine ⟨_, _, hTG _ (pre0 _ ?_), hrun, hended, _, _, rfl, ?_, ⟨_, rfl⟩, hW, hsame.mono (by decide) (by decide)⟩
 ·refine y_aloadN X0 hx 1 (hb B d4_0) rfl rfl rfl ?_
  refine st10 _ ?_
  refine y_aloadN X10 hx 5 (hb B d4_4) rfl rfl rfl <| y_aloadN X10 hx 6 (hb B d4_5) rfl rfl rfl ?_
  refine st11 _ ?_
  refine y_aloadN X11 hx 10 (hb B d4_9) rfl rfl rfl <| y_iloadN X11 hx 11 (hb B d4_10) rfl rfl ?_
  refine st14 _ ?_
  show Sx p e below T14 m 14 #[xvr ax, xvr tx, xvi (0 : Int32)] [] _
  exact X14.returnOut hx Bd.returns (hb B d4_14) hr
 ·show QrmBB Z G ax tx u1 u2 h0 n0 _ T14.heap _
  rw [e14]
  exact ⟨rfl, N14, (((Keep.refl h0 [ax]).wr W11 (oi 0 rfl)).wr W14 (oi 0 rfl)), f15, f16, Fw14, f17, f18⟩
abbrev kc1 : ByteArray := jdk_42_method_139_code
def d1_0 : DC kc1 0 (.getstatic 38) 3 := by decide +kernel
def d1_3 : DC kc1 3 (.ifCond .eq 23) 3 := by decide +kernel
def d1_6 : DC kc1 6 (.iload_n 0) 1 := by decide +kernel
def d1_7 : DC kc1 7 (.invokestatic 1015) 3 := by decide +kernel
theorem pd_0 : parseMethodDescriptor "(C)Z" = some ⟨[.char], some .boolean⟩ := by decide +kernel
def d1_10 : DC kc1 10 (.ifCond .eq 16) 3 := by decide +kernel
def d1_13 : DC kc1 13 (.new 10) 3 := by decide +kernel
def d1_16 : DC kc1 16 (.dup) 1 := by decide +kernel
def d1_17 : DC kc1 17 (.iload_n 0) 1 := by decide +kernel
def d1_18 : DC kc1 18 (.invokestatic 1018) 3 := by decide +kernel
theorem pd_1 : parseMethodDescriptor "(C)[B" = some ⟨[.char], some (.array .byte)⟩ := by decide +kernel
def d1_21 : DC kc1 21 (.iconst 0) 1 := by decide +kernel
def d1_22 : DC kc1 22 (.invokespecial 209) 3 := by decide +kernel
theorem pd_2 : parseMethodDescriptor "([BB)V" = some ⟨[(.array .byte), .byte], none⟩ := by decide +kernel
def d1_25 : DC kc1 25 (.areturn) 1 := by decide +kernel
def QrmVO (Z : State) (G : Gs) (px : Int32) (h0 : Heap) (n0 : Nat) (v : Option Value) (h : Heap) (L : List Loc) : Prop := ∃ (bx : Addr), ∃ (tx : Addr), ∃ (kx : ClassId), v = some (.ref bx) ∧ Fr n0 L ∧ Keep h0 h [] ∧ h0.size ≤ bx ∧ Exa Z h bx sg1 ∧ Fld Z h bx sg1 "coder" "B" ZI ∧ Fld Z h bx sg1 "value" "[B" (.ref tx) ∧ Arv Z h tx kx .byte (1 : Int32) [(.int px.toInt8.toInt32)] ZI ∧ h0.size ≤ tx ∧ Fld Z h bx sg1 "hash" "I" ZI ∧ Fld Z h bx sg1 "hashIsZero" "Z" ZI
theorem rmVO (l : Launch) (Z : State) (a0 : Array Value) (hw : HW a0 Z) (G : Gs) (ST : StartF Z G) (ws : List Jvm.Cond) (px : Int32) (h0 : Heap) (n0 : Nat) (X00 : Old Z n0 h0) (hp : ¬ (255 : Int32) < px) :
  MF l Z ws mm3 jdk_42_method_139_code 1 (some (.object sg1)) (rk 2 2 5 27) #[(.int px)] h0 (QrmVO Z G px h0 n0) := by
 refine MetFree.of_bodySF (plainFor_of_name pn_1) hisR ?_
 intro p e s m args below meth c s₁ Bd hml0 hP hK
 obtain ⟨rfl, hZ, hh⟩ := hP
 have hx := Bd.exec
 have B := Bd.bytes
 have hml : c.maxLocals = 1 := hml0
 have hown : s.vm.findClass sg1 = some m.cls := findClass_of_methodNamed Bd.named
 have X0 : Stand p l e (rk 2 2 5 27) s m #[(.int px)] below meth c s₁ [] 0 0 := Stand.of_body Bd
 have e0 : s₁.heap = h0 := by rw [← hh, Bd.state]; rfl
 have N0 := Fr.nil n0
 have Z0 := own_Z0 X00
 obtain ⟨TG, hTG, pre0⟩ := own_pre p e below s₁ (ef_rmCE m px )
 obtain ⟨T10, X10, e10, st10⟩ := getS2 X0 hx hZ hown (host := "") (Or.inl (w_4 hw)) Via.refl e0 (ST.c0.ext X00.2) (g := (mkF m 0 #[xvi px] [])) rfl (hb B d1_0)
 obtain ⟨_, _, ⟨T11, L11, k11, n11⟩, -, X11, ⟨Lc11, hQ11, l11, y11, z11⟩, st11⟩ := Jvm.LawKit.callS X10 hx (y := mm0) hown (mvT hZ (w_5 hw)) (mvT hZ (w_6 hw)) (mvT hZ (w_7 hw)) (mvT hZ (w_8 hw)) (by decide) (backOf (W := 0) (rmCE l Z a0 hw G ST [] px h0 n0 X00 hp) hZ (w_8 hw) (w_7 hw) (by decide) (by decide)) (g := (mkF m 7 #[xvi px] [xwi px])) rfl (by rw [hml]; rfl) (argsL := [(.int px)]) (rest := []) (lenOf pd_0 rfl) rfl (Nat.le_of_eq rfl) (hb B d1_7) (fun _ _ => ⟨rfl, e10, (by decide : 0 + 0 ≤ _), (by decide : 0 + 0 ≤ _)⟩)
 dsimp only [Pt.U, Pt.locs, Pt.cells, Pt.slots] at X11 l11 y11 z11 st11 hQ11
 subst l11 y11 z11
 obtain ⟨rfl, N11q, e11⟩ := hQ11
 have N11 := Fr.app N0 N11q
 obtain ⟨T12, h12, X12, e12, E12, A12, D12, -, st12⟩ := newO X11 hx hZ hown (w_9 hw) (w_10 hw) (w_2 hw) e11 (g := (mkF m 13 #[xvi px] [])) rfl (hb B d1_13) (by decide) (by decide)
 obtain ⟨b12, g12⟩ : ∃ z, z = h0.size := ⟨_, rfl⟩
 rw [← g12] at A12 D12 st12
 have Fb12_value : Fld Z h12 b12 sg1 "value" "[B" .null := D12 (Or.inr (w_23 hw)) (ty := (.array .byte)) (by decide)
 have Fb12_coder : Fld Z h12 b12 sg1 "coder" "B" ZI := D12 (Or.inr (w_25 hw)) (ty := .byte) (by decide)
 have Fb12_hash : Fld Z h12 b12 sg1 "hash" "I" ZI := D12 (Or.inl (w_192 hw)) (ty := .int) (by decide)
 have Fb12_hashIsZero : Fld Z h12 b12 sg1 "hashIsZero" "Z" ZI := D12 (Or.inl (w_194 hw)) (ty := .boolean) (by decide)
 have Ol13 : Old Z n0 h12 := (X00.ext E12)
 obtain ⟨_, _, ⟨T14, L14, k14, n14⟩, -, X14, ⟨Lc14, hQ14, l14, y14, z14⟩, st14⟩ := Jvm.LawKit.callS X12 hx (y := mm1) hown (mvT hZ (w_11 hw)) (mvT hZ (w_12 hw)) (mvT hZ (w_7 hw)) (mvT hZ (w_13 hw)) (by decide) (backOf (W := 2) (rmTB l Z a0 hw G ST [] px h12 n0 Ol13 ) hZ (w_13 hw) (w_7 hw) (by decide) (by decide)) (g := (mkF m 18 #[xvi px] [xwi px, xwr b12, xwr b12])) rfl (by rw [hml]; rfl) (argsL := [(.int px)]) (rest := [(.ref b12), (.ref b12)]) (lenOf pd_1 rfl) rfl (Nat.le_of_eq rfl) (hb B d1_18) (fun _ _ => ⟨rfl, e12, (by decide : 1 + 1 ≤ _), (by decide : 4 + 1 ≤ _)⟩)
 dsimp only [Pt.U, Pt.locs, Pt.cells, Pt.slots] at X14 l14 y14 z14 st14 hQ14
 subst l14 y14 z14
 obtain ⟨hp14, e14⟩ : ∃ z, T14.heap = z := ⟨_, rfl⟩
 rw [e14] at hQ14
 obtain ⟨o15, o16, rfl, N14q, K14, p17, p18⟩ := hQ14
 have N14 := Fr.app N11 N14q
 have f19 := (A12.keep K14)
 have f20 := (Fb12_value.keep K14 nin0)
 have f21 := (Fb12_coder.keep K14 nin0)
 have f22 := (Fb12_hash.keep K14 nin0)
 have f23 := (Fb12_hashIsZero.keep K14 nin0)
 have Ol24 : Old Z n0 hp14 := (Ol13.keep K14 all0)
 obtain ⟨_, _, ⟨T25, L25, k25, n25⟩, -, X25, ⟨Lc25, hQ25, l25, y25, z25⟩, st25⟩ := X14.specialBack hx (y := mm2) rfl hown (mvT hZ (w_15 hw)) (mvT hZ (w_16 hw)) (mvT hZ (w_18 hw)) (by decide) (backOf (W := 1) (rmBB l Z a0 hw G ST [] b12 o15 .null ZI hp14 n0 Ol24 f19 f20 f21 f22 f23 (ntr Z0 (ntr (Nat.le_refl _) (Nat.le_of_eq g12.symm)))) hZ (w_18 hw) (w_2 hw) (by decide) (by decide)) (g := (mkF m 22 #[xvi px] [xwi (0 : Int32), xwr o15, xwr b12, xwr b12])) rfl (by rw [hml]; rfl) (Steps.refl _) (a := b12) (argsL := [(.ref o15), ZI]) (rest := [(.ref b12)]) (lenOf pd_2 rfl) rfl (Nat.le_of_eq rfl) (hb B d1_22) (fun _ _ => ⟨rfl, e14, (by decide : 2 + 0 ≤ _), (by decide : 5 + 0 ≤ _)⟩)
 dsimp only [Pt.U, Pt.locs, Pt.cells, Pt.slots] at X25 l25 y25 z25 st25 hQ25
 subst l25 y25 z25
 obtain ⟨hp25, e25⟩ : ∃ z, T25.heap = z := ⟨_, rfl⟩
 rw [e25] at hQ25
 obtain ⟨rfl, N25q, K25, p26, p27, p28, p29, p30⟩ := hQ25
 have N25 := Fr.app N14 N25q
 have f31 := (p18.keep K25 (ninS (Ne.symm (onb A12.lt (Nat.le_refl _) p17)) nin0))
 obtain ⟨fs, hr, hrun, hended, hW, hsame⟩ := X25.leave (v := some (.ref b12)) (own_rv Bd.returns)
 refine ⟨_, _, hTG _ (pre0 _ ?_), hrun, hended, _, _, rfl, ?_, ⟨_, rfl⟩, hW, hsame.mono (by decide) (by decide)⟩
 ·refine st10 _ ?_
  refine y_ifNo X10 hx 6 (hb B d1_3) (XT.i0_eq_f ST.c1) rfl <| y_iloadN X10 hx 7 (hb B d1_6) rfl rfl ?_
  refine st11 _ ?_
  refine y_ifNo X11 hx 13 (hb B d1_10) (XT.i0_eq_f (by decide)) rfl ?_
  refine st12 _ ?_
  refine y_dup X12 hx 17 (hb B d1_16) rfl rfl <| y_iloadN X12 hx 18 (hb B d1_17) rfl rfl ?_
  refine st14 _ ?_
  refine y_iconst X14 hx (0 : Int32) 22 (hb B d1_21) rfl rfl ?_
  refine st25.trans ?_
  show Sx p e below T25 m 25 #[xvi px] [xwr b12] _
  exact retOut X25 hx Bd.returns rfl (Or.inr (Or.inr (Or.inr (Or.inr ⟨rfl, rfl, rfl⟩)))) (hb B d1_25) hr
 ·show QrmVO Z G px h0 n0 _ T25.heap _
  rw [e25]
  exact ⟨b12, o15, o16, rfl, N25, ((((Keep.refl h0 []).ext E12).trans K14 all0).trans K25 (allS (Or.inr (ntr (Nat.le_refl _) (Nat.le_of_eq g12.symm))) all0)), (ntr (Nat.le_refl _) (Nat.le_of_eq g12.symm)), p26, p28, p27, f31, (ntr E12.1 p17), p29, p30⟩
theorem ef_rmL1 (m : MethodId) (x0 : Addr)  : entryFrame m #[(.ref x0)] 1 = mkF m 0 #[.val (.ref x0)] [] := by first | (simp [entryFrame, mkF, argsToLocals, Value.category]; done) | rfl
abbrev kc28 : ByteArray := jdk_42_method_154_code
def d28_0 : DC kc28 0 (.getstatic 38) 3 := by decide +kernel
def d28_3 : DC kc28 3 (.ifCond .eq 14) 3 := by decide +kernel
def d28_6 : DC kc28 6 (.aload_n 0) 1 := by decide +kernel
def d28_7 : DC kc28 7 (.getfield 15) 3 := by decide +kernel
def d28_10 : DC kc28 10 (.ifCond .ne 7) 3 := by decide +kernel
def d28_13 : DC kc28 13 (.iconst 1) 1 := by decide +kernel
def d28_14 : DC kc28 14 (.goto 4) 3 := by decide +kernel
def d28_18 : DC kc28 18 (.ireturn) 1 := by decide +kernel
def QrmL1 (Z : State) (G : Gs) (ax : Addr) (h0 : Heap) (n0 : Nat) (v : Option Value) (h : Heap) (L : List Loc) : Prop := v = some (.int (1 : Int32)) ∧ Fr n0 L ∧ h = h0
theorem rmL1 (l : Launch) (Z : State) (a0 : Array Value) (hw : HW a0 Z) (G : Gs) (ST : StartF Z G) (ws : List Jvm.Cond) (ax : Addr) (h0 : Heap) (n0 : Nat) (X00 : Old Z n0 h0) (F1 : Fld Z h0 ax sg1 "coder" "B" ZI) :
  MF l Z ws mm4 jdk_42_method_154_code 1 (some .boolean) (rk 0 0 0 0) #[(.ref ax)] h0 (QrmL1 Z G ax h0 n0) := by
 refine MetFree.of_bodySF (plainFor_of_name pn_1) hisR ?_
 intro p e s m args below meth c s₁ Bd hml0 hP hK
 obtain ⟨rfl, hZ, hh⟩ := hP
 have hx := Bd.exec
 have B := Bd.bytes
 have hown : s.vm.findClass sg1 = some m.cls := findClass_of_methodNamed Bd.named
 have X0 : Stand p l e (rk 0 0 0 0) s m #[(.ref ax)] below meth c s₁ [] 0 0 := Stand.of_body Bd
 have e0 : s₁.heap = h0 := by rw [← hh, Bd.state]; rfl
 have N0 := Fr.nil n0
 obtain ⟨TG, hTG, pre0⟩ := own_pre p e below s₁ (ef_rmL1 m ax )
 obtain ⟨T10, X10, e10, st10⟩ := getS2 X0 hx hZ hown (host := "") (Or.inl (w_4 hw)) Via.refl e0 (ST.c0.ext X00.2) (g := (mkF m 0 #[xvr ax] [])) rfl (hb B d28_0)
 obtain ⟨T11, X11, e11, st11⟩ := getF X10 hx hZ hown (host := "") (Or.inl (w_24 hw)) Via.refl e10 F1 (g := (mkF m 7 #[xvr ax] [xwr ax])) rfl rfl (hb B d28_7)
 obtain ⟨fs, hr, hrun, hended, hW, hsame⟩ := X11.leave (v := some (.int (1 : Int32))) (own_rv Bd.returns)
 refine ⟨_, _, hTG _ (pre0 _ ?_), hrun, hended, _, _, rfl, ?_, ⟨_, rfl⟩, hW, hsame.mono (by decide) (by decide)⟩
 ·refine st10 _ ?_
  refine y_ifNo X10 hx 6 (hb B d28_3) (XT.i0_eq_f ST.c1) rfl <| y_aloadN X10 hx 7 (hb B d28_6) rfl rfl rfl ?_
  refine st11 _ ?_
  refine y_ifNo X11 hx 13 (hb B d28_10) (XT.i0_ne_f (by decide)) rfl <| y_iconst X11 hx (1 : Int32) 14 (hb B d28_13) rfl rfl <| y_goto X11 hx 18 (hb B d28_14) rfl rfl ?_
  show Sx p e below T11 m 18 #[xvr ax] [xwi (1 : Int32)] _
  exact retN X11 hx (t := .boolean) Bd.returns (by simp) (hb B d28_18) (hr)
 ·show QrmL1 Z G ax h0 n0 _ T11.heap _
  rw [e11]
  exact ⟨rfl, N0, rfl⟩
abbrev kc29 : ByteArray := jdk_43_method_21_code
def d29_0 : DC kc29 0 (.aload_n 0) 1 := by decide +kernel
def d29_1 : DC kc29 1 (.arraylength) 1 := by decide +kernel
def d29_2 : DC kc29 2 (.lookupswitch 40 #[(0, 26), (1, 30)]) 26 := by decide +kernel
def d29_32 : DC kc29 32 (.aload_n 0) 1 := by decide +kernel
def d29_33 : DC kc29 33 (.iconst 0) 1 := by decide +kernel
def d29_34 : DC kc29 34 (.baload) 1 := by decide +kernel
def d29_35 : DC kc29 35 (.sipush 255) 3 := by decide +kernel
def d29_38 : DC kc29 38 (.iand) 1 := by decide +kernel
def d29_39 : DC kc29 39 (.goto 12) 3 := by decide +kernel
def d29_51 : DC kc29 51 (.ireturn) 1 := by decide +kernel
def QrmLH (Z : State) (G : Gs) (vx : Addr) (kb : ClassId) (cx : Int32) (h0 : Heap) (n0 : Nat) (v : Option Value) (h : Heap) (L : List Loc) : Prop := v = some (.int cx) ∧ Fr n0 L ∧ h = h0
theorem rmLH (l : Launch) (Z : State) (a0 : Array Value) (hw : HW a0 Z) (G : Gs) (ST : StartF Z G) (ws : List Jvm.Cond) (vx : Addr) (kb : ClassId) (cx : Int32) (h0 : Heap) (n0 : Nat) (X00 : Old Z n0 h0) (V1 : Arv Z h0 vx kb .byte (1 : Int32) [(.int cx.toInt8.toInt32)] ZI) (hc : (¬ cx < 0 ∧ ¬ (255 : Int32) < cx)) :
  MF l Z ws mm5 jdk_43_method_21_code 1 (some .int) (rk 0 0 0 0) #[(.ref vx)] h0 (QrmLH Z G vx kb cx h0 n0) := by
 refine MetFree.of_bodySF (plainFor_of_name pn_0) hisR ?_
 intro p e s m args below meth c s₁ Bd hml0 hP hK
 obtain ⟨rfl, hZ, hh⟩ := hP
 have hx := Bd.exec
 have B := Bd.bytes
 have X0 : Stand p l e (rk 0 0 0 0) s m #[(.ref vx)] below meth c s₁ [] 0 0 := Stand.of_body Bd
 have e0 : s₁.heap = h0 := by rw [← hh, Bd.state]; rfl
 have N0 := Fr.nil n0
 obtain ⟨TG, hTG, pre0⟩ := own_pre p e below s₁ (ef_rmL1 m vx )
 obtain ⟨cl10, Ar10, q10, S10, M10, H10, G10⟩ := id V1
 obtain ⟨cl11, Ar11, q11, S11, M11, H11, G11⟩ := id V1
 have in11 : ¬ ((0 : Int32) < 0 ∨ cl11.slots.size ≤ ((0 : Int32)).toNatClampNeg) := inb_of S11 ⟨by decide, by decide⟩
 obtain ⟨fs, hr, hrun, hended, hW, hsame⟩ := X0.leave (v := some (.int cx)) (own_rv Bd.returns)
 refine ⟨_, _, hTG _ (pre0 _ ?_), hrun, hended, _, _, rfl, ?_, ⟨_, rfl⟩, hW, hsame.mono (by decide) (by decide)⟩
 ·refine y_aloadN X0 hx 1 (hb B d29_0) rfl rfl rfl ?_
  refine X0.arraylength hx (by rw [e0]; exact Ar10.1) (State.isArrayOf_alike hZ.alike Ar10.2.1) (g := (mkF m 1 #[xvr vx] [xwr vx])) rfl rfl (hb B d29_1) _ ?_
  rw [len_of S10 M10]
  show Sx p e below s₁ m 2 #[xvr vx] [xwi (1 : Int32)] _
  refine y_lsw X0 hx 32 30 (hb B d29_2) (by decide) (by decide) (by decide) (by decide) <| y_aloadN X0 hx 33 (hb B d29_32) rfl rfl rfl <| y_iconst X0 hx (0 : Int32) 34 (hb B d29_33) rfl rfl ?_
  refine X0.baloadBytes hx (j := (0 : Int32)) (v := (.int cx.toInt8.toInt32)) (by rw [e0]; exact Ar11.1) (State.isArrayOf_alike hZ.alike Ar11.2.1) Ar11.2.2 in11 (Has.at H11 in11 rfl) (g := (mkF m 34 #[xvr vx] [xwi (0 : Int32), xwr vx])) rfl rfl (hb B d29_34) _ ?_
  refine y_sipush X0 hx (255 : Int32) 38 (hb B d29_35) rfl rfl <| y_iand X0 hx 39 (hb B d29_38) rfl ?_
  show Sx p e below s₁ m 39 #[xvr vx] [xwi (cx.toInt8.toInt32 &&& (255 : Int32))] _
  rw [own_b8 hc]
  refine y_goto X0 hx 51 (hb B d29_39) rfl rfl ?_
  show Sx p e below s₁ m 51 #[xvr vx] [xwi cx] _
  exact retOut X0 hx Bd.returns rfl (Or.inl ⟨rfl, Or.inl rfl, _, rfl⟩) (hb B d29_51) hr
 ·show QrmLH Z G vx kb cx h0 n0 _ s₁.heap _
  rw [e0]
  exact ⟨rfl, N0, rfl⟩
theorem ef_rmHC (m : MethodId) (x0 : Addr)  : entryFrame m #[(.ref x0)] 2 = mkF m 0 #[.val (.ref x0), .unset] [] := by first | (simp [entryFrame, mkF, argsToLocals, Value.category]; done) | rfl
abbrev kc27 : ByteArray := jdk_42_method_78_code
def d27_0 : DC kc27 0 (.aload_n 0) 1 := by decide +kernel
def d27_1 : DC kc27 1 (.getfield 19) 3 := by decide +kernel
def d27_4 : DC kc27 4 (.istore_n 1) 1 := by decide +kernel
def d27_5 : DC kc27 5 (.iload_n 1) 1 := by decide +kernel
def d27_6 : DC kc27 6 (.ifCond .ne 52) 3 := by decide +kernel
def d27_9 : DC kc27 9 (.aload_n 0) 1 := by decide +kernel
def d27_10 : DC kc27 10 (.getfield 23) 3 := by decide +kernel
def d27_13 : DC kc27 13 (.ifCond .ne 45) 3 := by decide +kernel
def d27_16 : DC kc27 16 (.aload_n 0) 1 := by decide +kernel
def d27_17 : DC kc27 17 (.invokevirtual 492) 3 := by decide +kernel
theorem pd_3 : parseMethodDescriptor "()Z" = some ⟨[], some .boolean⟩ := by decide +kernel
def d27_20 : DC kc27 20 (.ifCond .eq 13) 3 := by decide +kernel
def d27_23 : DC kc27 23 (.aload_n 0) 1 := by decide +kernel
def d27_24 : DC kc27 24 (.getfield 9) 3 := by decide +kernel
def d27_27 : DC kc27 27 (.invokestatic 628) 3 := by decide +kernel
theorem pd_4 : parseMethodDescriptor "([B)I" = some ⟨[(.array .byte)], some .int⟩ := by decide +kernel
def d27_30 : DC kc27 30 (.goto 10) 3 := by decide +kernel
def d27_40 : DC kc27 40 (.istore_n 1) 1 := by decide +kernel
def d27_41 : DC kc27 41 (.iload_n 1) 1 := by decide +kernel
def d27_42 : DC kc27 42 (.ifCond .ne 11) 3 := by decide +kernel
def d27_45 : DC kc27 45 (.aload_n 0) 1 := by decide +kernel
def d27_46 : DC kc27 46 (.iconst 1) 1 := by decide +kernel
def d27_47 : DC kc27 47 (.putfield 23) 3 := by decide +kernel
def d27_50 : DC kc27 50 (.goto 8) 3 := by decide +kernel
def d27_58 : DC kc27 58 (.iload_n 1) 1 := by decide +kernel
def d27_59 : DC kc27 59 (.ireturn) 1 := by decide +kernel
def d27_53 : DC kc27 53 (.aload_n 0) 1 := by decide +kernel
def d27_54 : DC kc27 54 (.iload_n 1) 1 := by decide +kernel
def d27_55 : DC kc27 55 (.putfield 19) 3 := by decide +kernel
def QrmHC (Z : State) (G : Gs) (sx vx : Addr) (kb : ClassId) (cx : Int32) (h0 : Heap) (n0 : Nat) (v : Option Value) (h : Heap) (L : List Loc) : Prop := v = some (.int cx) ∧ Fr n0 L ∧ Keep h0 h [sx] ∧ Exa Z h sx sg1 ∧ Fld Z h sx sg1 "coder" "B" ZI ∧ Fld Z h sx sg1 "value" "[B" (.ref vx)
theorem rmHC (l : Launch) (Z : State) (a0 : Array Value) (hw : HW a0 Z) (G : Gs) (ST : StartF Z G) (ws : List Jvm.Cond) (sx vx : Addr) (kb : ClassId) (cx : Int32) (h0 : Heap) (n0 : Nat) (X00 : Old Z n0 h0) (sE : Exa Z h0 sx sg1) (sC : Fld Z h0 sx sg1 "coder" "B" ZI) (sW : Fld Z h0 sx sg1 "value" "[B" (.ref vx)) (sA : Arv Z h0 vx kb .byte (1 : Int32) [(.int cx.toInt8.toInt32)] ZI) (sH : Fld Z h0 sx sg1 "hash" "I" ZI) (sZ : Fld Z h0 sx sg1 "hashIsZero" "Z" ZI) (sg : n0 ≤ sx) (hc : (¬ cx < 0 ∧ ¬ (255 : Int32) < cx)) :
  MF l Z ws mm6 jdk_42_method_78_code 2 (some .int) (rk 1 0 0 12) #[(.ref sx)] h0 (QrmHC Z G sx vx kb cx h0 n0) := by
 refine MetFree.of_bodySF (plainFor_of_name pn_1) hisR ?_
 intro p e s m args below meth c s₁ Bd hml0 hP hK
 obtain ⟨rfl, hZ, hh⟩ := hP
 have hx := Bd.exec
 have B := Bd.bytes
 have hml : c.maxLocals = 2 := hml0
 have hown : s.vm.findClass sg1 = some m.cls := findClass_of_methodNamed Bd.named
 have X0 : Stand p l e (rk 1 0 0 12) s m #[(.ref sx)] below meth c s₁ [] 0 0 := Stand.of_body Bd
 have e0 : s₁.heap = h0 := by rw [← hh, Bd.state]; rfl
 have N0 := Fr.nil n0
 obtain ⟨TG, hTG, pre0⟩ := own_pre p e below s₁ (ef_rmHC m sx )
 obtain ⟨T10, X10, e10, st10⟩ := getF X0 hx hZ hown (host := "") (Or.inl (w_191 hw)) Via.refl e0 sH (g := (mkF m 1 #[xvr sx, xun] [xwr sx])) rfl rfl (hb B d27_1)
 obtain ⟨T11, X11, e11, st11⟩ := getF X10 hx hZ hown (host := "") (Or.inl (w_193 hw)) Via.refl e10 sZ (g := (mkF m 10 #[xvr sx, xvi (0 : Int32)] [xwr sx])) rfl rfl (hb B d27_10)
 obtain ⟨cq12, kq12, q12a, q12b, q12c⟩ := isOf hZ e11 sE
 obtain ⟨_, _, ⟨T13, L13, k13, n13⟩, -, X13, ⟨Lc13, hQ13, l13, y13, z13⟩, st13⟩ := X11.virtualBack hx (y := mm4) (z := mm4) hown (mvT hZ (w_195 hw)) (mvT hZ (w_196 hw)) (notFace_of_selects (args := #[]) (mvT hZ (w_198 hw))) (mvT hZ (w_198 hw)) (mvT hZ (w_197 hw)) (by decide) (backOf (W := 0) (rmL1 l Z a0 hw G ST [] sx h0 n0 X00 sC) hZ (w_199 hw) (w_2 hw) (by decide) (by decide)) q12a q12c (g := (mkF m 17 #[xvr sx, xvi (0 : Int32)] [xwr sx])) rfl (by rw [hml]; rfl) (Steps.refl _) (argsL := []) (rest := []) (lenOf pd_3 rfl) rfl (Nat.le_of_eq rfl) (hb B d27_17) (fun _ _ => ⟨rfl, e11, (by decide : 0 + 0 ≤ _), (by decide : 0 + 0 ≤ _)⟩)
 dsimp only [Pt.U, Pt.locs, Pt.cells, Pt.slots] at X13 l13 y13 z13 st13 hQ13
 subst l13 y13 z13
 obtain ⟨rfl, N13q, e13⟩ := hQ13
 have N13 := Fr.app N0 N13q
 obtain ⟨T14, X14, e14, st14⟩ := getF X13 hx hZ hown (host := "") (Or.inl (w_22 hw)) Via.refl e13 sW (g := (mkF m 24 #[xvr sx, xvi (0 : Int32)] [xwr sx])) rfl rfl (hb B d27_24)
 obtain ⟨_, _, ⟨T15, L15, k15, n15⟩, -, X15, ⟨Lc15, hQ15, l15, y15, z15⟩, st15⟩ := Jvm.LawKit.callS X14 hx (y := mm5) hown (mvT hZ (w_200 hw)) (mvT hZ (w_201 hw)) (mvT hZ (w_7 hw)) (mvT hZ (w_202 hw)) (by decide) (backOf (W := 0) (rmLH l Z a0 hw G ST [] vx _ cx h0 n0 X00 sA hc) hZ (w_202 hw) (w_7 hw) (by decide) (by decide)) (g := (mkF m 27 #[xvr sx, xvi (0 : Int32)] [xwr vx])) rfl (by rw [hml]; rfl) (argsL := [(.ref vx)]) (rest := []) (lenOf pd_4 rfl) rfl (Nat.le_of_eq rfl) (hb B d27_27) (fun _ _ => ⟨rfl, e14, (by decide : 0 + 0 ≤ _), (by decide : 0 + 0 ≤ _)⟩)
 dsimp only [Pt.U, Pt.locs, Pt.cells, Pt.slots] at X15 l15 y15 z15 st15 hQ15
 subst l15 y15 z15
 obtain ⟨rfl, N15q, e15⟩ := hQ15
 have N15 := Fr.app N13 N15q
 have c16 : ∀ t, Sx p e below T15 m 42 #[xvr sx, xvi cx] [xwi cx] t → TG t := fun t k => pre0 t (by
  refine y_aloadN X0 hx 1 (hb B d27_0) rfl rfl rfl ?_
  refine st10 _ ?_
  refine y_istoreN X10 hx 5 (hb B d27_4) (L' := #[xvr sx, xvi (0 : Int32)]) rfl rfl <| y_iloadN X10 hx 6 (hb B d27_5) rfl rfl <| y_ifNo X10 hx 9 (hb B d27_6) (XT.i0_ne_f (by decide)) rfl <| y_aloadN X10 hx 10 (hb B d27_9) rfl rfl rfl ?_
  refine st11 _ ?_
  refine y_ifNo X11 hx 16 (hb B d27_13) (XT.i0_ne_f (by decide)) rfl <| y_aloadN X11 hx 17 (hb B d27_16) rfl rfl rfl ?_
  refine st13.trans ?_
  refine y_ifNo X13 hx 23 (hb B d27_20) (XT.i0_eq_f (by decide)) rfl <| y_aloadN X13 hx 24 (hb B d27_23) rfl rfl rfl ?_
  refine st14 _ ?_
  refine st15 _ ?_
  refine y_goto X15 hx 40 (hb B d27_30) rfl rfl <| y_istoreN X15 hx 41 (hb B d27_40) (L' := #[xvr sx, xvi cx]) rfl rfl <| y_iloadN X15 hx 42 (hb B d27_41) rfl rfl ?_
  exact k)
 by_cases hc17 : cx = (0 : Int32)
 ·obtain ⟨T18, h18, X18, e18, W18, st18⟩ := putFN X15 hx hZ hown (w_193 hw) Via.refl e15 sZ sE (Or.inl (w_194 hw)) (w_10 hw) (ty := .boolean) (v' := (.int (1 : Int32))) (by decide) (by decide) (by decide) (g := (mkF m 47 #[xvr sx, xvi cx] [xwi (1 : Int32), xwr sx])) rfl rfl (hb B d27_47)
  have Fw18 := sZ.same W18
  have N18 := Fr.snoc X18 N15 sg
  have f19 := (sE.wr W18)
  have f20 := (sC.other W18 (Or.inr (slot_ne (Or.inr (w_25 hw)) (Or.inl (w_194 hw)) (by decide) (t := .byte) (t' := .boolean) (by decide) (by decide))))
  have f21 := (sW.other W18 (Or.inr (slot_ne (Or.inr (w_23 hw)) (Or.inl (w_194 hw)) (by decide) (t := (.array .byte)) (t' := .boolean) (by decide) (by decide))))
  obtain ⟨fs, hr, hrun, hended, hW, hsame⟩ := X18.leave (v := some (.int cx)) (own_rv Bd.returns)
  refine ⟨_, _, hTG _ (c16 _ ?_), hrun, hended, _, _, rfl, ?_, ⟨_, rfl⟩, hW, hsame.mono (by decide) (by decide)⟩
  ·refine y_ifNo X15 hx 45 (hb B d27_42) (XT.i0_ne_f hc17) rfl <| y_aloadN X15 hx 46 (hb B d27_45) rfl rfl rfl <| y_iconst X15 hx (1 : Int32) 47 (hb B d27_46) rfl rfl ?_
   refine st18 _ ?_
   refine y_goto X18 hx 58 (hb B d27_50) rfl rfl <| y_iloadN X18 hx 59 (hb B d27_58) rfl rfl ?_
   show Sx p e below T18 m 59 #[xvr sx, xvi cx] [xwi cx] _
   exact retOut X18 hx Bd.returns rfl (Or.inl ⟨rfl, Or.inl rfl, _, rfl⟩) (hb B d27_59) hr
  ·show QrmHC Z G sx vx kb cx h0 n0 _ T18.heap _
   rw [e18]
   exact ⟨rfl, N18, ((Keep.refl h0 [sx]).wr W18 (oi 0 rfl)), f19, f20, f21⟩
 ·obtain ⟨T22, h22, X22, e22, W22, st22⟩ := putF X15 hx hZ hown (host := "") (Or.inl (w_191 hw)) Via.refl e15 sH sE (Or.inl (w_192 hw)) (w_10 hw) (ty := .int) (by decide) rfl rfl (g := (mkF m 55 #[xvr sx, xvi cx] [xwi cx, xwr sx])) rfl rfl (hb B d27_55)
  have Fw22 := sH.same W22
  have N22 := Fr.snoc X22 N15 sg
  have f23 := (sE.wr W22)
  have f24 := (sC.other W22 (Or.inr (slot_ne (Or.inr (w_25 hw)) (Or.inl (w_192 hw)) (by decide) (t := .byte) (t' := .int) (by decide) (by decide))))
  have f25 := (sW.other W22 (Or.inr (slot_ne (Or.inr (w_23 hw)) (Or.inl (w_192 hw)) (by decide) (t := (.array .byte)) (t' := .int) (by decide) (by decide))))
  obtain ⟨fs, hr, hrun, hended, hW, hsame⟩ := X22.leave (v := some (.int cx)) (own_rv Bd.returns)
  refine ⟨_, _, hTG _ (c16 _ ?_), hrun, hended, _, _, rfl, ?_, ⟨_, rfl⟩, hW, hsame.mono (by decide) (by decide)⟩
  ·refine y_ifYes X15 hx 53 (hb B d27_42) (XT.i0_ne_t hc17) rfl rfl <| y_aloadN X15 hx 54 (hb B d27_53) rfl rfl rfl <| y_iloadN X15 hx 55 (hb B d27_54) rfl rfl ?_
   refine st22 _ ?_
   refine y_iloadN X22 hx 59 (hb B d27_58) rfl rfl ?_
   show Sx p e below T22 m 59 #[xvr sx, xvi cx] [xwi cx] _
   exact retOut X22 hx Bd.returns rfl (Or.inl ⟨rfl, Or.inl rfl, _, rfl⟩) (hb B d27_59) hr
  ·show QrmHC Z G sx vx kb cx h0 n0 _ T22.heap _
   rw [e22]
   exact ⟨rfl, N22, ((Keep.refl h0 [sx]).wr W22 (oi 0 rfl)), f23, f24, f25⟩
theorem ef_rmLEs (m : MethodId) (x0 x1 : Addr)  : entryFrame m #[(.ref x0), (.ref x1)] 3 = mkF m 0 #[.val (.ref x0), .val (.ref x1), .unset] [] := by first | (simp [entryFrame, mkF, argsToLocals, Value.category]; done) | rfl
abbrev kc38 : ByteArray := jdk_43_method_13_code
def d38_0 : DC kc38 0 (.aload_n 0) 1 := by decide +kernel
def d38_1 : DC kc38 1 (.arraylength) 1 := by decide +kernel
def d38_2 : DC kc38 2 (.aload_n 1) 1 := by decide +kernel
def d38_3 : DC kc38 3 (.arraylength) 1 := by decide +kernel
def d38_4 : DC kc38 4 (.if_icmp .ne 30) 3 := by decide +kernel
def d38_7 : DC kc38 7 (.iconst 0) 1 := by decide +kernel
def d38_8 : DC kc38 8 (.istore_n 2) 1 := by decide +kernel
def d38_9 : DC kc38 9 (.iload_n 2) 1 := by decide +kernel
def d38_10 : DC kc38 10 (.aload_n 0) 1 := by decide +kernel
def d38_11 : DC kc38 11 (.arraylength) 1 := by decide +kernel
def d38_12 : DC kc38 12 (.if_icmp .ge 20) 3 := by decide +kernel
def d38_15 : DC kc38 15 (.aload_n 0) 1 := by decide +kernel
def d38_16 : DC kc38 16 (.iload_n 2) 1 := by decide +kernel
def d38_17 : DC kc38 17 (.baload) 1 := by decide +kernel
def d38_18 : DC kc38 18 (.aload_n 1) 1 := by decide +kernel
def d38_19 : DC kc38 19 (.iload_n 2) 1 := by decide +kernel
def d38_20 : DC kc38 20 (.baload) 1 := by decide +kernel
def d38_21 : DC kc38 21 (.if_icmp .eq 5) 3 := by decide +kernel
def d38_26 : DC kc38 26 (.iinc 2 1) 3 := by decide +kernel
def d38_29 : DC kc38 29 (.goto (-20)) 3 := by decide +kernel
def d38_32 : DC kc38 32 (.iconst 1) 1 := by decide +kernel
def d38_33 : DC kc38 33 (.ireturn) 1 := by decide +kernel
def QrmLEs (Z : State) (G : Gs) (w1 vx : Addr) (kq kb : ClassId) (cq cx : Int32) (h0 : Heap) (n0 : Nat) (v : Option Value) (h : Heap) (L : List Loc) : Prop := v = some (.int (1 : Int32)) ∧ Fr n0 L ∧ h = h0
theorem rmLEs (l : Launch) (Z : State) (a0 : Array Value) (hw : HW a0 Z) (G : Gs) (ST : StartF Z G) (ws : List Jvm.Cond) (w1 vx : Addr) (kq kb : ClassId) (cq cx : Int32) (h0 : Heap) (n0 : Nat) (X00 : Old Z n0 h0) (V1 : Arv Z h0 w1 kq .byte (1 : Int32) [(.int cq.toInt8.toInt32)] ZI) (V2 : Arv Z h0 vx kb .byte (1 : Int32) [(.int cx.toInt8.toInt32)] ZI) (he : cq.toInt8.toInt32 = cx.toInt8.toInt32) :
  MF l Z ws mm7 jdk_43_method_13_code 3 (some .boolean) (rk 0 0 0 0) #[(.ref w1), (.ref vx)] h0 (QrmLEs Z G w1 vx kq kb cq cx h0 n0) := by
 refine MetFree.of_bodySF (plainFor_of_name pn_0) hisR ?_
 intro p e s m args below meth c s₁ Bd hml0 hP hK
 obtain ⟨rfl, hZ, hh⟩ := hP
 have hx := Bd.exec
 have B := Bd.bytes
 have X0 : Stand p l e (rk 0 0 0 0) s m #[(.ref w1), (.ref vx)] below meth c s₁ [] 0 0 := Stand.of_body Bd
 have e0 : s₁.heap = h0 := by rw [← hh, Bd.state]; rfl
 have N0 := Fr.nil n0
 obtain ⟨TG, hTG, pre0⟩ := own_pre p e below s₁ (ef_rmLEs m w1 vx )
 obtain ⟨cl10, Ar10, q10, S10, M10, H10, G10⟩ := id V1
 obtain ⟨cl11, Ar11, q11, S11, M11, H11, G11⟩ := id V2
 obtain ⟨cl12, Ar12, q12, S12, M12, H12, G12⟩ := id V1
 obtain ⟨cl13, Ar13, q13, S13, M13, H13, G13⟩ := id V1
 have in13 : ¬ ((0 : Int32) < 0 ∨ cl13.slots.size ≤ ((0 : Int32)).toNatClampNeg) := inb_of S13 ⟨by decide, by decide⟩
 obtain ⟨cl14, Ar14, q14, S14, M14, H14, G14⟩ := id V2
 have in14 : ¬ ((0 : Int32) < 0 ∨ cl14.slots.size ≤ ((0 : Int32)).toNatClampNeg) := inb_of S14 ⟨by decide, by decide⟩
 obtain ⟨cl15, Ar15, q15, S15, M15, H15, G15⟩ := id V1
 obtain ⟨fs, hr, hrun, hended, hW, hsame⟩ := X0.leave (v := some (.int (1 : Int32))) (own_rv Bd.returns)
 refine ⟨_, _, hTG _ (pre0 _ ?_), hrun, hended, _, _, rfl, ?_, ⟨_, rfl⟩, hW, hsame.mono (by decide) (by decide)⟩
 ·refine y_aloadN X0 hx 1 (hb B d38_0) rfl rfl rfl ?_
  refine X0.arraylength hx (by rw [e0]; exact Ar10.1) (State.isArrayOf_alike hZ.alike Ar10.2.1) (g := (mkF m 1 #[xvr w1, xvr vx, xun] [xwr w1])) rfl rfl (hb B d38_1) _ ?_
  rw [len_of S10 M10]
  refine y_aloadN X0 hx 3 (hb B d38_2) rfl rfl rfl ?_
  show Sx p e below s₁ m 3 #[xvr w1, xvr vx, xun] [xwr vx, xwi (1 : Int32)] _
  refine X0.arraylength hx (by rw [e0]; exact Ar11.1) (State.isArrayOf_alike hZ.alike Ar11.2.1) (g := (mkF m 3 #[xvr w1, xvr vx, xun] [xwr vx, xwi (1 : Int32)])) rfl rfl (hb B d38_3) _ ?_
  rw [len_of S11 M11]
  refine y_icmpNo X0 hx 7 (hb B d38_4) (XT.ii_ne_f (by decide)) rfl <| y_iconst X0 hx (0 : Int32) 8 (hb B d38_7) rfl rfl <| y_istoreN X0 hx 9 (hb B d38_8) (L' := #[xvr w1, xvr vx, xvi (0 : Int32)]) rfl rfl <| y_iloadN X0 hx 10 (hb B d38_9) rfl rfl <| y_aloadN X0 hx 11 (hb B d38_10) rfl rfl rfl ?_
  show Sx p e below s₁ m 11 #[xvr w1, xvr vx, xvi (0 : Int32)] [xwr w1, xwi (0 : Int32)] _
  refine X0.arraylength hx (by rw [e0]; exact Ar12.1) (State.isArrayOf_alike hZ.alike Ar12.2.1) (g := (mkF m 11 #[xvr w1, xvr vx, xvi (0 : Int32)] [xwr w1, xwi (0 : Int32)])) rfl rfl (hb B d38_11) _ ?_
  rw [len_of S12 M12]
  refine y_icmpNo X0 hx 15 (hb B d38_12) (XT.ii_ge_f (by decide)) rfl <| y_aloadN X0 hx 16 (hb B d38_15) rfl rfl rfl <| y_iloadN X0 hx 17 (hb B d38_16) rfl rfl ?_
  refine X0.baloadBytes hx (j := (0 : Int32)) (v := (.int cq.toInt8.toInt32)) (by rw [e0]; exact Ar13.1) (State.isArrayOf_alike hZ.alike Ar13.2.1) Ar13.2.2 in13 (Has.at H13 in13 rfl) (g := (mkF m 17 #[xvr w1, xvr vx, xvi (0 : Int32)] [xwi (0 : Int32), xwr w1])) rfl rfl (hb B d38_17) _ ?_
  refine y_aloadN X0 hx 19 (hb B d38_18) rfl rfl rfl <| y_iloadN X0 hx 20 (hb B d38_19) rfl rfl ?_
  refine X0.baloadBytes hx (j := (0 : Int32)) (v := (.int cx.toInt8.toInt32)) (by rw [e0]; exact Ar14.1) (State.isArrayOf_alike hZ.alike Ar14.2.1) Ar14.2.2 in14 (Has.at H14 in14 rfl) (g := (mkF m 20 #[xvr w1, xvr vx, xvi (0 : Int32)] [xwi (0 : Int32), xwr vx, xwi cq.toInt8.toInt32])) rfl rfl (hb B d38_20) _ ?_
  refine y_icmpYes X0 hx 26 (hb B d38_21) (XT.ii_eq_t he) rfl rfl ?_
  refine XS.iinc X0.here hx rfl (hb B d38_26) rfl (l' := #[xvr w1, xvr vx, xvi ((0 : Int32) + (1 : Int32))]) rfl ?_
  rw [show ((0 : Int32) + (1 : Int32)) = (1 : Int32) from by decide]
  refine y_goto X0 hx 9 (hb B d38_29) rfl rfl <| y_iloadN X0 hx 10 (hb B d38_9) rfl rfl <| y_aloadN X0 hx 11 (hb B d38_10) rfl rfl rfl ?_
  show Sx p e below s₁ m 11 #[xvr w1, xvr vx, xvi (1 : Int32)] [xwr w1, xwi (1 : Int32)] _
  refine X0.arraylength hx (by rw [e0]; exact Ar15.1) (State.isArrayOf_alike hZ.alike Ar15.2.1) (g := (mkF m 11 #[xvr w1, xvr vx, xvi (1 : Int32)] [xwr w1, xwi (1 : Int32)])) rfl rfl (hb B d38_11) _ ?_
  rw [len_of S15 M15]
  refine y_icmpYes X0 hx 32 (hb B d38_12) (XT.ii_ge_t (by decide)) rfl rfl <| y_iconst X0 hx (1 : Int32) 33 (hb B d38_32) rfl rfl ?_
  show Sx p e below s₁ m 33 #[xvr w1, xvr vx, xvi (1 : Int32)] [xwi (1 : Int32)] _
  exact retN X0 hx (t := .boolean) Bd.returns (by simp) (hb B d38_33) (hr)
 ·show QrmLEs Z G w1 vx kq kb cq cx h0 n0 _ s₁.heap _
  rw [e0]
  exact ⟨rfl, N0, rfl⟩
abbrev kc37 : ByteArray := jdk_42_method_66_code
def d37_0 : DC kc37 0 (.aload_n 0) 1 := by decide +kernel
def d37_1 : DC kc37 1 (.aload_n 1) 1 := by decide +kernel
def d37_2 : DC kc37 2 (.if_acmp .ne 5) 3 := by decide +kernel
def d37_7 : DC kc37 7 (.aload_n 1) 1 := by decide +kernel
def d37_8 : DC kc37 8 (.instanceof 10) 3 := by decide +kernel
def d37_11 : DC kc37 11 (.ifCond .eq 43) 3 := by decide +kernel
def d37_14 : DC kc37 14 (.aload_n 1) 1 := by decide +kernel
def d37_15 : DC kc37 15 (.checkcast 10) 3 := by decide +kernel
def d37_18 : DC kc37 18 (.astore_n 2) 1 := by decide +kernel
def d37_19 : DC kc37 19 (.getstatic 38) 3 := by decide +kernel
def d37_22 : DC kc37 22 (.ifCond .eq 14) 3 := by decide +kernel
def d37_25 : DC kc37 25 (.aload_n 0) 1 := by decide +kernel
def d37_26 : DC kc37 26 (.getfield 15) 3 := by decide +kernel
def d37_29 : DC kc37 29 (.aload_n 2) 1 := by decide +kernel
def d37_30 : DC kc37 30 (.getfield 15) 3 := by decide +kernel
def d37_33 : DC kc37 33 (.if_icmp .ne 21) 3 := by decide +kernel
def d37_36 : DC kc37 36 (.aload_n 0) 1 := by decide +kernel
def d37_37 : DC kc37 37 (.getfield 9) 3 := by decide +kernel
def d37_40 : DC kc37 40 (.aload_n 2) 1 := by decide +kernel
def d37_41 : DC kc37 41 (.getfield 9) 3 := by decide +kernel
def d37_44 : DC kc37 44 (.invokestatic 541) 3 := by decide +kernel
theorem pd_5 : parseMethodDescriptor "([B[B)Z" = some ⟨[(.array .byte), (.array .byte)], some .boolean⟩ := by decide +kernel
def d37_47 : DC kc37 47 (.ifCond .eq 7) 3 := by decide +kernel
def d37_50 : DC kc37 50 (.iconst 1) 1 := by decide +kernel
def d37_51 : DC kc37 51 (.goto 4) 3 := by decide +kernel
def d37_55 : DC kc37 55 (.ireturn) 1 := by decide +kernel
def QrmSEs (Z : State) (G : Gs) (q1 w1 : Addr) (kq : ClassId) (cq : Int32) (sx vx : Addr) (kb : ClassId) (cx : Int32) (h0 : Heap) (n0 : Nat) (v : Option Value) (h : Heap) (L : List Loc) : Prop := v = some (.int (1 : Int32)) ∧ Fr n0 L ∧ h = h0
theorem rmSEs (l : Launch) (Z : State) (a0 : Array Value) (hw : HW a0 Z) (G : Gs) (ST : StartF Z G) (ws : List Jvm.Cond) (q1 w1 : Addr) (kq : ClassId) (cq : Int32) (sx vx : Addr) (kb : ClassId) (cx : Int32) (h0 : Heap) (n0 : Nat) (X00 : Old Z n0 h0) (qE : Exa Z h0 q1 sg1) (qC : Fld Z h0 q1 sg1 "coder" "B" ZI) (qW : Fld Z h0 q1 sg1 "value" "[B" (.ref w1)) (qA : Arv Z h0 w1 kq .byte (1 : Int32) [(.int cq.toInt8.toInt32)] ZI) (sE : Exa Z h0 sx sg1) (sC : Fld Z h0 sx sg1 "coder" "B" ZI) (sW : Fld Z h0 sx sg1 "value" "[B" (.ref vx)) (sA : Arv Z h0 vx kb .byte (1 : Int32) [(.int cx.toInt8.toInt32)] ZI) (nqs : q1 ≠ sx) (he : cq.toInt8.toInt32 = cx.toInt8.toInt32) :
  MF l Z ws mm8 jdk_42_method_66_code 3 (some .boolean) (rk 1 0 0 14) #[(.ref q1), (.ref sx)] h0 (QrmSEs Z G q1 w1 kq cq sx vx kb cx h0 n0) := by
 refine MetFree.of_bodySF (plainFor_of_name pn_1) hisR ?_
 intro p e s m args below meth c s₁ Bd hml0 hP hK
 obtain ⟨rfl, hZ, hh⟩ := hP
 have hx := Bd.exec
 have B := Bd.bytes
 have hml : c.maxLocals = 3 := hml0
 have hown : s.vm.findClass sg1 = some m.cls := findClass_of_methodNamed Bd.named
 have X0 : Stand p l e (rk 1 0 0 14) s m #[(.ref q1), (.ref sx)] below meth c s₁ [] 0 0 := Stand.of_body Bd
 have e0 : s₁.heap = h0 := by rw [← hh, Bd.state]; rfl
 have N0 := Fr.nil n0
 obtain ⟨TG, hTG, pre0⟩ := own_pre p e below s₁ (ef_rmLEs m q1 sx )
 obtain ⟨T10, X10, e10, st10⟩ := instY X0 hx hZ hown (w_9 hw) e0 (Ins.self sE) (g := (mkF m 8 #[xvr q1, xvr sx, xun] [xwr sx])) rfl rfl (hb B d37_8)
 obtain ⟨T11, X11, e11, st11⟩ := castY X10 hx hZ hown (w_9 hw) e10 (Ins.self sE) (g := (mkF m 15 #[xvr q1, xvr sx, xun] [xwr sx])) rfl rfl (hb B d37_15)
 obtain ⟨T12, X12, e12, st12⟩ := getS2 X11 hx hZ hown (host := "") (Or.inl (w_4 hw)) Via.refl e11 (ST.c0.ext X00.2) (g := (mkF m 19 #[xvr q1, xvr sx, xvr sx] [])) rfl (hb B d37_19)
 obtain ⟨T13, X13, e13, st13⟩ := getF X12 hx hZ hown (host := "") (Or.inl (w_24 hw)) Via.refl e12 qC (g := (mkF m 26 #[xvr q1, xvr sx, xvr sx] [xwr q1])) rfl rfl (hb B d37_26)
 obtain ⟨T14, X14, e14, st14⟩ := getF X13 hx hZ hown (host := "") (Or.inl (w_24 hw)) Via.refl e13 sC (g := (mkF m 30 #[xvr q1, xvr sx, xvr sx] [xwr sx, xwi (0 : Int32)])) rfl rfl (hb B d37_30)
 obtain ⟨T15, X15, e15, st15⟩ := getF X14 hx hZ hown (host := "") (Or.inl (w_22 hw)) Via.refl e14 qW (g := (mkF m 37 #[xvr q1, xvr sx, xvr sx] [xwr q1])) rfl rfl (hb B d37_37)
 obtain ⟨T16, X16, e16, st16⟩ := getF X15 hx hZ hown (host := "") (Or.inl (w_22 hw)) Via.refl e15 sW (g := (mkF m 41 #[xvr q1, xvr sx, xvr sx] [xwr sx, xwr w1])) rfl rfl (hb B d37_41)
 obtain ⟨_, _, ⟨T17, L17, k17, n17⟩, -, X17, ⟨Lc17, hQ17, l17, y17, z17⟩, st17⟩ := Jvm.LawKit.callS X16 hx (y := mm7) hown (mvT hZ (w_256 hw)) (mvT hZ (w_257 hw)) (mvT hZ (w_7 hw)) (mvT hZ (w_258 hw)) (by decide) (backOf (W := 0) (rmLEs l Z a0 hw G ST [] w1 vx _ _ cq cx h0 n0 X00 qA sA he) hZ (w_258 hw) (w_7 hw) (by decide) (by decide)) (g := (mkF m 44 #[xvr q1, xvr sx, xvr sx] [xwr vx, xwr w1])) rfl (by rw [hml]; rfl) (argsL := [(.ref w1), (.ref vx)]) (rest := []) (lenOf pd_5 rfl) rfl (Nat.le_of_eq rfl) (hb B d37_44) (fun _ _ => ⟨rfl, e16, (by decide : 0 + 0 ≤ _), (by decide : 0 + 0 ≤ _)⟩)
 dsimp only [Pt.U, Pt.locs, Pt.cells, Pt.slots] at X17 l17 y17 z17 st17 hQ17
 subst l17 y17 z17
 obtain ⟨rfl, N17q, e17⟩ := hQ17
 have N17 := Fr.app N0 N17q
 obtain ⟨fs, hr, hrun, hended, hW, hsame⟩ := X17.leave (v := some (.int (1 : Int32))) (own_rv Bd.returns)
 refine ⟨_, _, hTG _ (pre0 _ ?_), hrun, hended, _, _, rfl, ?_, ⟨_, rfl⟩, hW, hsame.mono (by decide) (by decide)⟩
 ·refine y_aloadN X0 hx 1 (hb B d37_0) rfl rfl rfl <| y_aloadN X0 hx 2 (hb B d37_1) rfl rfl rfl ?_
  refine Jvm.RoadKit.acmp (g := (mkF m 2 #[xvr q1, xvr sx, xun] [xwr sx, xwr q1])) X0 hx rfl rfl rfl (pc0 := 2) (pc' := 7) (same := false) rfl (hb B d37_2) rfl (decide_eq_false fun q => nqs (Value.ref.inj q)) (by decide) (by decide) ?_
  refine y_aloadN X0 hx 8 (hb B d37_7) rfl rfl rfl ?_
  refine st10 _ ?_
  refine y_ifNo X10 hx 14 (hb B d37_11) (XT.i0_eq_f (by decide)) rfl <| y_aloadN X10 hx 15 (hb B d37_14) rfl rfl rfl ?_
  refine st11 _ ?_
  refine y_astoreN X11 hx 19 (hb B d37_18) (L' := #[xvr q1, xvr sx, xvr sx]) rfl rfl rfl ?_
  refine st12 _ ?_
  refine y_ifNo X12 hx 25 (hb B d37_22) (XT.i0_eq_f ST.c1) rfl <| y_aloadN X12 hx 26 (hb B d37_25) rfl rfl rfl ?_
  refine st13 _ ?_
  refine y_aloadN X13 hx 30 (hb B d37_29) rfl rfl rfl ?_
  refine st14 _ ?_
  refine y_icmpNo X14 hx 36 (hb B d37_33) (XT.ii_ne_f (by decide)) rfl <| y_aloadN X14 hx 37 (hb B d37_36) rfl rfl rfl ?_
  refine st15 _ ?_
  refine y_aloadN X15 hx 41 (hb B d37_40) rfl rfl rfl ?_
  refine st16 _ ?_
  refine st17 _ ?_
  refine y_ifNo X17 hx 50 (hb B d37_47) (XT.i0_eq_f (by decide)) rfl <| y_iconst X17 hx (1 : Int32) 51 (hb B d37_50) rfl rfl <| y_goto X17 hx 55 (hb B d37_51) rfl rfl ?_
  show Sx p e below T17 m 55 #[xvr q1, xvr sx, xvr sx] [xwi (1 : Int32)] _
  exact retN X17 hx (t := .boolean) Bd.returns (by simp) (hb B d37_55) (hr)
 ·show QrmSEs Z G q1 w1 kq cq sx vx kb cx h0 n0 _ T17.heap _
  rw [e17]
  exact ⟨rfl, N17, rfl⟩
def d38_24 : DC kc38 24 (.iconst 0) 1 := by decide +kernel
def d38_25 : DC kc38 25 (.ireturn) 1 := by decide +kernel
def QrmLEd (Z : State) (G : Gs) (w1 vx : Addr) (kq kb : ClassId) (cq cx : Int32) (h0 : Heap) (n0 : Nat) (v : Option Value) (h : Heap) (L : List Loc) : Prop := v = some ZI ∧ Fr n0 L ∧ h = h0
theorem rmLEd (l : Launch) (Z : State) (a0 : Array Value) (hw : HW a0 Z) (G : Gs) (ST : StartF Z G) (ws : List Jvm.Cond) (w1 vx : Addr) (kq kb : ClassId) (cq cx : Int32) (h0 : Heap) (n0 : Nat) (X00 : Old Z n0 h0) (V1 : Arv Z h0 w1 kq .byte (1 : Int32) [(.int cq.toInt8.toInt32)] ZI) (V2 : Arv Z h0 vx kb .byte (1 : Int32) [(.int cx.toInt8.toInt32)] ZI) (he : ¬ cq.toInt8.toInt32 = cx.toInt8.toInt32) :
  MF l Z ws mm7 jdk_43_method_13_code 3 (some .boolean) (rk 0 0 0 0) #[(.ref w1), (.ref vx)] h0 (QrmLEd Z G w1 vx kq kb cq cx h0 n0) := by
 refine MetFree.of_bodySF (plainFor_of_name pn_0) hisR ?_
 intro p e s m args below meth c s₁ Bd hml0 hP hK
 obtain ⟨rfl, hZ, hh⟩ := hP
 have hx := Bd.exec
 have B := Bd.bytes
 have X0 : Stand p l e (rk 0 0 0 0) s m #[(.ref w1), (.ref vx)] below meth c s₁ [] 0 0 := Stand.of_body Bd
 have e0 : s₁.heap = h0 := by rw [← hh, Bd.state]; rfl
 have N0 := Fr.nil n0
 obtain ⟨TG, hTG, pre0⟩ := own_pre p e below s₁ (ef_rmLEs m w1 vx )
 obtain ⟨cl10, Ar10, q10, S10, M10, H10, G10⟩ := id V1
 obtain ⟨cl11, Ar11, q11, S11, M11, H11, G11⟩ := id V2
 obtain ⟨cl12, Ar12, q12, S12, M12, H12, G12⟩ := id V1
 obtain ⟨cl13, Ar13, q13, S13, M13, H13, G13⟩ := id V1
 have in13 : ¬ ((0 : Int32) < 0 ∨ cl13.slots.size ≤ ((0 : Int32)).toNatClampNeg) := inb_of S13 ⟨by decide, by decide⟩
 obtain ⟨cl14, Ar14, q14, S14, M14, H14, G14⟩ := id V2
 have in14 : ¬ ((0 : Int32) < 0 ∨ cl14.slots.size ≤ ((0 : Int32)).toNatClampNeg) := inb_of S14 ⟨by decide, by decide⟩
 obtain ⟨fs, hr, hrun, hended, hW, hsame⟩ := X0.leave (v := some ZI) (own_rv Bd.returns)
 refine ⟨_, _, hTG _ (pre0 _ ?_), hrun, hended, _, _, rfl, ?_, ⟨_, rfl⟩, hW, hsame.mono (by decide) (by decide)⟩
 ·refine y_aloadN X0 hx 1 (hb B d38_0) rfl rfl rfl ?_
  refine X0.arraylength hx (by rw [e0]; exact Ar10.1) (State.isArrayOf_alike hZ.alike Ar10.2.1) (g := (mkF m 1 #[xvr w1, xvr vx, xun] [xwr w1])) rfl rfl (hb B d38_1) _ ?_
  rw [len_of S10 M10]
  refine y_aloadN X0 hx 3 (hb B d38_2) rfl rfl rfl ?_
  show Sx p e below s₁ m 3 #[xvr w1, xvr vx, xun] [xwr vx, xwi (1 : Int32)] _
  refine X0.arraylength hx (by rw [e0]; exact Ar11.1) (State.isArrayOf_alike hZ.alike Ar11.2.1) (g := (mkF m 3 #[xvr w1, xvr vx, xun] [xwr vx, xwi (1 : Int32)])) rfl rfl (hb B d38_3) _ ?_
  rw [len_of S11 M11]
  refine y_icmpNo X0 hx 7 (hb B d38_4) (XT.ii_ne_f (by decide)) rfl <| y_iconst X0 hx (0 : Int32) 8 (hb B d38_7) rfl rfl <| y_istoreN X0 hx 9 (hb B d38_8) (L' := #[xvr w1, xvr vx, xvi (0 : Int32)]) rfl rfl <| y_iloadN X0 hx 10 (hb B d38_9) rfl rfl <| y_aloadN X0 hx 11 (hb B d38_10) rfl rfl rfl ?_
  show Sx p e below s₁ m 11 #[xvr w1, xvr vx, xvi (0 : Int32)] [xwr w1, xwi (0 : Int32)] _
  refine X0.arraylength hx (by rw [e0]; exact Ar12.1) (State.isArrayOf_alike hZ.alike Ar12.2.1) (g := (mkF m 11 #[xvr w1, xvr vx, xvi (0 : Int32)] [xwr w1, xwi (0 : Int32)])) rfl rfl (hb B d38_11) _ ?_
  rw [len_of S12 M12]
  refine y_icmpNo X0 hx 15 (hb B d38_12) (XT.ii_ge_f (by decide)) rfl <| y_aloadN X0 hx 16 (hb B d38_15) rfl rfl rfl <| y_iloadN X0 hx 17 (hb B d38_16) rfl rfl ?_
  refine X0.baloadBytes hx (j := (0 : Int32)) (v := (.int cq.toInt8.toInt32)) (by rw [e0]; exact Ar13.1) (State.isArrayOf_alike hZ.alike Ar13.2.1) Ar13.2.2 in13 (Has.at H13 in13 rfl) (g := (mkF m 17 #[xvr w1, xvr vx, xvi (0 : Int32)] [xwi (0 : Int32), xwr w1])) rfl rfl (hb B d38_17) _ ?_
  refine y_aloadN X0 hx 19 (hb B d38_18) rfl rfl rfl <| y_iloadN X0 hx 20 (hb B d38_19) rfl rfl ?_
  refine X0.baloadBytes hx (j := (0 : Int32)) (v := (.int cx.toInt8.toInt32)) (by rw [e0]; exact Ar14.1) (State.isArrayOf_alike hZ.alike Ar14.2.1) Ar14.2.2 in14 (Has.at H14 in14 rfl) (g := (mkF m 20 #[xvr w1, xvr vx, xvi (0 : Int32)] [xwi (0 : Int32), xwr vx, xwi cq.toInt8.toInt32])) rfl rfl (hb B d38_20) _ ?_
  refine y_icmpNo X0 hx 24 (hb B d38_21) (XT.ii_eq_f he) rfl <| y_iconst X0 hx (0 : Int32) 25 (hb B d38_24) rfl rfl ?_
  show Sx p e below s₁ m 25 #[xvr w1, xvr vx, xvi (0 : Int32)] [xwi (0 : Int32)] _
  exact retN X0 hx (t := .boolean) Bd.returns (by simp) (hb B d38_25) (hr)
 ·show QrmLEd Z G w1 vx kq kb cq cx h0 n0 _ s₁.heap _
  rw [e0]
  exact ⟨rfl, N0, rfl⟩
def d37_54 : DC kc37 54 (.iconst 0) 1 := by decide +kernel
def QrmSEd (Z : State) (G : Gs) (q1 w1 : Addr) (kq : ClassId) (cq : Int32) (sx vx : Addr) (kb : ClassId) (cx : Int32) (h0 : Heap) (n0 : Nat) (v : Option Value) (h : Heap) (L : List Loc) : Prop := v = some ZI ∧ Fr n0 L ∧ h = h0
theorem rmSEd (l : Launch) (Z : State) (a0 : Array Value) (hw : HW a0 Z) (G : Gs) (ST : StartF Z G) (ws : List Jvm.Cond) (q1 w1 : Addr) (kq : ClassId) (cq : Int32) (sx vx : Addr) (kb : ClassId) (cx : Int32) (h0 : Heap) (n0 : Nat) (X00 : Old Z n0 h0) (qE : Exa Z h0 q1 sg1) (qC : Fld Z h0 q1 sg1 "coder" "B" ZI) (qW : Fld Z h0 q1 sg1 "value" "[B" (.ref w1)) (qA : Arv Z h0 w1 kq .byte (1 : Int32) [(.int cq.toInt8.toInt32)] ZI) (sE : Exa Z h0 sx sg1) (sC : Fld Z h0 sx sg1 "coder" "B" ZI) (sW : Fld Z h0 sx sg1 "value" "[B" (.ref vx)) (sA : Arv Z h0 vx kb .byte (1 : Int32) [(.int cx.toInt8.toInt32)] ZI) (nqs : q1 ≠ sx) (he : ¬ cq.toInt8.toInt32 = cx.toInt8.toInt32) :
  MF l Z ws mm8 jdk_42_method_66_code 3 (some .boolean) (rk 1 0 0 14) #[(.ref q1), (.ref sx)] h0 (QrmSEd Z G q1 w1 kq cq sx vx kb cx h0 n0) := by
 refine MetFree.of_bodySF (plainFor_of_name pn_1) hisR ?_
 intro p e s m args below meth c s₁ Bd hml0 hP hK
 obtain ⟨rfl, hZ, hh⟩ := hP
 have hx := Bd.exec
 have B := Bd.bytes
 have hml : c.maxLocals = 3 := hml0
 have hown : s.vm.findClass sg1 = some m.cls := findClass_of_methodNamed Bd.named
 have X0 : Stand p l e (rk 1 0 0 14) s m #[(.ref q1), (.ref sx)] below meth c s₁ [] 0 0 := Stand.of_body Bd
 have e0 : s₁.heap = h0 := by rw [← hh, Bd.state]; rfl
 have N0 := Fr.nil n0
 obtain ⟨TG, hTG, pre0⟩ := own_pre p e below s₁ (ef_rmLEs m q1 sx )
 obtain ⟨T10, X10, e10, st10⟩ := instY X0 hx hZ hown (w_9 hw) e0 (Ins.self sE) (g := (mkF m 8 #[xvr q1, xvr sx, xun] [xwr sx])) rfl rfl (hb B d37_8)
 obtain ⟨T11, X11, e11, st11⟩ := castY X10 hx hZ hown (w_9 hw) e10 (Ins.self sE) (g := (mkF m 15 #[xvr q1, xvr sx, xun] [xwr sx])) rfl rfl (hb B d37_15)
 obtain ⟨T12, X12, e12, st12⟩ := getS2 X11 hx hZ hown (host := "") (Or.inl (w_4 hw)) Via.refl e11 (ST.c0.ext X00.2) (g := (mkF m 19 #[xvr q1, xvr sx, xvr sx] [])) rfl (hb B d37_19)
 obtain ⟨T13, X13, e13, st13⟩ := getF X12 hx hZ hown (host := "") (Or.inl (w_24 hw)) Via.refl e12 qC (g := (mkF m 26 #[xvr q1, xvr sx, xvr sx] [xwr q1])) rfl rfl (hb B d37_26)
 obtain ⟨T14, X14, e14, st14⟩ := getF X13 hx hZ hown (host := "") (Or.inl (w_24 hw)) Via.refl e13 sC (g := (mkF m 30 #[xvr q1, xvr sx, xvr sx] [xwr sx, xwi (0 : Int32)])) rfl rfl (hb B d37_30)
 obtain ⟨T15, X15, e15, st15⟩ := getF X14 hx hZ hown (host := "") (Or.inl (w_22 hw)) Via.refl e14 qW (g := (mkF m 37 #[xvr q1, xvr sx, xvr sx] [xwr q1])) rfl rfl (hb B d37_37)
 obtain ⟨T16, X16, e16, st16⟩ := getF X15 hx hZ hown (host := "") (Or.inl (w_22 hw)) Via.refl e15 sW (g := (mkF m 41 #[xvr q1, xvr sx, xvr sx] [xwr sx, xwr w1])) rfl rfl (hb B d37_41)
 obtain ⟨_, _, ⟨T17, L17, k17, n17⟩, -, X17, ⟨Lc17, hQ17, l17, y17, z17⟩, st17⟩ := Jvm.LawKit.callS X16 hx (y := mm7) hown (mvT hZ (w_256 hw)) (mvT hZ (w_257 hw)) (mvT hZ (w_7 hw)) (mvT hZ (w_258 hw)) (by decide) (backOf (W := 0) (rmLEd l Z a0 hw G ST [] w1 vx _ _ cq cx h0 n0 X00 qA sA he) hZ (w_258 hw) (w_7 hw) (by decide) (by decide)) (g := (mkF m 44 #[xvr q1, xvr sx, xvr sx] [xwr vx, xwr w1])) rfl (by rw [hml]; rfl) (argsL := [(.ref w1), (.ref vx)]) (rest := []) (lenOf pd_5 rfl) rfl (Nat.le_of_eq rfl) (hb B d37_44) (fun _ _ => ⟨rfl, e16, (by decide : 0 + 0 ≤ _), (by decide : 0 + 0 ≤ _)⟩)
 dsimp only [Pt.U, Pt.locs, Pt.cells, Pt.slots] at X17 l17 y17 z17 st17 hQ17
 subst l17 y17 z17
 obtain ⟨rfl, N17q, e17⟩ := hQ17
 have N17 := Fr.app N0 N17q
 obtain ⟨fs, hr, hrun, hended, hW, hsame⟩ := X17.leave (v := some ZI) (own_rv Bd.returns)
 refine ⟨_, _, hTG _ (pre0 _ ?_), hrun, hended, _, _, rfl, ?_, ⟨_, rfl⟩, hW, hsame.mono (by decide) (by decide)⟩
 ·refine y_aloadN X0 hx 1 (hb B d37_0) rfl rfl rfl <| y_aloadN X0 hx 2 (hb B d37_1) rfl rfl rfl ?_
  refine Jvm.RoadKit.acmp (g := (mkF m 2 #[xvr q1, xvr sx, xun] [xwr sx, xwr q1])) X0 hx rfl rfl rfl (pc0 := 2) (pc' := 7) (same := false) rfl (hb B d37_2) rfl (decide_eq_false fun q => nqs (Value.ref.inj q)) (by decide) (by decide) ?_
  refine y_aloadN X0 hx 8 (hb B d37_7) rfl rfl rfl ?_
  refine st10 _ ?_
  refine y_ifNo X10 hx 14 (hb B d37_11) (XT.i0_eq_f (by decide)) rfl <| y_aloadN X10 hx 15 (hb B d37_14) rfl rfl rfl ?_
  refine st11 _ ?_
  refine y_astoreN X11 hx 19 (hb B d37_18) (L' := #[xvr q1, xvr sx, xvr sx]) rfl rfl rfl ?_
  refine st12 _ ?_
  refine y_ifNo X12 hx 25 (hb B d37_22) (XT.i0_eq_f ST.c1) rfl <| y_aloadN X12 hx 26 (hb B d37_25) rfl rfl rfl ?_
  refine st13 _ ?_
  refine y_aloadN X13 hx 30 (hb B d37_29) rfl rfl rfl ?_
  refine st14 _ ?_
  refine y_icmpNo X14 hx 36 (hb B d37_33) (XT.ii_ne_f (by decide)) rfl <| y_aloadN X14 hx 37 (hb B d37_36) rfl rfl rfl ?_
  refine st15 _ ?_
  refine y_aloadN X15 hx 41 (hb B d37_40) rfl rfl rfl ?_
  refine st16 _ ?_
  refine st17 _ ?_
  refine y_ifYes X17 hx 54 (hb B d37_47) (XT.i0_eq_t (by decide)) rfl rfl <| y_iconst X17 hx (0 : Int32) 55 (hb B d37_54) rfl rfl ?_
  show Sx p e below T17 m 55 #[xvr q1, xvr sx, xvr sx] [xwi (0 : Int32)] _
  exact retN X17 hx (t := .boolean) Bd.returns (by simp) (hb B d37_55) (hr)
 ·show QrmSEd Z G q1 w1 kq cq sx vx kb cx h0 n0 _ T17.heap _
  rw [e17]
  exact ⟨rfl, N17, rfl⟩
abbrev kc26 : ByteArray := prog_54_method_7_code
def d26_0 : DC kc26 0 (.aload_n 1) 1 := by decide +kernel
def d26_1 : DC kc26 1 (.invokevirtual 105) 3 := by decide +kernel
theorem pd_6 : parseMethodDescriptor "()I" = some ⟨[], some .int⟩ := by decide +kernel
def d26_4 : DC kc26 4 (.ldc 108) 2 := by decide +kernel
def d26_6 : DC kc26 6 (.imul) 1 := by decide +kernel
def d26_7 : DC kc26 7 (.aload_n 0) 1 := by decide +kernel
def d26_8 : DC kc26 8 (.getfield 50) 3 := by decide +kernel
def d26_11 : DC kc26 11 (.iushr) 1 := by decide +kernel
def d26_12 : DC kc26 12 (.istore_n 2) 1 := by decide +kernel
def d26_13 : DC kc26 13 (.aload_n 0) 1 := by decide +kernel
def d26_14 : DC kc26 14 (.getfield 40) 3 := by decide +kernel
def d26_17 : DC kc26 17 (.iload_n 2) 1 := by decide +kernel
def d26_18 : DC kc26 18 (.aaload) 1 := by decide +kernel
def d26_19 : DC kc26 19 (.ifnull 31) 3 := by decide +kernel
def d26_50 : DC kc26 50 (.iload_n 2) 1 := by decide +kernel
def d26_51 : DC kc26 51 (.ireturn) 1 := by decide +kernel
theorem pn_2 : plainName "com/example/planwright/planwright/model/LatestPayDates" = true := by first | (simp [plainName, overriddenIn]; done) | decide +kernel
def QrmS0 (Z : State) (G : Gs) (ta pa : Addr) (kp : ClassId) (sl sf : Int32) (pv : List Value) (sx vx : Addr) (kb : ClassId) (cx : Int32) (h0 : Heap) (n0 : Nat) (v : Option Value) (h : Heap) (L : List Loc) : Prop := v = some (.int (hs cx sf)) ∧ Fr n0 L ∧ Keep h0 h [sx] ∧ Exa Z h sx sg1 ∧ Fld Z h sx sg1 "coder" "B" ZI ∧ Fld Z h sx sg1 "value" "[B" (.ref vx)
theorem rmS0 (l : Launch) (Z : State) (a0 : Array Value) (hw : HW a0 Z) (G : Gs) (ST : StartF Z G) (ws : List Jvm.Cond) (ta pa : Addr) (kp : ClassId) (sl sf : Int32) (pv : List Value) (sx vx : Addr) (kb : ClassId) (cx : Int32) (h0 : Heap) (n0 : Nat) (X00 : Old Z n0 h0) (tE : Exa Z h0 ta sg0) (tP : Fld Z h0 ta sg0 sg8 sg5 (.ref pa)) (tS : Fld Z h0 ta sg0 "shift" "I" (.int sf)) (tV : Arv Z h0 pa kp (.object sg1) sl pv .null) (hsl : SLS sl sf) (sE : Exa Z h0 sx sg1) (sC : Fld Z h0 sx sg1 "coder" "B" ZI) (sW : Fld Z h0 sx sg1 "value" "[B" (.ref vx)) (sA : Arv Z h0 vx kb .byte (1 : Int32) [(.int cx.toInt8.toInt32)] ZI) (sH : Fld Z h0 sx sg1 "hash" "I" ZI) (sZ : Fld Z h0 sx sg1 "hashIsZero" "Z" ZI) (sg : n0 ≤ sx) (hc : (¬ cx < 0 ∧ ¬ (255 : Int32) < cx)) (hu0 : pv.getD (hs cx sf).toNatClampNeg .null = .null) :
  MF l Z ws mm9 prog_54_method_7_code 3 (some .int) (rk 2 0 0 25) #[(.ref ta), (.ref sx)] h0 (QrmS0 Z G ta pa kp sl sf pv sx vx kb cx h0 n0) := by
 refine MetFree.of_bodySF (plainFor_of_name pn_2) hisR ?_
 intro p e s m args below meth c s₁ Bd hml0 hP hK
 obtain ⟨rfl, hZ, hh⟩ := hP
 have hx := Bd.exec
 have B := Bd.bytes
 have hml : c.maxLocals = 3 := hml0
 have hown : s.vm.findClass sg0 = some m.cls := findClass_of_methodNamed Bd.named
 have X0 : Stand p l e (rk 2 0 0 25) s m #[(.ref ta), (.ref sx)] below meth c s₁ [] 0 0 := Stand.of_body Bd
 have e0 : s₁.heap = h0 := by rw [← hh, Bd.state]; rfl
 have N0 := Fr.nil n0
 obtain ⟨TG, hTG, pre0⟩ := own_pre p e below s₁ (ef_rmLEs m ta sx )
 obtain ⟨cq10, kq10, q10a, q10b, q10c⟩ := isOf hZ e0 sE
 obtain ⟨_, _, ⟨T11, L11, k11, n11⟩, -, X11, ⟨Lc11, hQ11, l11, y11, z11⟩, st11⟩ := X0.virtualBack hx (y := mm6) (z := mm6) hown (mvT hZ (w_186 hw)) (mvT hZ (w_187 hw)) (notFace_of_selects (args := #[]) (mvT hZ (w_189 hw))) (mvT hZ (w_189 hw)) (mvT hZ (w_188 hw)) (by decide) (backOf (W := 0) (rmHC l Z a0 hw G ST [] sx vx _ cx h0 n0 X00 sE sC sW sA sH sZ sg hc) hZ (w_190 hw) (w_2 hw) (by decide) (by decide)) q10a q10c (g := (mkF m 1 #[xvr ta, xvr sx, xun] [xwr sx])) rfl (by rw [hml]; rfl) (Steps.refl _) (argsL := []) (rest := []) (lenOf pd_6 rfl) rfl (Nat.le_of_eq rfl) (hb B d26_1) (fun _ _ => ⟨rfl, e0, (by decide : 0 + 0 ≤ _), (by decide : 0 + 0 ≤ _)⟩)
 dsimp only [Pt.U, Pt.locs, Pt.cells, Pt.slots] at X11 l11 y11 z11 st11 hQ11
 subst l11 y11 z11
 obtain ⟨hp11, e11⟩ : ∃ z, T11.heap = z := ⟨_, rfl⟩
 rw [e11] at hQ11
 obtain ⟨rfl, N11q, K11, p12, p13, p14⟩ := hQ11
 have N11 := Fr.app N0 N11q
 have f15 := (tE.keep K11)
 have f16 := (tS.keep K11 (ninS (Exa.ne f15 p12 (by decide)) nin0))
 obtain ⟨T17, X17, e17, st17⟩ := getF X11 hx hZ hown (host := "") (Or.inl (w_159 hw)) Via.refl e11 f16 (g := (mkF m 8 #[xvr ta, xvr sx, xun] [xwr ta, xwi (cx * (-1640531527 : Int32))])) rfl rfl (hb B d26_8)
 have f18 := (tP.keep K11 (ninS (Exa.ne f15 p12 (by decide)) nin0))
 obtain ⟨T19, X19, e19, st19⟩ := getF X17 hx hZ hown (host := "") (Or.inl (w_153 hw)) Via.refl e17 f18 (g := (mkF m 14 #[xvr ta, xvr sx, xvi (hs cx sf)] [xwr ta])) rfl rfl (hb B d26_14)
 have f20 := (tV.keep K11 (ninS (Ne.symm (Exa.neArv sE tV (w_10 hw))) nin0))
 obtain ⟨cl21, Ar21, q21, S21, M21, H21, G21⟩ := id f20
 have in21 : ¬ ((hs cx sf) < 0 ∨ cl21.slots.size ≤ ((hs cx sf)).toNatClampNeg) := inb_of S21 (own_hs hsl cx)
 obtain ⟨fs, hr, hrun, hended, hW, hsame⟩ := X19.leave (v := some (.int (hs cx sf))) (own_rv Bd.returns)
 refine ⟨_, _, hTG _ (pre0 _ ?_), hrun, hended, _, _, rfl, ?_, ⟨_, rfl⟩, hW, hsame.mono (by decide) (by decide)⟩
 ·refine y_aloadN X0 hx 1 (hb B d26_0) rfl rfl rfl ?_
  refine st11.trans ?_
  show Sx p e below T11 m 4 #[xvr ta, xvr sx, xun] [xwi cx] _
  refine X11.ldcInt hx hown (mvT hZ (w_203 hw)) (g := (mkF m 4 #[xvr ta, xvr sx, xun] [xwi cx])) rfl (hb B d26_4) _ ?_
  refine y_imul X11 hx 7 (hb B d26_6) rfl <| y_aloadN X11 hx 8 (hb B d26_7) rfl rfl rfl ?_
  refine st17 _ ?_
  refine XS.iushr X17.here hx rfl (hb B d26_11) rfl ?_
  show Sx p e below T17 m 12 #[xvr ta, xvr sx, xun] [xwi (((cx * (-1640531527 : Int32)).toUInt32 >>> (sf &&& 31).toUInt32).toInt32)] _
  rw [show (((cx * (-1640531527 : Int32)).toUInt32 >>> (sf &&& 31).toUInt32).toInt32) = hs cx sf from rfl]
  refine y_istoreN X17 hx 13 (hb B d26_12) (L' := #[xvr ta, xvr sx, xvi (hs cx sf)]) rfl rfl <| y_aloadN X17 hx 14 (hb B d26_13) rfl rfl rfl ?_
  refine st19 _ ?_
  refine y_iloadN X19 hx 18 (hb B d26_17) rfl rfl ?_
  refine X19.aaload hx (j := (hs cx sf)) (v := .null) (by rw [e19]; exact Ar21.1) (State.isArrayOf_alike hZ.alike Ar21.2.1) rfl Ar21.2.2 in21 (Has.at H21 in21 hu0) (g := (mkF m 18 #[xvr ta, xvr sx, xvi (hs cx sf)] [xwi (hs cx sf), xwr pa])) rfl rfl (hb B d26_18) _ ?_
  show Sx p e below T19 m 19 #[xvr ta, xvr sx, xvi (hs cx sf)] [.null] _
  refine XS.ifnullYes X19.here hx rfl (pc0 := 19) (pc' := 50) rfl (hb B d26_19) rfl (by decide) (by decide) ?_
  refine y_iloadN X19 hx 51 (hb B d26_50) rfl rfl ?_
  show Sx p e below T19 m 51 #[xvr ta, xvr sx, xvi (hs cx sf)] [xwi (hs cx sf)] _
  exact retOut X19 hx Bd.returns rfl (Or.inl ⟨rfl, Or.inl rfl, _, rfl⟩) (hb B d26_51) hr
 ·show QrmS0 Z G ta pa kp sl sf pv sx vx kb cx h0 n0 _ T19.heap _
  rw [e19]
  exact ⟨rfl, N11, ((Keep.refl h0 [sx]).trans K11 (allS (oi 0 rfl) all0)), p12, p13, p14⟩
def d26_22 : DC kc26 22 (.aload_n 0) 1 := by decide +kernel
def d26_23 : DC kc26 23 (.getfield 40) 3 := by decide +kernel
def d26_26 : DC kc26 26 (.iload_n 2) 1 := by decide +kernel
def d26_27 : DC kc26 27 (.aaload) 1 := by decide +kernel
def d26_28 : DC kc26 28 (.aload_n 1) 1 := by decide +kernel
def d26_29 : DC kc26 29 (.invokevirtual 109) 3 := by decide +kernel
theorem pd_7 : parseMethodDescriptor "(Ljava/lang/Object;)Z" = some ⟨[(.object "java/lang/Object")], some .boolean⟩ := by decide +kernel
def d26_32 : DC kc26 32 (.ifCond .ne 18) 3 := by decide +kernel
def QrmS1 (Z : State) (G : Gs) (ta pa : Addr) (kp : ClassId) (sl sf : Int32) (pv : List Value) (sx vx : Addr) (kb : ClassId) (cx : Int32) (q1 w1 : Addr) (kq : ClassId) (cq : Int32) (h0 : Heap) (n0 : Nat) (v : Option Value) (h : Heap) (L : List Loc) : Prop := v = some (.int (hs cx sf)) ∧ Fr n0 L ∧ Keep h0 h [sx] ∧ Exa Z h sx sg1 ∧ Fld Z h sx sg1 "coder" "B" ZI ∧ Fld Z h sx sg1 "value" "[B" (.ref vx)
theorem rmS1 (l : Launch) (Z : State) (a0 : Array Value) (hw : HW a0 Z) (G : Gs) (ST : StartF Z G) (ws : List Jvm.Cond) (ta pa : Addr) (kp : ClassId) (sl sf : Int32) (pv : List Value) (sx vx : Addr) (kb : ClassId) (cx : Int32) (q1 w1 : Addr) (kq : ClassId) (cq : Int32) (h0 : Heap) (n0 : Nat) (X00 : Old Z n0 h0) (tE : Exa Z h0 ta sg0) (tP : Fld Z h0 ta sg0 sg8 sg5 (.ref pa)) (tS : Fld Z h0 ta sg0 "shift" "I" (.int sf)) (tV : Arv Z h0 pa kp (.object sg1) sl pv .null) (hsl : SLS sl sf) (sE : Exa Z h0 sx sg1) (sC : Fld Z h0 sx sg1 "coder" "B" ZI) (sW : Fld Z h0 sx sg1 "value" "[B" (.ref vx)) (sA : Arv Z h0 vx kb .byte (1 : Int32) [(.int cx.toInt8.toInt32)] ZI) (sH : Fld Z h0 sx sg1 "hash" "I" ZI) (sZ : Fld Z h0 sx sg1 "hashIsZero" "Z" ZI) (sg : n0 ≤ sx) (hc : (¬ cx < 0 ∧ ¬ (255 : Int32) < cx)) (qE : Exa Z h0 q1 sg1) (qC : Fld Z h0 q1 sg1 "coder" "B" ZI) (qW : Fld Z h0 q1 sg1 "value" "[B" (.ref w1)) (qA : Arv Z h0 w1 kq .byte (1 : Int32) [(.int cq.toInt8.toInt32)] ZI) (nqs : q1 ≠ sx) (hu0 : pv.getD (hs cx sf).toNatClampNeg .null = .ref q1) (he : cq.toInt8.toInt32 = cx.toInt8.toInt32) :
  MF l Z ws mm9 prog_54_method_7_code 3 (some .int) (rk 2 0 0 28) #[(.ref ta), (.ref sx)] h0 (QrmS1 Z G ta pa kp sl sf pv sx vx kb cx q1 w1 kq cq h0 n0) := by
 refine MetFree.of_bodySF (plainFor_of_name pn_2) hisR ?_
 intro p e s m args below meth c s₁ Bd hml0 hP hK
 obtain ⟨rfl, hZ, hh⟩ := hP
 have hx := Bd.exec
 have B := Bd.bytes
 have hml : c.maxLocals = 3 := hml0
 have hown : s.vm.findClass sg0 = some m.cls := findClass_of_methodNamed Bd.named
 have X0 : Stand p l e (rk 2 0 0 28) s m #[(.ref ta), (.ref sx)] below meth c s₁ [] 0 0 := Stand.of_body Bd
 have e0 : s₁.heap = h0 := by rw [← hh, Bd.state]; rfl
 have N0 := Fr.nil n0
 obtain ⟨TG, hTG, pre0⟩ := own_pre p e below s₁ (ef_rmLEs m ta sx )
 obtain ⟨cq10, kq10, q10a, q10b, q10c⟩ := isOf hZ e0 sE
 obtain ⟨_, _, ⟨T11, L11, k11, n11⟩, -, X11, ⟨Lc11, hQ11, l11, y11, z11⟩, st11⟩ := X0.virtualBack hx (y := mm6) (z := mm6) hown (mvT hZ (w_186 hw)) (mvT hZ (w_187 hw)) (notFace_of_selects (args := #[]) (mvT hZ (w_189 hw))) (mvT hZ (w_189 hw)) (mvT hZ (w_188 hw)) (by decide) (backOf (W := 0) (rmHC l Z a0 hw G ST [] sx vx _ cx h0 n0 X00 sE sC sW sA sH sZ sg hc) hZ (w_190 hw) (w_2 hw) (by decide) (by decide)) q10a q10c (g := (mkF m 1 #[xvr ta, xvr sx, xun] [xwr sx])) rfl (by rw [hml]; rfl) (Steps.refl _) (argsL := []) (rest := []) (lenOf pd_6 rfl) rfl (Nat.le_of_eq rfl) (hb B d26_1) (fun _ _ => ⟨rfl, e0, (by decide : 0 + 0 ≤ _), (by decide : 0 + 0 ≤ _)⟩)
 dsimp only [Pt.U, Pt.locs, Pt.cells, Pt.slots] at X11 l11 y11 z11 st11 hQ11
 subst l11 y11 z11
 obtain ⟨hp11, e11⟩ : ∃ z, T11.heap = z := ⟨_, rfl⟩
 rw [e11] at hQ11
 obtain ⟨rfl, N11q, K11, p12, p13, p14⟩ := hQ11
 have N11 := Fr.app N0 N11q
 have f15 := (tE.keep K11)
 have f16 := (tS.keep K11 (ninS (Exa.ne f15 p12 (by decide)) nin0))
 obtain ⟨T17, X17, e17, st17⟩ := getF X11 hx hZ hown (host := "") (Or.inl (w_159 hw)) Via.refl e11 f16 (g := (mkF m 8 #[xvr ta, xvr sx, xun] [xwr ta, xwi (cx * (-1640531527 : Int32))])) rfl rfl (hb B d26_8)
 have f18 := (tP.keep K11 (ninS (Exa.ne f15 p12 (by decide)) nin0))
 obtain ⟨T19, X19, e19, st19⟩ := getF X17 hx hZ hown (host := "") (Or.inl (w_153 hw)) Via.refl e17 f18 (g := (mkF m 14 #[xvr ta, xvr sx, xvi (hs cx sf)] [xwr ta])) rfl rfl (hb B d26_14)
 have f20 := (tV.keep K11 (ninS (Ne.symm (Exa.neArv sE tV (w_10 hw))) nin0))
 obtain ⟨cl21, Ar21, q21, S21, M21, H21, G21⟩ := id f20
 have in21 : ¬ ((hs cx sf) < 0 ∨ cl21.slots.size ≤ ((hs cx sf)).toNatClampNeg) := inb_of S21 (own_hs hsl cx)
 obtain ⟨T22, X22, e22, st22⟩ := getF X19 hx hZ hown (host := "") (Or.inl (w_153 hw)) Via.refl e19 f18 (g := (mkF m 23 #[xvr ta, xvr sx, xvi (hs cx sf)] [xwr ta])) rfl rfl (hb B d26_23)
 obtain ⟨cl23, Ar23, q23, S23, M23, H23, G23⟩ := id f20
 have in23 : ¬ ((hs cx sf) < 0 ∨ cl23.slots.size ≤ ((hs cx sf)).toNatClampNeg) := inb_of S23 (own_hs hsl cx)
 have f24 := (qE.keep K11)
 have f25 := (qC.keep K11 (ninS nqs nin0))
 have f26 := (qW.keep K11 (ninS nqs nin0))
 have f27 := (qA.keep K11 (ninS (Ne.symm (Exa.neArv sE qA (w_10 hw))) nin0))
 have f28 := (sA.keep K11 (ninS (Ne.symm (Exa.neArv sE sA (w_10 hw))) nin0))
 have Ol29 : Old Z n0 hp11 := (X00.keep K11 (allS sg all0))
 obtain ⟨cq30, kq30, q30a, q30b, q30c⟩ := isOf hZ e22 f24
 obtain ⟨_, _, ⟨T31, L31, k31, n31⟩, -, X31, ⟨Lc31, hQ31, l31, y31, z31⟩, st31⟩ := X22.virtualBack hx (y := mm8) (z := mm8) hown (mvT hZ (w_251 hw)) (mvT hZ (w_252 hw)) (notFace_of_selects (args := #[]) (mvT hZ (w_254 hw))) (mvT hZ (w_254 hw)) (mvT hZ (w_253 hw)) (by decide) (backOf (W := 0) (rmSEs l Z a0 hw G ST [] q1 w1 _ cq sx vx _ cx hp11 n0 Ol29 f24 f25 f26 f27 p12 p13 p14 f28 nqs he) hZ (w_255 hw) (w_2 hw) (by decide) (by decide)) q30a q30c (g := (mkF m 29 #[xvr ta, xvr sx, xvi (hs cx sf)] [xwr sx, xwr q1])) rfl (by rw [hml]; rfl) (Steps.refl _) (argsL := [(.ref sx)]) (rest := []) (lenOf pd_7 rfl) rfl (Nat.le_of_eq rfl) (hb B d26_29) (fun _ _ => ⟨rfl, e22, (by decide : 0 + 0 ≤ _), (by decide : 0 + 0 ≤ _)⟩)
 dsimp only [Pt.U, Pt.locs, Pt.cells, Pt.slots] at X31 l31 y31 z31 st31 hQ31
 subst l31 y31 z31
 obtain ⟨rfl, N31q, e31⟩ := hQ31
 have N31 := Fr.app N11 N31q
 obtain ⟨fs, hr, hrun, hended, hW, hsame⟩ := X31.leave (v := some (.int (hs cx sf))) (own_rv Bd.returns)
 refine ⟨_, _, hTG _ (pre0 _ ?_), hrun, hended, _, _, rfl, ?_, ⟨_, rfl⟩, hW, hsame.mono (by decide) (by decide)⟩
 ·refine y_aloadN X0 hx 1 (hb B d26_0) rfl rfl rfl ?_
  refine st11.trans ?_
  show Sx p e below T11 m 4 #[xvr ta, xvr sx, xun] [xwi cx] _
  refine X11.ldcInt hx hown (mvT hZ (w_203 hw)) (g := (mkF m 4 #[xvr ta, xvr sx, xun] [xwi cx])) rfl (hb B d26_4) _ ?_
  refine y_imul X11 hx 7 (hb B d26_6) rfl <| y_aloadN X11 hx 8 (hb B d26_7) rfl rfl rfl ?_
  refine st17 _ ?_
  refine XS.iushr X17.here hx rfl (hb B d26_11) rfl ?_
  show Sx p e below T17 m 12 #[xvr ta, xvr sx, xun] [xwi (((cx * (-1640531527 : Int32)).toUInt32 >>> (sf &&& 31).toUInt32).toInt32)] _
  rw [show (((cx * (-1640531527 : Int32)).toUInt32 >>> (sf &&& 31).toUInt32).toInt32) = hs cx sf from rfl]
  refine y_istoreN X17 hx 13 (hb B d26_12) (L' := #[xvr ta, xvr sx, xvi (hs cx sf)]) rfl rfl <| y_aloadN X17 hx 14 (hb B d26_13) rfl rfl rfl ?_
  refine st19 _ ?_
  refine y_iloadN X19 hx 18 (hb B d26_17) rfl rfl ?_
  refine X19.aaload hx (j := (hs cx sf)) (v := (.ref q1)) (by rw [e19]; exact Ar21.1) (State.isArrayOf_alike hZ.alike Ar21.2.1) rfl Ar21.2.2 in21 (Has.at H21 in21 hu0) (g := (mkF m 18 #[xvr ta, xvr sx, xvi (hs cx sf)] [xwi (hs cx sf), xwr pa])) rfl rfl (hb B d26_18) _ ?_
  refine XS.ifnullNo X19.here hx rfl (hb B d26_19) rfl ?_
  refine y_aloadN X19 hx 23 (hb B d26_22) rfl rfl rfl ?_
  refine st22 _ ?_
  refine y_iloadN X22 hx 27 (hb B d26_26) rfl rfl ?_
  refine X22.aaload hx (j := (hs cx sf)) (v := (.ref q1)) (by rw [e22]; exact Ar23.1) (State.isArrayOf_alike hZ.alike Ar23.2.1) rfl Ar23.2.2 in23 (Has.at H23 in23 hu0) (g := (mkF m 27 #[xvr ta, xvr sx, xvi (hs cx sf)] [xwi (hs cx sf), xwr pa])) rfl rfl (hb B d26_27) _ ?_
  refine y_aloadN X22 hx 29 (hb B d26_28) rfl rfl rfl ?_
  refine st31.trans ?_
  refine y_ifYes X31 hx 50 (hb B d26_32) (XT.i0_ne_t (by decide)) rfl rfl <| y_iloadN X31 hx 51 (hb B d26_50) rfl rfl ?_
  show Sx p e below T31 m 51 #[xvr ta, xvr sx, xvi (hs cx sf)] [xwi (hs cx sf)] _
  exact retOut X31 hx Bd.returns rfl (Or.inl ⟨rfl, Or.inl rfl, _, rfl⟩) (hb B d26_51) hr
 ·show QrmS1 Z G ta pa kp sl sf pv sx vx kb cx q1 w1 kq cq h0 n0 _ T31.heap _
  rw [e31]
  exact ⟨rfl, N31, ((Keep.refl h0 [sx]).trans K11 (allS (oi 0 rfl) all0)), p12, p13, p14⟩
def d26_35 : DC kc26 35 (.iload_n 2) 1 := by decide +kernel
def d26_36 : DC kc26 36 (.iconst 1) 1 := by decide +kernel
def d26_37 : DC kc26 37 (.iadd) 1 := by decide +kernel
def d26_38 : DC kc26 38 (.aload_n 0) 1 := by decide +kernel
def d26_39 : DC kc26 39 (.getfield 40) 3 := by decide +kernel
def d26_42 : DC kc26 42 (.arraylength) 1 := by decide +kernel
def d26_43 : DC kc26 43 (.iconst 1) 1 := by decide +kernel
def d26_44 : DC kc26 44 (.isub) 1 := by decide +kernel
def d26_45 : DC kc26 45 (.iand) 1 := by decide +kernel
def d26_46 : DC kc26 46 (.istore_n 2) 1 := by decide +kernel
def d26_47 : DC kc26 47 (.goto (-34)) 3 := by decide +kernel
def QrmS2 (Z : State) (G : Gs) (ta pa : Addr) (kp : ClassId) (sl sf : Int32) (pv : List Value) (sx vx : Addr) (kb : ClassId) (cx : Int32) (q1 w1 : Addr) (kq : ClassId) (cq : Int32) (h0 : Heap) (n0 : Nat) (v : Option Value) (h : Heap) (L : List Loc) : Prop := v = some (.int (nxs cx sf sl)) ∧ Fr n0 L ∧ Keep h0 h [sx] ∧ Exa Z h sx sg1 ∧ Fld Z h sx sg1 "coder" "B" ZI ∧ Fld Z h sx sg1 "value" "[B" (.ref vx)
theorem rmS2 (l : Launch) (Z : State) (a0 : Array Value) (hw : HW a0 Z) (G : Gs) (ST : StartF Z G) (ws : List Jvm.Cond) (ta pa : Addr) (kp : ClassId) (sl sf : Int32) (pv : List Value) (sx vx : Addr) (kb : ClassId) (cx : Int32) (q1 w1 : Addr) (kq : ClassId) (cq : Int32) (h0 : Heap) (n0 : Nat) (X00 : Old Z n0 h0) (tE : Exa Z h0 ta sg0) (tP : Fld Z h0 ta sg0 sg8 sg5 (.ref pa)) (tS : Fld Z h0 ta sg0 "shift" "I" (.int sf)) (tV : Arv Z h0 pa kp (.object sg1) sl pv .null) (hsl : SLS sl sf) (sE : Exa Z h0 sx sg1) (sC : Fld Z h0 sx sg1 "coder" "B" ZI) (sW : Fld Z h0 sx sg1 "value" "[B" (.ref vx)) (sA : Arv Z h0 vx kb .byte (1 : Int32) [(.int cx.toInt8.toInt32)] ZI) (sH : Fld Z h0 sx sg1 "hash" "I" ZI) (sZ : Fld Z h0 sx sg1 "hashIsZero" "Z" ZI) (sg : n0 ≤ sx) (hc : (¬ cx < 0 ∧ ¬ (255 : Int32) < cx)) (qE : Exa Z h0 q1 sg1) (qC : Fld Z h0 q1 sg1 "coder" "B" ZI) (qW : Fld Z h0 q1 sg1 "value" "[B" (.ref w1)) (qA : Arv Z h0 w1 kq .byte (1 : Int32) [(.int cq.toInt8.toInt32)] ZI) (nqs : q1 ≠ sx) (hu0 : pv.getD (hs cx sf).toNatClampNeg .null = .ref q1) (he : ¬ cq.toInt8.toInt32 = cx.toInt8.toInt32) (hu1 : pv.getD (nxs cx sf sl).toNatClampNeg .null = .null) :
  MF l Z ws mm9 prog_54_method_7_code 3 (some .int) (rk 2 0 0 28) #[(.ref ta), (.ref sx)] h0 (QrmS2 Z G ta pa kp sl sf pv sx vx kb cx q1 w1 kq cq h0 n0) := by
 refine MetFree.of_bodySF (plainFor_of_name pn_2) hisR ?_
 intro p e s m args below meth c s₁ Bd hml0 hP hK
 obtain ⟨rfl, hZ, hh⟩ := hP
 have hx := Bd.exec
 have B := Bd.bytes
 have hml : c.maxLocals = 3 := hml0
 have hown : s.vm.findClass sg0 = some m.cls := findClass_of_methodNamed Bd.named
 have X0 : Stand p l e (rk 2 0 0 28) s m #[(.ref ta), (.ref sx)] below meth c s₁ [] 0 0 := Stand.of_body Bd
 have e0 : s₁.heap = h0 := by rw [← hh, Bd.state]; rfl
 have N0 := Fr.nil n0
 obtain ⟨TG, hTG, pre0⟩ := own_pre p e below s₁ (ef_rmLEs m ta sx )
 obtain ⟨cq10, kq10, q10a, q10b, q10c⟩ := isOf hZ e0 sE
 obtain ⟨_, _, ⟨T11, L11, k11, n11⟩, -, X11, ⟨Lc11, hQ11, l11, y11, z11⟩, st11⟩ := X0.virtualBack hx (y := mm6) (z := mm6) hown (mvT hZ (w_186 hw)) (mvT hZ (w_187 hw)) (notFace_of_selects (args := #[]) (mvT hZ (w_189 hw))) (mvT hZ (w_189 hw)) (mvT hZ (w_188 hw)) (by decide) (backOf (W := 0) (rmHC l Z a0 hw G ST [] sx vx _ cx h0 n0 X00 sE sC sW sA sH sZ sg hc) hZ (w_190 hw) (w_2 hw) (by decide) (by decide)) q10a q10c (g := (mkF m 1 #[xvr ta, xvr sx, xun] [xwr sx])) rfl (by rw [hml]; rfl) (Steps.refl _) (argsL := []) (rest := []) (lenOf pd_6 rfl) rfl (Nat.le_of_eq rfl) (hb B d26_1) (fun _ _ => ⟨rfl, e0, (by decide : 0 + 0 ≤ _), (by decide : 0 + 0 ≤ _)⟩)
 dsimp only [Pt.U, Pt.locs, Pt.cells, Pt.slots] at X11 l11 y11 z11 st11 hQ11
 subst l11 y11 z11
 obtain ⟨hp11, e11⟩ : ∃ z, T11.heap = z := ⟨_, rfl⟩
 rw [e11] at hQ11
 obtain ⟨rfl, N11q, K11, p12, p13, p14⟩ := hQ11
 have N11 := Fr.app N0 N11q
 have f15 := (tE.keep K11)
 have f16 := (tS.keep K11 (ninS (Exa.ne f15 p12 (by decide)) nin0))
 obtain ⟨T17, X17, e17, st17⟩ := getF X11 hx hZ hown (host := "") (Or.inl (w_159 hw)) Via.refl e11 f16 (g := (mkF m 8 #[xvr ta, xvr sx, xun] [xwr ta, xwi (cx * (-1640531527 : Int32))])) rfl rfl (hb B d26_8)
 have f18 := (tP.keep K11 (ninS (Exa.ne f15 p12 (by decide)) nin0))
 obtain ⟨T19, X19, e19, st19⟩ := getF X17 hx hZ hown (host := "") (Or.inl (w_153 hw)) Via.refl e17 f18 (g := (mkF m 14 #[xvr ta, xvr sx, xvi (hs cx sf)] [xwr ta])) rfl rfl (hb B d26_14)
 have f20 := (tV.keep K11 (ninS (Ne.symm (Exa.neArv sE tV (w_10 hw))) nin0))
 obtain ⟨cl21, Ar21, q21, S21, M21, H21, G21⟩ := id f20
 have in21 : ¬ ((hs cx sf) < 0 ∨ cl21.slots.size ≤ ((hs cx sf)).toNatClampNeg) := inb_of S21 (own_hs hsl cx)
 obtain ⟨T22, X22, e22, st22⟩ := getF X19 hx hZ hown (host := "") (Or.inl (w_153 hw)) Via.refl e19 f18 (g := (mkF m 23 #[xvr ta, xvr sx, xvi (hs cx sf)] [xwr ta])) rfl rfl (hb B d26_23)
 obtain ⟨cl23, Ar23, q23, S23, M23, H23, G23⟩ := id f20
 have in23 : ¬ ((hs cx sf) < 0 ∨ cl23.slots.size ≤ ((hs cx sf)).toNatClampNeg) := inb_of S23 (own_hs hsl cx)
 have f24 := (qE.keep K11)
 have f25 := (qC.keep K11 (ninS nqs nin0))
 have f26 := (qW.keep K11 (ninS nqs nin0))
 have f27 := (qA.keep K11 (ninS (Ne.symm (Exa.neArv sE qA (w_10 hw))) nin0))
 have f28 := (sA.keep K11 (ninS (Ne.symm (Exa.neArv sE sA (w_10 hw))) nin0))
 have Ol29 : Old Z n0 hp11 := (X00.keep K11 (allS sg all0))
 obtain ⟨cq30, kq30, q30a, q30b, q30c⟩ := isOf hZ e22 f24
 obtain ⟨_, _, ⟨T31, L31, k31, n31⟩, -, X31, ⟨Lc31, hQ31, l31, y31, z31⟩, st31⟩ := X22.virtualBack hx (y := mm8) (z := mm8) hown (mvT hZ (w_251 hw)) (mvT hZ (w_252 hw)) (notFace_of_selects (args := #[]) (mvT hZ (w_254 hw))) (mvT hZ (w_254 hw)) (mvT hZ (w_253 hw)) (by decide) (backOf (W := 0) (rmSEd l Z a0 hw G ST [] q1 w1 _ cq sx vx _ cx hp11 n0 Ol29 f24 f25 f26 f27 p12 p13 p14 f28 nqs he) hZ (w_255 hw) (w_2 hw) (by decide) (by decide)) q30a q30c (g := (mkF m 29 #[xvr ta, xvr sx, xvi (hs cx sf)] [xwr sx, xwr q1])) rfl (by rw [hml]; rfl) (Steps.refl _) (argsL := [(.ref sx)]) (rest := []) (lenOf pd_7 rfl) rfl (Nat.le_of_eq rfl) (hb B d26_29) (fun _ _ => ⟨rfl, e22, (by decide : 0 + 0 ≤ _), (by decide : 0 + 0 ≤ _)⟩)
 dsimp only [Pt.U, Pt.locs, Pt.cells, Pt.slots] at X31 l31 y31 z31 st31 hQ31
 subst l31 y31 z31
 obtain ⟨rfl, N31q, e31⟩ := hQ31
 have N31 := Fr.app N11 N31q
 obtain ⟨T32, X32, e32, st32⟩ := getF X31 hx hZ hown (host := "") (Or.inl (w_153 hw)) Via.refl e31 f18 (g := (mkF m 39 #[xvr ta, xvr sx, xvi (hs cx sf)] [xwr ta, xwi ((hs cx sf) + (1 : Int32))])) rfl rfl (hb B d26_39)
 obtain ⟨cl33, Ar33, q33, S33, M33, H33, G33⟩ := id f20
 obtain ⟨T34, X34, e34, st34⟩ := getF X32 hx hZ hown (host := "") (Or.inl (w_153 hw)) Via.refl e32 f18 (g := (mkF m 14 #[xvr ta, xvr sx, xvi (nxs cx sf sl)] [xwr ta])) rfl rfl (hb B d26_14)
 obtain ⟨cl35, Ar35, q35, S35, M35, H35, G35⟩ := id f20
 have in35 : ¬ ((nxs cx sf sl) < 0 ∨ cl35.slots.size ≤ ((nxs cx sf sl)).toNatClampNeg) := inb_of S35 (own_nx hsl cx)
 obtain ⟨fs, hr, hrun, hended, hW, hsame⟩ := X34.leave (v := some (.int (nxs cx sf sl))) (own_rv Bd.returns)
 refine ⟨_, _, hTG _ (pre0 _ ?_), hrun, hended, _, _, rfl, ?_, ⟨_, rfl⟩, hW, hsame.mono (by decide) (by decide)⟩
 ·refine y_aloadN X0 hx 1 (hb B d26_0) rfl rfl rfl ?_
  refine st11.trans ?_
  show Sx p e below T11 m 4 #[xvr ta, xvr sx, xun] [xwi cx] _
  refine X11.ldcInt hx hown (mvT hZ (w_203 hw)) (g := (mkF m 4 #[xvr ta, xvr sx, xun] [xwi cx])) rfl (hb B d26_4) _ ?_
  refine y_imul X11 hx 7 (hb B d26_6) rfl <| y_aloadN X11 hx 8 (hb B d26_7) rfl rfl rfl ?_
  refine st17 _ ?_
  refine XS.iushr X17.here hx rfl (hb B d26_11) rfl ?_
  show Sx p e below T17 m 12 #[xvr ta, xvr sx, xun] [xwi (((cx * (-1640531527 : Int32)).toUInt32 >>> (sf &&& 31).toUInt32).toInt32)] _
  rw [show (((cx * (-1640531527 : Int32)).toUInt32 >>> (sf &&& 31).toUInt32).toInt32) = hs cx sf from rfl]
  refine y_istoreN X17 hx 13 (hb B d26_12) (L' := #[xvr ta, xvr sx, xvi (hs cx sf)]) rfl rfl <| y_aloadN X17 hx 14 (hb B d26_13) rfl rfl rfl ?_
  refine st19 _ ?_
  refine y_iloadN X19 hx 18 (hb B d26_17) rfl rfl ?_
  refine X19.aaload hx (j := (hs cx sf)) (v := (.ref q1)) (by rw [e19]; exact Ar21.1) (State.isArrayOf_alike hZ.alike Ar21.2.1) rfl Ar21.2.2 in21 (Has.at H21 in21 hu0) (g := (mkF m 18 #[xvr ta, xvr sx, xvi (hs cx sf)] [xwi (hs cx sf), xwr pa])) rfl rfl (hb B d26_18) _ ?_
  refine XS.ifnullNo X19.here hx rfl (hb B d26_19) rfl ?_
  refine y_aloadN X19 hx 23 (hb B d26_22) rfl rfl rfl ?_
  refine st22 _ ?_
  refine y_iloadN X22 hx 27 (hb B d26_26) rfl rfl ?_
  refine X22.aaload hx (j := (hs cx sf)) (v := (.ref q1)) (by rw [e22]; exact Ar23.1) (State.isArrayOf_alike hZ.alike Ar23.2.1) rfl Ar23.2.2 in23 (Has.at H23 in23 hu0) (g := (mkF m 27 #[xvr ta, xvr sx, xvi (hs cx sf)] [xwi (hs cx sf), xwr pa])) rfl rfl (hb B d26_27) _ ?_
  refine y_aloadN X22 hx 29 (hb B d26_28) rfl rfl rfl ?_
  refine st31.trans ?_
  refine y_ifNo X31 hx 35 (hb B d26_32) (XT.i0_ne_f (by decide)) rfl <| y_iloadN X31 hx 36 (hb B d26_35) rfl rfl <| y_iconst X31 hx (1 : Int32) 37 (hb B d26_36) rfl rfl <| y_iadd X31 hx 38 (hb B d26_37) rfl <| y_aloadN X31 hx 39 (hb B d26_38) rfl rfl rfl ?_
  refine st32 _ ?_
  show Sx p e below T32 m 42 #[xvr ta, xvr sx, xvi (hs cx sf)] [xwr pa, xwi ((hs cx sf) + (1 : Int32))] _
  refine X32.arraylength hx (by rw [e32]; exact Ar33.1) (State.isArrayOf_alike hZ.alike Ar33.2.1) (g := (mkF m 42 #[xvr ta, xvr sx, xvi (hs cx sf)] [xwr pa, xwi ((hs cx sf) + (1 : Int32))])) rfl rfl (hb B d26_42) _ ?_
  rw [len_of S33 M33]
  refine y_iconst X32 hx (1 : Int32) 44 (hb B d26_43) rfl rfl <| y_isub X32 hx 45 (hb B d26_44) rfl <| y_iand X32 hx 46 (hb B d26_45) rfl ?_
  show Sx p e below T32 m 46 #[xvr ta, xvr sx, xvi (hs cx sf)] [xwi (((hs cx sf) + (1 : Int32)) &&& (sl - (1 : Int32)))] _
  rw [show (((hs cx sf) + (1 : Int32)) &&& (sl - (1 : Int32))) = nxs cx sf sl from rfl]
  refine y_istoreN X32 hx 47 (hb B d26_46) (L' := #[xvr ta, xvr sx, xvi (nxs cx sf sl)]) rfl rfl <| y_goto X32 hx 13 (hb B d26_47) rfl rfl <| y_aloadN X32 hx 14 (hb B d26_13) rfl rfl rfl ?_
  refine st34 _ ?_
  refine y_iloadN X34 hx 18 (hb B d26_17) rfl rfl ?_
  refine X34.aaload hx (j := (nxs cx sf sl)) (v := .null) (by rw [e34]; exact Ar35.1) (State.isArrayOf_alike hZ.alike Ar35.2.1) rfl Ar35.2.2 in35 (Has.at H35 in35 hu1) (g := (mkF m 18 #[xvr ta, xvr sx, xvi (nxs cx sf sl)] [xwi (nxs cx sf sl), xwr pa])) rfl rfl (hb B d26_18) _ ?_
  show Sx p e below T34 m 19 #[xvr ta, xvr sx, xvi (nxs cx sf sl)] [.null] _
  refine XS.ifnullYes X34.here hx rfl (pc0 := 19) (pc' := 50) rfl (hb B d26_19) rfl (by decide) (by decide) ?_
  refine y_iloadN X34 hx 51 (hb B d26_50) rfl rfl ?_
  show Sx p e below T34 m 51 #[xvr ta, xvr sx, xvi (nxs cx sf sl)] [xwi (nxs cx sf sl)] _
  exact retOut X34 hx Bd.returns rfl (Or.inl ⟨rfl, Or.inl rfl, _, rfl⟩) (hb B d26_51) hr
 ·show QrmS2 Z G ta pa kp sl sf pv sx vx kb cx q1 w1 kq cq h0 n0 _ T34.heap _
  rw [e34]
  exact ⟨rfl, N31, ((Keep.refl h0 [sx]).trans K11 (allS (oi 0 rfl) all0)), p12, p13, p14⟩
def QrmS3 (Z : State) (G : Gs) (ta pa : Addr) (kp : ClassId) (sl sf : Int32) (pv : List Value) (sx vx : Addr) (kb : ClassId) (cx : Int32) (q1 w1 : Addr) (kq : ClassId) (cq : Int32) (q2 w2 : Addr) (k2 : ClassId) (c2 : Int32) (h0 : Heap) (n0 : Nat) (v : Option Value) (h : Heap) (L : List Loc) : Prop := v = some (.int (nxs cx sf sl)) ∧ Fr n0 L ∧ Keep h0 h [sx] ∧ Exa Z h sx sg1 ∧ Fld Z h sx sg1 "coder" "B" ZI ∧ Fld Z h sx sg1 "value" "[B" (.ref vx)
theorem rmS3 (l : Launch) (Z : State) (a0 : Array Value) (hw : HW a0 Z) (G : Gs) (ST : StartF Z G) (ws : List Jvm.Cond) (ta pa : Addr) (kp : ClassId) (sl sf : Int32) (pv : List Value) (sx vx : Addr) (kb : ClassId) (cx : Int32) (q1 w1 : Addr) (kq : ClassId) (cq : Int32) (q2 w2 : Addr) (k2 : ClassId) (c2 : Int32) (h0 : Heap) (n0 : Nat) (X00 : Old Z n0 h0) (tE : Exa Z h0 ta sg0) (tP : Fld Z h0 ta sg0 sg8 sg5 (.ref pa)) (tS : Fld Z h0 ta sg0 "shift" "I" (.int sf)) (tV : Arv Z h0 pa kp (.object sg1) sl pv .null) (hsl : SLS sl sf) (sE : Exa Z h0 sx sg1) (sC : Fld Z h0 sx sg1 "coder" "B" ZI) (sW : Fld Z h0 sx sg1 "value" "[B" (.ref vx)) (sA : Arv Z h0 vx kb .byte (1 : Int32) [(.int cx.toInt8.toInt32)] ZI) (sH : Fld Z h0 sx sg1 "hash" "I" ZI) (sZ : Fld Z h0 sx sg1 "hashIsZero" "Z" ZI) (sg : n0 ≤ sx) (hc : (¬ cx < 0 ∧ ¬ (255 : Int32) < cx)) (qE : Exa Z h0 q1 sg1) (qC : Fld Z h0 q1 sg1 "coder" "B" ZI) (qW : Fld Z h0 q1 sg1 "value" "[B" (.ref w1)) (qA : Arv Z h0 w1 kq .byte (1 : Int32) [(.int cq.toInt8.toInt32)] ZI) (rE : Exa Z h0 q2 sg1) (rC : Fld Z h0 q2 sg1 "coder" "B" ZI) (rW : Fld Z h0 q2 sg1 "value" "[B" (.ref w2)) (rA : Arv Z h0 w2 k2 .byte (1 : Int32) [(.int c2.toInt8.toInt32)] ZI) (nqs : q1 ≠ sx) (nrs : q2 ≠ sx) (hu0 : pv.getD (hs cx sf).toNatClampNeg .null = .ref q1) (he : ¬ cq.toInt8.toInt32 = cx.toInt8.toInt32) (hu1 : pv.getD (nxs cx sf sl).toNatClampNeg .null = .ref q2) (hf : c2.toInt8.toInt32 = cx.toInt8.toInt32) :
  MF l Z ws mm9 prog_54_method_7_code 3 (some .int) (rk 2 0 0 28) #[(.ref ta), (.ref sx)] h0 (QrmS3 Z G ta pa kp sl sf pv sx vx kb cx q1 w1 kq cq q2 w2 k2 c2 h0 n0) := by
 refine MetFree.of_bodySF (plainFor_of_name pn_2) hisR ?_
 intro p e s m args below meth c s₁ Bd hml0 hP hK
 obtain ⟨rfl, hZ, hh⟩ := hP
 have hx := Bd.exec
 have B := Bd.bytes
 have hml : c.maxLocals = 3 := hml0
 have hown : s.vm.findClass sg0 = some m.cls := findClass_of_methodNamed Bd.named
 have X0 : Stand p l e (rk 2 0 0 28) s m #[(.ref ta), (.ref sx)] below meth c s₁ [] 0 0 := Stand.of_body Bd
 have e0 : s₁.heap = h0 := by rw [← hh, Bd.state]; rfl
 have N0 := Fr.nil n0
 obtain ⟨TG, hTG, pre0⟩ := own_pre p e below s₁ (ef_rmLEs m ta sx )
 obtain ⟨cq10, kq10, q10a, q10b, q10c⟩ := isOf hZ e0 sE
 obtain ⟨_, _, ⟨T11, L11, k11, n11⟩, -, X11, ⟨Lc11, hQ11, l11, y11, z11⟩, st11⟩ := X0.virtualBack hx (y := mm6) (z := mm6) hown (mvT hZ (w_186 hw)) (mvT hZ (w_187 hw)) (notFace_of_selects (args := #[]) (mvT hZ (w_189 hw))) (mvT hZ (w_189 hw)) (mvT hZ (w_188 hw)) (by decide) (backOf (W := 0) (rmHC l Z a0 hw G ST [] sx vx _ cx h0 n0 X00 sE sC sW sA sH sZ sg hc) hZ (w_190 hw) (w_2 hw) (by decide) (by decide)) q10a q10c (g := (mkF m 1 #[xvr ta, xvr sx, xun] [xwr sx])) rfl (by rw [hml]; rfl) (Steps.refl _) (argsL := []) (rest := []) (lenOf pd_6 rfl) rfl (Nat.le_of_eq rfl) (hb B d26_1) (fun _ _ => ⟨rfl, e0, (by decide : 0 + 0 ≤ _), (by decide : 0 + 0 ≤ _)⟩)
 dsimp only [Pt.U, Pt.locs, Pt.cells, Pt.slots] at X11 l11 y11 z11 st11 hQ11
 subst l11 y11 z11
 obtain ⟨hp11, e11⟩ : ∃ z, T11.heap = z := ⟨_, rfl⟩
 rw [e11] at hQ11
 obtain ⟨rfl, N11q, K11, p12, p13, p14⟩ := hQ11
 have N11 := Fr.app N0 N11q
 have f15 := (tE.keep K11)
 have f16 := (tS.keep K11 (ninS (Exa.ne f15 p12 (by decide)) nin0))
 obtain ⟨T17, X17, e17, st17⟩ := getF X11 hx hZ hown (host := "") (Or.inl (w_159 hw)) Via.refl e11 f16 (g := (mkF m 8 #[xvr ta, xvr sx, xun] [xwr ta, xwi (cx * (-1640531527 : Int32))])) rfl rfl (hb B d26_8)
 have f18 := (tP.keep K11 (ninS (Exa.ne f15 p12 (by decide)) nin0))
 obtain ⟨T19, X19, e19, st19⟩ := getF X17 hx hZ hown (host := "") (Or.inl (w_153 hw)) Via.refl e17 f18 (g := (mkF m 14 #[xvr ta, xvr sx, xvi (hs cx sf)] [xwr ta])) rfl rfl (hb B d26_14)
 have f20 := (tV.keep K11 (ninS (Ne.symm (Exa.neArv sE tV (w_10 hw))) nin0))
 obtain ⟨cl21, Ar21, q21, S21, M21, H21, G21⟩ := id f20
 have in21 : ¬ ((hs cx sf) < 0 ∨ cl21.slots.size ≤ ((hs cx sf)).toNatClampNeg) := inb_of S21 (own_hs hsl cx)
 obtain ⟨T22, X22, e22, st22⟩ := getF X19 hx hZ hown (host := "") (Or.inl (w_153 hw)) Via.refl e19 f18 (g := (mkF m 23 #[xvr ta, xvr sx, xvi (hs cx sf)] [xwr ta])) rfl rfl (hb B d26_23)
 obtain ⟨cl23, Ar23, q23, S23, M23, H23, G23⟩ := id f20
 have in23 : ¬ ((hs cx sf) < 0 ∨ cl23.slots.size ≤ ((hs cx sf)).toNatClampNeg) := inb_of S23 (own_hs hsl cx)
 have f24 := (qE.keep K11)
 have f25 := (qC.keep K11 (ninS nqs nin0))
 have f26 := (qW.keep K11 (ninS nqs nin0))
 have f27 := (qA.keep K11 (ninS (Ne.symm (Exa.neArv sE qA (w_10 hw))) nin0))
 have f28 := (sA.keep K11 (ninS (Ne.symm (Exa.neArv sE sA (w_10 hw))) nin0))
 have Ol29 : Old Z n0 hp11 := (X00.keep K11 (allS sg all0))
 obtain ⟨cq30, kq30, q30a, q30b, q30c⟩ := isOf hZ e22 f24
 obtain ⟨_, _, ⟨T31, L31, k31, n31⟩, -, X31, ⟨Lc31, hQ31, l31, y31, z31⟩, st31⟩ := X22.virtualBack hx (y := mm8) (z := mm8) hown (mvT hZ (w_251 hw)) (mvT hZ (w_252 hw)) (notFace_of_selects (args := #[]) (mvT hZ (w_254 hw))) (mvT hZ (w_254 hw)) (mvT hZ (w_253 hw)) (by decide) (backOf (W := 0) (rmSEd l Z a0 hw G ST [] q1 w1 _ cq sx vx _ cx hp11 n0 Ol29 f24 f25 f26 f27 p12 p13 p14 f28 nqs he) hZ (w_255 hw) (w_2 hw) (by decide) (by decide)) q30a q30c (g := (mkF m 29 #[xvr ta, xvr sx, xvi (hs cx sf)] [xwr sx, xwr q1])) rfl (by rw [hml]; rfl) (Steps.refl _) (argsL := [(.ref sx)]) (rest := []) (lenOf pd_7 rfl) rfl (Nat.le_of_eq rfl) (hb B d26_29) (fun _ _ => ⟨rfl, e22, (by decide : 0 + 0 ≤ _), (by decide : 0 + 0 ≤ _)⟩)
 dsimp only [Pt.U, Pt.locs, Pt.cells, Pt.slots] at X31 l31 y31 z31 st31 hQ31
 subst l31 y31 z31
 obtain ⟨rfl, N31q, e31⟩ := hQ31
 have N31 := Fr.app N11 N31q
 obtain ⟨T32, X32, e32, st32⟩ := getF X31 hx hZ hown (host := "") (Or.inl (w_153 hw)) Via.refl e31 f18 (g := (mkF m 39 #[xvr ta, xvr sx, xvi (hs cx sf)] [xwr ta, xwi ((hs cx sf) + (1 : Int32))])) rfl rfl (hb B d26_39)
 obtain ⟨cl33, Ar33, q33, S33, M33, H33, G33⟩ := id f20
 obtain ⟨T34, X34, e34, st34⟩ := getF X32 hx hZ hown (host := "") (Or.inl (w_153 hw)) Via.refl e32 f18 (g := (mkF m 14 #[xvr ta, xvr sx, xvi (nxs cx sf sl)] [xwr ta])) rfl rfl (hb B d26_14)
 obtain ⟨cl35, Ar35, q35, S35, M35, H35, G35⟩ := id f20
 have in35 : ¬ ((nxs cx sf sl) < 0 ∨ cl35.slots.size ≤ ((nxs cx sf sl)).toNatClampNeg) := inb_of S35 (own_nx hsl cx)
 obtain ⟨T36, X36, e36, st36⟩ := getF X34 hx hZ hown (host := "") (Or.inl (w_153 hw)) Via.refl e34 f18 (g := (mkF m 23 #[xvr ta, xvr sx, xvi (nxs cx sf sl)] [xwr ta])) rfl rfl (hb B d26_23)
 obtain ⟨cl37, Ar37, q37, S37, M37, H37, G37⟩ := id f20
 have in37 : ¬ ((nxs cx sf sl) < 0 ∨ cl37.slots.size ≤ ((nxs cx sf sl)).toNatClampNeg) := inb_of S37 (own_nx hsl cx)
 have f38 := (rE.keep K11)
 have f39 := (rC.keep K11 (ninS nrs nin0))
 have f40 := (rW.keep K11 (ninS nrs nin0))
 have f41 := (rA.keep K11 (ninS (Ne.symm (Exa.neArv sE rA (w_10 hw))) nin0))
 obtain ⟨cq42, kq42, q42a, q42b, q42c⟩ := isOf hZ e36 f38
 obtain ⟨_, _, ⟨T43, L43, k43, n43⟩, -, X43, ⟨Lc43, hQ43, l43, y43, z43⟩, st43⟩ := X36.virtualBack hx (y := mm8) (z := mm8) hown (mvT hZ (w_251 hw)) (mvT hZ (w_252 hw)) (notFace_of_selects (args := #[]) (mvT hZ (w_254 hw))) (mvT hZ (w_254 hw)) (mvT hZ (w_253 hw)) (by decide) (backOf (W := 0) (rmSEs l Z a0 hw G ST [] q2 w2 _ c2 sx vx _ cx hp11 n0 Ol29 f38 f39 f40 f41 p12 p13 p14 f28 nrs hf) hZ (w_255 hw) (w_2 hw) (by decide) (by decide)) q42a q42c (g := (mkF m 29 #[xvr ta, xvr sx, xvi (nxs cx sf sl)] [xwr sx, xwr q2])) rfl (by rw [hml]; rfl) (Steps.refl _) (argsL := [(.ref sx)]) (rest := []) (lenOf pd_7 rfl) rfl (Nat.le_of_eq rfl) (hb B d26_29) (fun _ _ => ⟨rfl, e36, (by decide : 0 + 0 ≤ _), (by decide : 0 + 0 ≤ _)⟩)
 dsimp only [Pt.U, Pt.locs, Pt.cells, Pt.slots] at X43 l43 y43 z43 st43 hQ43
 subst l43 y43 z43
 obtain ⟨rfl, N43q, e43⟩ := hQ43
 have N43 := Fr.app N31 N43q
 obtain ⟨fs, hr, hrun, hended, hW, hsame⟩ := X43.leave (v := some (.int (nxs cx sf sl))) (own_rv Bd.returns)
 refine ⟨_, _, hTG _ (pre0 _ ?_), hrun, hended, _, _, rfl, ?_, ⟨_, rfl⟩, hW, hsame.mono (by decide) (by decide)⟩
 ·refine y_aloadN X0 hx 1 (hb B d26_0) rfl rfl rfl ?_
  refine st11.trans ?_
  show Sx p e below T11 m 4 #[xvr ta, xvr sx, xun] [xwi cx] _
  refine X11.ldcInt hx hown (mvT hZ (w_203 hw)) (g := (mkF m 4 #[xvr ta, xvr sx, xun] [xwi cx])) rfl (hb B d26_4) _ ?_
  refine y_imul X11 hx 7 (hb B d26_6) rfl <| y_aloadN X11 hx 8 (hb B d26_7) rfl rfl rfl ?_
  refine st17 _ ?_
  refine XS.iushr X17.here hx rfl (hb B d26_11) rfl ?_
  show Sx p e below T17 m 12 #[xvr ta, xvr sx, xun] [xwi (((cx * (-1640531527 : Int32)).toUInt32 >>> (sf &&& 31).toUInt32).toInt32)] _
  rw [show (((cx * (-1640531527 : Int32)).toUInt32 >>> (sf &&& 31).toUInt32).toInt32) = hs cx sf from rfl]
  refine y_istoreN X17 hx 13 (hb B d26_12) (L' := #[xvr ta, xvr sx, xvi (hs cx sf)]) rfl rfl <| y_aloadN X17 hx 14 (hb B d26_13) rfl rfl rfl ?_
  refine st19 _ ?_
  refine y_iloadN X19 hx 18 (hb B d26_17) rfl rfl ?_
  refine X19.aaload hx (j := (hs cx sf)) (v := (.ref q1)) (by rw [e19]; exact Ar21.1) (State.isArrayOf_alike hZ.alike Ar21.2.1) rfl Ar21.2.2 in21 (Has.at H21 in21 hu0) (g := (mkF m 18 #[xvr ta, xvr sx, xvi (hs cx sf)] [xwi (hs cx sf), xwr pa])) rfl rfl (hb B d26_18) _ ?_
  refine XS.ifnullNo X19.here hx rfl (hb B d26_19) rfl ?_
  refine y_aloadN X19 hx 23 (hb B d26_22) rfl rfl rfl ?_
  refine st22 _ ?_
  refine y_iloadN X22 hx 27 (hb B d26_26) rfl rfl ?_
  refine X22.aaload hx (j := (hs cx sf)) (v := (.ref q1)) (by rw [e22]; exact Ar23.1) (State.isArrayOf_alike hZ.alike Ar23.2.1) rfl Ar23.2.2 in23 (Has.at H23 in23 hu0) (g := (mkF m 27 #[xvr ta, xvr sx, xvi (hs cx sf)] [xwi (hs cx sf), xwr pa])) rfl rfl (hb B d26_27) _ ?_
  refine y_aloadN X22 hx 29 (hb B d26_28) rfl rfl rfl ?_
  refine st31.trans ?_
  refine y_ifNo X31 hx 35 (hb B d26_32) (XT.i0_ne_f (by decide)) rfl <| y_iloadN X31 hx 36 (hb B d26_35) rfl rfl <| y_iconst X31 hx (1 : Int32) 37 (hb B d26_36) rfl rfl <| y_iadd X31 hx 38 (hb B d26_37) rfl <| y_aloadN X31 hx 39 (hb B d26_38) rfl rfl rfl ?_
  refine st32 _ ?_
  show Sx p e below T32 m 42 #[xvr ta, xvr sx, xvi (hs cx sf)] [xwr pa, xwi ((hs cx sf) + (1 : Int32))] _
  refine X32.arraylength hx (by rw [e32]; exact Ar33.1) (State.isArrayOf_alike hZ.alike Ar33.2.1) (g := (mkF m 42 #[xvr ta, xvr sx, xvi (hs cx sf)] [xwr pa, xwi ((hs cx sf) + (1 : Int32))])) rfl rfl (hb B d26_42) _ ?_
  rw [len_of S33 M33]
  refine y_iconst X32 hx (1 : Int32) 44 (hb B d26_43) rfl rfl <| y_isub X32 hx 45 (hb B d26_44) rfl <| y_iand X32 hx 46 (hb B d26_45) rfl ?_
  show Sx p e below T32 m 46 #[xvr ta, xvr sx, xvi (hs cx sf)] [xwi (((hs cx sf) + (1 : Int32)) &&& (sl - (1 : Int32)))] _
  rw [show (((hs cx sf) + (1 : Int32)) &&& (sl - (1 : Int32))) = nxs cx sf sl from rfl]
  refine y_istoreN X32 hx 47 (hb B d26_46) (L' := #[xvr ta, xvr sx, xvi (nxs cx sf sl)]) rfl rfl <| y_goto X32 hx 13 (hb B d26_47) rfl rfl <| y_aloadN X32 hx 14 (hb B d26_13) rfl rfl rfl ?_
  refine st34 _ ?_
  refine y_iloadN X34 hx 18 (hb B d26_17) rfl rfl ?_
  refine X34.aaload hx (j := (nxs cx sf sl)) (v := (.ref q2)) (by rw [e34]; exact Ar35.1) (State.isArrayOf_alike hZ.alike Ar35.2.1) rfl Ar35.2.2 in35 (Has.at H35 in35 hu1) (g := (mkF m 18 #[xvr ta, xvr sx, xvi (nxs cx sf sl)] [xwi (nxs cx sf sl), xwr pa])) rfl rfl (hb B d26_18) _ ?_
  refine XS.ifnullNo X34.here hx rfl (hb B d26_19) rfl ?_
  refine y_aloadN X34 hx 23 (hb B d26_22) rfl rfl rfl ?_
  refine st36 _ ?_
  refine y_iloadN X36 hx 27 (hb B d26_26) rfl rfl ?_
  refine X36.aaload hx (j := (nxs cx sf sl)) (v := (.ref q2)) (by rw [e36]; exact Ar37.1) (State.isArrayOf_alike hZ.alike Ar37.2.1) rfl Ar37.2.2 in37 (Has.at H37 in37 hu1) (g := (mkF m 27 #[xvr ta, xvr sx, xvi (nxs cx sf sl)] [xwi (nxs cx sf sl), xwr pa])) rfl rfl (hb B d26_27) _ ?_
  refine y_aloadN X36 hx 29 (hb B d26_28) rfl rfl rfl ?_
  refine st43.trans ?_
  refine y_ifYes X43 hx 50 (hb B d26_32) (XT.i0_ne_t (by decide)) rfl rfl <| y_iloadN X43 hx 51 (hb B d26_50) rfl rfl ?_
  show Sx p e below T43 m 51 #[xvr ta, xvr sx, xvi (nxs cx sf sl)] [xwi (nxs cx sf sl)] _
  exact retOut X43 hx Bd.returns rfl (Or.inl ⟨rfl, Or.inl rfl, _, rfl⟩) (hb B d26_51) hr
 ·show QrmS3 Z G ta pa kp sl sf pv sx vx kb cx q1 w1 kq cq q2 w2 k2 c2 h0 n0 _ T43.heap _
  rw [e43]
  exact ⟨rfl, N43, ((Keep.refl h0 [sx]).trans K11 (allS (oi 0 rfl) all0)), p12, p13, p14⟩
abbrev kc25 : ByteArray := prog_54_method_6_code
def d25_0 : DC kc25 0 (.aload_n 0) 1 := by decide +kernel
def d25_1 : DC kc25 1 (.aload_n 1) 1 := by decide +kernel
def d25_2 : DC kc25 2 (.invokevirtual 86) 3 := by decide +kernel
theorem pd_8 : parseMethodDescriptor "(Ljava/lang/String;)I" = some ⟨[(.object "java/lang/String")], some .int⟩ := by decide +kernel
def d25_5 : DC kc25 5 (.istore_n 2) 1 := by decide +kernel
def d25_6 : DC kc25 6 (.aload_n 0) 1 := by decide +kernel
def d25_7 : DC kc25 7 (.getfield 40) 3 := by decide +kernel
def d25_10 : DC kc25 10 (.iload_n 2) 1 := by decide +kernel
def d25_11 : DC kc25 11 (.aaload) 1 := by decide +kernel
def d25_12 : DC kc25 12 (.ifnonnull 30) 3 := by decide +kernel
def d25_15 : DC kc25 15 (.aload_n 0) 1 := by decide +kernel
def d25_16 : DC kc25 16 (.getfield 40) 3 := by decide +kernel
def d25_19 : DC kc25 19 (.iload_n 2) 1 := by decide +kernel
def d25_20 : DC kc25 20 (.aload_n 1) 1 := by decide +kernel
def d25_21 : DC kc25 21 (.aastore) 1 := by decide +kernel
def d25_22 : DC kc25 22 (.aload_n 0) 1 := by decide +kernel
def d25_23 : DC kc25 23 (.getfield 44) 3 := by decide +kernel
def d25_26 : DC kc25 26 (.iload_n 2) 1 := by decide +kernel
def d25_27 : DC kc25 27 (.aload_n 0) 1 := by decide +kernel
def d25_28 : DC kc25 28 (.getfield 102) 3 := by decide +kernel
def d25_31 : DC kc25 31 (.iastore) 1 := by decide +kernel
def d25_32 : DC kc25 32 (.aload_n 0) 1 := by decide +kernel
def d25_33 : DC kc25 33 (.dup) 1 := by decide +kernel
def d25_34 : DC kc25 34 (.getfield 102) 3 := by decide +kernel
def d25_37 : DC kc25 37 (.iconst 1) 1 := by decide +kernel
def d25_38 : DC kc25 38 (.iadd) 1 := by decide +kernel
def d25_39 : DC kc25 39 (.putfield 102) 3 := by decide +kernel
def d25_42 : DC kc25 42 (.aload_n 0) 1 := by decide +kernel
def d25_43 : DC kc25 43 (.getfield 44) 3 := by decide +kernel
def d25_46 : DC kc25 46 (.iload_n 2) 1 := by decide +kernel
def d25_47 : DC kc25 47 (.iaload) 1 := by decide +kernel
def d25_48 : DC kc25 48 (.ireturn) 1 := by decide +kernel
def QrmN0 (Z : State) (G : Gs) (ta pa : Addr) (kp : ClassId) (sl sf : Int32) (pv : List Value) (na : Addr) (kn : ClassId) (nv : List Value) (da ba : Addr) (mo : Int32) (sx vx : Addr) (kb : ClassId) (cx : Int32) (h0 : Heap) (n0 : Nat) (v : Option Value) (h : Heap) (L : List Loc) : Prop := v = some ZI ∧ Fr n0 L ∧ Keep h0 h [sx, pa, na, ta] ∧ Exa Z h sx sg1 ∧ Fld Z h sx sg1 "coder" "B" ZI ∧ Fld Z h sx sg1 "value" "[B" (.ref vx) ∧ Exa Z h ta sg0 ∧ Fld Z h ta sg0 sg8 sg5 (.ref pa) ∧ Fld Z h ta sg0 "shift" "I" (.int sf) ∧ Fld Z h ta sg0 "numbers" "[I" (.ref na) ∧ Fld Z h ta sg0 "days" "[[I" (.ref da) ∧ Fld Z h ta sg0 "most" "I" (.int mo) ∧ Fld Z h ta sg0 "outOfOrder" sg6 (.ref ba) ∧ Fld Z h ta sg0 "count" "I" (.int (1 : Int32)) ∧ Arv Z h pa kp (.object sg1) sl (List.set pv (hs cx sf).toNatClampNeg (.ref sx)) .null ∧ Arv Z h na kn .int sl (List.set nv (hs cx sf).toNatClampNeg ZI) ZI
theorem rmN0 (l : Launch) (Z : State) (a0 : Array Value) (hw : HW a0 Z) (G : Gs) (ST : StartF Z G) (ws : List Jvm.Cond) (ta pa : Addr) (kp : ClassId) (sl sf : Int32) (pv : List Value) (na : Addr) (kn : ClassId) (nv : List Value) (da ba : Addr) (mo : Int32) (sx vx : Addr) (kb : ClassId) (cx : Int32) (h0 : Heap) (n0 : Nat) (X00 : Old Z n0 h0) (tE : Exa Z h0 ta sg0) (tP : Fld Z h0 ta sg0 sg8 sg5 (.ref pa)) (tS : Fld Z h0 ta sg0 "shift" "I" (.int sf)) (tV : Arv Z h0 pa kp (.object sg1) sl pv .null) (hsl : SLS sl sf) (tN : Fld Z h0 ta sg0 "numbers" "[I" (.ref na)) (nV : Arv Z h0 na kn .int sl nv ZI) (tD : Fld Z h0 ta sg0 "days" "[[I" (.ref da)) (tM : Fld Z h0 ta sg0 "most" "I" (.int mo)) (tB : Fld Z h0 ta sg0 "outOfOrder" sg6 (.ref ba)) (sE : Exa Z h0 sx sg1) (sC : Fld Z h0 sx sg1 "coder" "B" ZI) (sW : Fld Z h0 sx sg1 "value" "[B" (.ref vx)) (sA : Arv Z h0 vx kb .byte (1 : Int32) [(.int cx.toInt8.toInt32)] ZI) (sH : Fld Z h0 sx sg1 "hash" "I" ZI) (sZ : Fld Z h0 sx sg1 "hashIsZero" "Z" ZI) (sg : n0 ≤ sx) (hc : (¬ cx < 0 ∧ ¬ (255 : Int32) < cx)) (tC : Fld Z h0 ta sg0 "count" "I" ZI) (gt : n0 ≤ ta) (gp : n0 ≤ pa) (gn : n0 ≤ na) (hO : Ovr Z kp sg1) (hpl : pv.length = 32) (hnl : nv.length = 32) (hu0 : pv.getD (hs cx sf).toNatClampNeg .null = .null) :
  MF l Z ws mm10 prog_54_method_6_code 3 (some .int) (rk 3 0 0 39) #[(.ref ta), (.ref sx)] h0 (QrmN0 Z G ta pa kp sl sf pv na kn nv da ba mo sx vx kb cx h0 n0) := by
 refine MetFree.of_bodySF (plainFor_of_name pn_2) hisR ?_
 intro p e s m args below meth c s₁ Bd hml0 hP hK
 obtain ⟨rfl, hZ, hh⟩ := hP
 have hx := Bd.exec
 have B := Bd.bytes
 have hml : c.maxLocals = 3 := hml0
 have hown : s.vm.findClass sg0 = some m.cls := findClass_of_methodNamed Bd.named
 have X0 : Stand p l e (rk 3 0 0 39) s m #[(.ref ta), (.ref sx)] below meth c s₁ [] 0 0 := Stand.of_body Bd
 have e0 : s₁.heap = h0 := by rw [← hh, Bd.state]; rfl
 have N0 := Fr.nil n0
 obtain ⟨TG, hTG, pre0⟩ := own_pre p e below s₁ (ef_rmLEs m ta sx )
 obtain ⟨cq10, q10, q10'⟩ := tE.cell
 obtain ⟨_, _, ⟨T11, L11, k11, n11⟩, -, X11, ⟨Lc11, hQ11, l11, y11, z11⟩, st11⟩ := X0.privateBack hx (y := mm9) hown (mvT hZ (w_182 hw)) (mvT hZ (w_183 hw)) (mvT hZ (own_selp (y := mm9) (w_102 hw) (w_184 hw) (w_183 hw) (by decide))) (Cond.privateMethod_at (mvP hZ (w_184 hw) (args := #[]))) (mvT hZ (w_185 hw)) (by decide) (backOf (W := 0) (rmS0 l Z a0 hw G ST [] ta pa _ sl sf _ sx vx _ cx h0 n0 X00 tE tP tS tV hsl sE sC sW sA sH sZ sg hc (by first | assumption | decide)) hZ (w_185 hw) (w_103 hw) (by decide) (by decide)) (g := (mkF m 2 #[xvr ta, xvr sx, xun] [xwr sx, xwr ta])) rfl (by rw [hml]; rfl) (Steps.refl _) (a := ta) (by rw [e0]; exact q10) q10' (argsL := [(.ref sx)]) (rest := []) (lenOf pd_8 rfl) rfl (Nat.le_of_eq rfl) (hb B d25_2) (fun _ _ => ⟨rfl, e0, (by decide : 0 + 0 ≤ _), (by decide : 0 + 0 ≤ _)⟩)
 dsimp only [Pt.U, Pt.locs, Pt.cells, Pt.slots] at X11 l11 y11 z11 st11 hQ11
 subst l11 y11 z11
 obtain ⟨hp11, e11⟩ : ∃ z, T11.heap = z := ⟨_, rfl⟩
 rw [e11] at hQ11
 obtain ⟨rfl, N11q, K11, p12, p13, p14⟩ := hQ11
 have N11 := Fr.app N0 N11q
 have f15 := (tE.keep K11)
 have f16 := (tP.keep K11 (ninS (Exa.ne f15 p12 (by decide)) nin0))
 obtain ⟨T17, X17, e17, st17⟩ := getF X11 hx hZ hown (host := "") (Or.inl (w_153 hw)) Via.refl e11 f16 (g := (mkF m 7 #[xvr ta, xvr sx, xvi (hs cx sf)] [xwr ta])) rfl rfl (hb B d25_7)
 have f18 := (tV.keep K11 (ninS (Ne.symm (Exa.neArv sE tV (w_10 hw))) nin0))
 obtain ⟨cl19, Ar19, q19, S19, M19, H19, G19⟩ := id f18
 have in19 : ¬ ((hs cx sf) < 0 ∨ cl19.slots.size ≤ ((hs cx sf)).toNatClampNeg) := inb_of S19 (own_hs hsl cx)
 obtain ⟨T20, X20, e20, st20⟩ := getF X17 hx hZ hown (host := "") (Or.inl (w_153 hw)) Via.refl e17 f16 (g := (mkF m 16 #[xvr ta, xvr sx, xvi (hs cx sf)] [xwr ta])) rfl rfl (hb B d25_16)
 obtain ⟨cl21, Ar21, q21, S21, M21, H21, G21⟩ := id f18
 have in21 : ¬ ((hs cx sf) < 0 ∨ cl21.slots.size ≤ ((hs cx sf)).toNatClampNeg) := inb_of S21 (own_hs hsl cx)
 obtain ⟨T22, h22, X22, e22, W22, st22⟩ := stR X20 hx hZ e20 Ar21 (j := (hs cx sf)) in21 rfl (Sto.ofV Ar21 q21 hO (Ins.self p12)) (g := (mkF m 21 #[xvr ta, xvr sx, xvi (hs cx sf)] [xwr sx, xwi (hs cx sf), xwr pa])) rfl rfl (hb B d25_21)
 have V22 : Arv Z h22 pa kp (.object sg1) sl (List.set (pv : List Value) ((hs cx sf)).toNatClampNeg (.ref sx)) .null := Arv.set Ar21 q21 S21 M21 H21 G21 rfl W22 _ rfl (own_lt32 hsl hpl (own_hs hsl cx))
 have N22 := Fr.snoc X22 N11 gp
 have f23 := (f15.wr W22)
 have f24 := (p12.wr W22)
 have f25 := ((tN.keep K11 (ninS (Exa.ne f23 f24 (by decide)) nin0)).other W22 (Or.inl (Exa.neArv tE tV (w_102 hw))))
 obtain ⟨T26, X26, e26, st26⟩ := getF X22 hx hZ hown (host := "") (Or.inl (w_156 hw)) Via.refl e22 f25 (g := (mkF m 23 #[xvr ta, xvr sx, xvi (hs cx sf)] [xwr ta])) rfl rfl (hb B d25_23)
 have f27 := ((tC.keep K11 (ninS (Exa.ne f23 f24 (by decide)) nin0)).other W22 (Or.inl (Exa.neArv tE tV (w_102 hw))))
 obtain ⟨T28, X28, e28, st28⟩ := getF X26 hx hZ hown (host := "") (Or.inl (w_204 hw)) Via.refl e26 f27 (g := (mkF m 28 #[xvr ta, xvr sx, xvi (hs cx sf)] [xwr ta, xwi (hs cx sf), xwr na])) rfl rfl (hb B d25_28)
 have f29 := ((nV.keep K11 (ninS (Ne.symm (Exa.neArv sE nV (w_10 hw))) nin0)).other W22 (own_neV nV tV (by decide)))
 obtain ⟨cl30, Ar30, q30, S30, M30, H30, G30⟩ := id f29
 have in30 : ¬ ((hs cx sf) < 0 ∨ cl30.slots.size ≤ ((hs cx sf)).toNatClampNeg) := inb_of S30 (own_hs hsl cx)
 obtain ⟨T31, h31, X31, e31, W31, st31⟩ := stI X28 hx hZ e28 Ar30 (j := (hs cx sf)) in30 (g := (mkF m 31 #[xvr ta, xvr sx, xvi (hs cx sf)] [xwi (0 : Int32), xwi (hs cx sf), xwr na])) rfl rfl (hb B d25_31)
 have V31 : Arv Z h31 na kn .int sl (List.set nv ((hs cx sf)).toNatClampNeg ZI) ZI := Arv.set Ar30 q30 S30 M30 H30 G30 rfl W31 _ rfl (own_lt32 hsl hnl (own_hs hsl cx))
 have N31 := Fr.snoc X31 N22 gn
 have f32 := (f27.other W31 (Or.inl (Exa.neArv tE nV (w_102 hw))))
 obtain ⟨T33, X33, e33, st33⟩ := getF X31 hx hZ hown (host := "") (Or.inl (w_204 hw)) Via.refl e31 f32 (g := (mkF m 34 #[xvr ta, xvr sx, xvi (hs cx sf)] [xwr ta, xwr ta])) rfl rfl (hb B d25_34)
 have f34 := (f23.wr W31)
 obtain ⟨T35, h35, X35, e35, W35, st35⟩ := putF X33 hx hZ hown (host := "") (Or.inl (w_204 hw)) Via.refl e33 f32 f34 (Or.inl (w_205 hw)) (w_102 hw) (ty := .int) (by decide) rfl rfl (g := (mkF m 39 #[xvr ta, xvr sx, xvi (hs cx sf)] [xwi (1 : Int32), xwr ta])) rfl rfl (hb B d25_39)
 have Fw35 := f32.same W35
 have N35 := Fr.snoc X35 N31 gt
 have f36 := ((f25.other W31 (Or.inl (Exa.neArv tE nV (w_102 hw)))).other W35 (Or.inr (slot_ne (Or.inr (w_157 hw)) (Or.inl (w_205 hw)) (by decide) (t := (.array .int)) (t' := .int) (by decide) (by decide))))
 obtain ⟨T37, X37, e37, st37⟩ := getF X35 hx hZ hown (host := "") (Or.inl (w_156 hw)) Via.refl e35 f36 (g := (mkF m 43 #[xvr ta, xvr sx, xvi (hs cx sf)] [xwr ta])) rfl rfl (hb B d25_43)
 have f38 := (V31.other W35 (Ne.symm (Exa.neArv tE nV (w_102 hw))))
 obtain ⟨cl39, Ar39, q39, S39, M39, H39, G39⟩ := id f38
 have in39 : ¬ ((hs cx sf) < 0 ∨ cl39.slots.size ≤ ((hs cx sf)).toNatClampNeg) := inb_of S39 (own_hs hsl cx)
 have f40 := ((f24.wr W31).wr W35)
 have f41 := (f34.wr W35)
 have f42 := (((p13.other W22 (Or.inl (Exa.neArv sE tV (w_10 hw)))).other W31 (Or.inl (Exa.neArv sE nV (w_10 hw)))).other W35 (Or.inl (Exa.ne f40 f41 (by decide))))
 have f43 := (((p14.other W22 (Or.inl (Exa.neArv sE tV (w_10 hw)))).other W31 (Or.inl (Exa.neArv sE nV (w_10 hw)))).other W35 (Or.inl (Exa.ne f40 f41 (by decide))))
 have f44 := (((f16.other W22 (Or.inl (Exa.neArv tE tV (w_102 hw)))).other W31 (Or.inl (Exa.neArv tE nV (w_102 hw)))).other W35 (Or.inr (slot_ne (Or.inr (w_154 hw)) (Or.inl (w_205 hw)) (by decide) (t := (.array (.object sg1))) (t' := .int) (by decide) (by decide))))
 have f45 := ((((tS.keep K11 (ninS (Exa.ne f41 f40 (by decide)) nin0)).other W22 (Or.inl (Exa.neArv tE tV (w_102 hw)))).other W31 (Or.inl (Exa.neArv tE nV (w_102 hw)))).other W35 (Or.inr (slot_ne (Or.inr (w_160 hw)) (Or.inl (w_205 hw)) (by decide) (t := .int) (t' := .int) (by decide) (by decide))))
 have f46 := ((((tD.keep K11 (ninS (Exa.ne f41 f40 (by decide)) nin0)).other W22 (Or.inl (Exa.neArv tE tV (w_102 hw)))).other W31 (Or.inl (Exa.neArv tE nV (w_102 hw)))).other W35 (Or.inr (slot_ne (Or.inr (w_113 hw)) (Or.inl (w_205 hw)) (by decide) (t := (.array (.array .int))) (t' := .int) (by decide) (by decide))))
 have f47 := ((((tM.keep K11 (ninS (Exa.ne f41 f40 (by decide)) nin0)).other W22 (Or.inl (Exa.neArv tE tV (w_102 hw)))).other W31 (Or.inl (Exa.neArv tE nV (w_102 hw)))).other W35 (Or.inr (slot_ne (Or.inr (w_162 hw)) (Or.inl (w_205 hw)) (by decide) (t := .int) (t' := .int) (by decide) (by decide))))
 have f48 := ((((tB.keep K11 (ninS (Exa.ne f41 f40 (by decide)) nin0)).other W22 (Or.inl (Exa.neArv tE tV (w_102 hw)))).other W31 (Or.inl (Exa.neArv tE nV (w_102 hw)))).other W35 (Or.inr (slot_ne (Or.inr (w_137 hw)) (Or.inl (w_205 hw)) (by decide) (t := (.object sg2)) (t' := .int) (by decide) (by decide))))
 have f49 := ((V22.other W31 (own_neV tV nV (by decide))).other W35 (Ne.symm (Exa.neArv tE tV (w_102 hw))))
 obtain ⟨fs, hr, hrun, hended, hW, hsame⟩ := X37.leave (v := some ZI) (own_rv Bd.returns)
 refine ⟨_, _, hTG _ (pre0 _ ?_), hrun, hended, _, _, rfl, ?_, ⟨_, rfl⟩, hW, hsame.mono (by decide) (by decide)⟩
 ·refine y_aloadN X0 hx 1 (hb B d25_0) rfl rfl rfl <| y_aloadN X0 hx 2 (hb B d25_1) rfl rfl rfl ?_
  refine st11.trans ?_
  refine y_istoreN X11 hx 6 (hb B d25_5) (L' := #[xvr ta, xvr sx, xvi (hs cx sf)]) rfl rfl <| y_aloadN X11 hx 7 (hb B d25_6) rfl rfl rfl ?_
  refine st17 _ ?_
  refine y_iloadN X17 hx 11 (hb B d25_10) rfl rfl ?_
  refine X17.aaload hx (j := (hs cx sf)) (v := .null) (by rw [e17]; exact Ar19.1) (State.isArrayOf_alike hZ.alike Ar19.2.1) rfl Ar19.2.2 in19 (Has.at H19 in19 hu0) (g := (mkF m 11 #[xvr ta, xvr sx, xvi (hs cx sf)] [xwi (hs cx sf), xwr pa])) rfl rfl (hb B d25_11) _ ?_
  refine XS.ifnonnullNo X17.here hx rfl (hb B d25_12) rfl ?_
  refine y_aloadN X17 hx 16 (hb B d25_15) rfl rfl rfl ?_
  refine st20 _ ?_
  refine y_iloadN X20 hx 20 (hb B d25_19) rfl rfl <| y_aloadN X20 hx 21 (hb B d25_20) rfl rfl rfl ?_
  refine st22 _ ?_
  refine y_aloadN X22 hx 23 (hb B d25_22) rfl rfl rfl ?_
  refine st26 _ ?_
  refine y_iloadN X26 hx 27 (hb B d25_26) rfl rfl <| y_aloadN X26 hx 28 (hb B d25_27) rfl rfl rfl ?_
  refine st28 _ ?_
  refine st31 _ ?_
  refine y_aloadN X31 hx 33 (hb B d25_32) rfl rfl rfl <| y_dup X31 hx 34 (hb B d25_33) rfl rfl ?_
  refine st33 _ ?_
  refine y_iconst X33 hx (1 : Int32) 38 (hb B d25_37) rfl rfl <| y_iadd X33 hx 39 (hb B d25_38) rfl ?_
  rw [show ((0 : Int32) + (1 : Int32)) = (1 : Int32) from by decide]
  refine st35 _ ?_
  refine y_aloadN X35 hx 43 (hb B d25_42) rfl rfl rfl ?_
  refine st37 _ ?_
  refine y_iloadN X37 hx 47 (hb B d25_46) rfl rfl ?_
  refine X37.iaload hx (j := (hs cx sf)) (v := ZI) (by rw [e37]; exact Ar39.1) (State.isArrayOf_alike hZ.alike Ar39.2.1) Ar39.2.2 in39 (Has.at H39 in39 (own_gs (own_lt32 hsl hnl (own_hs hsl cx)))) (g := (mkF m 47 #[xvr ta, xvr sx, xvi (hs cx sf)] [xwi (hs cx sf), xwr na])) rfl rfl (hb B d25_47) _ ?_
  show Sx p e below T37 m 48 #[xvr ta, xvr sx, xvi (hs cx sf)] [xwi (0 : Int32)] _
  exact retOut X37 hx Bd.returns rfl (Or.inl ⟨rfl, Or.inl rfl, _, rfl⟩) (hb B d25_48) hr
 ·show QrmN0 Z G ta pa kp sl sf pv na kn nv da ba mo sx vx kb cx h0 n0 _ T37.heap _
  rw [e37]
  exact ⟨rfl, N35, (((((Keep.refl h0 [sx, pa, na, ta]).trans K11 (allS (oi 0 rfl) all0)).wr W22 (oi 1 rfl)).wr W31 (oi 2 rfl)).wr W35 (oi 3 rfl)), f40, f42, f43, f41, f44, f45, f36, f46, f47, f48, Fw35, f49, f38⟩
def QrmN1d (Z : State) (G : Gs) (ta pa : Addr) (kp : ClassId) (sl sf : Int32) (pv : List Value) (na : Addr) (kn : ClassId) (nv : List Value) (da ba : Addr) (mo : Int32) (sx vx : Addr) (kb : ClassId) (cx : Int32) (q1 w1 : Addr) (kq : ClassId) (cq s0 : Int32) (h0 : Heap) (n0 : Nat) (v : Option Value) (h : Heap) (L : List Loc) : Prop := ∃ (ix : Int32), v = some (.int (1 : Int32)) ∧ Fr n0 L ∧ Keep h0 h [sx, pa, na, ta] ∧ Exa Z h sx sg1 ∧ Fld Z h sx sg1 "coder" "B" ZI ∧ Fld Z h sx sg1 "value" "[B" (.ref vx) ∧ Exa Z h ta sg0 ∧ Fld Z h ta sg0 sg8 sg5 (.ref pa) ∧ Fld Z h ta sg0 "shift" "I" (.int sf) ∧ Fld Z h ta sg0 "numbers" "[I" (.ref na) ∧ Fld Z h ta sg0 "days" "[[I" (.ref da) ∧ Fld Z h ta sg0 "most" "I" (.int mo) ∧ Fld Z h ta sg0 "outOfOrder" sg6 (.ref ba) ∧ Fld Z h ta sg0 "count" "I" (.int (2 : Int32)) ∧ Arv Z h pa kp (.object sg1) sl (List.set pv (ix).toNatClampNeg (.ref sx)) .null ∧ Arv Z h na kn .int sl (List.set nv (ix).toNatClampNeg (.int (1 : Int32))) ZI ∧ IXP cx sf sl s0 ix
theorem rmN1d (l : Launch) (Z : State) (a0 : Array Value) (hw : HW a0 Z) (G : Gs) (ST : StartF Z G) (ws : List Jvm.Cond) (ta pa : Addr) (kp : ClassId) (sl sf : Int32) (pv : List Value) (na : Addr) (kn : ClassId) (nv : List Value) (da ba : Addr) (mo : Int32) (sx vx : Addr) (kb : ClassId) (cx : Int32) (q1 w1 : Addr) (kq : ClassId) (cq s0 : Int32) (h0 : Heap) (n0 : Nat) (X00 : Old Z n0 h0) (tE : Exa Z h0 ta sg0) (tP : Fld Z h0 ta sg0 sg8 sg5 (.ref pa)) (tS : Fld Z h0 ta sg0 "shift" "I" (.int sf)) (tV : Arv Z h0 pa kp (.object sg1) sl pv .null) (hsl : SLS sl sf) (tN : Fld Z h0 ta sg0 "numbers" "[I" (.ref na)) (nV : Arv Z h0 na kn .int sl nv ZI) (tD : Fld Z h0 ta sg0 "days" "[[I" (.ref da)) (tM : Fld Z h0 ta sg0 "most" "I" (.int mo)) (tB : Fld Z h0 ta sg0 "outOfOrder" sg6 (.ref ba)) (sE : Exa Z h0 sx sg1) (sC : Fld Z h0 sx sg1 "coder" "B" ZI) (sW : Fld Z h0 sx sg1 "value" "[B" (.ref vx)) (sA : Arv Z h0 vx kb .byte (1 : Int32) [(.int cx.toInt8.toInt32)] ZI) (sH : Fld Z h0 sx sg1 "hash" "I" ZI) (sZ : Fld Z h0 sx sg1 "hashIsZero" "Z" ZI) (sg : n0 ≤ sx) (hc : (¬ cx < 0 ∧ ¬ (255 : Int32) < cx)) (qE : Exa Z h0 q1 sg1) (qC : Fld Z h0 q1 sg1 "coder" "B" ZI) (qW : Fld Z h0 q1 sg1 "value" "[B" (.ref w1)) (qA : Arv Z h0 w1 kq .byte (1 : Int32) [(.int cq.toInt8.toInt32)] ZI) (tC : Fld Z h0 ta sg0 "count" "I" (.int (1 : Int32))) (gt : n0 ≤ ta) (gp : n0 ≤ pa) (gn : n0 ≤ na) (hO : Ovr Z kp sg1) (hpl : pv.length = 32) (hnl : nv.length = 32) (nqs : q1 ≠ sx) (hT : T1 pv s0 q1) (he : ¬ cq.toInt8.toInt32 = cx.toInt8.toInt32) (hs0 : (¬ s0 < 0 ∧ s0 < sl)) :
  MF l Z ws mm10 prog_54_method_6_code 3 (some .int) (rk 3 0 0 42) #[(.ref ta), (.ref sx)] h0 (QrmN1d Z G ta pa kp sl sf pv na kn nv da ba mo sx vx kb cx q1 w1 kq cq s0 h0 n0) := by
 refine MetFree.of_bodySF (plainFor_of_name pn_2) hisR ?_
 intro p e s m args below meth c s₁ Bd hml0 hP hK
 obtain ⟨rfl, hZ, hh⟩ := hP
 have hx := Bd.exec
 have B := Bd.bytes
 have hml : c.maxLocals = 3 := hml0
 have hown : s.vm.findClass sg0 = some m.cls := findClass_of_methodNamed Bd.named
 have X0 : Stand p l e (rk 3 0 0 42) s m #[(.ref ta), (.ref sx)] below meth c s₁ [] 0 0 := Stand.of_body Bd
 have e0 : s₁.heap = h0 := by rw [← hh, Bd.state]; rfl
 have N0 := Fr.nil n0
 obtain ⟨TG, hTG, pre0⟩ := own_pre p e below s₁ (ef_rmLEs m ta sx )
 by_cases hk10 : hs cx sf = s0
 ·have hu0 : pv.getD (hs cx sf).toNatClampNeg .null = .ref q1 := own_T1a hT hk10
  have hu1 : pv.getD (nxs cx sf sl).toNatClampNeg .null = .null := own_T1b hT hsl hs0 hk10
  obtain ⟨cq11, q11, q11'⟩ := tE.cell
  obtain ⟨_, _, ⟨T12, L12, k12, n12⟩, -, X12, ⟨Lc12, hQ12, l12, y12, z12⟩, st12⟩ := X0.privateBack hx (y := mm9) hown (mvT hZ (w_182 hw)) (mvT hZ (w_183 hw)) (mvT hZ (own_selp (y := mm9) (w_102 hw) (w_184 hw) (w_183 hw) (by decide))) (Cond.privateMethod_at (mvP hZ (w_184 hw) (args := #[]))) (mvT hZ (w_185 hw)) (by decide) (backOf (W := 0) (rmS2 l Z a0 hw G ST [] ta pa _ sl sf _ sx vx _ cx q1 w1 _ cq h0 n0 X00 tE tP tS tV hsl sE sC sW sA sH sZ sg hc qE qC qW qA nqs hu0 he hu1) hZ (w_185 hw) (w_103 hw) (by decide) (by decide)) (g := (mkF m 2 #[xvr ta, xvr sx, xun] [xwr sx, xwr ta])) rfl (by rw [hml]; rfl) (Steps.refl _) (a := ta) (by rw [e0]; exact q11) q11' (argsL := [(.ref sx)]) (rest := []) (lenOf pd_8 rfl) rfl (Nat.le_of_eq rfl) (hb B d25_2) (fun _ _ => ⟨rfl, e0, (by decide : 0 + 0 ≤ _), (by decide : 0 + 0 ≤ _)⟩)
  dsimp only [Pt.U, Pt.locs, Pt.cells, Pt.slots] at X12 l12 y12 z12 st12 hQ12
  subst l12 y12 z12
  obtain ⟨hp12, e12⟩ : ∃ z, T12.heap = z := ⟨_, rfl⟩
  rw [e12] at hQ12
  obtain ⟨rfl, N12q, K12, p13, p14, p15⟩ := hQ12
  have N12 := Fr.app N0 N12q
  have f16 := (tE.keep K12)
  have f17 := (tP.keep K12 (ninS (Exa.ne f16 p13 (by decide)) nin0))
  obtain ⟨T18, X18, e18, st18⟩ := getF X12 hx hZ hown (host := "") (Or.inl (w_153 hw)) Via.refl e12 f17 (g := (mkF m 7 #[xvr ta, xvr sx, xvi (nxs cx sf sl)] [xwr ta])) rfl rfl (hb B d25_7)
  have f19 := (tV.keep K12 (ninS (Ne.symm (Exa.neArv sE tV (w_10 hw))) nin0))
  obtain ⟨cl20, Ar20, q20, S20, M20, H20, G20⟩ := id f19
  have in20 : ¬ ((nxs cx sf sl) < 0 ∨ cl20.slots.size ≤ ((nxs cx sf sl)).toNatClampNeg) := inb_of S20 (own_nx hsl cx)
  obtain ⟨T21, X21, e21, st21⟩ := getF X18 hx hZ hown (host := "") (Or.inl (w_153 hw)) Via.refl e18 f17 (g := (mkF m 16 #[xvr ta, xvr sx, xvi (nxs cx sf sl)] [xwr ta])) rfl rfl (hb B d25_16)
  obtain ⟨cl22, Ar22, q22, S22, M22, H22, G22⟩ := id f19
  have in22 : ¬ ((nxs cx sf sl) < 0 ∨ cl22.slots.size ≤ ((nxs cx sf sl)).toNatClampNeg) := inb_of S22 (own_nx hsl cx)
  obtain ⟨T23, h23, X23, e23, W23, st23⟩ := stR X21 hx hZ e21 Ar22 (j := (nxs cx sf sl)) in22 rfl (Sto.ofV Ar22 q22 hO (Ins.self p13)) (g := (mkF m 21 #[xvr ta, xvr sx, xvi (nxs cx sf sl)] [xwr sx, xwi (nxs cx sf sl), xwr pa])) rfl rfl (hb B d25_21)
  have V23 : Arv Z h23 pa kp (.object sg1) sl (List.set (pv : List Value) ((nxs cx sf sl)).toNatClampNeg (.ref sx)) .null := Arv.set Ar22 q22 S22 M22 H22 G22 rfl W23 _ rfl (own_lt32 hsl hpl (own_nx hsl cx))
  have N23 := Fr.snoc X23 N12 gp
  have f24 := (f16.wr W23)
  have f25 := (p13.wr W23)
  have f26 := ((tN.keep K12 (ninS (Exa.ne f24 f25 (by decide)) nin0)).other W23 (Or.inl (Exa.neArv tE tV (w_102 hw))))
  obtain ⟨T27, X27, e27, st27⟩ := getF X23 hx hZ hown (host := "") (Or.inl (w_156 hw)) Via.refl e23 f26 (g := (mkF m 23 #[xvr ta, xvr sx, xvi (nxs cx sf sl)] [xwr ta])) rfl rfl (hb B d25_23)
  have f28 := ((tC.keep K12 (ninS (Exa.ne f24 f25 (by decide)) nin0)).other W23 (Or.inl (Exa.neArv tE tV (w_102 hw))))
  obtain ⟨T29, X29, e29, st29⟩ := getF X27 hx hZ hown (host := "") (Or.inl (w_204 hw)) Via.refl e27 f28 (g := (mkF m 28 #[xvr ta, xvr sx, xvi (nxs cx sf sl)] [xwr ta, xwi (nxs cx sf sl), xwr na])) rfl rfl (hb B d25_28)
  have f30 := ((nV.keep K12 (ninS (Ne.symm (Exa.neArv sE nV (w_10 hw))) nin0)).other W23 (own_neV nV tV (by decide)))
  obtain ⟨cl31, Ar31, q31, S31, M31, H31, G31⟩ := id f30
  have in31 : ¬ ((nxs cx sf sl) < 0 ∨ cl31.slots.size ≤ ((nxs cx sf sl)).toNatClampNeg) := inb_of S31 (own_nx hsl cx)
  obtain ⟨T32, h32, X32, e32, W32, st32⟩ := stI X29 hx hZ e29 Ar31 (j := (nxs cx sf sl)) in31 (g := (mkF m 31 #[xvr ta, xvr sx, xvi (nxs cx sf sl)] [xwi (1 : Int32), xwi (nxs cx sf sl), xwr na])) rfl rfl (hb B d25_31)
  have V32 : Arv Z h32 na kn .int sl (List.set nv ((nxs cx sf sl)).toNatClampNeg (.int (1 : Int32))) ZI := Arv.set Ar31 q31 S31 M31 H31 G31 rfl W32 _ rfl (own_lt32 hsl hnl (own_nx hsl cx))
  have N32 := Fr.snoc X32 N23 gn
  have f33 := (f28.other W32 (Or.inl (Exa.neArv tE nV (w_102 hw))))
  obtain ⟨T34, X34, e34, st34⟩ := getF X32 hx hZ hown (host := "") (Or.inl (w_204 hw)) Via.refl e32 f33 (g := (mkF m 34 #[xvr ta, xvr sx, xvi (nxs cx sf sl)] [xwr ta, xwr ta])) rfl rfl (hb B d25_34)
  have f35 := (f24.wr W32)
  obtain ⟨T36, h36, X36, e36, W36, st36⟩ := putF X34 hx hZ hown (host := "") (Or.inl (w_204 hw)) Via.refl e34 f33 f35 (Or.inl (w_205 hw)) (w_102 hw) (ty := .int) (by decide) rfl rfl (g := (mkF m 39 #[xvr ta, xvr sx, xvi (nxs cx sf sl)] [xwi (2 : Int32), xwr ta])) rfl rfl (hb B d25_39)
  have Fw36 := f33.same W36
  have N36 := Fr.snoc X36 N32 gt
  have f37 := ((f26.other W32 (Or.inl (Exa.neArv tE nV (w_102 hw)))).other W36 (Or.inr (slot_ne (Or.inr (w_157 hw)) (Or.inl (w_205 hw)) (by decide) (t := (.array .int)) (t' := .int) (by decide) (by decide))))
  obtain ⟨T38, X38, e38, st38⟩ := getF X36 hx hZ hown (host := "") (Or.inl (w_156 hw)) Via.refl e36 f37 (g := (mkF m 43 #[xvr ta, xvr sx, xvi (nxs cx sf sl)] [xwr ta])) rfl rfl (hb B d25_43)
  have f39 := (V32.other W36 (Ne.symm (Exa.neArv tE nV (w_102 hw))))
  obtain ⟨cl40, Ar40, q40, S40, M40, H40, G40⟩ := id f39
  have in40 : ¬ ((nxs cx sf sl) < 0 ∨ cl40.slots.size ≤ ((nxs cx sf sl)).toNatClampNeg) := inb_of S40 (own_nx hsl cx)
  have f41 := ((f25.wr W32).wr W36)
  have f42 := (f35.wr W36)
  have f43 := (((p14.other W23 (Or.inl (Exa.neArv sE tV (w_10 hw)))).other W32 (Or.inl (Exa.neArv sE nV (w_10 hw)))).other W36 (Or.inl (Exa.ne f41 f42 (by decide))))
  have f44 := (((p15.other W23 (Or.inl (Exa.neArv sE tV (w_10 hw)))).other W32 (Or.inl (Exa.neArv sE nV (w_10 hw)))).other W36 (Or.inl (Exa.ne f41 f42 (by decide))))
  have f45 := (((f17.other W23 (Or.inl (Exa.neArv tE tV (w_102 hw)))).other W32 (Or.inl (Exa.neArv tE nV (w_102 hw)))).other W36 (Or.inr (slot_ne (Or.inr (w_154 hw)) (Or.inl (w_205 hw)) (by decide) (t := (.array (.object sg1))) (t' := .int) (by decide) (by decide))))
  have f46 := ((((tS.keep K12 (ninS (Exa.ne f42 f41 (by decide)) nin0)).other W23 (Or.inl (Exa.neArv tE tV (w_102 hw)))).other W32 (Or.inl (Exa.neArv tE nV (w_102 hw)))).other W36 (Or.inr (slot_ne (Or.inr (w_160 hw)) (Or.inl (w_205 hw)) (by decide) (t := .int) (t' := .int) (by decide) (by decide))))
  have f47 := ((((tD.keep K12 (ninS (Exa.ne f42 f41 (by decide)) nin0)).other W23 (Or.inl (Exa.neArv tE tV (w_102 hw)))).other W32 (Or.inl (Exa.neArv tE nV (w_102 hw)))).other W36 (Or.inr (slot_ne (Or.inr (w_113 hw)) (Or.inl (w_205 hw)) (by decide) (t := (.array (.array .int))) (t' := .int) (by decide) (by decide))))
  have f48 := ((((tM.keep K12 (ninS (Exa.ne f42 f41 (by decide)) nin0)).other W23 (Or.inl (Exa.neArv tE tV (w_102 hw)))).other W32 (Or.inl (Exa.neArv tE nV (w_102 hw)))).other W36 (Or.inr (slot_ne (Or.inr (w_162 hw)) (Or.inl (w_205 hw)) (by decide) (t := .int) (t' := .int) (by decide) (by decide))))
  have f49 := ((((tB.keep K12 (ninS (Exa.ne f42 f41 (by decide)) nin0)).other W23 (Or.inl (Exa.neArv tE tV (w_102 hw)))).other W32 (Or.inl (Exa.neArv tE nV (w_102 hw)))).other W36 (Or.inr (slot_ne (Or.inr (w_137 hw)) (Or.inl (w_205 hw)) (by decide) (t := (.object sg2)) (t' := .int) (by decide) (by decide))))
  have f50 := ((V23.other W32 (own_neV tV nV (by decide))).other W36 (Ne.symm (Exa.neArv tE tV (w_102 hw))))
  obtain ⟨fs, hr, hrun, hended, hW, hsame⟩ := X38.leave (v := some (.int (1 : Int32))) (own_rv Bd.returns)
  refine ⟨_, _, hTG _ (pre0 _ ?_), hrun, hended, _, _, rfl, ?_, ⟨_, rfl⟩, hW, hsame.mono (by decide) (by decide)⟩
  ·refine y_aloadN X0 hx 1 (hb B d25_0) rfl rfl rfl <| y_aloadN X0 hx 2 (hb B d25_1) rfl rfl rfl ?_
   refine st12.trans ?_
   refine y_istoreN X12 hx 6 (hb B d25_5) (L' := #[xvr ta, xvr sx, xvi (nxs cx sf sl)]) rfl rfl <| y_aloadN X12 hx 7 (hb B d25_6) rfl rfl rfl ?_
   refine st18 _ ?_
   refine y_iloadN X18 hx 11 (hb B d25_10) rfl rfl ?_
   refine X18.aaload hx (j := (nxs cx sf sl)) (v := .null) (by rw [e18]; exact Ar20.1) (State.isArrayOf_alike hZ.alike Ar20.2.1) rfl Ar20.2.2 in20 (Has.at H20 in20 hu1) (g := (mkF m 11 #[xvr ta, xvr sx, xvi (nxs cx sf sl)] [xwi (nxs cx sf sl), xwr pa])) rfl rfl (hb B d25_11) _ ?_
   refine XS.ifnonnullNo X18.here hx rfl (hb B d25_12) rfl ?_
   refine y_aloadN X18 hx 16 (hb B d25_15) rfl rfl rfl ?_
   refine st21 _ ?_
   refine y_iloadN X21 hx 20 (hb B d25_19) rfl rfl <| y_aloadN X21 hx 21 (hb B d25_20) rfl rfl rfl ?_
   refine st23 _ ?_
   refine y_aloadN X23 hx 23 (hb B d25_22) rfl rfl rfl ?_
   refine st27 _ ?_
   refine y_iloadN X27 hx 27 (hb B d25_26) rfl rfl <| y_aloadN X27 hx 28 (hb B d25_27) rfl rfl rfl ?_
   refine st29 _ ?_
   refine st32 _ ?_
   refine y_aloadN X32 hx 33 (hb B d25_32) rfl rfl rfl <| y_dup X32 hx 34 (hb B d25_33) rfl rfl ?_
   refine st34 _ ?_
   refine y_iconst X34 hx (1 : Int32) 38 (hb B d25_37) rfl rfl <| y_iadd X34 hx 39 (hb B d25_38) rfl ?_
   rw [show ((1 : Int32) + (1 : Int32)) = (2 : Int32) from by decide]
   refine st36 _ ?_
   refine y_aloadN X36 hx 43 (hb B d25_42) rfl rfl rfl ?_
   refine st38 _ ?_
   refine y_iloadN X38 hx 47 (hb B d25_46) rfl rfl ?_
   refine X38.iaload hx (j := (nxs cx sf sl)) (v := (.int (1 : Int32))) (by rw [e38]; exact Ar40.1) (State.isArrayOf_alike hZ.alike Ar40.2.1) Ar40.2.2 in40 (Has.at H40 in40 (own_gs (own_lt32 hsl hnl (own_nx hsl cx)))) (g := (mkF m 47 #[xvr ta, xvr sx, xvi (nxs cx sf sl)] [xwi (nxs cx sf sl), xwr na])) rfl rfl (hb B d25_47) _ ?_
   show Sx p e below T38 m 48 #[xvr ta, xvr sx, xvi (nxs cx sf sl)] [xwi (1 : Int32)] _
   exact retOut X38 hx Bd.returns rfl (Or.inl ⟨rfl, Or.inl rfl, _, rfl⟩) (hb B d25_48) hr
  ·show QrmN1d Z G ta pa kp sl sf pv na kn nv da ba mo sx vx kb cx q1 w1 kq cq s0 h0 n0 _ T38.heap _
   rw [e38]
   exact ⟨(nxs cx sf sl), rfl, N36, (((((Keep.refl h0 [sx, pa, na, ta]).trans K12 (allS (oi 0 rfl) all0)).wr W23 (oi 1 rfl)).wr W32 (oi 2 rfl)).wr W36 (oi 3 rfl)), f41, f43, f44, f42, f45, f46, f37, f47, f48, f49, Fw36, f50, f39, (Or.inr ⟨hk10, rfl⟩)⟩
 ·have hu0 : pv.getD (hs cx sf).toNatClampNeg .null = .null := own_T1c hT hs0 (own_hs hsl cx) hk10
  obtain ⟨cq51, q51, q51'⟩ := tE.cell
  obtain ⟨_, _, ⟨T52, L52, k52, n52⟩, -, X52, ⟨Lc52, hQ52, l52, y52, z52⟩, st52⟩ := X0.privateBack hx (y := mm9) hown (mvT hZ (w_182 hw)) (mvT hZ (w_183 hw)) (mvT hZ (own_selp (y := mm9) (w_102 hw) (w_184 hw) (w_183 hw) (by decide))) (Cond.privateMethod_at (mvP hZ (w_184 hw) (args := #[]))) (mvT hZ (w_185 hw)) (by decide) (backOf (W := 0) (rmS0 l Z a0 hw G ST [] ta pa _ sl sf _ sx vx _ cx h0 n0 X00 tE tP tS tV hsl sE sC sW sA sH sZ sg hc hu0) hZ (w_185 hw) (w_103 hw) (by decide) (by decide)) (g := (mkF m 2 #[xvr ta, xvr sx, xun] [xwr sx, xwr ta])) rfl (by rw [hml]; rfl) (Steps.refl _) (a := ta) (by rw [e0]; exact q51) q51' (argsL := [(.ref sx)]) (rest := []) (lenOf pd_8 rfl) rfl (Nat.le_of_eq rfl) (hb B d25_2) (fun _ _ => ⟨rfl, e0, (by decide : 0 + 0 ≤ _), (by decide : 0 + 0 ≤ _)⟩)
  dsimp only [Pt.U, Pt.locs, Pt.cells, Pt.slots] at X52 l52 y52 z52 st52 hQ52
  subst l52 y52 z52
  obtain ⟨hp52, e52⟩ : ∃ z, T52.heap = z := ⟨_, rfl⟩
  rw [e52] at hQ52
  obtain ⟨rfl, N52q, K52, p53, p54, p55⟩ := hQ52
  have N52 := Fr.app N0 N52q
  have f56 := (tE.keep K52)
  have f57 := (tP.keep K52 (ninS (Exa.ne f56 p53 (by decide)) nin0))
  obtain ⟨T58, X58, e58, st58⟩ := getF X52 hx hZ hown (host := "") (Or.inl (w_153 hw)) Via.refl e52 f57 (g := (mkF m 7 #[xvr ta, xvr sx, xvi (hs cx sf)] [xwr ta])) rfl rfl (hb B d25_7)
  have f59 := (tV.keep K52 (ninS (Ne.symm (Exa.neArv sE tV (w_10 hw))) nin0))
  obtain ⟨cl60, Ar60, q60, S60, M60, H60, G60⟩ := id f59
  have in60 : ¬ ((hs cx sf) < 0 ∨ cl60.slots.size ≤ ((hs cx sf)).toNatClampNeg) := inb_of S60 (own_hs hsl cx)
  obtain ⟨T61, X61, e61, st61⟩ := getF X58 hx hZ hown (host := "") (Or.inl (w_153 hw)) Via.refl e58 f57 (g := (mkF m 16 #[xvr ta, xvr sx, xvi (hs cx sf)] [xwr ta])) rfl rfl (hb B d25_16)
  obtain ⟨cl62, Ar62, q62, S62, M62, H62, G62⟩ := id f59
  have in62 : ¬ ((hs cx sf) < 0 ∨ cl62.slots.size ≤ ((hs cx sf)).toNatClampNeg) := inb_of S62 (own_hs hsl cx)
  obtain ⟨T63, h63, X63, e63, W63, st63⟩ := stR X61 hx hZ e61 Ar62 (j := (hs cx sf)) in62 rfl (Sto.ofV Ar62 q62 hO (Ins.self p53)) (g := (mkF m 21 #[xvr ta, xvr sx, xvi (hs cx sf)] [xwr sx, xwi (hs cx sf), xwr pa])) rfl rfl (hb B d25_21)
  have V63 : Arv Z h63 pa kp (.object sg1) sl (List.set (pv : List Value) ((hs cx sf)).toNatClampNeg (.ref sx)) .null := Arv.set Ar62 q62 S62 M62 H62 G62 rfl W63 _ rfl (own_lt32 hsl hpl (own_hs hsl cx))
  have N63 := Fr.snoc X63 N52 gp
  have f64 := (f56.wr W63)
  have f65 := (p53.wr W63)
  have f66 := ((tN.keep K52 (ninS (Exa.ne f64 f65 (by decide)) nin0)).other W63 (Or.inl (Exa.neArv tE tV (w_102 hw))))
  obtain ⟨T67, X67, e67, st67⟩ := getF X63 hx hZ hown (host := "") (Or.inl (w_156 hw)) Via.refl e63 f66 (g := (mkF m 23 #[xvr ta, xvr sx, xvi (hs cx sf)] [xwr ta])) rfl rfl (hb B d25_23)
  have f68 := ((tC.keep K52 (ninS (Exa.ne f64 f65 (by decide)) nin0)).other W63 (Or.inl (Exa.neArv tE tV (w_102 hw))))
  obtain ⟨T69, X69, e69, st69⟩ := getF X67 hx hZ hown (host := "") (Or.inl (w_204 hw)) Via.refl e67 f68 (g := (mkF m 28 #[xvr ta, xvr sx, xvi (hs cx sf)] [xwr ta, xwi (hs cx sf), xwr na])) rfl rfl (hb B d25_28)
  have f70 := ((nV.keep K52 (ninS (Ne.symm (Exa.neArv sE nV (w_10 hw))) nin0)).other W63 (own_neV nV tV (by decide)))
  obtain ⟨cl71, Ar71, q71, S71, M71, H71, G71⟩ := id f70
  have in71 : ¬ ((hs cx sf) < 0 ∨ cl71.slots.size ≤ ((hs cx sf)).toNatClampNeg) := inb_of S71 (own_hs hsl cx)
  obtain ⟨T72, h72, X72, e72, W72, st72⟩ := stI X69 hx hZ e69 Ar71 (j := (hs cx sf)) in71 (g := (mkF m 31 #[xvr ta, xvr sx, xvi (hs cx sf)] [xwi (1 : Int32), xwi (hs cx sf), xwr na])) rfl rfl (hb B d25_31)
  have V72 : Arv Z h72 na kn .int sl (List.set nv ((hs cx sf)).toNatClampNeg (.int (1 : Int32))) ZI := Arv.set Ar71 q71 S71 M71 H71 G71 rfl W72 _ rfl (own_lt32 hsl hnl (own_hs hsl cx))
  have N72 := Fr.snoc X72 N63 gn
  have f73 := (f68.other W72 (Or.inl (Exa.neArv tE nV (w_102 hw))))
  obtain ⟨T74, X74, e74, st74⟩ := getF X72 hx hZ hown (host := "") (Or.inl (w_204 hw)) Via.refl e72 f73 (g := (mkF m 34 #[xvr ta, xvr sx, xvi (hs cx sf)] [xwr ta, xwr ta])) rfl rfl (hb B d25_34)
  have f75 := (f64.wr W72)
  obtain ⟨T76, h76, X76, e76, W76, st76⟩ := putF X74 hx hZ hown (host := "") (Or.inl (w_204 hw)) Via.refl e74 f73 f75 (Or.inl (w_205 hw)) (w_102 hw) (ty := .int) (by decide) rfl rfl (g := (mkF m 39 #[xvr ta, xvr sx, xvi (hs cx sf)] [xwi (2 : Int32), xwr ta])) rfl rfl (hb B d25_39)
  have Fw76 := f73.same W76
  have N76 := Fr.snoc X76 N72 gt
  have f77 := ((f66.other W72 (Or.inl (Exa.neArv tE nV (w_102 hw)))).other W76 (Or.inr (slot_ne (Or.inr (w_157 hw)) (Or.inl (w_205 hw)) (by decide) (t := (.array .int)) (t' := .int) (by decide) (by decide))))
  obtain ⟨T78, X78, e78, st78⟩ := getF X76 hx hZ hown (host := "") (Or.inl (w_156 hw)) Via.refl e76 f77 (g := (mkF m 43 #[xvr ta, xvr sx, xvi (hs cx sf)] [xwr ta])) rfl rfl (hb B d25_43)
  have f79 := (V72.other W76 (Ne.symm (Exa.neArv tE nV (w_102 hw))))
  obtain ⟨cl80, Ar80, q80, S80, M80, H80, G80⟩ := id f79
  have in80 : ¬ ((hs cx sf) < 0 ∨ cl80.slots.size ≤ ((hs cx sf)).toNatClampNeg) := inb_of S80 (own_hs hsl cx)
  have f81 := ((f65.wr W72).wr W76)
  have f82 := (f75.wr W76)
  have f83 := (((p54.other W63 (Or.inl (Exa.neArv sE tV (w_10 hw)))).other W72 (Or.inl (Exa.neArv sE nV (w_10 hw)))).other W76 (Or.inl (Exa.ne f81 f82 (by decide))))
  have f84 := (((p55.other W63 (Or.inl (Exa.neArv sE tV (w_10 hw)))).other W72 (Or.inl (Exa.neArv sE nV (w_10 hw)))).other W76 (Or.inl (Exa.ne f81 f82 (by decide))))
  have f85 := (((f57.other W63 (Or.inl (Exa.neArv tE tV (w_102 hw)))).other W72 (Or.inl (Exa.neArv tE nV (w_102 hw)))).other W76 (Or.inr (slot_ne (Or.inr (w_154 hw)) (Or.inl (w_205 hw)) (by decide) (t := (.array (.object sg1))) (t' := .int) (by decide) (by decide))))
  have f86 := ((((tS.keep K52 (ninS (Exa.ne f82 f81 (by decide)) nin0)).other W63 (Or.inl (Exa.neArv tE tV (w_102 hw)))).other W72 (Or.inl (Exa.neArv tE nV (w_102 hw)))).other W76 (Or.inr (slot_ne (Or.inr (w_160 hw)) (Or.inl (w_205 hw)) (by decide) (t := .int) (t' := .int) (by decide) (by decide))))
  have f87 := ((((tD.keep K52 (ninS (Exa.ne f82 f81 (by decide)) nin0)).other W63 (Or.inl (Exa.neArv tE tV (w_102 hw)))).other W72 (Or.inl (Exa.neArv tE nV (w_102 hw)))).other W76 (Or.inr (slot_ne (Or.inr (w_113 hw)) (Or.inl (w_205 hw)) (by decide) (t := (.array (.array .int))) (t' := .int) (by decide) (by decide))))
  have f88 := ((((tM.keep K52 (ninS (Exa.ne f82 f81 (by decide)) nin0)).other W63 (Or.inl (Exa.neArv tE tV (w_102 hw)))).other W72 (Or.inl (Exa.neArv tE nV (w_102 hw)))).other W76 (Or.inr (slot_ne (Or.inr (w_162 hw)) (Or.inl (w_205 hw)) (by decide) (t := .int) (t' := .int) (by decide) (by decide))))
  have f89 := ((((tB.keep K52 (ninS (Exa.ne f82 f81 (by decide)) nin0)).other W63 (Or.inl (Exa.neArv tE tV (w_102 hw)))).other W72 (Or.inl (Exa.neArv tE nV (w_102 hw)))).other W76 (Or.inr (slot_ne (Or.inr (w_137 hw)) (Or.inl (w_205 hw)) (by decide) (t := (.object sg2)) (t' := .int) (by decide) (by decide))))
  have f90 := ((V63.other W72 (own_neV tV nV (by decide))).other W76 (Ne.symm (Exa.neArv tE tV (w_102 hw))))
  obtain ⟨fs, hr, hrun, hended, hW, hsame⟩ := X78.leave (v := some (.int (1 : Int32))) (own_rv Bd.returns)
  refine ⟨_, _, hTG _ (pre0 _ ?_), hrun, hended, _, _, rfl, ?_, ⟨_, rfl⟩, hW, hsame.mono (by decide) (by decide)⟩
  ·refine y_aloadN X0 hx 1 (hb B d25_0) rfl rfl rfl <| y_aloadN X0 hx 2 (hb B d25_1) rfl rfl rfl ?_
   refine st52.trans ?_
   refine y_istoreN X52 hx 6 (hb B d25_5) (L' := #[xvr ta, xvr sx, xvi (hs cx sf)]) rfl rfl <| y_aloadN X52 hx 7 (hb B d25_6) rfl rfl rfl ?_
   refine st58 _ ?_
   refine y_iloadN X58 hx 11 (hb B d25_10) rfl rfl ?_
   refine X58.aaload hx (j := (hs cx sf)) (v := .null) (by rw [e58]; exact Ar60.1) (State.isArrayOf_alike hZ.alike Ar60.2.1) rfl Ar60.2.2 in60 (Has.at H60 in60 hu0) (g := (mkF m 11 #[xvr ta, xvr sx, xvi (hs cx sf)] [xwi (hs cx sf), xwr pa])) rfl rfl (hb B d25_11) _ ?_
   refine XS.ifnonnullNo X58.here hx rfl (hb B d25_12) rfl ?_
   refine y_aloadN X58 hx 16 (hb B d25_15) rfl rfl rfl ?_
   refine st61 _ ?_
   refine y_iloadN X61 hx 20 (hb B d25_19) rfl rfl <| y_aloadN X61 hx 21 (hb B d25_20) rfl rfl rfl ?_
   refine st63 _ ?_
   refine y_aloadN X63 hx 23 (hb B d25_22) rfl rfl rfl ?_
   refine st67 _ ?_
   refine y_iloadN X67 hx 27 (hb B d25_26) rfl rfl <| y_aloadN X67 hx 28 (hb B d25_27) rfl rfl rfl ?_
   refine st69 _ ?_
   refine st72 _ ?_
   refine y_aloadN X72 hx 33 (hb B d25_32) rfl rfl rfl <| y_dup X72 hx 34 (hb B d25_33) rfl rfl ?_
   refine st74 _ ?_
   refine y_iconst X74 hx (1 : Int32) 38 (hb B d25_37) rfl rfl <| y_iadd X74 hx 39 (hb B d25_38) rfl ?_
   rw [show ((1 : Int32) + (1 : Int32)) = (2 : Int32) from by decide]
   refine st76 _ ?_
   refine y_aloadN X76 hx 43 (hb B d25_42) rfl rfl rfl ?_
   refine st78 _ ?_
   refine y_iloadN X78 hx 47 (hb B d25_46) rfl rfl ?_
   refine X78.iaload hx (j := (hs cx sf)) (v := (.int (1 : Int32))) (by rw [e78]; exact Ar80.1) (State.isArrayOf_alike hZ.alike Ar80.2.1) Ar80.2.2 in80 (Has.at H80 in80 (own_gs (own_lt32 hsl hnl (own_hs hsl cx)))) (g := (mkF m 47 #[xvr ta, xvr sx, xvi (hs cx sf)] [xwi (hs cx sf), xwr na])) rfl rfl (hb B d25_47) _ ?_
   show Sx p e below T78 m 48 #[xvr ta, xvr sx, xvi (hs cx sf)] [xwi (1 : Int32)] _
   exact retOut X78 hx Bd.returns rfl (Or.inl ⟨rfl, Or.inl rfl, _, rfl⟩) (hb B d25_48) hr
  ·show QrmN1d Z G ta pa kp sl sf pv na kn nv da ba mo sx vx kb cx q1 w1 kq cq s0 h0 n0 _ T78.heap _
   rw [e78]
   exact ⟨(hs cx sf), rfl, N76, (((((Keep.refl h0 [sx, pa, na, ta]).trans K52 (allS (oi 0 rfl) all0)).wr W63 (oi 1 rfl)).wr W72 (oi 2 rfl)).wr W76 (oi 3 rfl)), f81, f83, f84, f82, f85, f86, f77, f87, f88, f89, Fw76, f90, f79, (Or.inl ⟨rfl, hk10⟩)⟩
def QrmNH (Z : State) (G : Gs) (ta pa : Addr) (kp : ClassId) (sl sf : Int32) (pv : List Value) (na : Addr) (kn : ClassId) (nv : List Value) (sx vx : Addr) (kb : ClassId) (cx : Int32) (q1 w1 : Addr) (kq : ClassId) (cq nn : Int32) (h0 : Heap) (n0 : Nat) (v : Option Value) (h : Heap) (L : List Loc) : Prop := v = some (.int nn) ∧ Fr n0 L ∧ Keep h0 h [sx] ∧ Exa Z h sx sg1 ∧ Fld Z h sx sg1 "coder" "B" ZI ∧ Fld Z h sx sg1 "value" "[B" (.ref vx)
theorem rmNH (l : Launch) (Z : State) (a0 : Array Value) (hw : HW a0 Z) (G : Gs) (ST : StartF Z G) (ws : List Jvm.Cond) (ta pa : Addr) (kp : ClassId) (sl sf : Int32) (pv : List Value) (na : Addr) (kn : ClassId) (nv : List Value) (sx vx : Addr) (kb : ClassId) (cx : Int32) (q1 w1 : Addr) (kq : ClassId) (cq nn : Int32) (h0 : Heap) (n0 : Nat) (X00 : Old Z n0 h0) (tE : Exa Z h0 ta sg0) (tP : Fld Z h0 ta sg0 sg8 sg5 (.ref pa)) (tS : Fld Z h0 ta sg0 "shift" "I" (.int sf)) (tV : Arv Z h0 pa kp (.object sg1) sl pv .null) (hsl : SLS sl sf) (tN : Fld Z h0 ta sg0 "numbers" "[I" (.ref na)) (nV : Arv Z h0 na kn .int sl nv ZI) (sE : Exa Z h0 sx sg1) (sC : Fld Z h0 sx sg1 "coder" "B" ZI) (sW : Fld Z h0 sx sg1 "value" "[B" (.ref vx)) (sA : Arv Z h0 vx kb .byte (1 : Int32) [(.int cx.toInt8.toInt32)] ZI) (sH : Fld Z h0 sx sg1 "hash" "I" ZI) (sZ : Fld Z h0 sx sg1 "hashIsZero" "Z" ZI) (sg : n0 ≤ sx) (hc : (¬ cx < 0 ∧ ¬ (255 : Int32) < cx)) (qE : Exa Z h0 q1 sg1) (qC : Fld Z h0 q1 sg1 "coder" "B" ZI) (qW : Fld Z h0 q1 sg1 "value" "[B" (.ref w1)) (qA : Arv Z h0 w1 kq .byte (1 : Int32) [(.int cq.toInt8.toInt32)] ZI) (nqs : q1 ≠ sx) (hu0 : pv.getD (hs cx sf).toNatClampNeg .null = .ref q1) (he : cq.toInt8.toInt32 = cx.toInt8.toInt32) (hg : nv.getD (hs cx sf).toNatClampNeg ZI = .int nn) :
  MF l Z ws mm10 prog_54_method_6_code 3 (some .int) (rk 3 0 0 42) #[(.ref ta), (.ref sx)] h0 (QrmNH Z G ta pa kp sl sf pv na kn nv sx vx kb cx q1 w1 kq cq nn h0 n0) := by
 refine MetFree.of_bodySF (plainFor_of_name pn_2) hisR ?_
 intro p e s m args below meth c s₁ Bd hml0 hP hK
 obtain ⟨rfl, hZ, hh⟩ := hP
 have hx := Bd.exec
 have B := Bd.bytes
 have hml : c.maxLocals = 3 := hml0
 have hown : s.vm.findClass sg0 = some m.cls := findClass_of_methodNamed Bd.named
 have X0 : Stand p l e (rk 3 0 0 42) s m #[(.ref ta), (.ref sx)] below meth c s₁ [] 0 0 := Stand.of_body Bd
 have e0 : s₁.heap = h0 := by rw [← hh, Bd.state]; rfl
 have N0 := Fr.nil n0
 obtain ⟨TG, hTG, pre0⟩ := own_pre p e below s₁ (ef_rmLEs m ta sx )
 obtain ⟨cq10, q10, q10'⟩ := tE.cell
 obtain ⟨_, _, ⟨T11, L11, k11, n11⟩, -, X11, ⟨Lc11, hQ11, l11, y11, z11⟩, st11⟩ := X0.privateBack hx (y := mm9) hown (mvT hZ (w_182 hw)) (mvT hZ (w_183 hw)) (mvT hZ (own_selp (y := mm9) (w_102 hw) (w_184 hw) (w_183 hw) (by decide))) (Cond.privateMethod_at (mvP hZ (w_184 hw) (args := #[]))) (mvT hZ (w_185 hw)) (by decide) (backOf (W := 0) (rmS1 l Z a0 hw G ST [] ta pa _ sl sf _ sx vx _ cx q1 w1 _ cq h0 n0 X00 tE tP tS tV hsl sE sC sW sA sH sZ sg hc qE qC qW qA nqs (by first | assumption | decide) he) hZ (w_185 hw) (w_103 hw) (by decide) (by decide)) (g := (mkF m 2 #[xvr ta, xvr sx, xun] [xwr sx, xwr ta])) rfl (by rw [hml]; rfl) (Steps.refl _) (a := ta) (by rw [e0]; exact q10) q10' (argsL := [(.ref sx)]) (rest := []) (lenOf pd_8 rfl) rfl (Nat.le_of_eq rfl) (hb B d25_2) (fun _ _ => ⟨rfl, e0, (by decide : 0 + 0 ≤ _), (by decide : 0 + 0 ≤ _)⟩)
 dsimp only [Pt.U, Pt.locs, Pt.cells, Pt.slots] at X11 l11 y11 z11 st11 hQ11
 subst l11 y11 z11
 obtain ⟨hp11, e11⟩ : ∃ z, T11.heap = z := ⟨_, rfl⟩
 rw [e11] at hQ11
 obtain ⟨rfl, N11q, K11, p12, p13, p14⟩ := hQ11
 have N11 := Fr.app N0 N11q
 have f15 := (tE.keep K11)
 have f16 := (tP.keep K11 (ninS (Exa.ne f15 p12 (by decide)) nin0))
 obtain ⟨T17, X17, e17, st17⟩ := getF X11 hx hZ hown (host := "") (Or.inl (w_153 hw)) Via.refl e11 f16 (g := (mkF m 7 #[xvr ta, xvr sx, xvi (hs cx sf)] [xwr ta])) rfl rfl (hb B d25_7)
 have f18 := (tV.keep K11 (ninS (Ne.symm (Exa.neArv sE tV (w_10 hw))) nin0))
 obtain ⟨cl19, Ar19, q19, S19, M19, H19, G19⟩ := id f18
 have in19 : ¬ ((hs cx sf) < 0 ∨ cl19.slots.size ≤ ((hs cx sf)).toNatClampNeg) := inb_of S19 (own_hs hsl cx)
 have f20 := (tN.keep K11 (ninS (Exa.ne f15 p12 (by decide)) nin0))
 obtain ⟨T21, X21, e21, st21⟩ := getF X17 hx hZ hown (host := "") (Or.inl (w_156 hw)) Via.refl e17 f20 (g := (mkF m 43 #[xvr ta, xvr sx, xvi (hs cx sf)] [xwr ta])) rfl rfl (hb B d25_43)
 have f22 := (nV.keep K11 (ninS (Ne.symm (Exa.neArv sE nV (w_10 hw))) nin0))
 obtain ⟨cl23, Ar23, q23, S23, M23, H23, G23⟩ := id f22
 have in23 : ¬ ((hs cx sf) < 0 ∨ cl23.slots.size ≤ ((hs cx sf)).toNatClampNeg) := inb_of S23 (own_hs hsl cx)
 obtain ⟨fs, hr, hrun, hended, hW, hsame⟩ := X21.leave (v := some (.int nn)) (own_rv Bd.returns)
 refine ⟨_, _, hTG _ (pre0 _ ?_), hrun, hended, _, _, rfl, ?_, ⟨_, rfl⟩, hW, hsame.mono (by decide) (by decide)⟩
 ·refine y_aloadN X0 hx 1 (hb B d25_0) rfl rfl rfl <| y_aloadN X0 hx 2 (hb B d25_1) rfl rfl rfl ?_
  refine st11.trans ?_
  refine y_istoreN X11 hx 6 (hb B d25_5) (L' := #[xvr ta, xvr sx, xvi (hs cx sf)]) rfl rfl <| y_aloadN X11 hx 7 (hb B d25_6) rfl rfl rfl ?_
  refine st17 _ ?_
  refine y_iloadN X17 hx 11 (hb B d25_10) rfl rfl ?_
  refine X17.aaload hx (j := (hs cx sf)) (v := (.ref q1)) (by rw [e17]; exact Ar19.1) (State.isArrayOf_alike hZ.alike Ar19.2.1) rfl Ar19.2.2 in19 (Has.at H19 in19 hu0) (g := (mkF m 11 #[xvr ta, xvr sx, xvi (hs cx sf)] [xwi (hs cx sf), xwr pa])) rfl rfl (hb B d25_11) _ ?_
  show Sx p e below T17 m 12 #[xvr ta, xvr sx, xvi (hs cx sf)] [xwr q1] _
  refine XS.ifnonnullYes X17.here hx rfl (pc0 := 12) (pc' := 42) rfl (hb B d25_12) rfl (by decide) (by decide) ?_
  refine y_aloadN X17 hx 43 (hb B d25_42) rfl rfl rfl ?_
  refine st21 _ ?_
  refine y_iloadN X21 hx 47 (hb B d25_46) rfl rfl ?_
  refine X21.iaload hx (j := (hs cx sf)) (v := (.int nn)) (by rw [e21]; exact Ar23.1) (State.isArrayOf_alike hZ.alike Ar23.2.1) Ar23.2.2 in23 (Has.at H23 in23 hg) (g := (mkF m 47 #[xvr ta, xvr sx, xvi (hs cx sf)] [xwi (hs cx sf), xwr na])) rfl rfl (hb B d25_47) _ ?_
  show Sx p e below T21 m 48 #[xvr ta, xvr sx, xvi (hs cx sf)] [xwi nn] _
  exact retOut X21 hx Bd.returns rfl (Or.inl ⟨rfl, Or.inl rfl, _, rfl⟩) (hb B d25_48) hr
 ·show QrmNH Z G ta pa kp sl sf pv na kn nv sx vx kb cx q1 w1 kq cq nn h0 n0 _ T21.heap _
  rw [e21]
  exact ⟨rfl, N11, ((Keep.refl h0 [sx]).trans K11 (allS (oi 0 rfl) all0)), p12, p13, p14⟩
def QrmN2b (Z : State) (G : Gs) (ta pa : Addr) (kp : ClassId) (sl sf : Int32) (pv : List Value) (na : Addr) (kn : ClassId) (nv : List Value) (sx vx : Addr) (kb : ClassId) (cx : Int32) (q1 w1 : Addr) (kq : ClassId) (cq : Int32) (q2 w2 : Addr) (k2 : ClassId) (c2 s0 : Int32) (ix nn : Int32) (h0 : Heap) (n0 : Nat) (v : Option Value) (h : Heap) (L : List Loc) : Prop := v = some (.int nn) ∧ Fr n0 L ∧ Keep h0 h [sx] ∧ Exa Z h sx sg1 ∧ Fld Z h sx sg1 "coder" "B" ZI ∧ Fld Z h sx sg1 "value" "[B" (.ref vx)
theorem rmN2b (l : Launch) (Z : State) (a0 : Array Value) (hw : HW a0 Z) (G : Gs) (ST : StartF Z G) (ws : List Jvm.Cond) (ta pa : Addr) (kp : ClassId) (sl sf : Int32) (pv : List Value) (na : Addr) (kn : ClassId) (nv : List Value) (sx vx : Addr) (kb : ClassId) (cx : Int32) (q1 w1 : Addr) (kq : ClassId) (cq : Int32) (q2 w2 : Addr) (k2 : ClassId) (c2 s0 : Int32) (ix nn : Int32) (h0 : Heap) (n0 : Nat) (X00 : Old Z n0 h0) (tE : Exa Z h0 ta sg0) (tP : Fld Z h0 ta sg0 sg8 sg5 (.ref pa)) (tS : Fld Z h0 ta sg0 "shift" "I" (.int sf)) (tV : Arv Z h0 pa kp (.object sg1) sl pv .null) (hsl : SLS sl sf) (tN : Fld Z h0 ta sg0 "numbers" "[I" (.ref na)) (nV : Arv Z h0 na kn .int sl nv ZI) (sE : Exa Z h0 sx sg1) (sC : Fld Z h0 sx sg1 "coder" "B" ZI) (sW : Fld Z h0 sx sg1 "value" "[B" (.ref vx)) (sA : Arv Z h0 vx kb .byte (1 : Int32) [(.int cx.toInt8.toInt32)] ZI) (sH : Fld Z h0 sx sg1 "hash" "I" ZI) (sZ : Fld Z h0 sx sg1 "hashIsZero" "Z" ZI) (sg : n0 ≤ sx) (hc : (¬ cx < 0 ∧ ¬ (255 : Int32) < cx)) (qE : Exa Z h0 q1 sg1) (qC : Fld Z h0 q1 sg1 "coder" "B" ZI) (qW : Fld Z h0 q1 sg1 "value" "[B" (.ref w1)) (qA : Arv Z h0 w1 kq .byte (1 : Int32) [(.int cq.toInt8.toInt32)] ZI) (rE : Exa Z h0 q2 sg1) (rC : Fld Z h0 q2 sg1 "coder" "B" ZI) (rW : Fld Z h0 q2 sg1 "value" "[B" (.ref w2)) (rA : Arv Z h0 w2 k2 .byte (1 : Int32) [(.int c2.toInt8.toInt32)] ZI) (nqs : q1 ≠ sx) (nrs : q2 ≠ sx) (hI : IXP cx sf sl s0 ix) (hq : pv.getD (s0).toNatClampNeg .null = .ref q1) (hr2 : pv.getD (ix).toNatClampNeg .null = .ref q2) (he : ¬ cq.toInt8.toInt32 = cx.toInt8.toInt32) (hf : c2.toInt8.toInt32 = cx.toInt8.toInt32) (hg2 : nv.getD (ix).toNatClampNeg ZI = .int nn) :
  MF l Z ws mm10 prog_54_method_6_code 3 (some .int) (rk 3 0 0 42) #[(.ref ta), (.ref sx)] h0 (QrmN2b Z G ta pa kp sl sf pv na kn nv sx vx kb cx q1 w1 kq cq q2 w2 k2 c2 s0 ix nn h0 n0) := by
 refine MetFree.of_bodySF (plainFor_of_name pn_2) hisR ?_
 intro p e s m args below meth c s₁ Bd hml0 hP hK
 obtain ⟨rfl, hZ, hh⟩ := hP
 have hx := Bd.exec
 have B := Bd.bytes
 have hml : c.maxLocals = 3 := hml0
 have hown : s.vm.findClass sg0 = some m.cls := findClass_of_methodNamed Bd.named
 have X0 : Stand p l e (rk 3 0 0 42) s m #[(.ref ta), (.ref sx)] below meth c s₁ [] 0 0 := Stand.of_body Bd
 have e0 : s₁.heap = h0 := by rw [← hh, Bd.state]; rfl
 have N0 := Fr.nil n0
 obtain ⟨TG, hTG, pre0⟩ := own_pre p e below s₁ (ef_rmLEs m ta sx )
 rcases hI with hk10 | hk10
 ·have hu0 : pv.getD (hs cx sf).toNatClampNeg .null = .ref q2 := by rw [← hk10.1]; exact hr2
  have hg : nv.getD (hs cx sf).toNatClampNeg ZI = .int nn := by rw [← hk10.1]; exact hg2
  obtain ⟨cq11, q11, q11'⟩ := tE.cell
  obtain ⟨_, _, ⟨T12, L12, k12, n12⟩, -, X12, ⟨Lc12, hQ12, l12, y12, z12⟩, st12⟩ := X0.privateBack hx (y := mm9) hown (mvT hZ (w_182 hw)) (mvT hZ (w_183 hw)) (mvT hZ (own_selp (y := mm9) (w_102 hw) (w_184 hw) (w_183 hw) (by decide))) (Cond.privateMethod_at (mvP hZ (w_184 hw) (args := #[]))) (mvT hZ (w_185 hw)) (by decide) (backOf (W := 0) (rmS1 l Z a0 hw G ST [] ta pa _ sl sf _ sx vx _ cx q2 w2 _ c2 h0 n0 X00 tE tP tS tV hsl sE sC sW sA sH sZ sg hc rE rC rW rA nrs hu0 hf) hZ (w_185 hw) (w_103 hw) (by decide) (by decide)) (g := (mkF m 2 #[xvr ta, xvr sx, xun] [xwr sx, xwr ta])) rfl (by rw [hml]; rfl) (Steps.refl _) (a := ta) (by rw [e0]; exact q11) q11' (argsL := [(.ref sx)]) (rest := []) (lenOf pd_8 rfl) rfl (Nat.le_of_eq rfl) (hb B d25_2) (fun _ _ => ⟨rfl, e0, (by decide : 0 + 0 ≤ _), (by decide : 0 + 0 ≤ _)⟩)
  dsimp only [Pt.U, Pt.locs, Pt.cells, Pt.slots] at X12 l12 y12 z12 st12 hQ12
  subst l12 y12 z12
  obtain ⟨hp12, e12⟩ : ∃ z, T12.heap = z := ⟨_, rfl⟩
  rw [e12] at hQ12
  obtain ⟨rfl, N12q, K12, p13, p14, p15⟩ := hQ12
  have N12 := Fr.app N0 N12q
  have f16 := (tE.keep K12)
  have f17 := (tP.keep K12 (ninS (Exa.ne f16 p13 (by decide)) nin0))
  obtain ⟨T18, X18, e18, st18⟩ := getF X12 hx hZ hown (host := "") (Or.inl (w_153 hw)) Via.refl e12 f17 (g := (mkF m 7 #[xvr ta, xvr sx, xvi (hs cx sf)] [xwr ta])) rfl rfl (hb B d25_7)
  have f19 := (tV.keep K12 (ninS (Ne.symm (Exa.neArv sE tV (w_10 hw))) nin0))
  obtain ⟨cl20, Ar20, q20, S20, M20, H20, G20⟩ := id f19
  have in20 : ¬ ((hs cx sf) < 0 ∨ cl20.slots.size ≤ ((hs cx sf)).toNatClampNeg) := inb_of S20 (own_hs hsl cx)
  have f21 := (tN.keep K12 (ninS (Exa.ne f16 p13 (by decide)) nin0))
  obtain ⟨T22, X22, e22, st22⟩ := getF X18 hx hZ hown (host := "") (Or.inl (w_156 hw)) Via.refl e18 f21 (g := (mkF m 43 #[xvr ta, xvr sx, xvi (hs cx sf)] [xwr ta])) rfl rfl (hb B d25_43)
  have f23 := (nV.keep K12 (ninS (Ne.symm (Exa.neArv sE nV (w_10 hw))) nin0))
  obtain ⟨cl24, Ar24, q24, S24, M24, H24, G24⟩ := id f23
  have in24 : ¬ ((hs cx sf) < 0 ∨ cl24.slots.size ≤ ((hs cx sf)).toNatClampNeg) := inb_of S24 (own_hs hsl cx)
  obtain ⟨fs, hr, hrun, hended, hW, hsame⟩ := X22.leave (v := some (.int nn)) (own_rv Bd.returns)
  refine ⟨_, _, hTG _ (pre0 _ ?_), hrun, hended, _, _, rfl, ?_, ⟨_, rfl⟩, hW, hsame.mono (by decide) (by decide)⟩
  ·refine y_aloadN X0 hx 1 (hb B d25_0) rfl rfl rfl <| y_aloadN X0 hx 2 (hb B d25_1) rfl rfl rfl ?_
   refine st12.trans ?_
   refine y_istoreN X12 hx 6 (hb B d25_5) (L' := #[xvr ta, xvr sx, xvi (hs cx sf)]) rfl rfl <| y_aloadN X12 hx 7 (hb B d25_6) rfl rfl rfl ?_
   refine st18 _ ?_
   refine y_iloadN X18 hx 11 (hb B d25_10) rfl rfl ?_
   refine X18.aaload hx (j := (hs cx sf)) (v := (.ref q2)) (by rw [e18]; exact Ar20.1) (State.isArrayOf_alike hZ.alike Ar20.2.1) rfl Ar20.2.2 in20 (Has.at H20 in20 hu0) (g := (mkF m 11 #[xvr ta, xvr sx, xvi (hs cx sf)] [xwi (hs cx sf), xwr pa])) rfl rfl (hb B d25_11) _ ?_
   show Sx p e below T18 m 12 #[xvr ta, xvr sx, xvi (hs cx sf)] [xwr q2] _
   refine XS.ifnonnullYes X18.here hx rfl (pc0 := 12) (pc' := 42) rfl (hb B d25_12) rfl (by decide) (by decide) ?_
   refine y_aloadN X18 hx 43 (hb B d25_42) rfl rfl rfl ?_
   refine st22 _ ?_
   refine y_iloadN X22 hx 47 (hb B d25_46) rfl rfl ?_
   refine X22.iaload hx (j := (hs cx sf)) (v := (.int nn)) (by rw [e22]; exact Ar24.1) (State.isArrayOf_alike hZ.alike Ar24.2.1) Ar24.2.2 in24 (Has.at H24 in24 hg) (g := (mkF m 47 #[xvr ta, xvr sx, xvi (hs cx sf)] [xwi (hs cx sf), xwr na])) rfl rfl (hb B d25_47) _ ?_
   show Sx p e below T22 m 48 #[xvr ta, xvr sx, xvi (hs cx sf)] [xwi nn] _
   exact retOut X22 hx Bd.returns rfl (Or.inl ⟨rfl, Or.inl rfl, _, rfl⟩) (hb B d25_48) hr
  ·show QrmN2b Z G ta pa kp sl sf pv na kn nv sx vx kb cx q1 w1 kq cq q2 w2 k2 c2 s0 ix nn h0 n0 _ T22.heap _
   rw [e22]
   exact ⟨rfl, N12, ((Keep.refl h0 [sx]).trans K12 (allS (oi 0 rfl) all0)), p13, p14, p15⟩
 ·have hu0 : pv.getD (hs cx sf).toNatClampNeg .null = .ref q1 := by rw [hk10.1]; exact hq
  have hu1 : pv.getD (nxs cx sf sl).toNatClampNeg .null = .ref q2 := by rw [← hk10.2]; exact hr2
  have hg : nv.getD (nxs cx sf sl).toNatClampNeg ZI = .int nn := by rw [← hk10.2]; exact hg2
  obtain ⟨cq25, q25, q25'⟩ := tE.cell
  obtain ⟨_, _, ⟨T26, L26, k26, n26⟩, -, X26, ⟨Lc26, hQ26, l26, y26, z26⟩, st26⟩ := X0.privateBack hx (y := mm9) hown (mvT hZ (w_182 hw)) (mvT hZ (w_183 hw)) (mvT hZ (own_selp (y := mm9) (w_102 hw) (w_184 hw) (w_183 hw) (by decide))) (Cond.privateMethod_at (mvP hZ (w_184 hw) (args := #[]))) (mvT hZ (w_185 hw)) (by decide) (backOf (W := 0) (rmS3 l Z a0 hw G ST [] ta pa _ sl sf _ sx vx _ cx q1 w1 _ cq q2 w2 _ c2 h0 n0 X00 tE tP tS tV hsl sE sC sW sA sH sZ sg hc qE qC qW qA rE rC rW rA nqs nrs hu0 he hu1 hf) hZ (w_185 hw) (w_103 hw) (by decide) (by decide)) (g := (mkF m 2 #[xvr ta, xvr sx, xun] [xwr sx, xwr ta])) rfl (by rw [hml]; rfl) (Steps.refl _) (a := ta) (by rw [e0]; exact q25) q25' (argsL := [(.ref sx)]) (rest := []) (lenOf pd_8 rfl) rfl (Nat.le_of_eq rfl) (hb B d25_2) (fun _ _ => ⟨rfl, e0, (by decide : 0 + 0 ≤ _), (by decide : 0 + 0 ≤ _)⟩)
  dsimp only [Pt.U, Pt.locs, Pt.cells, Pt.slots] at X26 l26 y26 z26 st26 hQ26
  subst l26 y26 z26
  obtain ⟨hp26, e26⟩ : ∃ z, T26.heap = z := ⟨_, rfl⟩
  rw [e26] at hQ26
  obtain ⟨rfl, N26q, K26, p27, p28, p29⟩ := hQ26
  have N26 := Fr.app N0 N26q
  have f30 := (tE.keep K26)
  have f31 := (tP.keep K26 (ninS (Exa.ne f30 p27 (by decide)) nin0))
  obtain ⟨T32, X32, e32, st32⟩ := getF X26 hx hZ hown (host := "") (Or.inl (w_153 hw)) Via.refl e26 f31 (g := (mkF m 7 #[xvr ta, xvr sx, xvi (nxs cx sf sl)] [xwr ta])) rfl rfl (hb B d25_7)
  have f33 := (tV.keep K26 (ninS (Ne.symm (Exa.neArv sE tV (w_10 hw))) nin0))
  obtain ⟨cl34, Ar34, q34, S34, M34, H34, G34⟩ := id f33
  have in34 : ¬ ((nxs cx sf sl) < 0 ∨ cl34.slots.size ≤ ((nxs cx sf sl)).toNatClampNeg) := inb_of S34 (own_nx hsl cx)
  have f35 := (tN.keep K26 (ninS (Exa.ne f30 p27 (by decide)) nin0))
  obtain ⟨T36, X36, e36, st36⟩ := getF X32 hx hZ hown (host := "") (Or.inl (w_156 hw)) Via.refl e32 f35 (g := (mkF m 43 #[xvr ta, xvr sx, xvi (nxs cx sf sl)] [xwr ta])) rfl rfl (hb B d25_43)
  have f37 := (nV.keep K26 (ninS (Ne.symm (Exa.neArv sE nV (w_10 hw))) nin0))
  obtain ⟨cl38, Ar38, q38, S38, M38, H38, G38⟩ := id f37
  have in38 : ¬ ((nxs cx sf sl) < 0 ∨ cl38.slots.size ≤ ((nxs cx sf sl)).toNatClampNeg) := inb_of S38 (own_nx hsl cx)
  obtain ⟨fs, hr, hrun, hended, hW, hsame⟩ := X36.leave (v := some (.int nn)) (own_rv Bd.returns)
  refine ⟨_, _, hTG _ (pre0 _ ?_), hrun, hended, _, _, rfl, ?_, ⟨_, rfl⟩, hW, hsame.mono (by decide) (by decide)⟩
  ·refine y_aloadN X0 hx 1 (hb B d25_0) rfl rfl rfl <| y_aloadN X0 hx 2 (hb B d25_1) rfl rfl rfl ?_
   refine st26.trans ?_
   refine y_istoreN X26 hx 6 (hb B d25_5) (L' := #[xvr ta, xvr sx, xvi (nxs cx sf sl)]) rfl rfl <| y_aloadN X26 hx 7 (hb B d25_6) rfl rfl rfl ?_
   refine st32 _ ?_
   refine y_iloadN X32 hx 11 (hb B d25_10) rfl rfl ?_
   refine X32.aaload hx (j := (nxs cx sf sl)) (v := (.ref q2)) (by rw [e32]; exact Ar34.1) (State.isArrayOf_alike hZ.alike Ar34.2.1) rfl Ar34.2.2 in34 (Has.at H34 in34 hu1) (g := (mkF m 11 #[xvr ta, xvr sx, xvi (nxs cx sf sl)] [xwi (nxs cx sf sl), xwr pa])) rfl rfl (hb B d25_11) _ ?_
   show Sx p e below T32 m 12 #[xvr ta, xvr sx, xvi (nxs cx sf sl)] [xwr q2] _
   refine XS.ifnonnullYes X32.here hx rfl (pc0 := 12) (pc' := 42) rfl (hb B d25_12) rfl (by decide) (by decide) ?_
   refine y_aloadN X32 hx 43 (hb B d25_42) rfl rfl rfl ?_
   refine st36 _ ?_
   refine y_iloadN X36 hx 47 (hb B d25_46) rfl rfl ?_
   refine X36.iaload hx (j := (nxs cx sf sl)) (v := (.int nn)) (by rw [e36]; exact Ar38.1) (State.isArrayOf_alike hZ.alike Ar38.2.1) Ar38.2.2 in38 (Has.at H38 in38 hg) (g := (mkF m 47 #[xvr ta, xvr sx, xvi (nxs cx sf sl)] [xwi (nxs cx sf sl), xwr na])) rfl rfl (hb B d25_47) _ ?_
   show Sx p e below T36 m 48 #[xvr ta, xvr sx, xvi (nxs cx sf sl)] [xwi nn] _
   exact retOut X36 hx Bd.returns rfl (Or.inl ⟨rfl, Or.inl rfl, _, rfl⟩) (hb B d25_48) hr
  ·show QrmN2b Z G ta pa kp sl sf pv na kn nv sx vx kb cx q1 w1 kq cq q2 w2 k2 c2 s0 ix nn h0 n0 _ T36.heap _
   rw [e36]
   exact ⟨rfl, N26, ((Keep.refl h0 [sx]).trans K26 (allS (oi 0 rfl) all0)), p27, p28, p29⟩
abbrev kc33 : ByteArray := jdk_37_method_2_code
def d33_0 : DC kc33 0 (.aload_n 0) 1 := by decide +kernel
def d33_1 : DC kc33 1 (.getfield 7) 3 := by decide +kernel
def d33_4 : DC kc33 4 (.ireturn) 1 := by decide +kernel
theorem pn_3 : plainName "java/lang/Enum" = true := by first | (simp [plainName, overriddenIn]; done) | decide +kernel
def QrmOr (Z : State) (G : Gs) (ax : Addr) (kx : Int32) (h0 : Heap) (n0 : Nat) (v : Option Value) (h : Heap) (L : List Loc) : Prop := v = some (.int kx) ∧ Fr n0 L ∧ h = h0
theorem rmOr (l : Launch) (Z : State) (a0 : Array Value) (hw : HW a0 Z) (G : Gs) (ST : StartF Z G) (ws : List Jvm.Cond) (ax : Addr) (kx : Int32) (h0 : Heap) (n0 : Nat) (X00 : Old Z n0 h0) (F1 : Fld Z h0 ax sg7 "ordinal" "I" (.int kx)) :
  MF l Z ws mm11 jdk_37_method_2_code 1 (some .int) (rk 0 0 0 0) #[(.ref ax)] h0 (QrmOr Z G ax kx h0 n0) := by
 refine MetFree.of_bodySF (plainFor_of_name pn_3) hisR ?_
 intro p e s m args below meth c s₁ Bd hml0 hP hK
 obtain ⟨rfl, hZ, hh⟩ := hP
 have hx := Bd.exec
 have B := Bd.bytes
 have hown : s.vm.findClass sg7 = some m.cls := findClass_of_methodNamed Bd.named
 have X0 : Stand p l e (rk 0 0 0 0) s m #[(.ref ax)] below meth c s₁ [] 0 0 := Stand.of_body Bd
 have e0 : s₁.heap = h0 := by rw [← hh, Bd.state]; rfl
 have N0 := Fr.nil n0
 obtain ⟨TG, hTG, pre0⟩ := own_pre p e below s₁ (ef_rmL1 m ax )
 obtain ⟨T10, X10, e10, st10⟩ := getF X0 hx hZ hown (host := "") (Or.inl (w_228 hw)) Via.refl e0 F1 (g := (mkF m 1 #[xvr ax] [xwr ax])) rfl rfl (hb B d33_1)
 obtain ⟨fs, hr, hrun, hended, hW, hsame⟩ := X10.leave (v := some (.int kx)) (own_rv Bd.returns)
 refine ⟨_, _, hTG _ (pre0 _ ?_), hrun, hended, _, _, rfl, ?_, ⟨_, rfl⟩, hW, hsame.mono (by decide) (by decide)⟩
 ·refine y_aloadN X0 hx 1 (hb B d33_0) rfl rfl rfl ?_
  refine st10 _ ?_
  show Sx p e below T10 m 4 #[xvr ax] [xwi kx] _
  exact retOut X10 hx Bd.returns rfl (Or.inl ⟨rfl, Or.inl rfl, _, rfl⟩) (hb B d33_4) hr
 ·show QrmOr Z G ax kx h0 n0 _ T10.heap _
  rw [e10]
  exact ⟨rfl, N0, rfl⟩
theorem ef_rmFi (m : MethodId) (x0 : Addr) (x1 : Int32)  : entryFrame m #[(.ref x0), (.int x1)] 4 = mkF m 0 #[.val (.ref x0), .val (.int x1), .unset, .unset] [] := by first | (simp [entryFrame, mkF, argsToLocals, Value.category]; done) | rfl
abbrev kc34 : ByteArray := jdk_65_method_103_code
def d34_0 : DC kc34 0 (.iconst 0) 1 := by decide +kernel
def d34_1 : DC kc34 1 (.istore_n 2) 1 := by decide +kernel
def d34_2 : DC kc34 2 (.aload_n 0) 1 := by decide +kernel
def d34_3 : DC kc34 3 (.arraylength) 1 := by decide +kernel
def d34_4 : DC kc34 4 (.istore_n 3) 1 := by decide +kernel
def d34_5 : DC kc34 5 (.iload_n 2) 1 := by decide +kernel
def d34_6 : DC kc34 6 (.iload_n 3) 1 := by decide +kernel
def d34_7 : DC kc34 7 (.if_icmp .ge 13) 3 := by decide +kernel
def d34_10 : DC kc34 10 (.aload_n 0) 1 := by decide +kernel
def d34_11 : DC kc34 11 (.iload_n 2) 1 := by decide +kernel
def d34_12 : DC kc34 12 (.iload_n 1) 1 := by decide +kernel
def d34_13 : DC kc34 13 (.iastore) 1 := by decide +kernel
def d34_14 : DC kc34 14 (.iinc 2 1) 3 := by decide +kernel
def d34_17 : DC kc34 17 (.goto (-12)) 3 := by decide +kernel
def d34_20 : DC kc34 20 (.return_) 1 := by decide +kernel
theorem pn_4 : plainName "java/util/Arrays" = true := by first | (simp [plainName, overriddenIn]; done) | decide +kernel
def QrmFi (Z : State) (G : Gs) (ca : Addr) (kc : ClassId) (mo : Int32) (h0 : Heap) (n0 : Nat) (v : Option Value) (h : Heap) (L : List Loc) : Prop := v = none ∧ Fr n0 L ∧ Keep h0 h [ca] ∧ Arv Z h ca kc .int mo [MI, MI, MI, MI, MI, MI, MI, MI, MI] ZI
theorem rmFi (l : Launch) (Z : State) (a0 : Array Value) (hw : HW a0 Z) (G : Gs) (ST : StartF Z G) (ws : List Jvm.Cond) (ca : Addr) (kc : ClassId) (mo : Int32) (h0 : Heap) (n0 : Nat) (X00 : Old Z n0 h0) (V1 : Arv Z h0 ca kc .int mo [ZI, ZI, ZI, ZI, ZI, ZI, ZI, ZI, ZI] ZI) (hmo : Mo mo) (gc : n0 ≤ ca) :
  MF l Z ws mm12 jdk_65_method_103_code 4 none (rk 0 0 0 0) #[(.ref ca), (.int (-2147483648 : Int32))] h0 (QrmFi Z G ca kc mo h0 n0) := by
 refine MetFree.of_bodySF (plainFor_of_name pn_4) hisR ?_
 intro p e s m args below meth c s₁ Bd hml0 hP hK
 obtain ⟨rfl, hZ, hh⟩ := hP
 have hx := Bd.exec
 have B := Bd.bytes
 have X0 : Stand p l e (rk 0 0 0 0) s m #[(.ref ca), (.int (-2147483648 : Int32))] below meth c s₁ [] 0 0 := Stand.of_body Bd
 have e0 : s₁.heap = h0 := by rw [← hh, Bd.state]; rfl
 have N0 := Fr.nil n0
 obtain ⟨TG, hTG, pre0⟩ := own_pre p e below s₁ (ef_rmFi m ca (-2147483648 : Int32) )
 obtain ⟨cl10, Ar10, q10, S10, M10, H10, G10⟩ := id V1
 obtain ⟨cl11, Ar11, q11, S11, M11, H11, G11⟩ := id V1
 have in11 : ¬ ((0 : Int32) < 0 ∨ cl11.slots.size ≤ ((0 : Int32)).toNatClampNeg) := inb_of S11 ⟨by decide, (own_mo0 hmo)⟩
 obtain ⟨T12, h12, X12, e12, W12, st12⟩ := stI X0 hx hZ e0 Ar11 (j := (0 : Int32)) in11 (g := (mkF m 13 #[xvr ca, xvi (-2147483648 : Int32), xvi (0 : Int32), xvi mo] [xwi (-2147483648 : Int32), xwi (0 : Int32), xwr ca])) rfl rfl (hb B d34_13)
 have V12 : Arv Z h12 ca kc .int mo [(.int (-2147483648 : Int32)), ZI, ZI, ZI, ZI, ZI, ZI, ZI, ZI] ZI := Arv.set Ar11 q11 S11 M11 H11 G11 rfl W12 0 rfl (Nat.le_of_ble_eq_true rfl)
 have N12 := Fr.snoc X12 N0 gc
 obtain ⟨cl13, Ar13, q13, S13, M13, H13, G13⟩ := id V12
 have in13 : ¬ ((1 : Int32) < 0 ∨ cl13.slots.size ≤ ((1 : Int32)).toNatClampNeg) := inb_of S13 ⟨by decide, (own_mo1 hmo)⟩
 obtain ⟨T14, h14, X14, e14, W14, st14⟩ := stI X12 hx hZ e12 Ar13 (j := (1 : Int32)) in13 (g := (mkF m 13 #[xvr ca, xvi (-2147483648 : Int32), xvi (1 : Int32), xvi mo] [xwi (-2147483648 : Int32), xwi (1 : Int32), xwr ca])) rfl rfl (hb B d34_13)
 have V14 : Arv Z h14 ca kc .int mo [(.int (-2147483648 : Int32)), (.int (-2147483648 : Int32)), ZI, ZI, ZI, ZI, ZI, ZI, ZI] ZI := Arv.set Ar13 q13 S13 M13 H13 G13 rfl W14 1 rfl (Nat.le_of_ble_eq_true rfl)
 have N14 := Fr.snoc X14 N12 gc
 have c15 : ∀ t, Sx p e below T14 m 7 #[xvr ca, xvi (-2147483648 : Int32), xvi (2 : Int32), xvi mo] [xwi mo, xwi (2 : Int32)] t → TG t := fun t k => pre0 t (by
  refine y_iconst X0 hx (0 : Int32) 1 (hb B d34_0) rfl rfl <| y_istoreN X0 hx 2 (hb B d34_1) (L' := #[xvr ca, xvi (-2147483648 : Int32), xvi (0 : Int32), xun]) rfl rfl <| y_aloadN X0 hx 3 (hb B d34_2) rfl rfl rfl ?_
  refine X0.arraylength hx (by rw [e0]; exact Ar10.1) (State.isArrayOf_alike hZ.alike Ar10.2.1) (g := (mkF m 3 #[xvr ca, xvi (-2147483648 : Int32), xvi (0 : Int32), xun] [xwr ca])) rfl rfl (hb B d34_3) _ ?_
  rw [len_of S10 M10]
  refine y_istoreN X0 hx 5 (hb B d34_4) (L' := #[xvr ca, xvi (-2147483648 : Int32), xvi (0 : Int32), xvi mo]) rfl rfl <| y_iloadN X0 hx 6 (hb B d34_5) rfl rfl <| y_iloadN X0 hx 7 (hb B d34_6) rfl rfl <| y_icmpNo X0 hx 10 (hb B d34_7) (XT.ii_ge_f (own_mo0 hmo)) rfl <| y_aloadN X0 hx 11 (hb B d34_10) rfl rfl rfl <| y_iloadN X0 hx 12 (hb B d34_11) rfl rfl <| y_iloadN X0 hx 13 (hb B d34_12) rfl rfl ?_
  refine st12 _ ?_
  refine XS.iinc X12.here hx rfl (hb B d34_14) rfl (l' := #[xvr ca, xvi (-2147483648 : Int32), xvi ((0 : Int32) + (1 : Int32)), xvi mo]) rfl ?_
  rw [show ((0 : Int32) + (1 : Int32)) = (1 : Int32) from by decide]
  refine y_goto X12 hx 5 (hb B d34_17) rfl rfl <| y_iloadN X12 hx 6 (hb B d34_5) rfl rfl <| y_iloadN X12 hx 7 (hb B d34_6) rfl rfl <| y_icmpNo X12 hx 10 (hb B d34_7) (XT.ii_ge_f (own_mo1 hmo)) rfl <| y_aloadN X12 hx 11 (hb B d34_10) rfl rfl rfl <| y_iloadN X12 hx 12 (hb B d34_11) rfl rfl <| y_iloadN X12 hx 13 (hb B d34_12) rfl rfl ?_
  refine st14 _ ?_
  refine XS.iinc X14.here hx rfl (hb B d34_14) rfl (l' := #[xvr ca, xvi (-2147483648 : Int32), xvi ((1 : Int32) + (1 : Int32)), xvi mo]) rfl ?_
  rw [show ((1 : Int32) + (1 : Int32)) = (2 : Int32) from by decide]
  refine y_goto X14 hx 5 (hb B d34_17) rfl rfl <| y_iloadN X14 hx 6 (hb B d34_5) rfl rfl <| y_iloadN X14 hx 7 (hb B d34_6) rfl rfl ?_
  exact k)
 by_cases hk16 : (2 : Int32) < mo
 ·obtain ⟨cl17, Ar17, q17, S17, M17, H17, G17⟩ := id V14
  have in17 : ¬ ((2 : Int32) < 0 ∨ cl17.slots.size ≤ ((2 : Int32)).toNatClampNeg) := inb_of S17 ⟨by decide, hk16⟩
  obtain ⟨T18, h18, X18, e18, W18, st18⟩ := stI X14 hx hZ e14 Ar17 (j := (2 : Int32)) in17 (g := (mkF m 13 #[xvr ca, xvi (-2147483648 : Int32), xvi (2 : Int32), xvi mo] [xwi (-2147483648 : Int32), xwi (2 : Int32), xwr ca])) rfl rfl (hb B d34_13)
  have V18 : Arv Z h18 ca kc .int mo [(.int (-2147483648 : Int32)), (.int (-2147483648 : Int32)), (.int (-2147483648 : Int32)), ZI, ZI, ZI, ZI, ZI, ZI] ZI := Arv.set Ar17 q17 S17 M17 H17 G17 rfl W18 2 rfl (Nat.le_of_ble_eq_true rfl)
  have N18 := Fr.snoc X18 N14 gc
  have c19 : ∀ t, Sx p e below T18 m 7 #[xvr ca, xvi (-2147483648 : Int32), xvi (3 : Int32), xvi mo] [xwi mo, xwi (3 : Int32)] t → TG t := fun t k => c15 t (by
   refine y_icmpNo X14 hx 10 (hb B d34_7) (XT.ii_ge_f hk16) rfl <| y_aloadN X14 hx 11 (hb B d34_10) rfl rfl rfl <| y_iloadN X14 hx 12 (hb B d34_11) rfl rfl <| y_iloadN X14 hx 13 (hb B d34_12) rfl rfl ?_
   refine st18 _ ?_
   refine XS.iinc X18.here hx rfl (hb B d34_14) rfl (l' := #[xvr ca, xvi (-2147483648 : Int32), xvi ((2 : Int32) + (1 : Int32)), xvi mo]) rfl ?_
   rw [show ((2 : Int32) + (1 : Int32)) = (3 : Int32) from by decide]
   refine y_goto X18 hx 5 (hb B d34_17) rfl rfl <| y_iloadN X18 hx 6 (hb B d34_5) rfl rfl <| y_iloadN X18 hx 7 (hb B d34_6) rfl rfl ?_
   exact k)
  by_cases hk20 : (3 : Int32) < mo
  ·obtain ⟨cl21, Ar21, q21, S21, M21, H21, G21⟩ := id V18
   have in21 : ¬ ((3 : Int32) < 0 ∨ cl21.slots.size ≤ ((3 : Int32)).toNatClampNeg) := inb_of S21 ⟨by decide, hk20⟩
   obtain ⟨T22, h22, X22, e22, W22, st22⟩ := stI X18 hx hZ e18 Ar21 (j := (3 : Int32)) in21 (g := (mkF m 13 #[xvr ca, xvi (-2147483648 : Int32), xvi (3 : Int32), xvi mo] [xwi (-2147483648 : Int32), xwi (3 : Int32), xwr ca])) rfl rfl (hb B d34_13)
   have V22 : Arv Z h22 ca kc .int mo [(.int (-2147483648 : Int32)), (.int (-2147483648 : Int32)), (.int (-2147483648 : Int32)), (.int (-2147483648 : Int32)), ZI, ZI, ZI, ZI, ZI] ZI := Arv.set Ar21 q21 S21 M21 H21 G21 rfl W22 3 rfl (Nat.le_of_ble_eq_true rfl)
   have N22 := Fr.snoc X22 N18 gc
   have c23 : ∀ t, Sx p e below T22 m 7 #[xvr ca, xvi (-2147483648 : Int32), xvi (4 : Int32), xvi mo] [xwi mo, xwi (4 : Int32)] t → TG t := fun t k => c19 t (by
    refine y_icmpNo X18 hx 10 (hb B d34_7) (XT.ii_ge_f hk20) rfl <| y_aloadN X18 hx 11 (hb B d34_10) rfl rfl rfl <| y_iloadN X18 hx 12 (hb B d34_11) rfl rfl <| y_iloadN X18 hx 13 (hb B d34_12) rfl rfl ?_
    refine st22 _ ?_
    refine XS.iinc X22.here hx rfl (hb B d34_14) rfl (l' := #[xvr ca, xvi (-2147483648 : Int32), xvi ((3 : Int32) + (1 : Int32)), xvi mo]) rfl ?_
    rw [show ((3 : Int32) + (1 : Int32)) = (4 : Int32) from by decide]
    refine y_goto X22 hx 5 (hb B d34_17) rfl rfl <| y_iloadN X22 hx 6 (hb B d34_5) rfl rfl <| y_iloadN X22 hx 7 (hb B d34_6) rfl rfl ?_
    exact k)
   by_cases hk24 : (4 : Int32) < mo
   ·obtain ⟨cl25, Ar25, q25, S25, M25, H25, G25⟩ := id V22
    have in25 : ¬ ((4 : Int32) < 0 ∨ cl25.slots.size ≤ ((4 : Int32)).toNatClampNeg) := inb_of S25 ⟨by decide, hk24⟩
    obtain ⟨T26, h26, X26, e26, W26, st26⟩ := stI X22 hx hZ e22 Ar25 (j := (4 : Int32)) in25 (g := (mkF m 13 #[xvr ca, xvi (-2147483648 : Int32), xvi (4 : Int32), xvi mo] [xwi (-2147483648 : Int32), xwi (4 : Int32), xwr ca])) rfl rfl (hb B d34_13)
    have V26 : Arv Z h26 ca kc .int mo [(.int (-2147483648 : Int32)), (.int (-2147483648 : Int32)), (.int (-2147483648 : Int32)), (.int (-2147483648 : Int32)), (.int (-2147483648 : Int32)), ZI, ZI, ZI, ZI] ZI := Arv.set Ar25 q25 S25 M25 H25 G25 rfl W26 4 rfl (Nat.le_of_ble_eq_true rfl)
    have N26 := Fr.snoc X26 N22 gc
    have c27 : ∀ t, Sx p e below T26 m 7 #[xvr ca, xvi (-2147483648 : Int32), xvi (5 : Int32), xvi mo] [xwi mo, xwi (5 : Int32)] t → TG t := fun t k => c23 t (by
     refine y_icmpNo X22 hx 10 (hb B d34_7) (XT.ii_ge_f hk24) rfl <| y_aloadN X22 hx 11 (hb B d34_10) rfl rfl rfl <| y_iloadN X22 hx 12 (hb B d34_11) rfl rfl <| y_iloadN X22 hx 13 (hb B d34_12) rfl rfl ?_
     refine st26 _ ?_
     refine XS.iinc X26.here hx rfl (hb B d34_14) rfl (l' := #[xvr ca, xvi (-2147483648 : Int32), xvi ((4 : Int32) + (1 : Int32)), xvi mo]) rfl ?_
     rw [show ((4 : Int32) + (1 : Int32)) = (5 : Int32) from by decide]
     refine y_goto X26 hx 5 (hb B d34_17) rfl rfl <| y_iloadN X26 hx 6 (hb B d34_5) rfl rfl <| y_iloadN X26 hx 7 (hb B d34_6) rfl rfl ?_
     exact k)
    by_cases hk28 : (5 : Int32) < mo
    ·obtain ⟨cl29, Ar29, q29, S29, M29, H29, G29⟩ := id V26
     have in29 : ¬ ((5 : Int32) < 0 ∨ cl29.slots.size ≤ ((5 : Int32)).toNatClampNeg) := inb_of S29 ⟨by decide, hk28⟩
     obtain ⟨T30, h30, X30, e30, W30, st30⟩ := stI X26 hx hZ e26 Ar29 (j := (5 : Int32)) in29 (g := (mkF m 13 #[xvr ca, xvi (-2147483648 : Int32), xvi (5 : Int32), xvi mo] [xwi (-2147483648 : Int32), xwi (5 : Int32), xwr ca])) rfl rfl (hb B d34_13)
     have V30 : Arv Z h30 ca kc .int mo [(.int (-2147483648 : Int32)), (.int (-2147483648 : Int32)), (.int (-2147483648 : Int32)), (.int (-2147483648 : Int32)), (.int (-2147483648 : Int32)), (.int (-2147483648 : Int32)), ZI, ZI, ZI] ZI := Arv.set Ar29 q29 S29 M29 H29 G29 rfl W30 5 rfl (Nat.le_of_ble_eq_true rfl)
     have N30 := Fr.snoc X30 N26 gc
     have c31 : ∀ t, Sx p e below T30 m 7 #[xvr ca, xvi (-2147483648 : Int32), xvi (6 : Int32), xvi mo] [xwi mo, xwi (6 : Int32)] t → TG t := fun t k => c27 t (by
      refine y_icmpNo X26 hx 10 (hb B d34_7) (XT.ii_ge_f hk28) rfl <| y_aloadN X26 hx 11 (hb B d34_10) rfl rfl rfl <| y_iloadN X26 hx 12 (hb B d34_11) rfl rfl <| y_iloadN X26 hx 13 (hb B d34_12) rfl rfl ?_
      refine st30 _ ?_
      refine XS.iinc X30.here hx rfl (hb B d34_14) rfl (l' := #[xvr ca, xvi (-2147483648 : Int32), xvi ((5 : Int32) + (1 : Int32)), xvi mo]) rfl ?_
      rw [show ((5 : Int32) + (1 : Int32)) = (6 : Int32) from by decide]
      refine y_goto X30 hx 5 (hb B d34_17) rfl rfl <| y_iloadN X30 hx 6 (hb B d34_5) rfl rfl <| y_iloadN X30 hx 7 (hb B d34_6) rfl rfl ?_
      exact k)
     by_cases hk32 : (6 : Int32) < mo
     ·obtain ⟨cl33, Ar33, q33, S33, M33, H33, G33⟩ := id V30
      have in33 : ¬ ((6 : Int32) < 0 ∨ cl33.slots.size ≤ ((6 : Int32)).toNatClampNeg) := inb_of S33 ⟨by decide, hk32⟩
      obtain ⟨T34, h34, X34, e34, W34, st34⟩ := stI X30 hx hZ e30 Ar33 (j := (6 : Int32)) in33 (g := (mkF m 13 #[xvr ca, xvi (-2147483648 : Int32), xvi (6 : Int32), xvi mo] [xwi (-2147483648 : Int32), xwi (6 : Int32), xwr ca])) rfl rfl (hb B d34_13)
      have V34 : Arv Z h34 ca kc .int mo [(.int (-2147483648 : Int32)), (.int (-2147483648 : Int32)), (.int (-2147483648 : Int32)), (.int (-2147483648 : Int32)), (.int (-2147483648 : Int32)), (.int (-2147483648 : Int32)), (.int (-2147483648 : Int32)), ZI, ZI] ZI := Arv.set Ar33 q33 S33 M33 H33 G33 rfl W34 6 rfl (Nat.le_of_ble_eq_true rfl)
      have N34 := Fr.snoc X34 N30 gc
      have c35 : ∀ t, Sx p e below T34 m 7 #[xvr ca, xvi (-2147483648 : Int32), xvi (7 : Int32), xvi mo] [xwi mo, xwi (7 : Int32)] t → TG t := fun t k => c31 t (by
       refine y_icmpNo X30 hx 10 (hb B d34_7) (XT.ii_ge_f hk32) rfl <| y_aloadN X30 hx 11 (hb B d34_10) rfl rfl rfl <| y_iloadN X30 hx 12 (hb B d34_11) rfl rfl <| y_iloadN X30 hx 13 (hb B d34_12) rfl rfl ?_
       refine st34 _ ?_
       refine XS.iinc X34.here hx rfl (hb B d34_14) rfl (l' := #[xvr ca, xvi (-2147483648 : Int32), xvi ((6 : Int32) + (1 : Int32)), xvi mo]) rfl ?_
       rw [show ((6 : Int32) + (1 : Int32)) = (7 : Int32) from by decide]
       refine y_goto X34 hx 5 (hb B d34_17) rfl rfl <| y_iloadN X34 hx 6 (hb B d34_5) rfl rfl <| y_iloadN X34 hx 7 (hb B d34_6) rfl rfl ?_
       exact k)
      by_cases hk36 : (7 : Int32) < mo
      ·obtain ⟨cl37, Ar37, q37, S37, M37, H37, G37⟩ := id V34
       have in37 : ¬ ((7 : Int32) < 0 ∨ cl37.slots.size ≤ ((7 : Int32)).toNatClampNeg) := inb_of S37 ⟨by decide, hk36⟩
       obtain ⟨T38, h38, X38, e38, W38, st38⟩ := stI X34 hx hZ e34 Ar37 (j := (7 : Int32)) in37 (g := (mkF m 13 #[xvr ca, xvi (-2147483648 : Int32), xvi (7 : Int32), xvi mo] [xwi (-2147483648 : Int32), xwi (7 : Int32), xwr ca])) rfl rfl (hb B d34_13)
       have V38 : Arv Z h38 ca kc .int mo [(.int (-2147483648 : Int32)), (.int (-2147483648 : Int32)), (.int (-2147483648 : Int32)), (.int (-2147483648 : Int32)), (.int (-2147483648 : Int32)), (.int (-2147483648 : Int32)), (.int (-2147483648 : Int32)), (.int (-2147483648 : Int32)), ZI] ZI := Arv.set Ar37 q37 S37 M37 H37 G37 rfl W38 7 rfl (Nat.le_of_ble_eq_true rfl)
       have N38 := Fr.snoc X38 N34 gc
       have c39 : ∀ t, Sx p e below T38 m 7 #[xvr ca, xvi (-2147483648 : Int32), xvi (8 : Int32), xvi mo] [xwi mo, xwi (8 : Int32)] t → TG t := fun t k => c35 t (by
        refine y_icmpNo X34 hx 10 (hb B d34_7) (XT.ii_ge_f hk36) rfl <| y_aloadN X34 hx 11 (hb B d34_10) rfl rfl rfl <| y_iloadN X34 hx 12 (hb B d34_11) rfl rfl <| y_iloadN X34 hx 13 (hb B d34_12) rfl rfl ?_
        refine st38 _ ?_
        refine XS.iinc X38.here hx rfl (hb B d34_14) rfl (l' := #[xvr ca, xvi (-2147483648 : Int32), xvi ((7 : Int32) + (1 : Int32)), xvi mo]) rfl ?_
        rw [show ((7 : Int32) + (1 : Int32)) = (8 : Int32) from by decide]
        refine y_goto X38 hx 5 (hb B d34_17) rfl rfl <| y_iloadN X38 hx 6 (hb B d34_5) rfl rfl <| y_iloadN X38 hx 7 (hb B d34_6) rfl rfl ?_
        exact k)
       by_cases hk40 : (8 : Int32) < mo
       ·obtain ⟨cl41, Ar41, q41, S41, M41, H41, G41⟩ := id V38
        have in41 : ¬ ((8 : Int32) < 0 ∨ cl41.slots.size ≤ ((8 : Int32)).toNatClampNeg) := inb_of S41 ⟨by decide, hk40⟩
        obtain ⟨T42, h42, X42, e42, W42, st42⟩ := stI X38 hx hZ e38 Ar41 (j := (8 : Int32)) in41 (g := (mkF m 13 #[xvr ca, xvi (-2147483648 : Int32), xvi (8 : Int32), xvi mo] [xwi (-2147483648 : Int32), xwi (8 : Int32), xwr ca])) rfl rfl (hb B d34_13)
        have V42 : Arv Z h42 ca kc .int mo [(.int (-2147483648 : Int32)), (.int (-2147483648 : Int32)), (.int (-2147483648 : Int32)), (.int (-2147483648 : Int32)), (.int (-2147483648 : Int32)), (.int (-2147483648 : Int32)), (.int (-2147483648 : Int32)), (.int (-2147483648 : Int32)), (.int (-2147483648 : Int32))] ZI := Arv.set Ar41 q41 S41 M41 H41 G41 rfl W42 8 rfl (Nat.le_of_ble_eq_true rfl)
        have N42 := Fr.snoc X42 N38 gc
        have Vf43 : Arv Z h42 ca kc .int mo [MI, MI, MI, MI, MI, MI, MI, MI, MI] ZI := own_pad V42 (fun i hi => by have hq : i < 9 := Nat.lt_of_lt_of_le hi (own_mon hmo (own_mo9 hmo)); match i, hq with | 0, _ => rfl | 1, _ => rfl | 2, _ => rfl | 3, _ => rfl | 4, _ => rfl | 5, _ => rfl | 6, _ => rfl | 7, _ => rfl | 8, _ => rfl | n + 9, hq => exact absurd hq (by omega))
        obtain ⟨fs, hr, hrun, hended, hW, hsame⟩ := X42.leave (v := none) (fun _ => rfl)
        refine ⟨_, _, hTG _ (c39 _ ?_), hrun, hended, _, _, rfl, ?_, ⟨_, rfl⟩, hW, hsame.mono (by decide) (by decide)⟩
        ·refine y_icmpNo X38 hx 10 (hb B d34_7) (XT.ii_ge_f hk40) rfl <| y_aloadN X38 hx 11 (hb B d34_10) rfl rfl rfl <| y_iloadN X38 hx 12 (hb B d34_11) rfl rfl <| y_iloadN X38 hx 13 (hb B d34_12) rfl rfl ?_
         refine st42 _ ?_
         refine XS.iinc X42.here hx rfl (hb B d34_14) rfl (l' := #[xvr ca, xvi (-2147483648 : Int32), xvi ((8 : Int32) + (1 : Int32)), xvi mo]) rfl ?_
         rw [show ((8 : Int32) + (1 : Int32)) = (9 : Int32) from by decide]
         refine y_goto X42 hx 5 (hb B d34_17) rfl rfl <| y_iloadN X42 hx 6 (hb B d34_5) rfl rfl <| y_iloadN X42 hx 7 (hb B d34_6) rfl rfl <| y_icmpYes X42 hx 20 (hb B d34_7) (XT.ii_ge_t (own_mo9 hmo)) rfl rfl ?_
         show Sx p e below T42 m 20 #[xvr ca, xvi (-2147483648 : Int32), xvi (9 : Int32), xvi mo] [] _
         exact X42.returnOut hx Bd.returns (hb B d34_20) hr
        ·show QrmFi Z G ca kc mo h0 n0 _ T42.heap _
         rw [e42]
         exact ⟨rfl, N42, ((((((((((Keep.refl h0 [ca]).wr W12 (oi 0 rfl)).wr W14 (oi 0 rfl)).wr W18 (oi 0 rfl)).wr W22 (oi 0 rfl)).wr W26 (oi 0 rfl)).wr W30 (oi 0 rfl)).wr W34 (oi 0 rfl)).wr W38 (oi 0 rfl)).wr W42 (oi 0 rfl)), Vf43⟩
       ·have Vf44 : Arv Z h38 ca kc .int mo [MI, MI, MI, MI, MI, MI, MI, MI, MI] ZI := own_pad V38 (fun i hi => by have hq : i < 8 := Nat.lt_of_lt_of_le hi (own_mon hmo hk40); match i, hq with | 0, _ => rfl | 1, _ => rfl | 2, _ => rfl | 3, _ => rfl | 4, _ => rfl | 5, _ => rfl | 6, _ => rfl | 7, _ => rfl | n + 8, hq => exact absurd hq (by omega))
        obtain ⟨fs, hr, hrun, hended, hW, hsame⟩ := X38.leave (v := none) (fun _ => rfl)
        refine ⟨_, _, hTG _ (c39 _ ?_), hrun, hended, _, _, rfl, ?_, ⟨_, rfl⟩, hW, hsame.mono (by decide) (by decide)⟩
        ·refine y_icmpYes X38 hx 20 (hb B d34_7) (XT.ii_ge_t hk40) rfl rfl ?_
         show Sx p e below T38 m 20 #[xvr ca, xvi (-2147483648 : Int32), xvi (8 : Int32), xvi mo] [] _
         exact X38.returnOut hx Bd.returns (hb B d34_20) hr
        ·show QrmFi Z G ca kc mo h0 n0 _ T38.heap _
         rw [e38]
         exact ⟨rfl, N38, (((((((((Keep.refl h0 [ca]).wr W12 (oi 0 rfl)).wr W14 (oi 0 rfl)).wr W18 (oi 0 rfl)).wr W22 (oi 0 rfl)).wr W26 (oi 0 rfl)).wr W30 (oi 0 rfl)).wr W34 (oi 0 rfl)).wr W38 (oi 0 rfl)), Vf44⟩
      ·have Vf45 : Arv Z h34 ca kc .int mo [MI, MI, MI, MI, MI, MI, MI, MI, MI] ZI := own_pad V34 (fun i hi => by have hq : i < 7 := Nat.lt_of_lt_of_le hi (own_mon hmo hk36); match i, hq with | 0, _ => rfl | 1, _ => rfl | 2, _ => rfl | 3, _ => rfl | 4, _ => rfl | 5, _ => rfl | 6, _ => rfl | n + 7, hq => exact absurd hq (by omega))
       obtain ⟨fs, hr, hrun, hended, hW, hsame⟩ := X34.leave (v := none) (fun _ => rfl)
       refine ⟨_, _, hTG _ (c35 _ ?_), hrun, hended, _, _, rfl, ?_, ⟨_, rfl⟩, hW, hsame.mono (by decide) (by decide)⟩
       ·refine y_icmpYes X34 hx 20 (hb B d34_7) (XT.ii_ge_t hk36) rfl rfl ?_
        show Sx p e below T34 m 20 #[xvr ca, xvi (-2147483648 : Int32), xvi (7 : Int32), xvi mo] [] _
        exact X34.returnOut hx Bd.returns (hb B d34_20) hr
       ·show QrmFi Z G ca kc mo h0 n0 _ T34.heap _
        rw [e34]
        exact ⟨rfl, N34, ((((((((Keep.refl h0 [ca]).wr W12 (oi 0 rfl)).wr W14 (oi 0 rfl)).wr W18 (oi 0 rfl)).wr W22 (oi 0 rfl)).wr W26 (oi 0 rfl)).wr W30 (oi 0 rfl)).wr W34 (oi 0 rfl)), Vf45⟩
     ·have Vf46 : Arv Z h30 ca kc .int mo [MI, MI, MI, MI, MI, MI, MI, MI, MI] ZI := own_pad V30 (fun i hi => by have hq : i < 6 := Nat.lt_of_lt_of_le hi (own_mon hmo hk32); match i, hq with | 0, _ => rfl | 1, _ => rfl | 2, _ => rfl | 3, _ => rfl | 4, _ => rfl | 5, _ => rfl | n + 6, hq => exact absurd hq (by omega))
      obtain ⟨fs, hr, hrun, hended, hW, hsame⟩ := X30.leave (v := none) (fun _ => rfl)
      refine ⟨_, _, hTG _ (c31 _ ?_), hrun, hended, _, _, rfl, ?_, ⟨_, rfl⟩, hW, hsame.mono (by decide) (by decide)⟩
      ·refine y_icmpYes X30 hx 20 (hb B d34_7) (XT.ii_ge_t hk32) rfl rfl ?_
       show Sx p e below T30 m 20 #[xvr ca, xvi (-2147483648 : Int32), xvi (6 : Int32), xvi mo] [] _
       exact X30.returnOut hx Bd.returns (hb B d34_20) hr
      ·show QrmFi Z G ca kc mo h0 n0 _ T30.heap _
       rw [e30]
       exact ⟨rfl, N30, (((((((Keep.refl h0 [ca]).wr W12 (oi 0 rfl)).wr W14 (oi 0 rfl)).wr W18 (oi 0 rfl)).wr W22 (oi 0 rfl)).wr W26 (oi 0 rfl)).wr W30 (oi 0 rfl)), Vf46⟩
    ·have Vf47 : Arv Z h26 ca kc .int mo [MI, MI, MI, MI, MI, MI, MI, MI, MI] ZI := own_pad V26 (fun i hi => by have hq : i < 5 := Nat.lt_of_lt_of_le hi (own_mon hmo hk28); match i, hq with | 0, _ => rfl | 1, _ => rfl | 2, _ => rfl | 3, _ => rfl | 4, _ => rfl | n + 5, hq => exact absurd hq (by omega))
     obtain ⟨fs, hr, hrun, hended, hW, hsame⟩ := X26.leave (v := none) (fun _ => rfl)
     refine ⟨_, _, hTG _ (c27 _ ?_), hrun, hended, _, _, rfl, ?_, ⟨_, rfl⟩, hW, hsame.mono (by decide) (by decide)⟩
     ·refine y_icmpYes X26 hx 20 (hb B d34_7) (XT.ii_ge_t hk28) rfl rfl ?_
      show Sx p e below T26 m 20 #[xvr ca, xvi (-2147483648 : Int32), xvi (5 : Int32), xvi mo] [] _
      exact X26.returnOut hx Bd.returns (hb B d34_20) hr
     ·show QrmFi Z G ca kc mo h0 n0 _ T26.heap _
      rw [e26]
      exact ⟨rfl, N26, ((((((Keep.refl h0 [ca]).wr W12 (oi 0 rfl)).wr W14 (oi 0 rfl)).wr W18 (oi 0 rfl)).wr W22 (oi 0 rfl)).wr W26 (oi 0 rfl)), Vf47⟩
   ·have Vf48 : Arv Z h22 ca kc .int mo [MI, MI, MI, MI, MI, MI, MI, MI, MI] ZI := own_pad V22 (fun i hi => by have hq : i < 4 := Nat.lt_of_lt_of_le hi (own_mon hmo hk24); match i, hq with | 0, _ => rfl | 1, _ => rfl | 2, _ => rfl | 3, _ => rfl | n + 4, hq => exact absurd hq (by omega))
    obtain ⟨fs, hr, hrun, hended, hW, hsame⟩ := X22.leave (v := none) (fun _ => rfl)
    refine ⟨_, _, hTG _ (c23 _ ?_), hrun, hended, _, _, rfl, ?_, ⟨_, rfl⟩, hW, hsame.mono (by decide) (by decide)⟩
    ·refine y_icmpYes X22 hx 20 (hb B d34_7) (XT.ii_ge_t hk24) rfl rfl ?_
     show Sx p e below T22 m 20 #[xvr ca, xvi (-2147483648 : Int32), xvi (4 : Int32), xvi mo] [] _
     exact X22.returnOut hx Bd.returns (hb B d34_20) hr
    ·show QrmFi Z G ca kc mo h0 n0 _ T22.heap _
     rw [e22]
     exact ⟨rfl, N22, (((((Keep.refl h0 [ca]).wr W12 (oi 0 rfl)).wr W14 (oi 0 rfl)).wr W18 (oi 0 rfl)).wr W22 (oi 0 rfl)), Vf48⟩
  ·have Vf49 : Arv Z h18 ca kc .int mo [MI, MI, MI, MI, MI, MI, MI, MI, MI] ZI := own_pad V18 (fun i hi => by have hq : i < 3 := Nat.lt_of_lt_of_le hi (own_mon hmo hk20); match i, hq with | 0, _ => rfl | 1, _ => rfl | 2, _ => rfl | n + 3, hq => exact absurd hq (by omega))
   obtain ⟨fs, hr, hrun, hended, hW, hsame⟩ := X18.leave (v := none) (fun _ => rfl)
   refine ⟨_, _, hTG _ (c19 _ ?_), hrun, hended, _, _, rfl, ?_, ⟨_, rfl⟩, hW, hsame.mono (by decide) (by decide)⟩
   ·refine y_icmpYes X18 hx 20 (hb B d34_7) (XT.ii_ge_t hk20) rfl rfl ?_
    show Sx p e below T18 m 20 #[xvr ca, xvi (-2147483648 : Int32), xvi (3 : Int32), xvi mo] [] _
    exact X18.returnOut hx Bd.returns (hb B d34_20) hr
   ·show QrmFi Z G ca kc mo h0 n0 _ T18.heap _
    rw [e18]
    exact ⟨rfl, N18, ((((Keep.refl h0 [ca]).wr W12 (oi 0 rfl)).wr W14 (oi 0 rfl)).wr W18 (oi 0 rfl)), Vf49⟩
 ·have Vf50 : Arv Z h14 ca kc .int mo [MI, MI, MI, MI, MI, MI, MI, MI, MI] ZI := own_pad V14 (fun i hi => by have hq : i < 2 := Nat.lt_of_lt_of_le hi (own_mon hmo hk16); match i, hq with | 0, _ => rfl | 1, _ => rfl | n + 2, hq => exact absurd hq (by omega))
  obtain ⟨fs, hr, hrun, hended, hW, hsame⟩ := X14.leave (v := none) (fun _ => rfl)
  refine ⟨_, _, hTG _ (c15 _ ?_), hrun, hended, _, _, rfl, ?_, ⟨_, rfl⟩, hW, hsame.mono (by decide) (by decide)⟩
  ·refine y_icmpYes X14 hx 20 (hb B d34_7) (XT.ii_ge_t hk16) rfl rfl ?_
   show Sx p e below T14 m 20 #[xvr ca, xvi (-2147483648 : Int32), xvi (2 : Int32), xvi mo] [] _
   exact X14.returnOut hx Bd.returns (hb B d34_20) hr
  ·show QrmFi Z G ca kc mo h0 n0 _ T14.heap _
   rw [e14]
   exact ⟨rfl, N14, (((Keep.refl h0 [ca]).wr W12 (oi 0 rfl)).wr W14 (oi 0 rfl)), Vf50⟩
abbrev kc32 : ByteArray := prog_54_method_5_code
def d32_0 : DC kc32 0 (.aload_n 0) 1 := by decide +kernel
def d32_1 : DC kc32 1 (.getfield 17) 3 := by decide +kernel
def d32_4 : DC kc32 4 (.aload_n 1) 1 := by decide +kernel
def d32_5 : DC kc32 5 (.invokevirtual 89) 3 := by decide +kernel
def d32_8 : DC kc32 8 (.aaload) 1 := by decide +kernel
def d32_9 : DC kc32 9 (.astore_n 2) 1 := by decide +kernel
def d32_10 : DC kc32 10 (.aload_n 2) 1 := by decide +kernel
def d32_11 : DC kc32 11 (.ifnonnull 26) 3 := by decide +kernel
def d32_37 : DC kc32 37 (.aload_n 2) 1 := by decide +kernel
def d32_38 : DC kc32 38 (.areturn) 1 := by decide +kernel
def QrmCo (Z : State) (G : Gs) (ta da : Addr) (kd : ClassId) (dv : List Value) (it : Addr) (ii : Int32) (ca : Addr) (h0 : Heap) (n0 : Nat) (v : Option Value) (h : Heap) (L : List Loc) : Prop := v = some (.ref ca) ∧ Fr n0 L ∧ h = h0
theorem rmCo (l : Launch) (Z : State) (a0 : Array Value) (hw : HW a0 Z) (G : Gs) (ST : StartF Z G) (ws : List Jvm.Cond) (ta da : Addr) (kd : ClassId) (dv : List Value) (it : Addr) (ii : Int32) (ca : Addr) (h0 : Heap) (n0 : Nat) (X00 : Old Z n0 h0) (tE : Exa Z h0 ta sg0) (tD : Fld Z h0 ta sg0 "days" "[[I" (.ref da)) (dV : Arv Z h0 da kd (.array .int) (9 : Int32) dv .null) (iE : Exa Z h0 it sg4) (iF : Fld Z h0 it sg7 "ordinal" "I" (.int ii)) (hii : (¬ ii < 0 ∧ ii < (9 : Int32))) (hdo : dv.getD ii.toNatClampNeg .null = .ref ca) :
  MF l Z ws mm13 prog_54_method_5_code 3 (some (.array .int)) (rk 1 0 0 13) #[(.ref ta), (.ref it)] h0 (QrmCo Z G ta da kd dv it ii ca h0 n0) := by
 refine MetFree.of_bodySF (plainFor_of_name pn_2) hisR ?_
 intro p e s m args below meth c s₁ Bd hml0 hP hK
 obtain ⟨rfl, hZ, hh⟩ := hP
 have hx := Bd.exec
 have B := Bd.bytes
 have hml : c.maxLocals = 3 := hml0
 have hown : s.vm.findClass sg0 = some m.cls := findClass_of_methodNamed Bd.named
 have X0 : Stand p l e (rk 1 0 0 13) s m #[(.ref ta), (.ref it)] below meth c s₁ [] 0 0 := Stand.of_body Bd
 have e0 : s₁.heap = h0 := by rw [← hh, Bd.state]; rfl
 have N0 := Fr.nil n0
 obtain ⟨TG, hTG, pre0⟩ := own_pre p e below s₁ (ef_rmLEs m ta it )
 obtain ⟨T10, X10, e10, st10⟩ := getF X0 hx hZ hown (host := "") (Or.inl (w_112 hw)) Via.refl e0 tD (g := (mkF m 1 #[xvr ta, xvr it, xun] [xwr ta])) rfl rfl (hb B d32_1)
 obtain ⟨cq11, kq11, q11a, q11b, q11c⟩ := isOf hZ e10 iE
 obtain ⟨_, _, ⟨T12, L12, k12, n12⟩, -, X12, ⟨Lc12, hQ12, l12, y12, z12⟩, st12⟩ := X10.virtualBackUp hx (x := mm14) (y := mm11) (owner := sg7) hown (mvT hZ (w_221 hw)) (mvT hZ (w_222 hw)) (mvT hZ (w_223 hw)) (by decide) (mvT hZ (w_225 hw)) (mvT hZ (w_224 hw)) (backOf (W := 1) (rmOr l Z a0 hw G ST [] it ii h0 n0 X00 iF) hZ (w_227 hw) (w_226 hw) (by decide) (by decide)) q11a q11c (g := (mkF m 5 #[xvr ta, xvr it, xun] [xwr it, xwr da])) rfl (by rw [hml]; rfl) (Steps.refl _) (argsL := []) (rest := [(.ref da)]) (lenOf pd_6 rfl) rfl (Nat.le_of_eq rfl) (hb B d32_5) (fun _ _ => ⟨rfl, e10, (by decide : 0 + 0 ≤ _), (by decide : 0 + 0 ≤ _)⟩)
 dsimp only [Pt.U, Pt.locs, Pt.cells, Pt.slots] at X12 l12 y12 z12 st12 hQ12
 subst l12 y12 z12
 obtain ⟨rfl, N12q, e12⟩ := hQ12
 have N12 := Fr.app N0 N12q
 obtain ⟨cl13, Ar13, q13, S13, M13, H13, G13⟩ := id dV
 have in13 : ¬ (ii < 0 ∨ cl13.slots.size ≤ (ii).toNatClampNeg) := inb_of S13 hii
 obtain ⟨fs, hr, hrun, hended, hW, hsame⟩ := X12.leave (v := some (.ref ca)) (own_rv Bd.returns)
 refine ⟨_, _, hTG _ (pre0 _ ?_), hrun, hended, _, _, rfl, ?_, ⟨_, rfl⟩, hW, hsame.mono (by decide) (by decide)⟩
 ·refine y_aloadN X0 hx 1 (hb B d32_0) rfl rfl rfl ?_
  refine st10 _ ?_
  refine y_aloadN X10 hx 5 (hb B d32_4) rfl rfl rfl ?_
  refine st12.trans ?_
  refine X12.aaload hx (j := ii) (v := (.ref ca)) (by rw [e12]; exact Ar13.1) (State.isArrayOf_alike hZ.alike Ar13.2.1) rfl Ar13.2.2 in13 (Has.at H13 in13 hdo) (g := (mkF m 8 #[xvr ta, xvr it, xun] [xwi ii, xwr da])) rfl rfl (hb B d32_8) _ ?_
  refine y_astoreN X12 hx 10 (hb B d32_9) (L' := #[xvr ta, xvr it, xvr ca]) rfl rfl rfl <| y_aloadN X12 hx 11 (hb B d32_10) rfl rfl rfl ?_
  show Sx p e below T12 m 11 #[xvr ta, xvr it, xvr ca] [xwr ca] _
  refine XS.ifnonnullYes X12.here hx rfl (pc0 := 11) (pc' := 37) rfl (hb B d32_11) rfl (by decide) (by decide) ?_
  refine y_aloadN X12 hx 38 (hb B d32_37) rfl rfl rfl ?_
  show Sx p e below T12 m 38 #[xvr ta, xvr it, xvr ca] [xwr ca] _
  exact retOut X12 hx Bd.returns rfl (Or.inr (Or.inr (Or.inr (Or.inr ⟨rfl, rfl, rfl⟩)))) (hb B d32_38) hr
 ·show QrmCo Z G ta da kd dv it ii ca h0 n0 _ T12.heap _
  rw [e12]
  exact ⟨rfl, N12, rfl⟩
def d32_14 : DC kc32 14 (.aload_n 0) 1 := by decide +kernel
def d32_15 : DC kc32 15 (.getfield 53) 3 := by decide +kernel
def d32_18 : DC kc32 18 (.newarray .int) 2 := by decide +kernel
def d32_20 : DC kc32 20 (.astore_n 2) 1 := by decide +kernel
def d32_21 : DC kc32 21 (.aload_n 2) 1 := by decide +kernel
def d32_22 : DC kc32 22 (.ldc 95) 2 := by decide +kernel
def d32_24 : DC kc32 24 (.invokestatic 96) 3 := by decide +kernel
theorem pd_9 : parseMethodDescriptor "([II)V" = some ⟨[(.array .int), .int], none⟩ := by decide +kernel
def d32_27 : DC kc32 27 (.aload_n 0) 1 := by decide +kernel
def d32_28 : DC kc32 28 (.getfield 17) 3 := by decide +kernel
def d32_31 : DC kc32 31 (.aload_n 1) 1 := by decide +kernel
def d32_32 : DC kc32 32 (.invokevirtual 89) 3 := by decide +kernel
def d32_35 : DC kc32 35 (.aload_n 2) 1 := by decide +kernel
def d32_36 : DC kc32 36 (.aastore) 1 := by decide +kernel
def QrmCn (Z : State) (G : Gs) (ta da : Addr) (kd : ClassId) (dv : List Value) (it : Addr) (ii mo : Int32) (h0 : Heap) (n0 : Nat) (v : Option Value) (h : Heap) (L : List Loc) : Prop := ∃ (co : Addr), ∃ (kc : ClassId), v = some (.ref co) ∧ Fr n0 L ∧ Keep h0 h [da] ∧ h0.size ≤ co ∧ Arv Z h co kc .int mo [MI, MI, MI, MI, MI, MI, MI, MI, MI] ZI ∧ Arv Z h da kd (.array .int) (9 : Int32) (List.set dv ii.toNatClampNeg (.ref co)) .null
theorem rmCn (l : Launch) (Z : State) (a0 : Array Value) (hw : HW a0 Z) (G : Gs) (ST : StartF Z G) (ws : List Jvm.Cond) (ta da : Addr) (kd : ClassId) (dv : List Value) (it : Addr) (ii mo : Int32) (h0 : Heap) (n0 : Nat) (X00 : Old Z n0 h0) (tE : Exa Z h0 ta sg0) (tD : Fld Z h0 ta sg0 "days" "[[I" (.ref da)) (tM : Fld Z h0 ta sg0 "most" "I" (.int mo)) (dV : Arv Z h0 da kd (.array .int) (9 : Int32) dv .null) (iE : Exa Z h0 it sg4) (iF : Fld Z h0 it sg7 "ordinal" "I" (.int ii)) (hii : (¬ ii < 0 ∧ ii < (9 : Int32))) (hdn : dv.getD ii.toNatClampNeg .null = .null) (hdl : dv.length = 9) (hOA : OvrA Z kd .int "[I") (gd : n0 ≤ da) (hmo : Mo mo) :
  MF l Z ws mm13 prog_54_method_5_code 3 (some (.array .int)) (rk 1 1 9 15) #[(.ref ta), (.ref it)] h0 (QrmCn Z G ta da kd dv it ii mo h0 n0) := by
 refine MetFree.of_bodySF (plainFor_of_name pn_2) hisR ?_
 intro p e s m args below meth c s₁ Bd hml0 hP hK
 obtain ⟨rfl, hZ, hh⟩ := hP
 have hx := Bd.exec
 have B := Bd.bytes
 have hml : c.maxLocals = 3 := hml0
 have hown : s.vm.findClass sg0 = some m.cls := findClass_of_methodNamed Bd.named
 have X0 : Stand p l e (rk 1 1 9 15) s m #[(.ref ta), (.ref it)] below meth c s₁ [] 0 0 := Stand.of_body Bd
 have e0 : s₁.heap = h0 := by rw [← hh, Bd.state]; rfl
 have N0 := Fr.nil n0
 have Z0 := own_Z0 X00
 obtain ⟨TG, hTG, pre0⟩ := own_pre p e below s₁ (ef_rmLEs m ta it )
 obtain ⟨T10, X10, e10, st10⟩ := getF X0 hx hZ hown (host := "") (Or.inl (w_112 hw)) Via.refl e0 tD (g := (mkF m 1 #[xvr ta, xvr it, xun] [xwr ta])) rfl rfl (hb B d32_1)
 obtain ⟨cq11, kq11, q11a, q11b, q11c⟩ := isOf hZ e10 iE
 obtain ⟨_, _, ⟨T12, L12, k12, n12⟩, -, X12, ⟨Lc12, hQ12, l12, y12, z12⟩, st12⟩ := X10.virtualBackUp hx (x := mm14) (y := mm11) (owner := sg7) hown (mvT hZ (w_221 hw)) (mvT hZ (w_222 hw)) (mvT hZ (w_223 hw)) (by decide) (mvT hZ (w_225 hw)) (mvT hZ (w_224 hw)) (backOf (W := 1) (rmOr l Z a0 hw G ST [] it ii h0 n0 X00 iF) hZ (w_227 hw) (w_226 hw) (by decide) (by decide)) q11a q11c (g := (mkF m 5 #[xvr ta, xvr it, xun] [xwr it, xwr da])) rfl (by rw [hml]; rfl) (Steps.refl _) (argsL := []) (rest := [(.ref da)]) (lenOf pd_6 rfl) rfl (Nat.le_of_eq rfl) (hb B d32_5) (fun _ _ => ⟨rfl, e10, (by decide : 0 + 0 ≤ _), (by decide : 0 + 0 ≤ _)⟩)
 dsimp only [Pt.U, Pt.locs, Pt.cells, Pt.slots] at X12 l12 y12 z12 st12 hQ12
 subst l12 y12 z12
 obtain ⟨rfl, N12q, e12⟩ := hQ12
 have N12 := Fr.app N0 N12q
 obtain ⟨cl13, Ar13, q13, S13, M13, H13, G13⟩ := id dV
 have in13 : ¬ (ii < 0 ∨ cl13.slots.size ≤ (ii).toNatClampNeg) := inb_of S13 hii
 obtain ⟨T14, X14, e14, st14⟩ := getF X12 hx hZ hown (host := "") (Or.inl (w_161 hw)) Via.refl e12 tM (g := (mkF m 15 #[xvr ta, xvr it, .val .null] [xwr ta])) rfl rfl (hb B d32_15)
 obtain ⟨T15, h15, k15, X15, e15, E15, A15, Ex15, st15⟩ := newPE (aty := .int) X14 hx hZ (w_155 hw) e14 (g := (mkF m 18 #[xvr ta, xvr it, .val .null] [xwi mo])) rfl (hb B d32_18) rfl (own_moz hmo) (cap := 9) (own_mocap hmo) (by decide) (by decide) (by decide) (ad := "[I") (by first | rfl | decide +kernel)
 obtain ⟨b15, g15⟩ : ∃ z, z = h0.size := ⟨_, rfl⟩
 rw [← g15] at A15 Ex15 st15
 have V15 : Arv Z h15 b15 k15 .int mo [ZI, ZI, ZI, ZI, ZI, ZI, ZI, ZI, ZI] ZI := (Arv.new A15 (own_moz hmo)).pad (pad_rep [] ZI 9)
 have Ol16 : Old Z n0 h15 := (X00.ext E15)
 obtain ⟨_, _, ⟨T17, L17, k17, n17⟩, -, X17, ⟨Lc17, hQ17, l17, y17, z17⟩, st17⟩ := Jvm.LawKit.callS X15 hx (y := mm12) hown (mvT hZ (w_231 hw)) (mvT hZ (w_232 hw)) (mvT hZ (w_233 hw)) (mvT hZ (w_234 hw)) (by decide) (backOf (W := 0) (rmFi l Z a0 hw G ST [] b15 _ mo h15 n0 Ol16 V15 hmo (ntr Z0 (ntr (Nat.le_refl _) (Nat.le_of_eq g15.symm)))) hZ (w_234 hw) (w_233 hw) (by decide) (by decide)) (g := (mkF m 24 #[xvr ta, xvr it, xvr b15] [xwi (-2147483648 : Int32), xwr b15])) rfl (by rw [hml]; rfl) (argsL := [(.ref b15), (.int (-2147483648 : Int32))]) (rest := []) (lenOf pd_9 rfl) rfl (Nat.le_of_eq rfl) (hb B d32_24) (fun _ _ => ⟨rfl, e15, (by decide : 1 + 0 ≤ _), (by decide : 9 + 0 ≤ _)⟩)
 dsimp only [Pt.U, Pt.locs, Pt.cells, Pt.slots] at X17 l17 y17 z17 st17 hQ17
 subst l17 y17 z17
 obtain ⟨hp17, e17⟩ : ∃ z, T17.heap = z := ⟨_, rfl⟩
 rw [e17] at hQ17
 obtain ⟨rfl, N17q, K17, p18⟩ := hQ17
 have N17 := Fr.app N12 N17q
 have f19 := ((tD.ext E15).keep K17 (ninS (onb tE.lt (Nat.le_refl _) (Nat.le_of_eq g15.symm)) nin0))
 obtain ⟨T20, X20, e20, st20⟩ := getF X17 hx hZ hown (host := "") (Or.inl (w_112 hw)) Via.refl e17 f19 (g := (mkF m 28 #[xvr ta, xvr it, xvr b15] [xwr ta])) rfl rfl (hb B d32_28)
 have f21 := ((iF.ext E15).keep K17 (ninS (onb iE.lt (Nat.le_refl _) (Nat.le_of_eq g15.symm)) nin0))
 have Ol22 : Old Z n0 hp17 := (Ol16.keep K17 (allS (ntr Z0 (ntr (Nat.le_refl _) (Nat.le_of_eq g15.symm))) all0))
 have f23 := ((iE.ext E15).keep K17)
 obtain ⟨cq24, kq24, q24a, q24b, q24c⟩ := isOf hZ e20 f23
 obtain ⟨_, _, ⟨T25, L25, k25, n25⟩, -, X25, ⟨Lc25, hQ25, l25, y25, z25⟩, st25⟩ := X20.virtualBackUp hx (x := mm14) (y := mm11) (owner := sg7) hown (mvT hZ (w_221 hw)) (mvT hZ (w_222 hw)) (mvT hZ (w_223 hw)) (by decide) (mvT hZ (w_225 hw)) (mvT hZ (w_224 hw)) (backOf (W := 1) (rmOr l Z a0 hw G ST [] it ii hp17 n0 Ol22 f21) hZ (w_227 hw) (w_226 hw) (by decide) (by decide)) q24a q24c (g := (mkF m 32 #[xvr ta, xvr it, xvr b15] [xwr it, xwr da])) rfl (by rw [hml]; rfl) (Steps.refl _) (argsL := []) (rest := [(.ref da)]) (lenOf pd_6 rfl) rfl (Nat.le_of_eq rfl) (hb B d32_32) (fun _ _ => ⟨rfl, e20, (by decide : 1 + 0 ≤ _), (by decide : 9 + 0 ≤ _)⟩)
 dsimp only [Pt.U, Pt.locs, Pt.cells, Pt.slots] at X25 l25 y25 z25 st25 hQ25
 subst l25 y25 z25
 obtain ⟨rfl, N25q, e25⟩ := hQ25
 have N25 := Fr.app N17 N25q
 have f26 := ((dV.ext E15).keep K17 (ninS (onb dV.lt (Nat.le_refl _) (Nat.le_of_eq g15.symm)) nin0))
 have f27 := (Ex15.keep K17)
 obtain ⟨cl28, Ar28, q28, S28, M28, H28, G28⟩ := id f26
 have in28 : ¬ (ii < 0 ∨ cl28.slots.size ≤ (ii).toNatClampNeg) := inb_of S28 hii
 obtain ⟨T29, h29, X29, e29, W29, st29⟩ := stR X25 hx hZ e25 Ar28 (j := ii) in28 rfl (Sto.ofVA Ar28 q28 hOA (Ins.self f27)) (g := (mkF m 36 #[xvr ta, xvr it, xvr b15] [xwr b15, xwi ii, xwr da])) rfl rfl (hb B d32_36)
 have V29 : Arv Z h29 da kd (.array .int) (9 : Int32) (List.set (dv : List Value) (ii).toNatClampNeg (.ref b15)) .null := Arv.set Ar28 q28 S28 M28 H28 G28 rfl W29 _ rfl (own_i9 hii hdl)
 have N29 := Fr.snoc X29 N25 gd
 have ne30 : b15 ≠ da := (Ne.symm (onb dV.lt (Nat.le_refl _) (Nat.le_of_eq g15.symm)))
 have f31 := (p18.other W29 ne30)
 obtain ⟨fs, hr, hrun, hended, hW, hsame⟩ := X29.leave (v := some (.ref b15)) (own_rv Bd.returns)
 refine ⟨_, _, hTG _ (pre0 _ ?_), hrun, hended, _, _, rfl, ?_, ⟨_, rfl⟩, hW, hsame.mono (by decide) (by decide)⟩
 ·refine y_aloadN X0 hx 1 (hb B d32_0) rfl rfl rfl ?_
  refine st10 _ ?_
  refine y_aloadN X10 hx 5 (hb B d32_4) rfl rfl rfl ?_
  refine st12.trans ?_
  refine X12.aaload hx (j := ii) (v := .null) (by rw [e12]; exact Ar13.1) (State.isArrayOf_alike hZ.alike Ar13.2.1) rfl Ar13.2.2 in13 (Has.at H13 in13 hdn) (g := (mkF m 8 #[xvr ta, xvr it, xun] [xwi ii, xwr da])) rfl rfl (hb B d32_8) _ ?_
  refine y_astoreN X12 hx 10 (hb B d32_9) (L' := #[xvr ta, xvr it, .val .null]) rfl rfl rfl <| y_aloadN X12 hx 11 (hb B d32_10) rfl rfl rfl ?_
  refine XS.ifnonnullNo X12.here hx rfl (hb B d32_11) rfl ?_
  refine y_aloadN X12 hx 15 (hb B d32_14) rfl rfl rfl ?_
  refine st14 _ ?_
  refine st15 _ ?_
  refine y_astoreN X15 hx 21 (hb B d32_20) (L' := #[xvr ta, xvr it, xvr b15]) rfl rfl rfl <| y_aloadN X15 hx 22 (hb B d32_21) rfl rfl rfl ?_
  show Sx p e below T15 m 22 #[xvr ta, xvr it, xvr b15] [xwr b15] _
  refine X15.ldcInt hx hown (mvT hZ (w_230 hw)) (g := (mkF m 22 #[xvr ta, xvr it, xvr b15] [xwr b15])) rfl (hb B d32_22) _ ?_
  refine st17 _ ?_
  refine y_aloadN X17 hx 28 (hb B d32_27) rfl rfl rfl ?_
  refine st20 _ ?_
  refine y_aloadN X20 hx 32 (hb B d32_31) rfl rfl rfl ?_
  refine st25.trans ?_
  refine y_aloadN X25 hx 36 (hb B d32_35) rfl rfl rfl ?_
  refine st29 _ ?_
  refine y_aloadN X29 hx 38 (hb B d32_37) rfl rfl rfl ?_
  show Sx p e below T29 m 38 #[xvr ta, xvr it, xvr b15] [xwr b15] _
  exact retOut X29 hx Bd.returns rfl (Or.inr (Or.inr (Or.inr (Or.inr ⟨rfl, rfl, rfl⟩)))) (hb B d32_38) hr
 ·show QrmCn Z G ta da kd dv it ii mo h0 n0 _ T29.heap _
  rw [e29]
  exact ⟨b15, k15, rfl, N29, ((((Keep.refl h0 [da]).ext E15).trans K17 (allS (Or.inr (ntr (Nat.le_refl _) (Nat.le_of_eq g15.symm))) all0)).wr W29 (oi 0 rfl)), (ntr (Nat.le_refl _) (Nat.le_of_eq g15.symm)), f31, V29⟩
abbrev kc12 : ByteArray := jdk_2423_method_6_code
def d12_0 : DC kc12 0 (.aload_n 0) 1 := by decide +kernel
def d12_1 : DC kc12 1 (.getfield 33) 3 := by decide +kernel
def d12_4 : DC kc12 4 (.lreturn) 1 := by decide +kernel
theorem pn_5 : plainName "java/time/temporal/ValueRange" = true := by first | (simp [plainName, overriddenIn]; done) | decide +kernel
def QrmVm (Z : State) (G : Gs) (ra : Addr) (mnv : Int64) (h0 : Heap) (n0 : Nat) (v : Option Value) (h : Heap) (L : List Loc) : Prop := v = some (.long mnv) ∧ Fr n0 L ∧ h = h0
theorem rmVm (l : Launch) (Z : State) (a0 : Array Value) (hw : HW a0 Z) (G : Gs) (ST : StartF Z G) (ws : List Jvm.Cond) (ra : Addr) (mnv : Int64) (h0 : Heap) (n0 : Nat) (X00 : Old Z n0 h0) (F1 : Fld Z h0 ra sg9 "minSmallest" "J" (.long mnv)) :
  MF l Z ws mm15 jdk_2423_method_6_code 1 (some .long) (rk 0 0 0 0) #[(.ref ra)] h0 (QrmVm Z G ra mnv h0 n0) := by
 refine MetFree.of_bodySF (plainFor_of_name pn_5) hisR ?_
 intro p e s m args below meth c s₁ Bd hml0 hP hK
 obtain ⟨rfl, hZ, hh⟩ := hP
 have hx := Bd.exec
 have B := Bd.bytes
 have hown : s.vm.findClass sg9 = some m.cls := findClass_of_methodNamed Bd.named
 have X0 : Stand p l e (rk 0 0 0 0) s m #[(.ref ra)] below meth c s₁ [] 0 0 := Stand.of_body Bd
 have e0 : s₁.heap = h0 := by rw [← hh, Bd.state]; rfl
 have N0 := Fr.nil n0
 obtain ⟨TG, hTG, pre0⟩ := own_pre p e below s₁ (ef_rmL1 m ra )
 obtain ⟨T10, X10, e10, st10⟩ := getF X0 hx hZ hown (host := "") (Or.inl (w_71 hw)) Via.refl e0 F1 (g := (mkF m 1 #[xvr ra] [xwr ra])) rfl rfl (hb B d12_1)
 obtain ⟨fs, hr, hrun, hended, hW, hsame⟩ := X10.leave (v := some (.long mnv)) (own_rv Bd.returns)
 refine ⟨_, _, hTG _ (pre0 _ ?_), hrun, hended, _, _, rfl, ?_, ⟨_, rfl⟩, hW, hsame.mono (by decide) (by decide)⟩
 ·refine y_aloadN X0 hx 1 (hb B d12_0) rfl rfl rfl ?_
  refine st10 _ ?_
  show Sx p e below T10 m 4 #[xvr ra] [xwj mnv] _
  exact retOut X10 hx Bd.returns rfl (Or.inr (Or.inl ⟨rfl, rfl, _, rfl⟩)) (hb B d12_4) hr
 ·show QrmVm Z G ra mnv h0 n0 _ T10.heap _
  rw [e10]
  exact ⟨rfl, N0, rfl⟩
abbrev kc13 : ByteArray := jdk_2423_method_9_code
def d13_0 : DC kc13 0 (.aload_n 0) 1 := by decide +kernel
def d13_1 : DC kc13 1 (.getfield 43) 3 := by decide +kernel
def d13_4 : DC kc13 4 (.lreturn) 1 := by decide +kernel
def QrmVx (Z : State) (G : Gs) (ra : Addr) (mxv : Int64) (h0 : Heap) (n0 : Nat) (v : Option Value) (h : Heap) (L : List Loc) : Prop := v = some (.long mxv) ∧ Fr n0 L ∧ h = h0
theorem rmVx (l : Launch) (Z : State) (a0 : Array Value) (hw : HW a0 Z) (G : Gs) (ST : StartF Z G) (ws : List Jvm.Cond) (ra : Addr) (mxv : Int64) (h0 : Heap) (n0 : Nat) (X00 : Old Z n0 h0) (F2 : Fld Z h0 ra sg9 "maxLargest" "J" (.long mxv)) :
  MF l Z ws mm16 jdk_2423_method_9_code 1 (some .long) (rk 0 0 0 0) #[(.ref ra)] h0 (QrmVx Z G ra mxv h0 n0) := by
 refine MetFree.of_bodySF (plainFor_of_name pn_5) hisR ?_
 intro p e s m args below meth c s₁ Bd hml0 hP hK
 obtain ⟨rfl, hZ, hh⟩ := hP
 have hx := Bd.exec
 have B := Bd.bytes
 have hown : s.vm.findClass sg9 = some m.cls := findClass_of_methodNamed Bd.named
 have X0 : Stand p l e (rk 0 0 0 0) s m #[(.ref ra)] below meth c s₁ [] 0 0 := Stand.of_body Bd
 have e0 : s₁.heap = h0 := by rw [← hh, Bd.state]; rfl
 have N0 := Fr.nil n0
 obtain ⟨TG, hTG, pre0⟩ := own_pre p e below s₁ (ef_rmL1 m ra )
 obtain ⟨T10, X10, e10, st10⟩ := getF X0 hx hZ hown (host := "") (Or.inl (w_78 hw)) Via.refl e0 F2 (g := (mkF m 1 #[xvr ra] [xwr ra])) rfl rfl (hb B d13_1)
 obtain ⟨fs, hr, hrun, hended, hW, hsame⟩ := X10.leave (v := some (.long mxv)) (own_rv Bd.returns)
 refine ⟨_, _, hTG _ (pre0 _ ?_), hrun, hended, _, _, rfl, ?_, ⟨_, rfl⟩, hW, hsame.mono (by decide) (by decide)⟩
 ·refine y_aloadN X0 hx 1 (hb B d13_0) rfl rfl rfl ?_
  refine st10 _ ?_
  show Sx p e below T10 m 4 #[xvr ra] [xwj mxv] _
  exact retOut X10 hx Bd.returns rfl (Or.inr (Or.inl ⟨rfl, rfl, _, rfl⟩)) (hb B d13_4) hr
 ·show QrmVx Z G ra mxv h0 n0 _ T10.heap _
  rw [e10]
  exact ⟨rfl, N0, rfl⟩
theorem ef_rmIs (m : MethodId) (x0 : Addr) (x1 : Int64)  : entryFrame m #[(.ref x0), (.long x1)] 3 = mkF m 0 #[.val (.ref x0), .val (.long x1), .second] [] := by first | (simp [entryFrame, mkF, argsToLocals, Value.category]; done) | rfl
abbrev kc43 : ByteArray := jdk_2369_method_18_code
def d43_0 : DC kc43 0 (.lload_n 1) 1 := by decide +kernel
def d43_1 : DC kc43 1 (.ldc2_w 117) 3 := by decide +kernel
def d43_4 : DC kc43 4 (.land) 1 := by decide +kernel
def d43_5 : DC kc43 5 (.lconst 0) 1 := by decide +kernel
def d43_6 : DC kc43 6 (.lcmp) 1 := by decide +kernel
def d43_7 : DC kc43 7 (.ifCond .ne 27) 3 := by decide +kernel
def d43_10 : DC kc43 10 (.lload_n 1) 1 := by decide +kernel
def d43_11 : DC kc43 11 (.ldc2_w 123) 3 := by decide +kernel
def d43_14 : DC kc43 14 (.lrem) 1 := by decide +kernel
def d43_15 : DC kc43 15 (.lconst 0) 1 := by decide +kernel
def d43_16 : DC kc43 16 (.lcmp) 1 := by decide +kernel
def d43_17 : DC kc43 17 (.ifCond .ne 13) 3 := by decide +kernel
def d43_20 : DC kc43 20 (.lload_n 1) 1 := by decide +kernel
def d43_21 : DC kc43 21 (.ldc2_w 127) 3 := by decide +kernel
def d43_24 : DC kc43 24 (.lrem) 1 := by decide +kernel
def d43_25 : DC kc43 25 (.lconst 0) 1 := by decide +kernel
def d43_26 : DC kc43 26 (.lcmp) 1 := by decide +kernel
def d43_27 : DC kc43 27 (.ifCond .ne 7) 3 := by decide +kernel
def d43_30 : DC kc43 30 (.iconst 1) 1 := by decide +kernel
def d43_31 : DC kc43 31 (.goto 4) 3 := by decide +kernel
def d43_35 : DC kc43 35 (.ireturn) 1 := by decide +kernel
def d43_34 : DC kc43 34 (.iconst 0) 1 := by decide +kernel
theorem pn_6 : plainName "java/time/chrono/IsoChronology" = true := by first | (simp [plainName, overriddenIn]; done) | decide +kernel
def QrmIs (Z : State) (G : Gs) (jx : Int64) (h0 : Heap) (n0 : Nat) (v : Option Value) (h : Heap) (L : List Loc) : Prop := ∃ (bx : Int32), v = some (.int bx) ∧ Fr n0 L ∧ h = h0 ∧ Lp bx jx
theorem rmIs (l : Launch) (Z : State) (a0 : Array Value) (hw : HW a0 Z) (G : Gs) (ST : StartF Z G) (ws : List Jvm.Cond) (jx : Int64) (h0 : Heap) (n0 : Nat) (X00 : Old Z n0 h0) :
  MF l Z ws mm17 jdk_2369_method_18_code 3 (some .boolean) (rk 0 0 0 0) #[(.ref G.a3), (.long jx)] h0 (QrmIs Z G jx h0 n0) := by
 refine MetFree.of_bodySF (plainFor_of_name pn_6) hisR ?_
 intro p e s m args below meth c s₁ Bd hml0 hP hK
 obtain ⟨rfl, hZ, hh⟩ := hP
 have hx := Bd.exec
 have B := Bd.bytes
 have hown : s.vm.findClass sg15 = some m.cls := findClass_of_methodNamed Bd.named
 have X0 : Stand p l e (rk 0 0 0 0) s m #[(.ref G.a3), (.long jx)] below meth c s₁ [] 0 0 := Stand.of_body Bd
 have e0 : s₁.heap = h0 := by rw [← hh, Bd.state]; rfl
 have N0 := Fr.nil n0
 obtain ⟨TG, hTG, pre0⟩ := own_pre p e below s₁ (ef_rmIs m G.a3 jx )
 have c10 : ∀ t, Sx p e below s₁ m 7 #[xvr G.a3, xvj jx, xse] [(.int (XT.cmpL (jx &&& (3 : Int64)) (0 : Int64)))] t → TG t := fun t k => pre0 t (by
  refine y_lloadN X0 hx 1 (hb B d43_0) rfl rfl <| y_ldcJ X0 hx hown (mvT hZ (w_292 hw)) 4 (hb B d43_1) rfl <| y_land X0 hx 5 (hb B d43_4) rfl ?_
  refine XS.lconst X0.here hx rfl (hb B d43_5) ?_
  refine y_lcmp X0 hx 7 (hb B d43_6) rfl ?_
  exact k)
 by_cases hc11 : (jx &&& (3 : Int64)) = (0 : Int64)
 ·have c12 : ∀ t, Sx p e below s₁ m 17 #[xvr G.a3, xvj jx, xse] [(.int (XT.cmpL (jx % (100 : Int64)) (0 : Int64)))] t → TG t := fun t k => c10 t (by
   refine y_ifNo X0 hx 10 (hb B d43_7) (XT.ll_ne_f hc11) rfl <| y_lloadN X0 hx 11 (hb B d43_10) rfl rfl <| y_ldcJ X0 hx hown (mvT hZ (w_296 hw)) 14 (hb B d43_11) rfl ?_
   refine XT.lrem X0.here hx rfl (hb B d43_14) rfl (by decide) ?_
   rw [lrem_mod]
   refine XS.lconst X0.here hx rfl (hb B d43_15) ?_
   refine y_lcmp X0 hx 17 (hb B d43_16) rfl ?_
   exact k)
  by_cases hc13 : (jx % (100 : Int64)) = (0 : Int64)
  ·have c14 : ∀ t, Sx p e below s₁ m 27 #[xvr G.a3, xvj jx, xse] [(.int (XT.cmpL (jx % (400 : Int64)) (0 : Int64)))] t → TG t := fun t k => c12 t (by
    refine y_ifNo X0 hx 20 (hb B d43_17) (XT.ll_ne_f hc13) rfl <| y_lloadN X0 hx 21 (hb B d43_20) rfl rfl <| y_ldcJ X0 hx hown (mvT hZ (w_305 hw)) 24 (hb B d43_21) rfl ?_
    refine XT.lrem X0.here hx rfl (hb B d43_24) rfl (by decide) ?_
    rw [lrem_mod]
    refine XS.lconst X0.here hx rfl (hb B d43_25) ?_
    refine y_lcmp X0 hx 27 (hb B d43_26) rfl ?_
    exact k)
   by_cases hc15 : (jx % (400 : Int64)) = (0 : Int64)
   ·obtain ⟨fs, hr, hrun, hended, hW, hsame⟩ := X0.leave (v := some (.int (1 : Int32))) (own_rv Bd.returns)
    refine ⟨_, _, hTG _ (c14 _ ?_), hrun, hended, _, _, rfl, ?_, ⟨_, rfl⟩, hW, hsame.mono (by decide) (by decide)⟩
    ·refine y_ifNo X0 hx 30 (hb B d43_27) (XT.ll_ne_f hc15) rfl <| y_iconst X0 hx (1 : Int32) 31 (hb B d43_30) rfl rfl <| y_goto X0 hx 35 (hb B d43_31) rfl rfl ?_
     show Sx p e below s₁ m 35 #[xvr G.a3, xvj jx, xse] [xwi (1 : Int32)] _
     exact retN X0 hx (t := .boolean) Bd.returns (by simp) (hb B d43_35) (hr)
    ·show QrmIs Z G jx h0 n0 _ s₁.heap _
     rw [e0]
     exact ⟨(1 : Int32), rfl, N0, rfl, (Or.inl ⟨rfl, hc11, Or.inr hc15⟩)⟩
   ·obtain ⟨fs, hr, hrun, hended, hW, hsame⟩ := X0.leave (v := some ZI) (own_rv Bd.returns)
    refine ⟨_, _, hTG _ (c14 _ ?_), hrun, hended, _, _, rfl, ?_, ⟨_, rfl⟩, hW, hsame.mono (by decide) (by decide)⟩
    ·refine y_ifYes X0 hx 34 (hb B d43_27) (XT.ll_ne_t hc15) rfl rfl <| y_iconst X0 hx (0 : Int32) 35 (hb B d43_34) rfl rfl ?_
     show Sx p e below s₁ m 35 #[xvr G.a3, xvj jx, xse] [xwi (0 : Int32)] _
     exact retN X0 hx (t := .boolean) Bd.returns (by simp) (hb B d43_35) (hr)
    ·show QrmIs Z G jx h0 n0 _ s₁.heap _
     rw [e0]
     exact ⟨(0 : Int32), rfl, N0, rfl, (Or.inr ⟨rfl, fun q => q.2.elim (fun r => r hc13) hc15⟩)⟩
  ·obtain ⟨fs, hr, hrun, hended, hW, hsame⟩ := X0.leave (v := some (.int (1 : Int32))) (own_rv Bd.returns)
   refine ⟨_, _, hTG _ (c12 _ ?_), hrun, hended, _, _, rfl, ?_, ⟨_, rfl⟩, hW, hsame.mono (by decide) (by decide)⟩
   ·refine y_ifYes X0 hx 30 (hb B d43_17) (XT.ll_ne_t hc13) rfl rfl <| y_iconst X0 hx (1 : Int32) 31 (hb B d43_30) rfl rfl <| y_goto X0 hx 35 (hb B d43_31) rfl rfl ?_
    show Sx p e below s₁ m 35 #[xvr G.a3, xvj jx, xse] [xwi (1 : Int32)] _
    exact retN X0 hx (t := .boolean) Bd.returns (by simp) (hb B d43_35) (hr)
   ·show QrmIs Z G jx h0 n0 _ s₁.heap _
    rw [e0]
    exact ⟨(1 : Int32), rfl, N0, rfl, (Or.inl ⟨rfl, hc11, Or.inl hc13⟩)⟩
 ·obtain ⟨fs, hr, hrun, hended, hW, hsame⟩ := X0.leave (v := some ZI) (own_rv Bd.returns)
  refine ⟨_, _, hTG _ (c10 _ ?_), hrun, hended, _, _, rfl, ?_, ⟨_, rfl⟩, hW, hsame.mono (by decide) (by decide)⟩
  ·refine y_ifYes X0 hx 34 (hb B d43_7) (XT.ll_ne_t hc11) rfl rfl <| y_iconst X0 hx (0 : Int32) 35 (hb B d43_34) rfl rfl ?_
   show Sx p e below s₁ m 35 #[xvr G.a3, xvj jx, xse] [xwi (0 : Int32)] _
   exact retN X0 hx (t := .boolean) Bd.returns (by simp) (hb B d43_35) (hr)
  ·show QrmIs Z G jx h0 n0 _ s₁.heap _
   rw [e0]
   exact ⟨(0 : Int32), rfl, N0, rfl, (Or.inr ⟨rfl, fun q => hc11 q.1⟩)⟩
abbrev kc42 : ByteArray := jdk_2323_method_30_code
def d42_0 : DC kc42 0 (.getstatic 70) 3 := by decide +kernel
def d42_3 : DC kc42 3 (.aload_n 0) 1 := by decide +kernel
def d42_4 : DC kc42 4 (.getfield 246) 3 := by decide +kernel
def d42_7 : DC kc42 7 (.i2l) 1 := by decide +kernel
def d42_8 : DC kc42 8 (.invokevirtual 76) 3 := by decide +kernel
theorem pd_10 : parseMethodDescriptor "(J)Z" = some ⟨[.long], some .boolean⟩ := by decide +kernel
def d42_11 : DC kc42 11 (.ireturn) 1 := by decide +kernel
theorem pn_7 : plainName "java/time/LocalDate" = true := by first | (simp [plainName, overriddenIn]; done) | decide +kernel
def QrmLy (Z : State) (G : Gs) (ea : Addr) (yx : Int32) (h0 : Heap) (n0 : Nat) (v : Option Value) (h : Heap) (L : List Loc) : Prop := ∃ (bx : Int32), v = some (.int bx) ∧ Fr n0 L ∧ h = h0 ∧ Lp bx (yx.toInt64)
theorem rmLy (l : Launch) (Z : State) (a0 : Array Value) (hw : HW a0 Z) (G : Gs) (ST : StartF Z G) (ws : List Jvm.Cond) (ea : Addr) (yx : Int32) (h0 : Heap) (n0 : Nat) (X00 : Old Z n0 h0) (F1 : Fld Z h0 ea sg3 "year" "I" (.int yx)) :
  MF l Z ws mm18 jdk_2323_method_30_code 1 (some .boolean) (rk 1 0 0 14) #[(.ref ea)] h0 (QrmLy Z G ea yx h0 n0) := by
 refine MetFree.of_bodySF (plainFor_of_name pn_7) hisR ?_
 intro p e s m args below meth c s₁ Bd hml0 hP hK
 obtain ⟨rfl, hZ, hh⟩ := hP
 have hx := Bd.exec
 have B := Bd.bytes
 have hml : c.maxLocals = 1 := hml0
 have hown : s.vm.findClass sg3 = some m.cls := findClass_of_methodNamed Bd.named
 have X0 : Stand p l e (rk 1 0 0 14) s m #[(.ref ea)] below meth c s₁ [] 0 0 := Stand.of_body Bd
 have e0 : s₁.heap = h0 := by rw [← hh, Bd.state]; rfl
 have N0 := Fr.nil n0
 obtain ⟨TG, hTG, pre0⟩ := own_pre p e below s₁ (ef_rmL1 m ea )
 obtain ⟨T10, X10, e10, st10⟩ := getS2 X0 hx hZ hown (host := "") (Or.inl (w_285 hw)) Via.refl e0 (ST.c12.ext X00.2) (g := (mkF m 0 #[xvr ea] [])) rfl (hb B d42_0)
 obtain ⟨T11, X11, e11, st11⟩ := getF X10 hx hZ hown (host := "") (Or.inl (w_95 hw)) Via.refl e10 F1 (g := (mkF m 4 #[xvr ea] [xwr ea, xwr G.a3])) rfl rfl (hb B d42_4)
 obtain ⟨cq12, kq12, q12a, q12b, q12c⟩ := isOf hZ e11 (ST.c13.ext X00.2)
 obtain ⟨_, _, ⟨T13, L13, k13, n13⟩, -, X13, ⟨Lc13, hQ13, l13, y13, z13⟩, st13⟩ := X11.virtualBack hx (y := mm17) (z := mm17) hown (mvT hZ (w_287 hw)) (mvT hZ (w_288 hw)) (notFace_of_selects (args := #[]) (mvT hZ (w_290 hw))) (mvT hZ (w_290 hw)) (mvT hZ (w_289 hw)) (by decide) (backOf (W := 0) (rmIs l Z a0 hw G ST [] (yx.toInt64) h0 n0 X00 ) hZ (w_291 hw) (w_286 hw) (by decide) (by decide)) q12a q12c (g := (mkF m 8 #[xvr ea] [xwj (yx.toInt64), xwr G.a3])) rfl (by rw [hml]; rfl) (Steps.refl _) (argsL := [(.long (yx.toInt64))]) (rest := []) (lenOf pd_10 rfl) rfl (Nat.le_of_eq rfl) (hb B d42_8) (fun _ _ => ⟨rfl, e11, (by decide : 0 + 0 ≤ _), (by decide : 0 + 0 ≤ _)⟩)
 dsimp only [Pt.U, Pt.locs, Pt.cells, Pt.slots] at X13 l13 y13 z13 st13 hQ13
 subst l13 y13 z13
 obtain ⟨o14, rfl, N13q, e13, p15⟩ := hQ13
 have N13 := Fr.app N0 N13q
 obtain ⟨fs, hr, hrun, hended, hW, hsame⟩ := X13.leave (v := some (.int o14)) (own_rv Bd.returns)
 refine ⟨_, _, hTG _ (pre0 _ ?_), hrun, hended, _, _, rfl, ?_, ⟨_, rfl⟩, hW, hsame.mono (by decide) (by decide)⟩
 ·refine st10 _ ?_
  refine y_aloadN X10 hx 4 (hb B d42_3) rfl rfl rfl ?_
  refine st11 _ ?_
  refine y_i2l X11 hx 8 (hb B d42_7) rfl ?_
  refine st13.trans ?_
  show Sx p e below T13 m 11 #[xvr ea] [xwi o14] _
  exact retN X13 hx (t := .boolean) Bd.returns (by simp) (hb B d42_11) ((by rw [own_nz p15]; exact hr))
 ·show QrmLy Z G ea yx h0 n0 _ T13.heap _
  rw [e13]
  exact ⟨o14, rfl, N13, rfl, p15⟩
theorem ef_rmTE (m : MethodId) (x0 : Addr)  : entryFrame m #[(.ref x0)] 7 = mkF m 0 #[.val (.ref x0), .unset, .unset, .unset, .unset, .unset, .unset] [] := by first | (simp [entryFrame, mkF, argsToLocals, Value.category]; done) | rfl
abbrev kc35 : ByteArray := jdk_2323_method_67_code
def d35_0 : DC kc35 0 (.aload_n 0) 1 := by decide +kernel
def d35_1 : DC kc35 1 (.getfield 246) 3 := by decide +kernel
def d35_4 : DC kc35 4 (.i2l) 1 := by decide +kernel
def d35_5 : DC kc35 5 (.lstore_n 1) 1 := by decide +kernel
def d35_6 : DC kc35 6 (.aload_n 0) 1 := by decide +kernel
def d35_7 : DC kc35 7 (.getfield 250) 3 := by decide +kernel
def d35_10 : DC kc35 10 (.i2l) 1 := by decide +kernel
def d35_11 : DC kc35 11 (.lstore_n 3) 1 := by decide +kernel
def d35_12 : DC kc35 12 (.lconst 0) 1 := by decide +kernel
def d35_13 : DC kc35 13 (.lstore 5) 2 := by decide +kernel
def d35_15 : DC kc35 15 (.lload 5) 2 := by decide +kernel
def d35_17 : DC kc35 17 (.ldc2_w 174) 3 := by decide +kernel
def d35_20 : DC kc35 20 (.lload_n 1) 1 := by decide +kernel
def d35_21 : DC kc35 21 (.lmul) 1 := by decide +kernel
def d35_22 : DC kc35 22 (.ladd) 1 := by decide +kernel
def d35_23 : DC kc35 23 (.lstore 5) 2 := by decide +kernel
def d35_25 : DC kc35 25 (.lload_n 1) 1 := by decide +kernel
def d35_26 : DC kc35 26 (.lconst 0) 1 := by decide +kernel
def d35_27 : DC kc35 27 (.lcmp) 1 := by decide +kernel
def d35_28 : DC kc35 28 (.ifCond .lt 40) 3 := by decide +kernel
def d35_68 : DC kc35 68 (.lload 5) 2 := by decide +kernel
def d35_70 : DC kc35 70 (.lload_n 1) 1 := by decide +kernel
def d35_71 : DC kc35 71 (.ldc2_w 658) 3 := by decide +kernel
def d35_74 : DC kc35 74 (.ldiv) 1 := by decide +kernel
def d35_75 : DC kc35 75 (.lload_n 1) 1 := by decide +kernel
def d35_76 : DC kc35 76 (.ldc2_w 660) 3 := by decide +kernel
def d35_79 : DC kc35 79 (.ldiv) 1 := by decide +kernel
def d35_80 : DC kc35 80 (.lsub) 1 := by decide +kernel
def d35_81 : DC kc35 81 (.lload_n 1) 1 := by decide +kernel
def d35_82 : DC kc35 82 (.ldc2_w 662) 3 := by decide +kernel
def d35_85 : DC kc35 85 (.ldiv) 1 := by decide +kernel
def d35_86 : DC kc35 86 (.ladd) 1 := by decide +kernel
def d35_87 : DC kc35 87 (.lsub) 1 := by decide +kernel
def d35_88 : DC kc35 88 (.lstore 5) 2 := by decide +kernel
def d35_31 : DC kc35 31 (.lload 5) 2 := by decide +kernel
def d35_33 : DC kc35 33 (.lload_n 1) 1 := by decide +kernel
def d35_34 : DC kc35 34 (.ldc2_w 370) 3 := by decide +kernel
def d35_37 : DC kc35 37 (.ladd) 1 := by decide +kernel
def d35_38 : DC kc35 38 (.ldc2_w 176) 3 := by decide +kernel
def d35_41 : DC kc35 41 (.ldiv) 1 := by decide +kernel
def d35_42 : DC kc35 42 (.lload_n 1) 1 := by decide +kernel
def d35_43 : DC kc35 43 (.ldc2_w 654) 3 := by decide +kernel
def d35_46 : DC kc35 46 (.ladd) 1 := by decide +kernel
def d35_47 : DC kc35 47 (.ldc2_w 178) 3 := by decide +kernel
def d35_50 : DC kc35 50 (.ldiv) 1 := by decide +kernel
def d35_51 : DC kc35 51 (.lsub) 1 := by decide +kernel
def d35_52 : DC kc35 52 (.lload_n 1) 1 := by decide +kernel
def d35_53 : DC kc35 53 (.ldc2_w 656) 3 := by decide +kernel
def d35_56 : DC kc35 56 (.ladd) 1 := by decide +kernel
def d35_57 : DC kc35 57 (.ldc2_w 170) 3 := by decide +kernel
def d35_60 : DC kc35 60 (.ldiv) 1 := by decide +kernel
def d35_61 : DC kc35 61 (.ladd) 1 := by decide +kernel
def d35_62 : DC kc35 62 (.ladd) 1 := by decide +kernel
def d35_63 : DC kc35 63 (.lstore 5) 2 := by decide +kernel
def d35_65 : DC kc35 65 (.goto 25) 3 := by decide +kernel
def d35_90 : DC kc35 90 (.lload 5) 2 := by decide +kernel
def d35_92 : DC kc35 92 (.ldc2_w 664) 3 := by decide +kernel
def d35_95 : DC kc35 95 (.lload_n 3) 1 := by decide +kernel
def d35_96 : DC kc35 96 (.lmul) 1 := by decide +kernel
def d35_97 : DC kc35 97 (.ldc2_w 666) 3 := by decide +kernel
def d35_100 : DC kc35 100 (.lsub) 1 := by decide +kernel
def d35_101 : DC kc35 101 (.ldc2_w 359) 3 := by decide +kernel
def d35_104 : DC kc35 104 (.ldiv) 1 := by decide +kernel
def d35_105 : DC kc35 105 (.ladd) 1 := by decide +kernel
def d35_106 : DC kc35 106 (.lstore 5) 2 := by decide +kernel
def d35_108 : DC kc35 108 (.lload 5) 2 := by decide +kernel
def d35_110 : DC kc35 110 (.aload_n 0) 1 := by decide +kernel
def d35_111 : DC kc35 111 (.getfield 253) 3 := by decide +kernel
def d35_114 : DC kc35 114 (.iconst 1) 1 := by decide +kernel
def d35_115 : DC kc35 115 (.isub) 1 := by decide +kernel
def d35_116 : DC kc35 116 (.i2l) 1 := by decide +kernel
def d35_117 : DC kc35 117 (.ladd) 1 := by decide +kernel
def d35_118 : DC kc35 118 (.lstore 5) 2 := by decide +kernel
def d35_120 : DC kc35 120 (.lload_n 3) 1 := by decide +kernel
def d35_121 : DC kc35 121 (.ldc2_w 668) 3 := by decide +kernel
def d35_124 : DC kc35 124 (.lcmp) 1 := by decide +kernel
def d35_125 : DC kc35 125 (.ifCond .le 22) 3 := by decide +kernel
def d35_128 : DC kc35 128 (.lload 5) 2 := by decide +kernel
def d35_130 : DC kc35 130 (.lconst 1) 1 := by decide +kernel
def d35_131 : DC kc35 131 (.lsub) 1 := by decide +kernel
def d35_132 : DC kc35 132 (.lstore 5) 2 := by decide +kernel
def d35_134 : DC kc35 134 (.aload_n 0) 1 := by decide +kernel
def d35_135 : DC kc35 135 (.invokevirtual 297) 3 := by decide +kernel
def d35_138 : DC kc35 138 (.ifCond .ne 9) 3 := by decide +kernel
def d35_147 : DC kc35 147 (.lload 5) 2 := by decide +kernel
def d35_149 : DC kc35 149 (.ldc2_w 164) 3 := by decide +kernel
def d35_152 : DC kc35 152 (.lsub) 1 := by decide +kernel
def d35_153 : DC kc35 153 (.lreturn) 1 := by decide +kernel
def d35_141 : DC kc35 141 (.lload 5) 2 := by decide +kernel
def d35_143 : DC kc35 143 (.lconst 1) 1 := by decide +kernel
def d35_144 : DC kc35 144 (.lsub) 1 := by decide +kernel
def d35_145 : DC kc35 145 (.lstore 5) 2 := by decide +kernel
def QrmTE (Z : State) (G : Gs) (ea : Addr) (yx mx : Int32) (dy dx : Int32) (h0 : Heap) (n0 : Nat) (v : Option Value) (h : Heap) (L : List Loc) : Prop := v = some (.long (dx.toInt64)) ∧ Fr n0 L ∧ Keep h0 h []
theorem rmTE (l : Launch) (Z : State) (a0 : Array Value) (hw : HW a0 Z) (G : Gs) (ST : StartF Z G) (ws : List Jvm.Cond) (ea : Addr) (yx mx : Int32) (dy dx : Int32) (h0 : Heap) (n0 : Nat) (X00 : Old Z n0 h0) (eE : Exa Z h0 ea sg3) (eY : Fld Z h0 ea sg3 "year" "I" (.int yx)) (eM : Fld Z h0 ea sg3 "month" "S" (.int mx)) (eD : Fld Z h0 ea sg3 "day" "S" (.int dy)) (hTD : TD yx mx dy dx) :
  MF l Z ws mm19 jdk_2323_method_67_code 7 (some .long) (rk 2 0 0 26) #[(.ref ea)] h0 (QrmTE Z G ea yx mx dy dx h0 n0) := by
 refine MetFree.of_bodySF (plainFor_of_name pn_7) hisR ?_
 intro p e s m args below meth c s₁ Bd hml0 hP hK
 obtain ⟨rfl, hZ, hh⟩ := hP
 have hx := Bd.exec
 have B := Bd.bytes
 have hml : c.maxLocals = 7 := hml0
 have hown : s.vm.findClass sg3 = some m.cls := findClass_of_methodNamed Bd.named
 have X0 : Stand p l e (rk 2 0 0 26) s m #[(.ref ea)] below meth c s₁ [] 0 0 := Stand.of_body Bd
 have e0 : s₁.heap = h0 := by rw [← hh, Bd.state]; rfl
 have N0 := Fr.nil n0
 obtain ⟨TG, hTG, pre0⟩ := own_pre p e below s₁ (ef_rmTE m ea )
 obtain ⟨T10, X10, e10, st10⟩ := getF X0 hx hZ hown (host := "") (Or.inl (w_95 hw)) Via.refl e0 eY (g := (mkF m 1 #[xvr ea, xun, xun, xun, xun, xun, xun] [xwr ea])) rfl rfl (hb B d35_1)
 obtain ⟨T11, X11, e11, st11⟩ := getF X10 hx hZ hown (host := "") (Or.inl (w_97 hw)) Via.refl e10 eM (g := (mkF m 7 #[xvr ea, xvj (yx.toInt64), xse, xun, xun, xun, xun] [xwr ea])) rfl rfl (hb B d35_7)
 have c12 : ∀ t, Sx p e below T11 m 25 #[xvr ea, xvj (yx.toInt64), xse, xvj (mx.toInt64), xse, xvj ((0 : Int64) + ((365 : Int64) * (yx.toInt64))), xse] [] t → TG t := fun t k => pre0 t (by
  refine y_aloadN X0 hx 1 (hb B d35_0) rfl rfl rfl ?_
  refine st10 _ ?_
  refine y_i2l X10 hx 5 (hb B d35_4) rfl <| y_lstoreN X10 hx 6 (hb B d35_5) (L' := #[xvr ea, xvj (yx.toInt64), xse, xun, xun, xun, xun]) rfl rfl <| y_aloadN X10 hx 7 (hb B d35_6) rfl rfl rfl ?_
  refine st11 _ ?_
  refine y_i2l X11 hx 11 (hb B d35_10) rfl <| y_lstoreN X11 hx 12 (hb B d35_11) (L' := #[xvr ea, xvj (yx.toInt64), xse, xvj (mx.toInt64), xse, xun, xun]) rfl rfl ?_
  refine XS.lconst X11.here hx rfl (hb B d35_12) ?_
  refine y_lstore X11 hx 15 (hb B d35_13) (L' := #[xvr ea, xvj (yx.toInt64), xse, xvj (mx.toInt64), xse, xvj (0 : Int64), xse]) rfl rfl <| y_lload X11 hx 17 (hb B d35_15) rfl rfl <| y_ldcJ X11 hx hown (mvT hZ (w_85 hw)) 20 (hb B d35_17) rfl <| y_lloadN X11 hx 21 (hb B d35_20) rfl rfl <| y_lmul X11 hx 22 (hb B d35_21) rfl <| y_ladd X11 hx 23 (hb B d35_22) rfl <| y_lstore X11 hx 25 (hb B d35_23) (L' := #[xvr ea, xvj (yx.toInt64), xse, xvj (mx.toInt64), xse, xvj ((0 : Int64) + ((365 : Int64) * (yx.toInt64))), xse]) rfl rfl ?_
  exact k)
 have j13 : ∃ (T' : State) (h' : Heap) (locs' : List Loc) (t5x : Int64), Stand p l e (rk 2 0 0 26) s m #[(.ref ea)] below meth c T' locs' 0 0 ∧ T'.heap = h' ∧ Fr n0 locs' ∧ Keep h0 h' [] ∧ t5x.toInt = TE1 yx.toInt ∧ ∀ t, Sx p e below T' m 90 #[xvr ea, xvj (yx.toInt64), xse, xvj (mx.toInt64), xse, xvj t5x, xse] [] t → TG t := by
  have c14 : ∀ t, Sx p e below T11 m 28 #[xvr ea, xvj (yx.toInt64), xse, xvj (mx.toInt64), xse, xvj ((0 : Int64) + ((365 : Int64) * (yx.toInt64))), xse] [(.int (XT.cmpL (yx.toInt64) (0 : Int64)))] t → TG t := fun t k => c12 t (by
   refine y_lloadN X11 hx 26 (hb B d35_25) rfl rfl ?_
   refine XS.lconst X11.here hx rfl (hb B d35_26) ?_
   refine y_lcmp X11 hx 28 (hb B d35_27) rfl ?_
   exact k)
  by_cases hc15 : (yx.toInt64) < (0 : Int64)
  ·refine ⟨T11, h0, _, (((0 : Int64) + ((365 : Int64) * (yx.toInt64))) - ((((yx.toInt64) / (-4 : Int64)) - ((yx.toInt64) / (-100 : Int64))) + ((yx.toInt64) / (-400 : Int64)))), own_wid X11 (by decide : 0 ≤ 0) (by decide : 0 ≤ 0), e11, N0, (Keep.refl h0 []), (own_te1n hTD hc15), fun t k => c14 t ?_⟩
   refine y_ifYes X11 hx 68 (hb B d35_28) (XT.ll_lt_t hc15) rfl rfl <| y_lload X11 hx 70 (hb B d35_68) rfl rfl <| y_lloadN X11 hx 71 (hb B d35_70) rfl rfl <| y_ldcJ X11 hx hown (mvT hZ (w_241 hw)) 74 (hb B d35_71) rfl <| y_ldiv X11 hx 75 (hb B d35_74) (by decide) rfl <| y_lloadN X11 hx 76 (hb B d35_75) rfl rfl <| y_ldcJ X11 hx hown (mvT hZ (w_242 hw)) 79 (hb B d35_76) rfl <| y_ldiv X11 hx 80 (hb B d35_79) (by decide) rfl <| y_lsub X11 hx 81 (hb B d35_80) rfl <| y_lloadN X11 hx 82 (hb B d35_81) rfl rfl <| y_ldcJ X11 hx hown (mvT hZ (w_243 hw)) 85 (hb B d35_82) rfl <| y_ldiv X11 hx 86 (hb B d35_85) (by decide) rfl <| y_ladd X11 hx 87 (hb B d35_86) rfl <| y_lsub X11 hx 88 (hb B d35_87) rfl <| y_lstore X11 hx 90 (hb B d35_88) (L' := #[xvr ea, xvj (yx.toInt64), xse, xvj (mx.toInt64), xse, xvj (((0 : Int64) + ((365 : Int64) * (yx.toInt64))) - ((((yx.toInt64) / (-4 : Int64)) - ((yx.toInt64) / (-100 : Int64))) + ((yx.toInt64) / (-400 : Int64)))), xse]) rfl rfl ?_
   exact k
  ·refine ⟨T11, h0, _, (((0 : Int64) + ((365 : Int64) * (yx.toInt64))) + (((((yx.toInt64) + (3 : Int64)) / (4 : Int64)) - (((yx.toInt64) + (99 : Int64)) / (100 : Int64))) + (((yx.toInt64) + (399 : Int64)) / (400 : Int64)))), own_wid X11 (by decide : 0 ≤ 0) (by decide : 0 ≤ 0), e11, N0, (Keep.refl h0 []), (own_te1p hTD hc15), fun t k => c14 t ?_⟩
   refine y_ifNo X11 hx 31 (hb B d35_28) (XT.ll_lt_f hc15) rfl <| y_lload X11 hx 33 (hb B d35_31) rfl rfl <| y_lloadN X11 hx 34 (hb B d35_33) rfl rfl <| y_ldcJ X11 hx hown (mvT hZ (w_293 hw)) 37 (hb B d35_34) rfl <| y_ladd X11 hx 38 (hb B d35_37) rfl <| y_ldcJ X11 hx hown (mvT hZ (w_86 hw)) 41 (hb B d35_38) rfl <| y_ldiv X11 hx 42 (hb B d35_41) (by decide) rfl <| y_lloadN X11 hx 43 (hb B d35_42) rfl rfl <| y_ldcJ X11 hx hown (mvT hZ (w_294 hw)) 46 (hb B d35_43) rfl <| y_ladd X11 hx 47 (hb B d35_46) rfl <| y_ldcJ X11 hx hown (mvT hZ (w_87 hw)) 50 (hb B d35_47) rfl <| y_ldiv X11 hx 51 (hb B d35_50) (by decide) rfl <| y_lsub X11 hx 52 (hb B d35_51) rfl <| y_lloadN X11 hx 53 (hb B d35_52) rfl rfl <| y_ldcJ X11 hx hown (mvT hZ (w_295 hw)) 56 (hb B d35_53) rfl <| y_ladd X11 hx 57 (hb B d35_56) rfl <| y_ldcJ X11 hx hown (mvT hZ (w_83 hw)) 60 (hb B d35_57) rfl <| y_ldiv X11 hx 61 (hb B d35_60) (by decide) rfl <| y_ladd X11 hx 62 (hb B d35_61) rfl <| y_ladd X11 hx 63 (hb B d35_62) rfl <| y_lstore X11 hx 65 (hb B d35_63) (L' := #[xvr ea, xvj (yx.toInt64), xse, xvj (mx.toInt64), xse, xvj (((0 : Int64) + ((365 : Int64) * (yx.toInt64))) + (((((yx.toInt64) + (3 : Int64)) / (4 : Int64)) - (((yx.toInt64) + (99 : Int64)) / (100 : Int64))) + (((yx.toInt64) + (399 : Int64)) / (400 : Int64)))), xse]) rfl rfl <| y_goto X11 hx 90 (hb B d35_65) rfl rfl ?_
   exact k
 obtain ⟨T13, h13, locs13, o16, X13, e13, N13, K13, p17, c13⟩ := j13
 have f18 := (eD.keep K13 nin0)
 obtain ⟨T19, X19, e19, st19⟩ := getF X13 hx hZ hown (host := "") (Or.inl (w_99 hw)) Via.refl e13 f18 (g := (mkF m 111 #[xvr ea, xvj (yx.toInt64), xse, xvj (mx.toInt64), xse, xvj (o16 + ((((367 : Int64) * (mx.toInt64)) - (362 : Int64)) / (12 : Int64))), xse] [xwr ea, xwj (o16 + ((((367 : Int64) * (mx.toInt64)) - (362 : Int64)) / (12 : Int64)))])) rfl rfl (hb B d35_111)
 obtain ⟨t7x, e_t7x⟩ : ∃ z, z = ((o16 + ((((367 : Int64) * (mx.toInt64)) - (362 : Int64)) / (12 : Int64))) + ((dy - (1 : Int32)).toInt64)) := ⟨_, rfl⟩
 have h7 := own_te2 hTD p17 e_t7x
 have c20 : ∀ t, Sx p e below T19 m 125 #[xvr ea, xvj (yx.toInt64), xse, xvj (mx.toInt64), xse, xvj t7x, xse] [(.int (XT.cmpL (mx.toInt64) (2 : Int64)))] t → TG t := fun t k => c13 t (by
  refine y_lload X13 hx 92 (hb B d35_90) rfl rfl <| y_ldcJ X13 hx hown (mvT hZ (w_244 hw)) 95 (hb B d35_92) rfl <| y_lloadN X13 hx 96 (hb B d35_95) rfl rfl <| y_lmul X13 hx 97 (hb B d35_96) rfl <| y_ldcJ X13 hx hown (mvT hZ (w_245 hw)) 100 (hb B d35_97) rfl <| y_lsub X13 hx 101 (hb B d35_100) rfl <| y_ldcJ X13 hx hown (mvT hZ (w_246 hw)) 104 (hb B d35_101) rfl <| y_ldiv X13 hx 105 (hb B d35_104) (by decide) rfl <| y_ladd X13 hx 106 (hb B d35_105) rfl <| y_lstore X13 hx 108 (hb B d35_106) (L' := #[xvr ea, xvj (yx.toInt64), xse, xvj (mx.toInt64), xse, xvj (o16 + ((((367 : Int64) * (mx.toInt64)) - (362 : Int64)) / (12 : Int64))), xse]) rfl rfl <| y_lload X13 hx 110 (hb B d35_108) rfl rfl <| y_aloadN X13 hx 111 (hb B d35_110) rfl rfl rfl ?_
  refine st19 _ ?_
  refine y_iconst X19 hx (1 : Int32) 115 (hb B d35_114) rfl rfl <| y_isub X19 hx 116 (hb B d35_115) rfl <| y_i2l X19 hx 117 (hb B d35_116) rfl <| y_ladd X19 hx 118 (hb B d35_117) rfl ?_
  show Sx p e below T19 m 118 #[xvr ea, xvj (yx.toInt64), xse, xvj (mx.toInt64), xse, xvj (o16 + ((((367 : Int64) * (mx.toInt64)) - (362 : Int64)) / (12 : Int64))), xse] [xwj ((o16 + ((((367 : Int64) * (mx.toInt64)) - (362 : Int64)) / (12 : Int64))) + ((dy - (1 : Int32)).toInt64))] _
  rw [← e_t7x]
  refine y_lstore X19 hx 120 (hb B d35_118) (L' := #[xvr ea, xvj (yx.toInt64), xse, xvj (mx.toInt64), xse, xvj t7x, xse]) rfl rfl <| y_lloadN X19 hx 121 (hb B d35_120) rfl rfl <| y_ldcJ X19 hx hown (mvT hZ (w_247 hw)) 124 (hb B d35_121) rfl <| y_lcmp X19 hx 125 (hb B d35_124) rfl ?_
  exact k)
 by_cases hc21 : (2 : Int64) < (mx.toInt64)
 ·have f22 := (eY.keep K13 nin0)
  have Ol23 : Old Z n0 h13 := (X00.keep K13 all0)
  have f24 := (eE.keep K13)
  obtain ⟨cq25, kq25, q25a, q25b, q25c⟩ := isOf hZ e19 f24
  obtain ⟨_, _, ⟨T26, L26, k26, n26⟩, -, X26, ⟨Lc26, hQ26, l26, y26, z26⟩, st26⟩ := X19.virtualBack hx (y := mm18) (z := mm18) hown (mvT hZ (w_280 hw)) (mvT hZ (w_281 hw)) (notFace_of_selects (args := #[]) (mvT hZ (w_283 hw))) (mvT hZ (w_283 hw)) (mvT hZ (w_282 hw)) (by decide) (backOf (W := 0) (rmLy l Z a0 hw G ST [] ea yx h13 n0 Ol23 f22) hZ (w_284 hw) (w_39 hw) (by decide) (by decide)) q25a q25c (g := (mkF m 135 #[xvr ea, xvj (yx.toInt64), xse, xvj (mx.toInt64), xse, xvj (t7x - (1 : Int64)), xse] [xwr ea])) rfl (by rw [hml]; rfl) (Steps.refl _) (argsL := []) (rest := []) (lenOf pd_3 rfl) rfl (Nat.le_of_eq rfl) (hb B d35_135) (fun _ _ => ⟨rfl, e19, (by decide : 0 + 0 ≤ _), (by decide : 0 + 0 ≤ _)⟩)
  dsimp only [Pt.U, Pt.locs, Pt.cells, Pt.slots] at X26 l26 y26 z26 st26 hQ26
  subst l26 y26 z26
  obtain ⟨o27, rfl, N26q, e26, p28⟩ := hQ26
  have N26 := Fr.app N13 N26q
  have c29 : ∀ t, Sx p e below T26 m 138 #[xvr ea, xvj (yx.toInt64), xse, xvj (mx.toInt64), xse, xvj (t7x - (1 : Int64)), xse] [xwi o27] t → TG t := fun t k => c20 t (by
   refine y_ifNo X19 hx 128 (hb B d35_125) (XT.ll_le_f hc21) rfl <| y_lload X19 hx 130 (hb B d35_128) rfl rfl ?_
   refine XS.lconst X19.here hx rfl (hb B d35_130) ?_
   refine y_lsub X19 hx 132 (hb B d35_131) rfl <| y_lstore X19 hx 134 (hb B d35_132) (L' := #[xvr ea, xvj (yx.toInt64), xse, xvj (mx.toInt64), xse, xvj (t7x - (1 : Int64)), xse]) rfl rfl <| y_aloadN X19 hx 135 (hb B d35_134) rfl rfl rfl ?_
   refine st26.trans ?_
   exact k)
  rcases p28 with hk30 | hk30
  ·obtain ⟨fs, hr, hrun, hended, hW, hsame⟩ := X26.leave (v := some (.long (dx.toInt64))) (own_rv Bd.returns)
   refine ⟨_, _, hTG _ (c29 _ ?_), hrun, hended, _, _, rfl, ?_, ⟨_, rfl⟩, hW, hsame.mono (by decide) (by decide)⟩
   ·rw [hk30.1]
    refine y_ifYes X26 hx 147 (hb B d35_138) (XT.i0_ne_t (by decide)) rfl rfl <| y_lload X26 hx 149 (hb B d35_147) rfl rfl <| y_ldcJ X26 hx hown (mvT hZ (w_80 hw)) 152 (hb B d35_149) rfl <| y_lsub X26 hx 153 (hb B d35_152) rfl ?_
    rw [(show ((t7x - (1 : Int64)) - (719528 : Int64)) = dx.toInt64 from own_te4 hTD h7 hc21 hk30.2)]
    show Sx p e below T26 m 153 #[xvr ea, xvj (yx.toInt64), xse, xvj (mx.toInt64), xse, xvj (t7x - (1 : Int64)), xse] [xwj (dx.toInt64)] _
    exact retOut X26 hx Bd.returns rfl (Or.inr (Or.inl ⟨rfl, rfl, _, rfl⟩)) (hb B d35_153) hr
   ·show QrmTE Z G ea yx mx dy dx h0 n0 _ T26.heap _
    rw [e26]
    exact ⟨rfl, N26, ((Keep.refl h0 []).trans K13 all0)⟩
  ·obtain ⟨fs, hr, hrun, hended, hW, hsame⟩ := X26.leave (v := some (.long (dx.toInt64))) (own_rv Bd.returns)
   refine ⟨_, _, hTG _ (c29 _ ?_), hrun, hended, _, _, rfl, ?_, ⟨_, rfl⟩, hW, hsame.mono (by decide) (by decide)⟩
   ·rw [hk30.1]
    refine y_ifNo X26 hx 141 (hb B d35_138) (XT.i0_ne_f (by decide)) rfl <| y_lload X26 hx 143 (hb B d35_141) rfl rfl ?_
    refine XS.lconst X26.here hx rfl (hb B d35_143) ?_
    refine y_lsub X26 hx 145 (hb B d35_144) rfl <| y_lstore X26 hx 147 (hb B d35_145) (L' := #[xvr ea, xvj (yx.toInt64), xse, xvj (mx.toInt64), xse, xvj ((t7x - (1 : Int64)) - (1 : Int64)), xse]) rfl rfl <| y_lload X26 hx 149 (hb B d35_147) rfl rfl <| y_ldcJ X26 hx hown (mvT hZ (w_80 hw)) 152 (hb B d35_149) rfl <| y_lsub X26 hx 153 (hb B d35_152) rfl ?_
    show Sx p e below T26 m 153 #[xvr ea, xvj (yx.toInt64), xse, xvj (mx.toInt64), xse, xvj ((t7x - (1 : Int64)) - (1 : Int64)), xse] [xwj (((t7x - (1 : Int64)) - (1 : Int64)) - (719528 : Int64))] _
    rw [(show (((t7x - (1 : Int64)) - (1 : Int64)) - (719528 : Int64)) = dx.toInt64 from own_te5 hTD h7 hc21 hk30.2)]
    show Sx p e below T26 m 153 #[xvr ea, xvj (yx.toInt64), xse, xvj (mx.toInt64), xse, xvj ((t7x - (1 : Int64)) - (1 : Int64)), xse] [xwj (dx.toInt64)] _
    exact retOut X26 hx Bd.returns rfl (Or.inr (Or.inl ⟨rfl, rfl, _, rfl⟩)) (hb B d35_153) hr
   ·show QrmTE Z G ea yx mx dy dx h0 n0 _ T26.heap _
    rw [e26]
    exact ⟨rfl, N26, ((Keep.refl h0 []).trans K13 all0)⟩
 ·obtain ⟨fs, hr, hrun, hended, hW, hsame⟩ := X19.leave (v := some (.long (dx.toInt64))) (own_rv Bd.returns)
  refine ⟨_, _, hTG _ (c20 _ ?_), hrun, hended, _, _, rfl, ?_, ⟨_, rfl⟩, hW, hsame.mono (by decide) (by decide)⟩
  ·refine y_ifYes X19 hx 147 (hb B d35_125) (XT.ll_le_t hc21) rfl rfl <| y_lload X19 hx 149 (hb B d35_147) rfl rfl <| y_ldcJ X19 hx hown (mvT hZ (w_80 hw)) 152 (hb B d35_149) rfl <| y_lsub X19 hx 153 (hb B d35_152) rfl ?_
   rw [(show (t7x - (719528 : Int64)) = dx.toInt64 from own_te3 hTD h7 hc21)]
   show Sx p e below T19 m 153 #[xvr ea, xvj (yx.toInt64), xse, xvj (mx.toInt64), xse, xvj t7x, xse] [xwj (dx.toInt64)] _
   exact retOut X19 hx Bd.returns rfl (Or.inr (Or.inl ⟨rfl, rfl, _, rfl⟩)) (hb B d35_153) hr
  ·show QrmTE Z G ea yx mx dy dx h0 n0 _ T19.heap _
   rw [e19]
   exact ⟨rfl, N13, ((Keep.refl h0 []).trans K13 all0)⟩
theorem ef_rmTI (m : MethodId) (x0 : Int64)  : entryFrame m #[(.long x0)] 2 = mkF m 0 #[.val (.long x0), .second] [] := by first | (simp [entryFrame, mkF, argsToLocals, Value.category]; done) | rfl
abbrev kc36 : ByteArray := jdk_29_method_43_code
def d36_0 : DC kc36 0 (.lload_n 0) 1 := by decide +kernel
def d36_1 : DC kc36 1 (.l2i) 1 := by decide +kernel
def d36_2 : DC kc36 2 (.i2l) 1 := by decide +kernel
def d36_3 : DC kc36 3 (.lload_n 0) 1 := by decide +kernel
def d36_4 : DC kc36 4 (.lcmp) 1 := by decide +kernel
def d36_5 : DC kc36 5 (.ifCond .eq 13) 3 := by decide +kernel
def d36_18 : DC kc36 18 (.lload_n 0) 1 := by decide +kernel
def d36_19 : DC kc36 19 (.l2i) 1 := by decide +kernel
def d36_20 : DC kc36 20 (.ireturn) 1 := by decide +kernel
def QrmTI (Z : State) (G : Gs) (dx : Int32) (h0 : Heap) (n0 : Nat) (v : Option Value) (h : Heap) (L : List Loc) : Prop := v = some (.int dx) ∧ Fr n0 L ∧ h = h0
theorem rmTI (l : Launch) (Z : State) (a0 : Array Value) (hw : HW a0 Z) (G : Gs) (ST : StartF Z G) (ws : List Jvm.Cond) (dx : Int32) (h0 : Heap) (n0 : Nat) (X00 : Old Z n0 h0) :
  MF l Z ws mm20 jdk_29_method_43_code 2 (some .int) (rk 0 0 0 0) #[(.long (dx.toInt64))] h0 (QrmTI Z G dx h0 n0) := by
 refine MetFree.of_bodySF (Jvm.Free.JP.mathPlain rfl (by decide +kernel)) hisR ?_
 intro p e s m args below meth c s₁ Bd hml0 hP hK
 obtain ⟨rfl, hZ, hh⟩ := hP
 have hx := Bd.exec
 have B := Bd.bytes
 have X0 : Stand p l e (rk 0 0 0 0) s m #[(.long (dx.toInt64))] below meth c s₁ [] 0 0 := Stand.of_body Bd
 have e0 : s₁.heap = h0 := by rw [← hh, Bd.state]; rfl
 have N0 := Fr.nil n0
 obtain ⟨TG, hTG, pre0⟩ := own_pre p e below s₁ (ef_rmTI m (dx.toInt64) )
 obtain ⟨fs, hr, hrun, hended, hW, hsame⟩ := X0.leave (v := some (.int dx)) (own_rv Bd.returns)
 refine ⟨_, _, hTG _ (pre0 _ ?_), hrun, hended, _, _, rfl, ?_, ⟨_, rfl⟩, hW, hsame.mono (by decide) (by decide)⟩
 ·refine y_lloadN X0 hx 1 (hb B d36_0) rfl rfl <| y_l2i X0 hx 2 (hb B d36_1) rfl ?_
  rw [own_l2i dx]
  refine y_i2l X0 hx 3 (hb B d36_2) rfl <| y_lloadN X0 hx 4 (hb B d36_3) rfl rfl <| y_lcmp X0 hx 5 (hb B d36_4) rfl <| y_ifYes X0 hx 18 (hb B d36_5) (XT.ll_eq_t rfl) rfl rfl <| y_lloadN X0 hx 19 (hb B d36_18) rfl rfl <| y_l2i X0 hx 20 (hb B d36_19) rfl ?_
  rw [own_l2i dx]
  show Sx p e below s₁ m 20 #[xvj (dx.toInt64), xse] [xwi dx] _
  exact retOut X0 hx Bd.returns rfl (Or.inl ⟨rfl, Or.inl rfl, _, rfl⟩) (hb B d36_20) hr
 ·show QrmTI Z G dx h0 n0 _ s₁.heap _
  rw [e0]
  exact ⟨rfl, N0, rfl⟩
theorem ef_rmLI (m : MethodId) (x0 : Addr) (x1 x2 x3 : Int32)  : entryFrame m #[(.ref x0), (.int x1), (.int x2), (.int x3)] 4 = mkF m 0 #[.val (.ref x0), .val (.int x1), .val (.int x2), .val (.int x3)] [] := by first | (simp [entryFrame, mkF, argsToLocals, Value.category]; done) | rfl
abbrev kc14 : ByteArray := jdk_2323_method_14_code
def d14_0 : DC kc14 0 (.aload_n 0) 1 := by decide +kernel
def d14_1 : DC kc14 1 (.invokespecial 243) 3 := by decide +kernel
def d14_4 : DC kc14 4 (.aload_n 0) 1 := by decide +kernel
def d14_5 : DC kc14 5 (.iload_n 1) 1 := by decide +kernel
def d14_6 : DC kc14 6 (.putfield 246) 3 := by decide +kernel
def d14_9 : DC kc14 9 (.aload_n 0) 1 := by decide +kernel
def d14_10 : DC kc14 10 (.iload_n 2) 1 := by decide +kernel
def d14_11 : DC kc14 11 (.i2s) 1 := by decide +kernel
def d14_12 : DC kc14 12 (.putfield 250) 3 := by decide +kernel
def d14_15 : DC kc14 15 (.aload_n 0) 1 := by decide +kernel
def d14_16 : DC kc14 16 (.iload_n 3) 1 := by decide +kernel
def d14_17 : DC kc14 17 (.i2s) 1 := by decide +kernel
def d14_18 : DC kc14 18 (.putfield 253) 3 := by decide +kernel
def d14_21 : DC kc14 21 (.return_) 1 := by decide +kernel
def QrmLI (Z : State) (G : Gs) (ea : Addr) (yx mx dy : Int32) (u1 u2 u3 : Value) (h0 : Heap) (n0 : Nat) (v : Option Value) (h : Heap) (L : List Loc) : Prop := v = none ∧ Fr n0 L ∧ Keep h0 h [ea] ∧ Exa Z h ea sg3 ∧ Fld Z h ea sg3 "year" "I" (.int yx) ∧ Fld Z h ea sg3 "month" "S" (.int mx) ∧ Fld Z h ea sg3 "day" "S" (.int dy)
theorem rmLI (l : Launch) (Z : State) (a0 : Array Value) (hw : HW a0 Z) (G : Gs) (ST : StartF Z G) (ws : List Jvm.Cond) (ea : Addr) (yx mx dy : Int32) (u1 u2 u3 : Value) (h0 : Heap) (n0 : Nat) (X00 : Old Z n0 h0) (eE : Exa Z h0 ea sg3) (F1 : Fld Z h0 ea sg3 "year" "I" u1) (F2 : Fld Z h0 ea sg3 "month" "S" u2) (F3 : Fld Z h0 ea sg3 "day" "S" u3) (ge1 : n0 ≤ ea) (hsm : Sm mx) (hsd : Sm dy) :
  MF l Z ws mm21 jdk_2323_method_14_code 4 none (rk 1 0 0 12) #[(.ref ea), (.int yx), (.int mx), (.int dy)] h0 (QrmLI Z G ea yx mx dy u1 u2 u3 h0 n0) := by
 refine MetFree.of_bodySF (plainFor_of_name pn_7) hisR ?_
 intro p e s m args below meth c s₁ Bd hml0 hP hK
 obtain ⟨rfl, hZ, hh⟩ := hP
 have hx := Bd.exec
 have B := Bd.bytes
 have hml : c.maxLocals = 4 := hml0
 have hown : s.vm.findClass sg3 = some m.cls := findClass_of_methodNamed Bd.named
 have hnm := (name_of_methodNamed Bd.named Bd.method).1
 have X0 : Stand p l e (rk 1 0 0 12) s m #[(.ref ea), (.int yx), (.int mx), (.int dy)] below meth c s₁ [] 0 0 := Stand.of_body Bd
 have e0 : s₁.heap = h0 := by rw [← hh, Bd.state]; rfl
 have N0 := Fr.nil n0
 obtain ⟨TG, hTG, pre0⟩ := own_pre p e below s₁ (ef_rmLI m ea yx mx dy )
 obtain ⟨T10, X10, e10, st10⟩ := initO X0 hx hZ hown (w_94 hw) (w_20 hw) (w_21 hw) e0 (g := (mkF m 1 #[xvr ea, xvi yx, xvi mx, xvi dy] [xwr ea])) rfl (by rw [hml]; rfl) rfl (hb B d14_1) (by decide) (W := 0) (by show 2 * 0 + _ ≤ _; exact Nat.le_of_eq rfl) (by decide)
 obtain ⟨T11, h11, X11, e11, W11, st11⟩ := putF X10 hx hZ hown (host := "") (Or.inl (w_95 hw)) Via.refl e10 F1 eE (Or.inr ⟨(w_96 hw), rfl, hnm⟩) (w_89 hw) (ty := .int) (by decide) rfl rfl (g := (mkF m 6 #[xvr ea, xvi yx, xvi mx, xvi dy] [xwi yx, xwr ea])) rfl rfl (hb B d14_6)
 have Fw11 := F1.same W11
 have N11 := Fr.snoc X11 N0 ge1
 have f12 := (F2.other W11 (Or.inr (slot_ne (Or.inr (w_98 hw)) (Or.inr (w_96 hw)) (by decide) (t := .short) (t' := .int) (by decide) (by decide))))
 have f13 := (eE.wr W11)
 obtain ⟨T14, h14, X14, e14, W14, st14⟩ := putFN X11 hx hZ hown (w_97 hw) Via.refl e11 f12 f13 (Or.inr ⟨(w_98 hw), rfl, hnm⟩) (w_89 hw) (ty := .short) (v' := (.int mx)) (by decide) (own_ns hsm) (own_fs hsm) (g := (mkF m 12 #[xvr ea, xvi yx, xvi mx, xvi dy] [xwi mx, xwr ea])) rfl rfl (hb B d14_12)
 have Fw14 := f12.same W14
 have N14 := Fr.snoc X14 N11 ge1
 have f15 := ((F3.other W11 (Or.inr (slot_ne (Or.inr (w_100 hw)) (Or.inr (w_96 hw)) (by decide) (t := .short) (t' := .int) (by decide) (by decide)))).other W14 (Or.inr (slot_ne (Or.inr (w_100 hw)) (Or.inr (w_98 hw)) (by decide) (t := .short) (t' := .short) (by decide) (by decide))))
 have f16 := (f13.wr W14)
 obtain ⟨T17, h17, X17, e17, W17, st17⟩ := putFN X14 hx hZ hown (w_99 hw) Via.refl e14 f15 f16 (Or.inr ⟨(w_100 hw), rfl, hnm⟩) (w_89 hw) (ty := .short) (v' := (.int dy)) (by decide) (own_ns hsd) (own_fs hsd) (g := (mkF m 18 #[xvr ea, xvi yx, xvi mx, xvi dy] [xwi dy, xwr ea])) rfl rfl (hb B d14_18)
 have Fw17 := f15.same W17
 have N17 := Fr.snoc X17 N14 ge1
 have f18 := (f16.wr W17)
 have f19 := ((Fw11.other W14 (Or.inr (slot_ne (Or.inr (w_96 hw)) (Or.inr (w_98 hw)) (by decide) (t := .int) (t' := .short) (by decide) (by decide)))).other W17 (Or.inr (slot_ne (Or.inr (w_96 hw)) (Or.inr (w_100 hw)) (by decide) (t := .int) (t' := .short) (by decide) (by decide))))
 have f20 := (Fw14.other W17 (Or.inr (slot_ne (Or.inr (w_98 hw)) (Or.inr (w_100 hw)) (by decide) (t := .short) (t' := .short) (by decide) (by decide))))
 obtain ⟨fs, hr, hrun, hended, hW, hsame⟩ := X17.leave (v := none) (fun _ => rfl)
 refine ⟨_, _, hTG _ (pre0 _ ?_), hrun, hended, _, _, rfl, ?_, ⟨_, rfl⟩, hW, hsame.mono (by decide) (by decide)⟩
 ·refine y_aloadN X0 hx 1 (hb B d14_0) rfl rfl rfl ?_
  refine st10 _ ?_
  refine y_aloadN X10 hx 5 (hb B d14_4) rfl rfl rfl <| y_iloadN X10 hx 6 (hb B d14_5) rfl rfl ?_
  refine st11 _ ?_
  refine y_aloadN X11 hx 10 (hb B d14_9) rfl rfl rfl <| y_iloadN X11 hx 11 (hb B d14_10) rfl rfl ?_
  refine XS.i2s X11.here hx rfl (hb B d14_11) rfl ?_
  show Sx p e below T11 m 12 #[xvr ea, xvi yx, xvi mx, xvi dy] [xwi (mx.toInt16.toInt32), xwr ea] _
  rw [own_i2s hsm]
  refine st14 _ ?_
  refine y_aloadN X14 hx 16 (hb B d14_15) rfl rfl rfl <| y_iloadN X14 hx 17 (hb B d14_16) rfl rfl ?_
  refine XS.i2s X14.here hx rfl (hb B d14_17) rfl ?_
  show Sx p e below T14 m 18 #[xvr ea, xvi yx, xvi mx, xvi dy] [xwi (dy.toInt16.toInt32), xwr ea] _
  rw [own_i2s hsd]
  refine st17 _ ?_
  show Sx p e below T17 m 21 #[xvr ea, xvi yx, xvi mx, xvi dy] [] _
  exact X17.returnOut hx Bd.returns (hb B d14_21) hr
 ·show QrmLI Z G ea yx mx dy u1 u2 u3 h0 n0 _ T17.heap _
  rw [e17]
  exact ⟨rfl, N17, ((((Keep.refl h0 [ea]).wr W11 (oi 0 rfl)).wr W14 (oi 0 rfl)).wr W17 (oi 0 rfl)), f18, f19, f20, Fw17⟩
theorem ef_rmOE (m : MethodId) (x0 : Int64)  : entryFrame m #[(.long x0)] 14 = mkF m 0 #[.val (.long x0), .second, .unset, .unset, .unset, .unset, .unset, .unset, .unset, .unset, .unset, .unset, .unset, .unset] [] := by first | (simp [entryFrame, mkF, argsToLocals, Value.category]; done) | rfl
abbrev kc7 : ByteArray := jdk_2323_method_8_code
def d7_0 : DC kc7 0 (.getstatic 161) 3 := by decide +kernel
def d7_3 : DC kc7 3 (.lload_n 0) 1 := by decide +kernel
def d7_4 : DC kc7 4 (.invokevirtual 45) 3 := by decide +kernel
abbrev kc8 : ByteArray := jdk_2395_method_11_code
def d8_0 : DC kc8 0 (.aload_n 0) 1 := by decide +kernel
def d8_1 : DC kc8 1 (.invokevirtual 190) 3 := by decide +kernel
abbrev kc9 : ByteArray := jdk_2395_method_8_code
def d9_0 : DC kc9 0 (.aload_n 0) 1 := by decide +kernel
def d9_1 : DC kc9 1 (.getfield 124) 3 := by decide +kernel
def d9_4 : DC kc9 4 (.areturn) 1 := by decide +kernel
theorem pn_8 : plainName "java/time/temporal/ChronoField" = true := by first | (simp [plainName, overriddenIn]; done) | decide +kernel
def QrmA2 (Z : State) (G : Gs)  (h0 : Heap) (n0 : Nat) (v : Option Value) (h : Heap) (L : List Loc) : Prop := v = some (.ref G.a2) ∧ Fr n0 L ∧ h = h0
theorem rmA2 (l : Launch) (Z : State) (a0 : Array Value) (hw : HW a0 Z) (G : Gs) (ST : StartF Z G) (ws : List Jvm.Cond)  (h0 : Heap) (n0 : Nat) (X00 : Old Z n0 h0) :
  MF l Z ws mm22 jdk_2395_method_8_code 1 (some (.object sg9)) (rk 0 0 0 0) #[(.ref G.a1)] h0 (QrmA2 Z G h0 n0) := by
 refine MetFree.of_bodySF (plainFor_of_name pn_8) hisR ?_
 intro p e s m args below meth c s₁ Bd hml0 hP hK
 obtain ⟨rfl, hZ, hh⟩ := hP
 have hx := Bd.exec
 have B := Bd.bytes
 have hown : s.vm.findClass sg12 = some m.cls := findClass_of_methodNamed Bd.named
 have X0 : Stand p l e (rk 0 0 0 0) s m #[(.ref G.a1)] below meth c s₁ [] 0 0 := Stand.of_body Bd
 have e0 : s₁.heap = h0 := by rw [← hh, Bd.state]; rfl
 have N0 := Fr.nil n0
 obtain ⟨TG, hTG, pre0⟩ := own_pre p e below s₁ (ef_rmL1 m G.a1 )
 obtain ⟨T10, X10, e10, st10⟩ := getF X0 hx hZ hown (host := "") (Or.inl (w_53 hw)) Via.refl e0 (ST.c5.ext X00.2) (g := (mkF m 1 #[xvr G.a1] [xwr G.a1])) rfl rfl (hb B d9_1)
 obtain ⟨fs, hr, hrun, hended, hW, hsame⟩ := X10.leave (v := some (.ref G.a2)) (own_rv Bd.returns)
 refine ⟨_, _, hTG _ (pre0 _ ?_), hrun, hended, _, _, rfl, ?_, ⟨_, rfl⟩, hW, hsame.mono (by decide) (by decide)⟩
 ·refine y_aloadN X0 hx 1 (hb B d9_0) rfl rfl rfl ?_
  refine st10 _ ?_
  show Sx p e below T10 m 4 #[xvr G.a1] [xwr G.a2] _
  exact retOut X10 hx Bd.returns rfl (Or.inr (Or.inr (Or.inr (Or.inr ⟨rfl, rfl, rfl⟩)))) (hb B d9_4) hr
 ·show QrmA2 Z G  h0 n0 _ T10.heap _
  rw [e10]
  exact ⟨rfl, N0, rfl⟩
theorem pd_11 : parseMethodDescriptor "()Ljava/time/temporal/ValueRange;" = some ⟨[], some (.object "java/time/temporal/ValueRange")⟩ := by decide +kernel
def d8_4 : DC kc8 4 (.lload_n 1) 1 := by decide +kernel
def d8_5 : DC kc8 5 (.aload_n 0) 1 := by decide +kernel
def d8_6 : DC kc8 6 (.invokevirtual 193) 3 := by decide +kernel
theorem ef_rmA3 (m : MethodId) (x0 : Addr) (x1 : Int64) (x2 : Addr)  : entryFrame m #[(.ref x0), (.long x1), (.ref x2)] 4 = mkF m 0 #[.val (.ref x0), .val (.long x1), .second, .val (.ref x2)] [] := by first | (simp [entryFrame, mkF, argsToLocals, Value.category]; done) | rfl
abbrev kc10 : ByteArray := jdk_2423_method_13_code
def d10_0 : DC kc10 0 (.aload_n 0) 1 := by decide +kernel
def d10_1 : DC kc10 1 (.lload_n 1) 1 := by decide +kernel
def d10_2 : DC kc10 2 (.invokevirtual 63) 3 := by decide +kernel
abbrev kc11 : ByteArray := jdk_2423_method_11_code
def d11_0 : DC kc11 0 (.lload_n 1) 1 := by decide +kernel
def d11_1 : DC kc11 1 (.aload_n 0) 1 := by decide +kernel
def d11_2 : DC kc11 2 (.invokevirtual 46) 3 := by decide +kernel
theorem pd_12 : parseMethodDescriptor "()J" = some ⟨[], some .long⟩ := by decide +kernel
def d11_5 : DC kc11 5 (.lcmp) 1 := by decide +kernel
def d11_6 : DC kc11 6 (.ifCond .lt 16) 3 := by decide +kernel
def d11_9 : DC kc11 9 (.lload_n 1) 1 := by decide +kernel
def d11_10 : DC kc11 10 (.aload_n 0) 1 := by decide +kernel
def d11_11 : DC kc11 11 (.invokevirtual 54) 3 := by decide +kernel
def d11_14 : DC kc11 14 (.lcmp) 1 := by decide +kernel
def d11_15 : DC kc11 15 (.ifCond .gt 7) 3 := by decide +kernel
def d11_18 : DC kc11 18 (.iconst 1) 1 := by decide +kernel
def d11_19 : DC kc11 19 (.goto 4) 3 := by decide +kernel
def d11_23 : DC kc11 23 (.ireturn) 1 := by decide +kernel
def QrmA4 (Z : State) (G : Gs) (xi1 : Int64) (h0 : Heap) (n0 : Nat) (v : Option Value) (h : Heap) (L : List Loc) : Prop := v = some (.int (1 : Int32)) ∧ Fr n0 L ∧ h = h0
theorem rmA4 (l : Launch) (Z : State) (a0 : Array Value) (hw : HW a0 Z) (G : Gs) (ST : StartF Z G) (ws : List Jvm.Cond) (xi1 : Int64) (h0 : Heap) (n0 : Nat) (X00 : Old Z n0 h0) (xp0 : ¬ xi1 < (-365243219162 : Int64)) (xp1 : ¬ (365241780471 : Int64) < xi1) :
  MF l Z ws mm23 jdk_2423_method_11_code 3 (some .boolean) (rk 1 0 0 14) #[(.ref G.a2), (.long xi1)] h0 (QrmA4 Z G xi1 h0 n0) := by
 refine MetFree.of_bodySF (plainFor_of_name pn_5) hisR ?_
 intro p e s m args below meth c s₁ Bd hml0 hP hK
 obtain ⟨rfl, hZ, hh⟩ := hP
 have hx := Bd.exec
 have B := Bd.bytes
 have hml : c.maxLocals = 3 := hml0
 have hown : s.vm.findClass sg9 = some m.cls := findClass_of_methodNamed Bd.named
 have X0 : Stand p l e (rk 1 0 0 14) s m #[(.ref G.a2), (.long xi1)] below meth c s₁ [] 0 0 := Stand.of_body Bd
 have e0 : s₁.heap = h0 := by rw [← hh, Bd.state]; rfl
 have N0 := Fr.nil n0
 obtain ⟨TG, hTG, pre0⟩ := own_pre p e below s₁ (ef_rmIs m G.a2 xi1 )
 obtain ⟨cq10, kq10, q10a, q10b, q10c⟩ := isOf hZ e0 (ST.c6.ext X00.2)
 obtain ⟨_, _, ⟨T11, L11, k11, n11⟩, -, X11, ⟨Lc11, hQ11, l11, y11, z11⟩, st11⟩ := X0.virtualBack hx (y := mm15) (z := mm15) hown (mvT hZ (w_66 hw)) (mvT hZ (w_67 hw)) (notFace_of_selects (args := #[]) (mvT hZ (w_69 hw))) (mvT hZ (w_69 hw)) (mvT hZ (w_68 hw)) (by decide) (backOf (W := 2) (rmVm l Z a0 hw G ST [] G.a2 (-365243219162 : Int64) h0 n0 X00 (ST.c7.ext X00.2)) hZ (w_70 hw) (w_59 hw) (by decide) (by decide)) q10a q10c (g := (mkF m 2 #[xvr G.a2, xvj xi1, xse] [xwr G.a2, xwj xi1])) rfl (by rw [hml]; rfl) (Steps.refl _) (argsL := []) (rest := [(.long xi1)]) (lenOf pd_12 rfl) rfl (Nat.le_of_eq rfl) (hb B d11_2) (fun _ _ => ⟨rfl, e0, (by decide : 0 + 0 ≤ _), (by decide : 0 + 0 ≤ _)⟩)
 dsimp only [Pt.U, Pt.locs, Pt.cells, Pt.slots] at X11 l11 y11 z11 st11 hQ11
 subst l11 y11 z11
 obtain ⟨rfl, N11q, e11⟩ := hQ11
 have N11 := Fr.app N0 N11q
 obtain ⟨cq12, kq12, q12a, q12b, q12c⟩ := isOf hZ e11 (ST.c6.ext X00.2)
 obtain ⟨_, _, ⟨T13, L13, k13, n13⟩, -, X13, ⟨Lc13, hQ13, l13, y13, z13⟩, st13⟩ := X11.virtualBack hx (y := mm16) (z := mm16) hown (mvT hZ (w_73 hw)) (mvT hZ (w_74 hw)) (notFace_of_selects (args := #[]) (mvT hZ (w_76 hw))) (mvT hZ (w_76 hw)) (mvT hZ (w_75 hw)) (by decide) (backOf (W := 2) (rmVx l Z a0 hw G ST [] G.a2 (365241780471 : Int64) h0 n0 X00 (ST.c10.ext X00.2)) hZ (w_77 hw) (w_59 hw) (by decide) (by decide)) q12a q12c (g := (mkF m 11 #[xvr G.a2, xvj xi1, xse] [xwr G.a2, xwj xi1])) rfl (by rw [hml]; rfl) (Steps.refl _) (argsL := []) (rest := [(.long xi1)]) (lenOf pd_12 rfl) rfl (Nat.le_of_eq rfl) (hb B d11_11) (fun _ _ => ⟨rfl, e11, (by decide : 0 + 0 ≤ _), (by decide : 0 + 0 ≤ _)⟩)
 dsimp only [Pt.U, Pt.locs, Pt.cells, Pt.slots] at X13 l13 y13 z13 st13 hQ13
 subst l13 y13 z13
 obtain ⟨rfl, N13q, e13⟩ := hQ13
 have N13 := Fr.app N11 N13q
 obtain ⟨fs, hr, hrun, hended, hW, hsame⟩ := X13.leave (v := some (.int (1 : Int32))) (own_rv Bd.returns)
 refine ⟨_, _, hTG _ (pre0 _ ?_), hrun, hended, _, _, rfl, ?_, ⟨_, rfl⟩, hW, hsame.mono (by decide) (by decide)⟩
 ·refine y_lloadN X0 hx 1 (hb B d11_0) rfl rfl <| y_aloadN X0 hx 2 (hb B d11_1) rfl rfl rfl ?_
  refine st11.trans ?_
  refine y_lcmp X11 hx 6 (hb B d11_5) rfl <| y_ifNo X11 hx 9 (hb B d11_6) (XT.ll_lt_f xp0) rfl <| y_lloadN X11 hx 10 (hb B d11_9) rfl rfl <| y_aloadN X11 hx 11 (hb B d11_10) rfl rfl rfl ?_
  refine st13.trans ?_
  refine y_lcmp X13 hx 15 (hb B d11_14) rfl <| y_ifNo X13 hx 18 (hb B d11_15) (XT.ll_gt_f xp1) rfl <| y_iconst X13 hx (1 : Int32) 19 (hb B d11_18) rfl rfl <| y_goto X13 hx 23 (hb B d11_19) rfl rfl ?_
  show Sx p e below T13 m 23 #[xvr G.a2, xvj xi1, xse] [xwi (1 : Int32)] _
  exact retN X13 hx (t := .boolean) Bd.returns (by simp) (hb B d11_23) (hr)
 ·show QrmA4 Z G xi1 h0 n0 _ T13.heap _
  rw [e13]
  exact ⟨rfl, N13, rfl⟩
def d10_5 : DC kc10 5 (.ifCond .ne 17) 3 := by decide +kernel
def d10_22 : DC kc10 22 (.lload_n 1) 1 := by decide +kernel
def d10_23 : DC kc10 23 (.lreturn) 1 := by decide +kernel
def QrmA3 (Z : State) (G : Gs) (xi1 : Int64) (h0 : Heap) (n0 : Nat) (v : Option Value) (h : Heap) (L : List Loc) : Prop := v = some (.long xi1) ∧ Fr n0 L ∧ h = h0
theorem rmA3 (l : Launch) (Z : State) (a0 : Array Value) (hw : HW a0 Z) (G : Gs) (ST : StartF Z G) (ws : List Jvm.Cond) (xi1 : Int64) (h0 : Heap) (n0 : Nat) (X00 : Old Z n0 h0) (xp0 : ¬ xi1 < (-365243219162 : Int64)) (xp1 : ¬ (365241780471 : Int64) < xi1) :
  MF l Z ws mm24 jdk_2423_method_13_code 4 (some .long) (rk 2 0 0 28) #[(.ref G.a2), (.long xi1), (.ref G.a1)] h0 (QrmA3 Z G xi1 h0 n0) := by
 refine MetFree.of_bodySF (plainFor_of_name pn_5) hisR ?_
 intro p e s m args below meth c s₁ Bd hml0 hP hK
 obtain ⟨rfl, hZ, hh⟩ := hP
 have hx := Bd.exec
 have B := Bd.bytes
 have hml : c.maxLocals = 4 := hml0
 have hown : s.vm.findClass sg9 = some m.cls := findClass_of_methodNamed Bd.named
 have X0 : Stand p l e (rk 2 0 0 28) s m #[(.ref G.a2), (.long xi1), (.ref G.a1)] below meth c s₁ [] 0 0 := Stand.of_body Bd
 have e0 : s₁.heap = h0 := by rw [← hh, Bd.state]; rfl
 have N0 := Fr.nil n0
 obtain ⟨TG, hTG, pre0⟩ := own_pre p e below s₁ (ef_rmA3 m G.a2 xi1 G.a1 )
 obtain ⟨cq10, kq10, q10a, q10b, q10c⟩ := isOf hZ e0 (ST.c6.ext X00.2)
 obtain ⟨_, _, ⟨T11, L11, k11, n11⟩, -, X11, ⟨Lc11, hQ11, l11, y11, z11⟩, st11⟩ := X0.virtualBack hx (y := mm23) (z := mm23) hown (mvT hZ (w_61 hw)) (mvT hZ (w_62 hw)) (notFace_of_selects (args := #[]) (mvT hZ (w_64 hw))) (mvT hZ (w_64 hw)) (mvT hZ (w_63 hw)) (by decide) (backOf (W := 0) (rmA4 l Z a0 hw G ST [] xi1 h0 n0 X00 xp0 xp1) hZ (w_65 hw) (w_59 hw) (by decide) (by decide)) q10a q10c (g := (mkF m 2 #[xvr G.a2, xvj xi1, xse, xvr G.a1] [xwj xi1, xwr G.a2])) rfl (by rw [hml]; rfl) (Steps.refl _) (argsL := [(.long xi1)]) (rest := []) (lenOf pd_10 rfl) rfl (Nat.le_of_eq rfl) (hb B d10_2) (fun _ _ => ⟨rfl, e0, (by decide : 0 + 0 ≤ _), (by decide : 0 + 0 ≤ _)⟩)
 dsimp only [Pt.U, Pt.locs, Pt.cells, Pt.slots] at X11 l11 y11 z11 st11 hQ11
 subst l11 y11 z11
 obtain ⟨rfl, N11q, e11⟩ := hQ11
 have N11 := Fr.app N0 N11q
 obtain ⟨fs, hr, hrun, hended, hW, hsame⟩ := X11.leave (v := some (.long xi1)) (own_rv Bd.returns)
 refine ⟨_, _, hTG _ (pre0 _ ?_), hrun, hended, _, _, rfl, ?_, ⟨_, rfl⟩, hW, hsame.mono (by decide) (by decide)⟩
 ·refine y_aloadN X0 hx 1 (hb B d10_0) rfl rfl rfl <| y_lloadN X0 hx 2 (hb B d10_1) rfl rfl ?_
  refine st11.trans ?_
  refine y_ifYes X11 hx 22 (hb B d10_5) (XT.i0_ne_t (by decide)) rfl rfl <| y_lloadN X11 hx 23 (hb B d10_22) rfl rfl ?_
  show Sx p e below T11 m 23 #[xvr G.a2, xvj xi1, xse, xvr G.a1] [xwj xi1] _
  exact retOut X11 hx Bd.returns rfl (Or.inr (Or.inl ⟨rfl, rfl, _, rfl⟩)) (hb B d10_23) hr
 ·show QrmA3 Z G xi1 h0 n0 _ T11.heap _
  rw [e11]
  exact ⟨rfl, N11, rfl⟩
theorem pd_13 : parseMethodDescriptor "(JLjava/time/temporal/TemporalField;)J" = some ⟨[.long, (.object "java/time/temporal/TemporalField")], some .long⟩ := by decide +kernel
def d8_9 : DC kc8 9 (.lreturn) 1 := by decide +kernel
def QrmA1 (Z : State) (G : Gs) (xi1 : Int64) (h0 : Heap) (n0 : Nat) (v : Option Value) (h : Heap) (L : List Loc) : Prop := v = some (.long xi1) ∧ Fr n0 L ∧ h = h0
theorem rmA1 (l : Launch) (Z : State) (a0 : Array Value) (hw : HW a0 Z) (G : Gs) (ST : StartF Z G) (ws : List Jvm.Cond) (xi1 : Int64) (h0 : Heap) (n0 : Nat) (X00 : Old Z n0 h0) (xp0 : ¬ xi1 < (-365243219162 : Int64)) (xp1 : ¬ (365241780471 : Int64) < xi1) :
  MF l Z ws mm25 jdk_2395_method_11_code 3 (some .long) (rk 3 0 0 43) #[(.ref G.a1), (.long xi1)] h0 (QrmA1 Z G xi1 h0 n0) := by
 refine MetFree.of_bodySF (plainFor_of_name pn_8) hisR ?_
 intro p e s m args below meth c s₁ Bd hml0 hP hK
 obtain ⟨rfl, hZ, hh⟩ := hP
 have hx := Bd.exec
 have B := Bd.bytes
 have hml : c.maxLocals = 3 := hml0
 have hown : s.vm.findClass sg12 = some m.cls := findClass_of_methodNamed Bd.named
 have X0 : Stand p l e (rk 3 0 0 43) s m #[(.ref G.a1), (.long xi1)] below meth c s₁ [] 0 0 := Stand.of_body Bd
 have e0 : s₁.heap = h0 := by rw [← hh, Bd.state]; rfl
 have N0 := Fr.nil n0
 obtain ⟨TG, hTG, pre0⟩ := own_pre p e below s₁ (ef_rmIs m G.a1 xi1 )
 obtain ⟨cq10, kq10, q10a, q10b, q10c⟩ := isOf hZ e0 (ST.c3.ext X00.2)
 obtain ⟨_, _, ⟨T11, L11, k11, n11⟩, -, X11, ⟨Lc11, hQ11, l11, y11, z11⟩, st11⟩ := X0.virtualBack hx (y := mm22) (z := mm22) hown (mvT hZ (w_48 hw)) (mvT hZ (w_49 hw)) (notFace_of_selects (args := #[]) (mvT hZ (w_51 hw))) (mvT hZ (w_51 hw)) (mvT hZ (w_50 hw)) (by decide) (backOf (W := 0) (rmA2 l Z a0 hw G ST []  h0 n0 X00 ) hZ (w_52 hw) (w_42 hw) (by decide) (by decide)) q10a q10c (g := (mkF m 1 #[xvr G.a1, xvj xi1, xse] [xwr G.a1])) rfl (by rw [hml]; rfl) (Steps.refl _) (argsL := []) (rest := []) (lenOf pd_11 rfl) rfl (Nat.le_of_eq rfl) (hb B d8_1) (fun _ _ => ⟨rfl, e0, (by decide : 0 + 0 ≤ _), (by decide : 0 + 0 ≤ _)⟩)
 dsimp only [Pt.U, Pt.locs, Pt.cells, Pt.slots] at X11 l11 y11 z11 st11 hQ11
 subst l11 y11 z11
 obtain ⟨rfl, N11q, e11⟩ := hQ11
 have N11 := Fr.app N0 N11q
 obtain ⟨cq12, kq12, q12a, q12b, q12c⟩ := isOf hZ e11 (ST.c6.ext X00.2)
 obtain ⟨_, _, ⟨T13, L13, k13, n13⟩, -, X13, ⟨Lc13, hQ13, l13, y13, z13⟩, st13⟩ := X11.virtualBack hx (y := mm24) (z := mm24) hown (mvT hZ (w_55 hw)) (mvT hZ (w_56 hw)) (notFace_of_selects (args := #[]) (mvT hZ (w_58 hw))) (mvT hZ (w_58 hw)) (mvT hZ (w_57 hw)) (by decide) (backOf (W := 0) (rmA3 l Z a0 hw G ST [] xi1 h0 n0 X00 xp0 xp1) hZ (w_60 hw) (w_59 hw) (by decide) (by decide)) q12a q12c (g := (mkF m 6 #[xvr G.a1, xvj xi1, xse] [xwr G.a1, xwj xi1, xwr G.a2])) rfl (by rw [hml]; rfl) (Steps.refl _) (argsL := [(.long xi1), (.ref G.a1)]) (rest := []) (lenOf pd_13 rfl) rfl (Nat.le_of_eq rfl) (hb B d8_6) (fun _ _ => ⟨rfl, e11, (by decide : 0 + 0 ≤ _), (by decide : 0 + 0 ≤ _)⟩)
 dsimp only [Pt.U, Pt.locs, Pt.cells, Pt.slots] at X13 l13 y13 z13 st13 hQ13
 subst l13 y13 z13
 obtain ⟨rfl, N13q, e13⟩ := hQ13
 have N13 := Fr.app N11 N13q
 obtain ⟨fs, hr, hrun, hended, hW, hsame⟩ := X13.leave (v := some (.long xi1)) (own_rv Bd.returns)
 refine ⟨_, _, hTG _ (pre0 _ ?_), hrun, hended, _, _, rfl, ?_, ⟨_, rfl⟩, hW, hsame.mono (by decide) (by decide)⟩
 ·refine y_aloadN X0 hx 1 (hb B d8_0) rfl rfl rfl ?_
  refine st11.trans ?_
  refine y_lloadN X11 hx 5 (hb B d8_4) rfl rfl <| y_aloadN X11 hx 6 (hb B d8_5) rfl rfl rfl ?_
  refine st13.trans ?_
  show Sx p e below T13 m 9 #[xvr G.a1, xvj xi1, xse] [xwj xi1] _
  exact retOut X13 hx Bd.returns rfl (Or.inr (Or.inl ⟨rfl, rfl, _, rfl⟩)) (hb B d8_9) hr
 ·show QrmA1 Z G xi1 h0 n0 _ T13.heap _
  rw [e13]
  exact ⟨rfl, N13, rfl⟩
theorem pd_14 : parseMethodDescriptor "(J)J" = some ⟨[.long], some .long⟩ := by decide +kernel
def d7_7 : DC kc7 7 (.pop2) 1 := by decide +kernel
def d7_8 : DC kc7 8 (.lload_n 0) 1 := by decide +kernel
def d7_9 : DC kc7 9 (.ldc2_w 164) 3 := by decide +kernel
def d7_12 : DC kc7 12 (.ladd) 1 := by decide +kernel
def d7_13 : DC kc7 13 (.lstore_n 2) 1 := by decide +kernel
def d7_14 : DC kc7 14 (.lload_n 2) 1 := by decide +kernel
def d7_15 : DC kc7 15 (.ldc2_w 166) 3 := by decide +kernel
def d7_18 : DC kc7 18 (.lsub) 1 := by decide +kernel
def d7_19 : DC kc7 19 (.lstore_n 2) 1 := by decide +kernel
def d7_20 : DC kc7 20 (.lconst 0) 1 := by decide +kernel
def d7_21 : DC kc7 21 (.lstore 4) 2 := by decide +kernel
def d7_23 : DC kc7 23 (.lload_n 2) 1 := by decide +kernel
def d7_24 : DC kc7 24 (.lconst 0) 1 := by decide +kernel
def d7_25 : DC kc7 25 (.lcmp) 1 := by decide +kernel
def d7_26 : DC kc7 26 (.ifCond .ge 32) 3 := by decide +kernel
def d7_29 : DC kc7 29 (.lload_n 2) 1 := by decide +kernel
def d7_30 : DC kc7 30 (.lconst 1) 1 := by decide +kernel
def d7_31 : DC kc7 31 (.ladd) 1 := by decide +kernel
def d7_32 : DC kc7 32 (.ldc2_w 168) 3 := by decide +kernel
def d7_35 : DC kc7 35 (.ldiv) 1 := by decide +kernel
def d7_36 : DC kc7 36 (.lconst 1) 1 := by decide +kernel
def d7_37 : DC kc7 37 (.lsub) 1 := by decide +kernel
def d7_38 : DC kc7 38 (.lstore 6) 2 := by decide +kernel
def d7_40 : DC kc7 40 (.lload 6) 2 := by decide +kernel
def d7_42 : DC kc7 42 (.ldc2_w 170) 3 := by decide +kernel
def d7_45 : DC kc7 45 (.lmul) 1 := by decide +kernel
def d7_46 : DC kc7 46 (.lstore 4) 2 := by decide +kernel
def d7_48 : DC kc7 48 (.lload_n 2) 1 := by decide +kernel
def d7_49 : DC kc7 49 (.lload 6) 2 := by decide +kernel
def d7_51 : DC kc7 51 (.lneg) 1 := by decide +kernel
def d7_52 : DC kc7 52 (.ldc2_w 168) 3 := by decide +kernel
def d7_55 : DC kc7 55 (.lmul) 1 := by decide +kernel
def d7_56 : DC kc7 56 (.ladd) 1 := by decide +kernel
def d7_57 : DC kc7 57 (.lstore_n 2) 1 := by decide +kernel
def d7_58 : DC kc7 58 (.ldc2_w 170) 3 := by decide +kernel
def d7_61 : DC kc7 61 (.lload_n 2) 1 := by decide +kernel
def d7_62 : DC kc7 62 (.lmul) 1 := by decide +kernel
def d7_63 : DC kc7 63 (.ldc2_w 172) 3 := by decide +kernel
def d7_66 : DC kc7 66 (.ladd) 1 := by decide +kernel
def d7_67 : DC kc7 67 (.ldc2_w 168) 3 := by decide +kernel
def d7_70 : DC kc7 70 (.ldiv) 1 := by decide +kernel
def d7_71 : DC kc7 71 (.lstore 6) 2 := by decide +kernel
def d7_73 : DC kc7 73 (.lload_n 2) 1 := by decide +kernel
def d7_74 : DC kc7 74 (.ldc2_w 174) 3 := by decide +kernel
def d7_77 : DC kc7 77 (.lload 6) 2 := by decide +kernel
def d7_79 : DC kc7 79 (.lmul) 1 := by decide +kernel
def d7_80 : DC kc7 80 (.lload 6) 2 := by decide +kernel
def d7_82 : DC kc7 82 (.ldc2_w 176) 3 := by decide +kernel
def d7_85 : DC kc7 85 (.ldiv) 1 := by decide +kernel
def d7_86 : DC kc7 86 (.ladd) 1 := by decide +kernel
def d7_87 : DC kc7 87 (.lload 6) 2 := by decide +kernel
def d7_89 : DC kc7 89 (.ldc2_w 178) 3 := by decide +kernel
def d7_92 : DC kc7 92 (.ldiv) 1 := by decide +kernel
def d7_93 : DC kc7 93 (.lsub) 1 := by decide +kernel
def d7_94 : DC kc7 94 (.lload 6) 2 := by decide +kernel
def d7_96 : DC kc7 96 (.ldc2_w 170) 3 := by decide +kernel
def d7_99 : DC kc7 99 (.ldiv) 1 := by decide +kernel
def d7_100 : DC kc7 100 (.ladd) 1 := by decide +kernel
def d7_101 : DC kc7 101 (.lsub) 1 := by decide +kernel
def d7_102 : DC kc7 102 (.lstore 8) 2 := by decide +kernel
def d7_104 : DC kc7 104 (.lload 8) 2 := by decide +kernel
def d7_106 : DC kc7 106 (.lconst 0) 1 := by decide +kernel
def d7_107 : DC kc7 107 (.lcmp) 1 := by decide +kernel
def d7_108 : DC kc7 108 (.ifCond .ge 40) 3 := by decide +kernel
def d7_111 : DC kc7 111 (.lload 6) 2 := by decide +kernel
def d7_113 : DC kc7 113 (.lconst 1) 1 := by decide +kernel
def d7_114 : DC kc7 114 (.lsub) 1 := by decide +kernel
def d7_115 : DC kc7 115 (.lstore 6) 2 := by decide +kernel
def d7_117 : DC kc7 117 (.lload_n 2) 1 := by decide +kernel
def d7_118 : DC kc7 118 (.ldc2_w 174) 3 := by decide +kernel
def d7_121 : DC kc7 121 (.lload 6) 2 := by decide +kernel
def d7_123 : DC kc7 123 (.lmul) 1 := by decide +kernel
def d7_124 : DC kc7 124 (.lload 6) 2 := by decide +kernel
def d7_126 : DC kc7 126 (.ldc2_w 176) 3 := by decide +kernel
def d7_129 : DC kc7 129 (.ldiv) 1 := by decide +kernel
def d7_130 : DC kc7 130 (.ladd) 1 := by decide +kernel
def d7_131 : DC kc7 131 (.lload 6) 2 := by decide +kernel
def d7_133 : DC kc7 133 (.ldc2_w 178) 3 := by decide +kernel
def d7_136 : DC kc7 136 (.ldiv) 1 := by decide +kernel
def d7_137 : DC kc7 137 (.lsub) 1 := by decide +kernel
def d7_138 : DC kc7 138 (.lload 6) 2 := by decide +kernel
def d7_140 : DC kc7 140 (.ldc2_w 170) 3 := by decide +kernel
def d7_143 : DC kc7 143 (.ldiv) 1 := by decide +kernel
def d7_144 : DC kc7 144 (.ladd) 1 := by decide +kernel
def d7_145 : DC kc7 145 (.lsub) 1 := by decide +kernel
def d7_146 : DC kc7 146 (.lstore 8) 2 := by decide +kernel
def d7_148 : DC kc7 148 (.lload 6) 2 := by decide +kernel
def d7_150 : DC kc7 150 (.lload 4) 2 := by decide +kernel
def d7_152 : DC kc7 152 (.ladd) 1 := by decide +kernel
def d7_153 : DC kc7 153 (.lstore 6) 2 := by decide +kernel
def d7_155 : DC kc7 155 (.lload 8) 2 := by decide +kernel
def d7_157 : DC kc7 157 (.l2i) 1 := by decide +kernel
def d7_158 : DC kc7 158 (.istore 10) 2 := by decide +kernel
def d7_160 : DC kc7 160 (.iload 10) 2 := by decide +kernel
def d7_162 : DC kc7 162 (.iconst 5) 1 := by decide +kernel
def d7_163 : DC kc7 163 (.imul) 1 := by decide +kernel
def d7_164 : DC kc7 164 (.iconst 2) 1 := by decide +kernel
def d7_165 : DC kc7 165 (.iadd) 1 := by decide +kernel
def d7_166 : DC kc7 166 (.sipush 153) 3 := by decide +kernel
def d7_169 : DC kc7 169 (.idiv) 1 := by decide +kernel
def d7_170 : DC kc7 170 (.istore 11) 2 := by decide +kernel
def d7_172 : DC kc7 172 (.iload 11) 2 := by decide +kernel
def d7_174 : DC kc7 174 (.iconst 3) 1 := by decide +kernel
def d7_175 : DC kc7 175 (.iadd) 1 := by decide +kernel
def d7_176 : DC kc7 176 (.istore 12) 2 := by decide +kernel
def d7_178 : DC kc7 178 (.iload 12) 2 := by decide +kernel
def d7_180 : DC kc7 180 (.bipush 12) 2 := by decide +kernel
def d7_182 : DC kc7 182 (.if_icmp .le 6) 3 := by decide +kernel
def d7_185 : DC kc7 185 (.iinc 12 (-12)) 3 := by decide +kernel
def d7_188 : DC kc7 188 (.iload 10) 2 := by decide +kernel
def d7_190 : DC kc7 190 (.iload 11) 2 := by decide +kernel
def d7_192 : DC kc7 192 (.sipush 306) 3 := by decide +kernel
def d7_195 : DC kc7 195 (.imul) 1 := by decide +kernel
def d7_196 : DC kc7 196 (.iconst 5) 1 := by decide +kernel
def d7_197 : DC kc7 197 (.iadd) 1 := by decide +kernel
def d7_198 : DC kc7 198 (.bipush 10) 2 := by decide +kernel
def d7_200 : DC kc7 200 (.idiv) 1 := by decide +kernel
def d7_201 : DC kc7 201 (.isub) 1 := by decide +kernel
def d7_202 : DC kc7 202 (.iconst 1) 1 := by decide +kernel
def d7_203 : DC kc7 203 (.iadd) 1 := by decide +kernel
def d7_204 : DC kc7 204 (.istore 13) 2 := by decide +kernel
def d7_206 : DC kc7 206 (.iload 10) 2 := by decide +kernel
def d7_208 : DC kc7 208 (.sipush 306) 3 := by decide +kernel
def d7_211 : DC kc7 211 (.if_icmp .lt 9) 3 := by decide +kernel
def d7_214 : DC kc7 214 (.lload 6) 2 := by decide +kernel
def d7_216 : DC kc7 216 (.lconst 1) 1 := by decide +kernel
def d7_217 : DC kc7 217 (.ladd) 1 := by decide +kernel
def d7_218 : DC kc7 218 (.lstore 6) 2 := by decide +kernel
def d7_220 : DC kc7 220 (.new 1) 3 := by decide +kernel
def d7_223 : DC kc7 223 (.dup) 1 := by decide +kernel
def d7_224 : DC kc7 224 (.lload 6) 2 := by decide +kernel
def d7_226 : DC kc7 226 (.l2i) 1 := by decide +kernel
def d7_227 : DC kc7 227 (.iload 12) 2 := by decide +kernel
def d7_229 : DC kc7 229 (.iload 13) 2 := by decide +kernel
def d7_231 : DC kc7 231 (.invokespecial 121) 3 := by decide +kernel
theorem pd_15 : parseMethodDescriptor "(III)V" = some ⟨[.int, .int, .int], none⟩ := by decide +kernel
def d7_234 : DC kc7 234 (.areturn) 1 := by decide +kernel
def QrmOE (Z : State) (G : Gs) (dx : Int32) (h0 : Heap) (n0 : Nat) (v : Option Value) (h : Heap) (L : List Loc) : Prop := ∃ (ea : Addr), ∃ (yx : Int32), ∃ (mx : Int32), ∃ (dy : Int32), v = some (.ref ea) ∧ Fr n0 L ∧ Keep h0 h [] ∧ h0.size ≤ ea ∧ Exa Z h ea sg3 ∧ Fld Z h ea sg3 "year" "I" (.int yx) ∧ Fld Z h ea sg3 "month" "S" (.int mx) ∧ Fld Z h ea sg3 "day" "S" (.int dy) ∧ TD yx mx dy dx
theorem rmOE (l : Launch) (Z : State) (a0 : Array Value) (hw : HW a0 Z) (G : Gs) (ST : StartF Z G) (ws : List Jvm.Cond) (dx : Int32) (h0 : Heap) (n0 : Nat) (X00 : Old Z n0 h0) (hdr : DR dx) :
  MF l Z ws mm26 jdk_2323_method_8_code 14 (some (.object sg3)) (rk 4 1 3 57) #[(.long (dx.toInt64))] h0 (QrmOE Z G dx h0 n0) := by
 refine MetFree.of_bodySF (plainFor_of_name pn_7) hisR ?_
 intro p e s m args below meth c s₁ Bd hml0 hP hK
 obtain ⟨rfl, hZ, hh⟩ := hP
 have hx := Bd.exec
 have B := Bd.bytes
 have hml : c.maxLocals = 14 := hml0
 have hown : s.vm.findClass sg3 = some m.cls := findClass_of_methodNamed Bd.named
 have X0 : Stand p l e (rk 4 1 3 57) s m #[(.long (dx.toInt64))] below meth c s₁ [] 0 0 := Stand.of_body Bd
 have e0 : s₁.heap = h0 := by rw [← hh, Bd.state]; rfl
 have N0 := Fr.nil n0
 have Z0 := own_Z0 X00
 obtain ⟨TG, hTG, pre0⟩ := own_pre p e below s₁ (ef_rmOE m (dx.toInt64) )
 obtain ⟨T10, X10, e10, st10⟩ := getS2 X0 hx hZ hown (host := "") (Or.inl (w_41 hw)) Via.refl e0 (ST.c2.ext X00.2) (g := (mkF m 0 #[xvj (dx.toInt64), xse, xun, xun, xun, xun, xun, xun, xun, xun, xun, xun, xun, xun] [])) rfl (hb B d7_0)
 obtain ⟨cq11, kq11, q11a, q11b, q11c⟩ := isOf hZ e10 (ST.c3.ext X00.2)
 obtain ⟨_, _, ⟨T12, L12, k12, n12⟩, -, X12, ⟨Lc12, hQ12, l12, y12, z12⟩, st12⟩ := X10.virtualBack hx (y := mm25) (z := mm25) hown (mvT hZ (w_43 hw)) (mvT hZ (w_44 hw)) (notFace_of_selects (args := #[]) (mvT hZ (w_46 hw))) (mvT hZ (w_46 hw)) (mvT hZ (w_45 hw)) (by decide) (backOf (W := 0) (rmA1 l Z a0 hw G ST [] (dx.toInt64) h0 n0 X00 (own_ed1 hdr) (own_ed2 hdr)) hZ (w_47 hw) (w_42 hw) (by decide) (by decide)) q11a q11c (g := (mkF m 4 #[xvj (dx.toInt64), xse, xun, xun, xun, xun, xun, xun, xun, xun, xun, xun, xun, xun] [xwj (dx.toInt64), xwr G.a1])) rfl (by rw [hml]; rfl) (Steps.refl _) (argsL := [(.long (dx.toInt64))]) (rest := []) (lenOf pd_14 rfl) rfl (Nat.le_of_eq rfl) (hb B d7_4) (fun _ _ => ⟨rfl, e10, (by decide : 0 + 0 ≤ _), (by decide : 0 + 0 ≤ _)⟩)
 dsimp only [Pt.U, Pt.locs, Pt.cells, Pt.slots] at X12 l12 y12 z12 st12 hQ12
 subst l12 y12 z12
 obtain ⟨rfl, N12q, e12⟩ := hQ12
 have N12 := Fr.app N0 N12q
 obtain ⟨zd, e_zd⟩ : ∃ z, z = (((dx.toInt64) + (719528 : Int64)) - (60 : Int64)) := ⟨_, rfl⟩
 have hz0 := own_zd hdr e_zd
 have c13 : ∀ t, Sx p e below T12 m 23 #[xvj (dx.toInt64), xse, xvj zd, xse, xvj (0 : Int64), xse, xun, xun, xun, xun, xun, xun, xun, xun] [] t → TG t := fun t k => pre0 t (by
  refine st10 _ ?_
  refine y_lloadN X10 hx 4 (hb B d7_3) rfl rfl ?_
  refine st12.trans ?_
  show Sx p e below T12 m 7 #[xvj (dx.toInt64), xse, xun, xun, xun, xun, xun, xun, xun, xun, xun, xun, xun, xun] [xwj (dx.toInt64)] _
  jvm_step X12.here [X12.here.top, hx, (hb B d7_7), Value.category]
  refine y_lloadN X12 hx 9 (hb B d7_8) rfl rfl <| y_ldcJ X12 hx hown (mvT hZ (w_80 hw)) 12 (hb B d7_9) rfl <| y_ladd X12 hx 13 (hb B d7_12) rfl <| y_lstoreN X12 hx 14 (hb B d7_13) (L' := #[xvj (dx.toInt64), xse, xvj ((dx.toInt64) + (719528 : Int64)), xse, xun, xun, xun, xun, xun, xun, xun, xun, xun, xun]) rfl rfl <| y_lloadN X12 hx 15 (hb B d7_14) rfl rfl <| y_ldcJ X12 hx hown (mvT hZ (w_81 hw)) 18 (hb B d7_15) rfl <| y_lsub X12 hx 19 (hb B d7_18) rfl ?_
  show Sx p e below T12 m 19 #[xvj (dx.toInt64), xse, xvj ((dx.toInt64) + (719528 : Int64)), xse, xun, xun, xun, xun, xun, xun, xun, xun, xun, xun] [xwj (((dx.toInt64) + (719528 : Int64)) - (60 : Int64))] _
  rw [← e_zd]
  refine y_lstoreN X12 hx 20 (hb B d7_19) (L' := #[xvj (dx.toInt64), xse, xvj zd, xse, xun, xun, xun, xun, xun, xun, xun, xun, xun, xun]) rfl rfl ?_
  refine XS.lconst X12.here hx rfl (hb B d7_20) ?_
  refine y_lstore X12 hx 23 (hb B d7_21) (L' := #[xvj (dx.toInt64), xse, xvj zd, xse, xvj (0 : Int64), xse, xun, xun, xun, xun, xun, xun, xun, xun]) rfl rfl ?_
  exact k)
 have j14 : ∃ (T' : State) (h' : Heap) (locs' : List Loc) (z2x : Int64) (ajx : Int64) (yex : Int64) (dex : Int64), Stand p l e (rk 4 1 3 57) s m #[(.long (dx.toInt64))] below meth c T' locs' 0 0 ∧ T'.heap = h' ∧ Fr n0 locs' ∧ Keep h0 h' [] ∧ YD dx.toInt ajx.toInt yex.toInt dex.toInt ∧ ∀ t, Sx p e below T' m 148 #[xvj (dx.toInt64), xse, xvj z2x, xse, xvj ajx, xse, xvj yex, xse, xvj dex, xse, xun, xun, xun, xun] [] t → TG t := by
  have c15 : ∀ t, Sx p e below T12 m 26 #[xvj (dx.toInt64), xse, xvj zd, xse, xvj (0 : Int64), xse, xun, xun, xun, xun, xun, xun, xun, xun] [(.int (XT.cmpL zd (0 : Int64)))] t → TG t := fun t k => c13 t (by
   refine y_lloadN X12 hx 24 (hb B d7_23) rfl rfl ?_
   refine XS.lconst X12.here hx rfl (hb B d7_24) ?_
   refine y_lcmp X12 hx 26 (hb B d7_25) rfl ?_
   exact k)
  by_cases hk16 : zd < (0 : Int64)
  ·obtain ⟨acx, e_acx⟩ : ∃ z, z = (((zd + (1 : Int64)) / (146097 : Int64)) - (1 : Int64)) := ⟨_, rfl⟩
   have ha0 := own_ac hz0 hk16 e_acx
   obtain ⟨aj0, e_aj0⟩ : ∃ z, z = (acx * (400 : Int64)) := ⟨_, rfl⟩
   obtain ⟨z20, e_z20⟩ : ∃ z, z = (zd + ((-acx) * (146097 : Int64))) := ⟨_, rfl⟩
   have hz2 := own_z2n hz0 ha0 e_aj0 e_z20
   obtain ⟨ye0, e_ye0⟩ : ∃ z, z = ((((400 : Int64) * z20) + (591 : Int64)) / (146097 : Int64)) := ⟨_, rfl⟩
   have hy0 := own_ye hz2 e_ye0
   obtain ⟨de0, e_de0⟩ : ∃ z, z = (z20 - (((((365 : Int64) * ye0) + (ye0 / (4 : Int64))) - (ye0 / (100 : Int64))) + (ye0 / (400 : Int64)))) := ⟨_, rfl⟩
   have hd0 := own_de hz2 hy0 e_de0
   have c17 : ∀ t, Sx p e below T12 m 108 #[xvj (dx.toInt64), xse, xvj z20, xse, xvj aj0, xse, xvj ye0, xse, xvj de0, xse, xun, xun, xun, xun] [(.int (XT.cmpL de0 (0 : Int64)))] t → TG t := fun t k => c15 t (by
    refine y_ifNo X12 hx 29 (hb B d7_26) (XT.ll_ge_f hk16) rfl <| y_lloadN X12 hx 30 (hb B d7_29) rfl rfl ?_
    refine XS.lconst X12.here hx rfl (hb B d7_30) ?_
    refine y_ladd X12 hx 32 (hb B d7_31) rfl <| y_ldcJ X12 hx hown (mvT hZ (w_82 hw)) 35 (hb B d7_32) rfl <| y_ldiv X12 hx 36 (hb B d7_35) (by decide) rfl ?_
    refine XS.lconst X12.here hx rfl (hb B d7_36) ?_
    refine y_lsub X12 hx 38 (hb B d7_37) rfl ?_
    show Sx p e below T12 m 38 #[xvj (dx.toInt64), xse, xvj zd, xse, xvj (0 : Int64), xse, xun, xun, xun, xun, xun, xun, xun, xun] [xwj (((zd + (1 : Int64)) / (146097 : Int64)) - (1 : Int64))] _
    rw [← e_acx]
    refine y_lstore X12 hx 40 (hb B d7_38) (L' := #[xvj (dx.toInt64), xse, xvj zd, xse, xvj (0 : Int64), xse, xvj acx, xse, xun, xun, xun, xun, xun, xun]) rfl rfl <| y_lload X12 hx 42 (hb B d7_40) rfl rfl <| y_ldcJ X12 hx hown (mvT hZ (w_83 hw)) 45 (hb B d7_42) rfl <| y_lmul X12 hx 46 (hb B d7_45) rfl ?_
    rw [← e_aj0]
    refine y_lstore X12 hx 48 (hb B d7_46) (L' := #[xvj (dx.toInt64), xse, xvj zd, xse, xvj aj0, xse, xvj acx, xse, xun, xun, xun, xun, xun, xun]) rfl rfl <| y_lloadN X12 hx 49 (hb B d7_48) rfl rfl <| y_lload X12 hx 51 (hb B d7_49) rfl rfl ?_
    refine XS.lneg X12.here hx rfl (hb B d7_51) rfl ?_
    refine y_ldcJ X12 hx hown (mvT hZ (w_82 hw)) 55 (hb B d7_52) rfl <| y_lmul X12 hx 56 (hb B d7_55) rfl <| y_ladd X12 hx 57 (hb B d7_56) rfl ?_
    show Sx p e below T12 m 57 #[xvj (dx.toInt64), xse, xvj zd, xse, xvj aj0, xse, xvj acx, xse, xun, xun, xun, xun, xun, xun] [xwj (zd + ((-acx) * (146097 : Int64)))] _
    rw [← e_z20]
    refine y_lstoreN X12 hx 58 (hb B d7_57) (L' := #[xvj (dx.toInt64), xse, xvj z20, xse, xvj aj0, xse, xvj acx, xse, xun, xun, xun, xun, xun, xun]) rfl rfl <| y_ldcJ X12 hx hown (mvT hZ (w_83 hw)) 61 (hb B d7_58) rfl <| y_lloadN X12 hx 62 (hb B d7_61) rfl rfl <| y_lmul X12 hx 63 (hb B d7_62) rfl <| y_ldcJ X12 hx hown (mvT hZ (w_84 hw)) 66 (hb B d7_63) rfl <| y_ladd X12 hx 67 (hb B d7_66) rfl <| y_ldcJ X12 hx hown (mvT hZ (w_82 hw)) 70 (hb B d7_67) rfl <| y_ldiv X12 hx 71 (hb B d7_70) (by decide) rfl ?_
    rw [← e_ye0]
    refine y_lstore X12 hx 73 (hb B d7_71) (L' := #[xvj (dx.toInt64), xse, xvj z20, xse, xvj aj0, xse, xvj ye0, xse, xun, xun, xun, xun, xun, xun]) rfl rfl <| y_lloadN X12 hx 74 (hb B d7_73) rfl rfl <| y_ldcJ X12 hx hown (mvT hZ (w_85 hw)) 77 (hb B d7_74) rfl <| y_lload X12 hx 79 (hb B d7_77) rfl rfl <| y_lmul X12 hx 80 (hb B d7_79) rfl <| y_lload X12 hx 82 (hb B d7_80) rfl rfl <| y_ldcJ X12 hx hown (mvT hZ (w_86 hw)) 85 (hb B d7_82) rfl <| y_ldiv X12 hx 86 (hb B d7_85) (by decide) rfl <| y_ladd X12 hx 87 (hb B d7_86) rfl <| y_lload X12 hx 89 (hb B d7_87) rfl rfl <| y_ldcJ X12 hx hown (mvT hZ (w_87 hw)) 92 (hb B d7_89) rfl <| y_ldiv X12 hx 93 (hb B d7_92) (by decide) rfl <| y_lsub X12 hx 94 (hb B d7_93) rfl <| y_lload X12 hx 96 (hb B d7_94) rfl rfl <| y_ldcJ X12 hx hown (mvT hZ (w_83 hw)) 99 (hb B d7_96) rfl <| y_ldiv X12 hx 100 (hb B d7_99) (by decide) rfl <| y_ladd X12 hx 101 (hb B d7_100) rfl <| y_lsub X12 hx 102 (hb B d7_101) rfl ?_
    rw [← e_de0]
    refine y_lstore X12 hx 104 (hb B d7_102) (L' := #[xvj (dx.toInt64), xse, xvj z20, xse, xvj aj0, xse, xvj ye0, xse, xvj de0, xse, xun, xun, xun, xun]) rfl rfl <| y_lload X12 hx 106 (hb B d7_104) rfl rfl ?_
    refine XS.lconst X12.here hx rfl (hb B d7_106) ?_
    refine y_lcmp X12 hx 108 (hb B d7_107) rfl ?_
    exact k)
   by_cases hk18 : de0 < (0 : Int64)
   ·obtain ⟨ye1, e_ye1⟩ : ∃ z, z = (ye0 - (1 : Int64)) := ⟨_, rfl⟩
    have hy1 := own_ye1 hz2 hy0 hd0 hk18 e_ye1
    obtain ⟨de1, e_de1⟩ : ∃ z, z = (z20 - (((((365 : Int64) * ye1) + (ye1 / (4 : Int64))) - (ye1 / (100 : Int64))) + (ye1 / (400 : Int64)))) := ⟨_, rfl⟩
    have hd1 := own_de1 hz2 hy0 hd0 hk18 hy1 e_de1
    refine ⟨T12, h0, _, z20, aj0, ye1, de1, own_wid X12 (by decide : 0 ≤ 0) (by decide : 0 ≤ 0), e12, N12, (Keep.refl h0 []), (own_yd hz2 hd1 hdr), fun t k => c17 t ?_⟩
    refine y_ifNo X12 hx 111 (hb B d7_108) (XT.ll_ge_f hk18) rfl <| y_lload X12 hx 113 (hb B d7_111) rfl rfl ?_
    refine XS.lconst X12.here hx rfl (hb B d7_113) ?_
    refine y_lsub X12 hx 115 (hb B d7_114) rfl ?_
    show Sx p e below T12 m 115 #[xvj (dx.toInt64), xse, xvj z20, xse, xvj aj0, xse, xvj ye0, xse, xvj de0, xse, xun, xun, xun, xun] [xwj (ye0 - (1 : Int64))] _
    rw [← e_ye1]
    refine y_lstore X12 hx 117 (hb B d7_115) (L' := #[xvj (dx.toInt64), xse, xvj z20, xse, xvj aj0, xse, xvj ye1, xse, xvj de0, xse, xun, xun, xun, xun]) rfl rfl <| y_lloadN X12 hx 118 (hb B d7_117) rfl rfl <| y_ldcJ X12 hx hown (mvT hZ (w_85 hw)) 121 (hb B d7_118) rfl <| y_lload X12 hx 123 (hb B d7_121) rfl rfl <| y_lmul X12 hx 124 (hb B d7_123) rfl <| y_lload X12 hx 126 (hb B d7_124) rfl rfl <| y_ldcJ X12 hx hown (mvT hZ (w_86 hw)) 129 (hb B d7_126) rfl <| y_ldiv X12 hx 130 (hb B d7_129) (by decide) rfl <| y_ladd X12 hx 131 (hb B d7_130) rfl <| y_lload X12 hx 133 (hb B d7_131) rfl rfl <| y_ldcJ X12 hx hown (mvT hZ (w_87 hw)) 136 (hb B d7_133) rfl <| y_ldiv X12 hx 137 (hb B d7_136) (by decide) rfl <| y_lsub X12 hx 138 (hb B d7_137) rfl <| y_lload X12 hx 140 (hb B d7_138) rfl rfl <| y_ldcJ X12 hx hown (mvT hZ (w_83 hw)) 143 (hb B d7_140) rfl <| y_ldiv X12 hx 144 (hb B d7_143) (by decide) rfl <| y_ladd X12 hx 145 (hb B d7_144) rfl <| y_lsub X12 hx 146 (hb B d7_145) rfl ?_
    rw [← e_de1]
    refine y_lstore X12 hx 148 (hb B d7_146) (L' := #[xvj (dx.toInt64), xse, xvj z20, xse, xvj aj0, xse, xvj ye1, xse, xvj de1, xse, xun, xun, xun, xun]) rfl rfl ?_
    exact k
   ·have hd1 := own_dp hz2 hy0 hd0 hk18
    refine ⟨T12, h0, _, z20, aj0, ye0, de0, own_wid X12 (by decide : 0 ≤ 0) (by decide : 0 ≤ 0), e12, N12, (Keep.refl h0 []), (own_yd hz2 hd1 hdr), fun t k => c17 t ?_⟩
    refine y_ifYes X12 hx 148 (hb B d7_108) (XT.ll_ge_t hk18) rfl rfl ?_
    exact k
  ·have hz2 := own_z2p hz0 hk16
   obtain ⟨ye0, e_ye0⟩ : ∃ z, z = ((((400 : Int64) * zd) + (591 : Int64)) / (146097 : Int64)) := ⟨_, rfl⟩
   have hy0 := own_ye hz2 e_ye0
   obtain ⟨de0, e_de0⟩ : ∃ z, z = (zd - (((((365 : Int64) * ye0) + (ye0 / (4 : Int64))) - (ye0 / (100 : Int64))) + (ye0 / (400 : Int64)))) := ⟨_, rfl⟩
   have hd0 := own_de hz2 hy0 e_de0
   have c19 : ∀ t, Sx p e below T12 m 108 #[xvj (dx.toInt64), xse, xvj zd, xse, xvj (0 : Int64), xse, xvj ye0, xse, xvj de0, xse, xun, xun, xun, xun] [(.int (XT.cmpL de0 (0 : Int64)))] t → TG t := fun t k => c15 t (by
    refine y_ifYes X12 hx 58 (hb B d7_26) (XT.ll_ge_t hk16) rfl rfl <| y_ldcJ X12 hx hown (mvT hZ (w_83 hw)) 61 (hb B d7_58) rfl <| y_lloadN X12 hx 62 (hb B d7_61) rfl rfl <| y_lmul X12 hx 63 (hb B d7_62) rfl <| y_ldcJ X12 hx hown (mvT hZ (w_84 hw)) 66 (hb B d7_63) rfl <| y_ladd X12 hx 67 (hb B d7_66) rfl <| y_ldcJ X12 hx hown (mvT hZ (w_82 hw)) 70 (hb B d7_67) rfl <| y_ldiv X12 hx 71 (hb B d7_70) (by decide) rfl ?_
    rw [← e_ye0]
    refine y_lstore X12 hx 73 (hb B d7_71) (L' := #[xvj (dx.toInt64), xse, xvj zd, xse, xvj (0 : Int64), xse, xvj ye0, xse, xun, xun, xun, xun, xun, xun]) rfl rfl <| y_lloadN X12 hx 74 (hb B d7_73) rfl rfl <| y_ldcJ X12 hx hown (mvT hZ (w_85 hw)) 77 (hb B d7_74) rfl <| y_lload X12 hx 79 (hb B d7_77) rfl rfl <| y_lmul X12 hx 80 (hb B d7_79) rfl <| y_lload X12 hx 82 (hb B d7_80) rfl rfl <| y_ldcJ X12 hx hown (mvT hZ (w_86 hw)) 85 (hb B d7_82) rfl <| y_ldiv X12 hx 86 (hb B d7_85) (by decide) rfl <| y_ladd X12 hx 87 (hb B d7_86) rfl <| y_lload X12 hx 89 (hb B d7_87) rfl rfl <| y_ldcJ X12 hx hown (mvT hZ (w_87 hw)) 92 (hb B d7_89) rfl <| y_ldiv X12 hx 93 (hb B d7_92) (by decide) rfl <| y_lsub X12 hx 94 (hb B d7_93) rfl <| y_lload X12 hx 96 (hb B d7_94) rfl rfl <| y_ldcJ X12 hx hown (mvT hZ (w_83 hw)) 99 (hb B d7_96) rfl <| y_ldiv X12 hx 100 (hb B d7_99) (by decide) rfl <| y_ladd X12 hx 101 (hb B d7_100) rfl <| y_lsub X12 hx 102 (hb B d7_101) rfl ?_
    rw [← e_de0]
    refine y_lstore X12 hx 104 (hb B d7_102) (L' := #[xvj (dx.toInt64), xse, xvj zd, xse, xvj (0 : Int64), xse, xvj ye0, xse, xvj de0, xse, xun, xun, xun, xun]) rfl rfl <| y_lload X12 hx 106 (hb B d7_104) rfl rfl ?_
    refine XS.lconst X12.here hx rfl (hb B d7_106) ?_
    refine y_lcmp X12 hx 108 (hb B d7_107) rfl ?_
    exact k)
   by_cases hk20 : de0 < (0 : Int64)
   ·obtain ⟨ye1, e_ye1⟩ : ∃ z, z = (ye0 - (1 : Int64)) := ⟨_, rfl⟩
    have hy1 := own_ye1 hz2 hy0 hd0 hk20 e_ye1
    obtain ⟨de1, e_de1⟩ : ∃ z, z = (zd - (((((365 : Int64) * ye1) + (ye1 / (4 : Int64))) - (ye1 / (100 : Int64))) + (ye1 / (400 : Int64)))) := ⟨_, rfl⟩
    have hd1 := own_de1 hz2 hy0 hd0 hk20 hy1 e_de1
    refine ⟨T12, h0, _, zd, (0 : Int64), ye1, de1, own_wid X12 (by decide : 0 ≤ 0) (by decide : 0 ≤ 0), e12, N12, (Keep.refl h0 []), (own_yd hz2 hd1 hdr), fun t k => c19 t ?_⟩
    refine y_ifNo X12 hx 111 (hb B d7_108) (XT.ll_ge_f hk20) rfl <| y_lload X12 hx 113 (hb B d7_111) rfl rfl ?_
    refine XS.lconst X12.here hx rfl (hb B d7_113) ?_
    refine y_lsub X12 hx 115 (hb B d7_114) rfl ?_
    show Sx p e below T12 m 115 #[xvj (dx.toInt64), xse, xvj zd, xse, xvj (0 : Int64), xse, xvj ye0, xse, xvj de0, xse, xun, xun, xun, xun] [xwj (ye0 - (1 : Int64))] _
    rw [← e_ye1]
    refine y_lstore X12 hx 117 (hb B d7_115) (L' := #[xvj (dx.toInt64), xse, xvj zd, xse, xvj (0 : Int64), xse, xvj ye1, xse, xvj de0, xse, xun, xun, xun, xun]) rfl rfl <| y_lloadN X12 hx 118 (hb B d7_117) rfl rfl <| y_ldcJ X12 hx hown (mvT hZ (w_85 hw)) 121 (hb B d7_118) rfl <| y_lload X12 hx 123 (hb B d7_121) rfl rfl <| y_lmul X12 hx 124 (hb B d7_123) rfl <| y_lload X12 hx 126 (hb B d7_124) rfl rfl <| y_ldcJ X12 hx hown (mvT hZ (w_86 hw)) 129 (hb B d7_126) rfl <| y_ldiv X12 hx 130 (hb B d7_129) (by decide) rfl <| y_ladd X12 hx 131 (hb B d7_130) rfl <| y_lload X12 hx 133 (hb B d7_131) rfl rfl <| y_ldcJ X12 hx hown (mvT hZ (w_87 hw)) 136 (hb B d7_133) rfl <| y_ldiv X12 hx 137 (hb B d7_136) (by decide) rfl <| y_lsub X12 hx 138 (hb B d7_137) rfl <| y_lload X12 hx 140 (hb B d7_138) rfl rfl <| y_ldcJ X12 hx hown (mvT hZ (w_83 hw)) 143 (hb B d7_140) rfl <| y_ldiv X12 hx 144 (hb B d7_143) (by decide) rfl <| y_ladd X12 hx 145 (hb B d7_144) rfl <| y_lsub X12 hx 146 (hb B d7_145) rfl ?_
    rw [← e_de1]
    refine y_lstore X12 hx 148 (hb B d7_146) (L' := #[xvj (dx.toInt64), xse, xvj zd, xse, xvj (0 : Int64), xse, xvj ye1, xse, xvj de1, xse, xun, xun, xun, xun]) rfl rfl ?_
    exact k
   ·have hd1 := own_dp hz2 hy0 hd0 hk20
    refine ⟨T12, h0, _, zd, (0 : Int64), ye0, de0, own_wid X12 (by decide : 0 ≤ 0) (by decide : 0 ≤ 0), e12, N12, (Keep.refl h0 []), (own_yd hz2 hd1 hdr), fun t k => c19 t ?_⟩
    refine y_ifYes X12 hx 148 (hb B d7_108) (XT.ll_ge_t hk20) rfl rfl ?_
    exact k
 obtain ⟨T14, h14, locs14, o21, o22, o23, o24, X14, e14, N14, K14, p25, c14⟩ := j14
 have hYD := p25
 obtain ⟨y3x, e_y3x⟩ : ∃ z, z = (o23 + o22) := ⟨_, rfl⟩
 have hy3 := own_y3 hYD e_y3x
 obtain ⟨mdx, e_mdx⟩ : ∃ z, z = (o24.toInt32) := ⟨_, rfl⟩
 have hmd := own_md hYD e_mdx
 obtain ⟨mmx, e_mmx⟩ : ∃ z, z = (((mdx * (5 : Int32)) + (2 : Int32)) / (153 : Int32)) := ⟨_, rfl⟩
 have hmm := own_mm hmd e_mmx
 have c26 : ∀ t, Sx p e below T14 m 182 #[xvj (dx.toInt64), xse, xvj o21, xse, xvj o22, xse, xvj y3x, xse, xvj o24, xse, xvi mdx, xvi mmx, xvi (mmx + (3 : Int32)), xun] [xwi (12 : Int32), xwi (mmx + (3 : Int32))] t → TG t := fun t k => c14 t (by
  refine y_lload X14 hx 150 (hb B d7_148) rfl rfl <| y_lload X14 hx 152 (hb B d7_150) rfl rfl <| y_ladd X14 hx 153 (hb B d7_152) rfl ?_
  rw [← e_y3x]
  refine y_lstore X14 hx 155 (hb B d7_153) (L' := #[xvj (dx.toInt64), xse, xvj o21, xse, xvj o22, xse, xvj y3x, xse, xvj o24, xse, xun, xun, xun, xun]) rfl rfl <| y_lload X14 hx 157 (hb B d7_155) rfl rfl <| y_l2i X14 hx 158 (hb B d7_157) rfl ?_
  rw [← e_mdx]
  refine y_istore X14 hx 160 (hb B d7_158) (L' := #[xvj (dx.toInt64), xse, xvj o21, xse, xvj o22, xse, xvj y3x, xse, xvj o24, xse, xvi mdx, xun, xun, xun]) rfl rfl <| y_iload X14 hx 162 (hb B d7_160) rfl rfl <| y_iconst X14 hx (5 : Int32) 163 (hb B d7_162) rfl rfl <| y_imul X14 hx 164 (hb B d7_163) rfl <| y_iconst X14 hx (2 : Int32) 165 (hb B d7_164) rfl rfl <| y_iadd X14 hx 166 (hb B d7_165) rfl <| y_sipush X14 hx (153 : Int32) 169 (hb B d7_166) rfl rfl ?_
  refine XS.idiv X14.here hx rfl (hb B d7_169) rfl (by decide) ?_
  show Sx p e below T14 m 170 #[xvj (dx.toInt64), xse, xvj o21, xse, xvj o22, xse, xvj y3x, xse, xvj o24, xse, xvi mdx, xun, xun, xun] [xwi (((mdx * (5 : Int32)) + (2 : Int32)) / (153 : Int32))] _
  rw [← e_mmx]
  refine y_istore X14 hx 172 (hb B d7_170) (L' := #[xvj (dx.toInt64), xse, xvj o21, xse, xvj o22, xse, xvj y3x, xse, xvj o24, xse, xvi mdx, xvi mmx, xun, xun]) rfl rfl <| y_iload X14 hx 174 (hb B d7_172) rfl rfl <| y_iconst X14 hx (3 : Int32) 175 (hb B d7_174) rfl rfl <| y_iadd X14 hx 176 (hb B d7_175) rfl <| y_istore X14 hx 178 (hb B d7_176) (L' := #[xvj (dx.toInt64), xse, xvj o21, xse, xvj o22, xse, xvj y3x, xse, xvj o24, xse, xvi mdx, xvi mmx, xvi (mmx + (3 : Int32)), xun]) rfl rfl <| y_iload X14 hx 180 (hb B d7_178) rfl rfl <| y_bipush X14 hx (12 : Int32) 182 (hb B d7_180) rfl rfl ?_
  exact k)
 by_cases hk27 : (12 : Int32) < (mmx + (3 : Int32))
 ·obtain ⟨mon, e_mon⟩ : ∃ z, z = ((mmx + (3 : Int32)) + (-12 : Int32)) := ⟨_, rfl⟩
  have hmn := own_monj hmd hmm hk27 e_mon
  obtain ⟨dom, e_dom⟩ : ∃ z, z = ((mdx - (((mmx * (306 : Int32)) + (5 : Int32)) / (10 : Int32))) + (1 : Int32)) := ⟨_, rfl⟩
  have hdm := own_dom hmd hmm e_dom
  obtain ⟨y4x, e_y4x⟩ : ∃ z, z = (y3x + (1 : Int64)) := ⟨_, rfl⟩
  have hy4 := own_y4 hYD hy3 e_y4x
  obtain ⟨T28, h28, X28, e28, E28, A28, D28, -, st28⟩ := newO X14 hx hZ hown (w_88 hw) (w_89 hw) (w_39 hw) e14 (g := (mkF m 220 #[xvj (dx.toInt64), xse, xvj o21, xse, xvj o22, xse, xvj y4x, xse, xvj o24, xse, xvi mdx, xvi mmx, xvi mon, xvi dom] [])) rfl (hb B d7_220) (by decide) (by decide)
  obtain ⟨b28, g28⟩ : ∃ z, z = h14.size := ⟨_, rfl⟩
  rw [← g28] at A28 D28 st28
  have Fb28_year : Fld Z h28 b28 sg3 "year" "I" ZI := D28 (Or.inr (w_96 hw)) (ty := .int) (by decide)
  have Fb28_month : Fld Z h28 b28 sg3 "month" "S" ZI := D28 (Or.inr (w_98 hw)) (ty := .short) (by decide)
  have Fb28_day : Fld Z h28 b28 sg3 "day" "S" ZI := D28 (Or.inr (w_100 hw)) (ty := .short) (by decide)
  obtain ⟨yrx, e_yrx⟩ : ∃ z, z = (y4x.toInt32) := ⟨_, rfl⟩
  have hyr := own_yrj hYD hy4 e_yrx
  have hTD : TD yrx mon dom dx := own_TDj hYD hmd hmm hk27 hmn hdm hyr
  have Ol29 : Old Z n0 h28 := ((X00.keep K14 all0).ext E28)
  obtain ⟨_, _, ⟨T30, L30, k30, n30⟩, -, X30, ⟨Lc30, hQ30, l30, y30, z30⟩, st30⟩ := X28.specialBack hx (y := mm21) rfl hown (mvT hZ (w_90 hw)) (mvT hZ (w_91 hw)) (mvT hZ (w_93 hw)) (by decide) (backOf (W := 1) (rmLI l Z a0 hw G ST [] b28 yrx mon dom ZI ZI ZI h28 n0 Ol29 A28 Fb28_year Fb28_month Fb28_day (ntr Z0 (ntr K14.1 (Nat.le_of_eq g28.symm))) hTD.2.1 hTD.2.2.1) hZ (w_93 hw) (w_39 hw) (by decide) (by decide)) (g := (mkF m 231 #[xvj (dx.toInt64), xse, xvj o21, xse, xvj o22, xse, xvj y4x, xse, xvj o24, xse, xvi mdx, xvi mmx, xvi mon, xvi dom] [xwi dom, xwi mon, xwi yrx, xwr b28, xwr b28])) rfl (by rw [hml]; rfl) (Steps.refl _) (a := b28) (argsL := [(.int yrx), (.int mon), (.int dom)]) (rest := [(.ref b28)]) (lenOf pd_15 rfl) rfl (Nat.le_of_eq rfl) (hb B d7_231) (fun _ _ => ⟨rfl, e28, (by decide : 1 + 0 ≤ _), (by decide : 3 + 0 ≤ _)⟩)
  dsimp only [Pt.U, Pt.locs, Pt.cells, Pt.slots] at X30 l30 y30 z30 st30 hQ30
  subst l30 y30 z30
  obtain ⟨hp30, e30⟩ : ∃ z, T30.heap = z := ⟨_, rfl⟩
  rw [e30] at hQ30
  obtain ⟨rfl, N30q, K30, p31, p32, p33, p34⟩ := hQ30
  have N30 := Fr.app N14 N30q
  obtain ⟨fs, hr, hrun, hended, hW, hsame⟩ := X30.leave (v := some (.ref b28)) (own_rv Bd.returns)
  refine ⟨_, _, hTG _ (c26 _ ?_), hrun, hended, _, _, rfl, ?_, ⟨_, rfl⟩, hW, hsame.mono (by decide) (by decide)⟩
  ·refine y_icmpNo X14 hx 185 (hb B d7_182) (XT.ii_le_f hk27) rfl ?_
   refine XS.iinc X14.here hx rfl (hb B d7_185) rfl (l' := #[xvj (dx.toInt64), xse, xvj o21, xse, xvj o22, xse, xvj y3x, xse, xvj o24, xse, xvi mdx, xvi mmx, xvi ((mmx + (3 : Int32)) + (-12 : Int32)), xun]) rfl ?_
   show Sx p e below T14 m 188 #[xvj (dx.toInt64), xse, xvj o21, xse, xvj o22, xse, xvj y3x, xse, xvj o24, xse, xvi mdx, xvi mmx, xvi ((mmx + (3 : Int32)) + (-12 : Int32)), xun] [] _
   rw [← e_mon]
   refine y_iload X14 hx 190 (hb B d7_188) rfl rfl <| y_iload X14 hx 192 (hb B d7_190) rfl rfl <| y_sipush X14 hx (306 : Int32) 195 (hb B d7_192) rfl rfl <| y_imul X14 hx 196 (hb B d7_195) rfl <| y_iconst X14 hx (5 : Int32) 197 (hb B d7_196) rfl rfl <| y_iadd X14 hx 198 (hb B d7_197) rfl <| y_bipush X14 hx (10 : Int32) 200 (hb B d7_198) rfl rfl ?_
   refine XS.idiv X14.here hx rfl (hb B d7_200) rfl (by decide) ?_
   refine y_isub X14 hx 202 (hb B d7_201) rfl <| y_iconst X14 hx (1 : Int32) 203 (hb B d7_202) rfl rfl <| y_iadd X14 hx 204 (hb B d7_203) rfl ?_
   show Sx p e below T14 m 204 #[xvj (dx.toInt64), xse, xvj o21, xse, xvj o22, xse, xvj y3x, xse, xvj o24, xse, xvi mdx, xvi mmx, xvi mon, xun] [xwi ((mdx - (((mmx * (306 : Int32)) + (5 : Int32)) / (10 : Int32))) + (1 : Int32))] _
   rw [← e_dom]
   refine y_istore X14 hx 206 (hb B d7_204) (L' := #[xvj (dx.toInt64), xse, xvj o21, xse, xvj o22, xse, xvj y3x, xse, xvj o24, xse, xvi mdx, xvi mmx, xvi mon, xvi dom]) rfl rfl <| y_iload X14 hx 208 (hb B d7_206) rfl rfl <| y_sipush X14 hx (306 : Int32) 211 (hb B d7_208) rfl rfl <| y_icmpNo X14 hx 214 (hb B d7_211) (XT.ii_lt_f (own_306j hmd hmm hk27)) rfl <| y_lload X14 hx 216 (hb B d7_214) rfl rfl ?_
   refine XS.lconst X14.here hx rfl (hb B d7_216) ?_
   refine y_ladd X14 hx 218 (hb B d7_217) rfl ?_
   show Sx p e below T14 m 218 #[xvj (dx.toInt64), xse, xvj o21, xse, xvj o22, xse, xvj y3x, xse, xvj o24, xse, xvi mdx, xvi mmx, xvi mon, xvi dom] [xwj (y3x + (1 : Int64))] _
   rw [← e_y4x]
   refine y_lstore X14 hx 220 (hb B d7_218) (L' := #[xvj (dx.toInt64), xse, xvj o21, xse, xvj o22, xse, xvj y4x, xse, xvj o24, xse, xvi mdx, xvi mmx, xvi mon, xvi dom]) rfl rfl ?_
   refine st28 _ ?_
   refine y_dup X28 hx 224 (hb B d7_223) rfl rfl <| y_lload X28 hx 226 (hb B d7_224) rfl rfl <| y_l2i X28 hx 227 (hb B d7_226) rfl ?_
   show Sx p e below T28 m 227 #[xvj (dx.toInt64), xse, xvj o21, xse, xvj o22, xse, xvj y4x, xse, xvj o24, xse, xvi mdx, xvi mmx, xvi mon, xvi dom] [xwi (y4x.toInt32), xwr b28, xwr b28] _
   rw [← e_yrx]
   refine y_iload X28 hx 229 (hb B d7_227) rfl rfl <| y_iload X28 hx 231 (hb B d7_229) rfl rfl ?_
   refine st30.trans ?_
   show Sx p e below T30 m 234 #[xvj (dx.toInt64), xse, xvj o21, xse, xvj o22, xse, xvj y4x, xse, xvj o24, xse, xvi mdx, xvi mmx, xvi mon, xvi dom] [xwr b28] _
   exact retOut X30 hx Bd.returns rfl (Or.inr (Or.inr (Or.inr (Or.inr ⟨rfl, rfl, rfl⟩)))) (hb B d7_234) hr
  ·show QrmOE Z G dx h0 n0 _ T30.heap _
   rw [e30]
   exact ⟨b28, yrx, mon, dom, rfl, N30, ((((Keep.refl h0 []).trans K14 all0).ext E28).trans K30 (allS (Or.inr (ntr K14.1 (Nat.le_of_eq g28.symm))) all0)), (ntr K14.1 (Nat.le_of_eq g28.symm)), p31, p32, p33, p34, hTD⟩
 ·obtain ⟨mon, e_mon⟩ : ∃ z, z = (mmx + (3 : Int32)) := ⟨_, rfl⟩
  have hmn := own_monm hmd hmm hk27 e_mon
  obtain ⟨dom, e_dom⟩ : ∃ z, z = ((mdx - (((mmx * (306 : Int32)) + (5 : Int32)) / (10 : Int32))) + (1 : Int32)) := ⟨_, rfl⟩
  have hdm := own_dom hmd hmm e_dom
  obtain ⟨T35, h35, X35, e35, E35, A35, D35, -, st35⟩ := newO X14 hx hZ hown (w_88 hw) (w_89 hw) (w_39 hw) e14 (g := (mkF m 220 #[xvj (dx.toInt64), xse, xvj o21, xse, xvj o22, xse, xvj y3x, xse, xvj o24, xse, xvi mdx, xvi mmx, xvi mon, xvi dom] [])) rfl (hb B d7_220) (by decide) (by decide)
  obtain ⟨b35, g35⟩ : ∃ z, z = h14.size := ⟨_, rfl⟩
  rw [← g35] at A35 D35 st35
  have Fb35_year : Fld Z h35 b35 sg3 "year" "I" ZI := D35 (Or.inr (w_96 hw)) (ty := .int) (by decide)
  have Fb35_month : Fld Z h35 b35 sg3 "month" "S" ZI := D35 (Or.inr (w_98 hw)) (ty := .short) (by decide)
  have Fb35_day : Fld Z h35 b35 sg3 "day" "S" ZI := D35 (Or.inr (w_100 hw)) (ty := .short) (by decide)
  obtain ⟨yrx, e_yrx⟩ : ∃ z, z = (y3x.toInt32) := ⟨_, rfl⟩
  have hyr := own_yrm hYD hy3 e_yrx
  have hTD : TD yrx mon dom dx := own_TDm hYD hmd hmm hk27 hmn hdm hyr
  have Ol36 : Old Z n0 h35 := ((X00.keep K14 all0).ext E35)
  obtain ⟨_, _, ⟨T37, L37, k37, n37⟩, -, X37, ⟨Lc37, hQ37, l37, y37, z37⟩, st37⟩ := X35.specialBack hx (y := mm21) rfl hown (mvT hZ (w_90 hw)) (mvT hZ (w_91 hw)) (mvT hZ (w_93 hw)) (by decide) (backOf (W := 1) (rmLI l Z a0 hw G ST [] b35 yrx mon dom ZI ZI ZI h35 n0 Ol36 A35 Fb35_year Fb35_month Fb35_day (ntr Z0 (ntr K14.1 (Nat.le_of_eq g35.symm))) hTD.2.1 hTD.2.2.1) hZ (w_93 hw) (w_39 hw) (by decide) (by decide)) (g := (mkF m 231 #[xvj (dx.toInt64), xse, xvj o21, xse, xvj o22, xse, xvj y3x, xse, xvj o24, xse, xvi mdx, xvi mmx, xvi mon, xvi dom] [xwi dom, xwi mon, xwi yrx, xwr b35, xwr b35])) rfl (by rw [hml]; rfl) (Steps.refl _) (a := b35) (argsL := [(.int yrx), (.int mon), (.int dom)]) (rest := [(.ref b35)]) (lenOf pd_15 rfl) rfl (Nat.le_of_eq rfl) (hb B d7_231) (fun _ _ => ⟨rfl, e35, (by decide : 1 + 0 ≤ _), (by decide : 3 + 0 ≤ _)⟩)
  dsimp only [Pt.U, Pt.locs, Pt.cells, Pt.slots] at X37 l37 y37 z37 st37 hQ37
  subst l37 y37 z37
  obtain ⟨hp37, e37⟩ : ∃ z, T37.heap = z := ⟨_, rfl⟩
  rw [e37] at hQ37
  obtain ⟨rfl, N37q, K37, p38, p39, p40, p41⟩ := hQ37
  have N37 := Fr.app N14 N37q
  obtain ⟨fs, hr, hrun, hended, hW, hsame⟩ := X37.leave (v := some (.ref b35)) (own_rv Bd.returns)
  refine ⟨_, _, hTG _ (c26 _ ?_), hrun, hended, _, _, rfl, ?_, ⟨_, rfl⟩, hW, hsame.mono (by decide) (by decide)⟩
  ·refine y_icmpYes X14 hx 188 (hb B d7_182) (XT.ii_le_t hk27) rfl rfl ?_
   rw [← e_mon]
   refine y_iload X14 hx 190 (hb B d7_188) rfl rfl <| y_iload X14 hx 192 (hb B d7_190) rfl rfl <| y_sipush X14 hx (306 : Int32) 195 (hb B d7_192) rfl rfl <| y_imul X14 hx 196 (hb B d7_195) rfl <| y_iconst X14 hx (5 : Int32) 197 (hb B d7_196) rfl rfl <| y_iadd X14 hx 198 (hb B d7_197) rfl <| y_bipush X14 hx (10 : Int32) 200 (hb B d7_198) rfl rfl ?_
   refine XS.idiv X14.here hx rfl (hb B d7_200) rfl (by decide) ?_
   refine y_isub X14 hx 202 (hb B d7_201) rfl <| y_iconst X14 hx (1 : Int32) 203 (hb B d7_202) rfl rfl <| y_iadd X14 hx 204 (hb B d7_203) rfl ?_
   show Sx p e below T14 m 204 #[xvj (dx.toInt64), xse, xvj o21, xse, xvj o22, xse, xvj y3x, xse, xvj o24, xse, xvi mdx, xvi mmx, xvi mon, xun] [xwi ((mdx - (((mmx * (306 : Int32)) + (5 : Int32)) / (10 : Int32))) + (1 : Int32))] _
   rw [← e_dom]
   refine y_istore X14 hx 206 (hb B d7_204) (L' := #[xvj (dx.toInt64), xse, xvj o21, xse, xvj o22, xse, xvj y3x, xse, xvj o24, xse, xvi mdx, xvi mmx, xvi mon, xvi dom]) rfl rfl <| y_iload X14 hx 208 (hb B d7_206) rfl rfl <| y_sipush X14 hx (306 : Int32) 211 (hb B d7_208) rfl rfl <| y_icmpYes X14 hx 220 (hb B d7_211) (XT.ii_lt_t (own_306m hmd hmm hk27)) rfl rfl ?_
   refine st35 _ ?_
   refine y_dup X35 hx 224 (hb B d7_223) rfl rfl <| y_lload X35 hx 226 (hb B d7_224) rfl rfl <| y_l2i X35 hx 227 (hb B d7_226) rfl ?_
   show Sx p e below T35 m 227 #[xvj (dx.toInt64), xse, xvj o21, xse, xvj o22, xse, xvj y3x, xse, xvj o24, xse, xvi mdx, xvi mmx, xvi mon, xvi dom] [xwi (y3x.toInt32), xwr b35, xwr b35] _
   rw [← e_yrx]
   refine y_iload X35 hx 229 (hb B d7_227) rfl rfl <| y_iload X35 hx 231 (hb B d7_229) rfl rfl ?_
   refine st37.trans ?_
   show Sx p e below T37 m 234 #[xvj (dx.toInt64), xse, xvj o21, xse, xvj o22, xse, xvj y3x, xse, xvj o24, xse, xvi mdx, xvi mmx, xvi mon, xvi dom] [xwr b35] _
   exact retOut X37 hx Bd.returns rfl (Or.inr (Or.inr (Or.inr (Or.inr ⟨rfl, rfl, rfl⟩)))) (hb B d7_234) hr
  ·show QrmOE Z G dx h0 n0 _ T37.heap _
   rw [e37]
   exact ⟨b35, yrx, mon, dom, rfl, N37, ((((Keep.refl h0 []).trans K14 all0).ext E35).trans K37 (allS (Or.inr (ntr K14.1 (Nat.le_of_eq g35.symm))) all0)), (ntr K14.1 (Nat.le_of_eq g35.symm)), p38, p39, p40, p41, hTD⟩
theorem ef_rmG1 (m : MethodId) (x0 : Addr) (x1 : Int32)  : entryFrame m #[(.ref x0), (.int x1)] 3 = mkF m 0 #[.val (.ref x0), .val (.int x1), .unset] [] := by first | (simp [entryFrame, mkF, argsToLocals, Value.category]; done) | rfl
abbrev kc30 : ByteArray := jdk_92_method_26_code
def d30_0 : DC kc30 0 (.iload_n 1) 1 := by decide +kernel
def d30_1 : DC kc30 1 (.ifCond .ge 30) 3 := by decide +kernel
def d30_31 : DC kc30 31 (.aload_n 0) 1 := by decide +kernel
def d30_32 : DC kc30 32 (.invokevirtual 56) 3 := by decide +kernel
abbrev kc31 : ByteArray := jdk_92_method_2_code
def d31_0 : DC kc31 0 (.getstatic 3) 3 := by decide +kernel
def d31_3 : DC kc31 3 (.ifCond .ne 34) 3 := by decide +kernel
def d31_37 : DC kc31 37 (.getstatic 3) 3 := by decide +kernel
def d31_40 : DC kc31 40 (.ifCond .ne 30) 3 := by decide +kernel
def d31_70 : DC kc31 70 (.getstatic 3) 3 := by decide +kernel
def d31_73 : DC kc31 73 (.ifCond .ne 37) 3 := by decide +kernel
def d31_110 : DC kc31 110 (.return_) 1 := by decide +kernel
theorem pn_9 : plainName "java/util/BitSet" = true := by first | (simp [plainName, overriddenIn]; done) | decide +kernel
def QrmA5 (Z : State) (G : Gs) (xa1 : Addr) (h0 : Heap) (n0 : Nat) (v : Option Value) (h : Heap) (L : List Loc) : Prop := v = none ∧ Fr n0 L ∧ h = h0
theorem rmA5 (l : Launch) (Z : State) (a0 : Array Value) (hw : HW a0 Z) (G : Gs) (ST : StartF Z G) (ws : List Jvm.Cond) (xa1 : Addr) (h0 : Heap) (n0 : Nat) (X00 : Old Z n0 h0) :
  MF l Z ws mm27 jdk_92_method_2_code 1 none (rk 0 0 0 0) #[(.ref xa1)] h0 (QrmA5 Z G xa1 h0 n0) := by
 refine MetFree.of_bodySF (plainFor_of_name pn_9) hisR ?_
 intro p e s m args below meth c s₁ Bd hml0 hP hK
 obtain ⟨rfl, hZ, hh⟩ := hP
 have hx := Bd.exec
 have B := Bd.bytes
 have hown : s.vm.findClass sg2 = some m.cls := findClass_of_methodNamed Bd.named
 have X0 : Stand p l e (rk 0 0 0 0) s m #[(.ref xa1)] below meth c s₁ [] 0 0 := Stand.of_body Bd
 have e0 : s₁.heap = h0 := by rw [← hh, Bd.state]; rfl
 have N0 := Fr.nil n0
 obtain ⟨TG, hTG, pre0⟩ := own_pre p e below s₁ (ef_rmL1 m xa1 )
 obtain ⟨T10, X10, e10, st10⟩ := getS2 X0 hx hZ hown (host := "") (Or.inl (w_216 hw)) Via.refl e0 (ST.c14.ext X00.2) (g := (mkF m 0 #[xvr xa1] [])) rfl (hb B d31_0)
 obtain ⟨T11, X11, e11, st11⟩ := getS2 X10 hx hZ hown (host := "") (Or.inl (w_216 hw)) Via.refl e10 (ST.c14.ext X00.2) (g := (mkF m 37 #[xvr xa1] [])) rfl (hb B d31_37)
 obtain ⟨T12, X12, e12, st12⟩ := getS2 X11 hx hZ hown (host := "") (Or.inl (w_216 hw)) Via.refl e11 (ST.c14.ext X00.2) (g := (mkF m 70 #[xvr xa1] [])) rfl (hb B d31_70)
 obtain ⟨fs, hr, hrun, hended, hW, hsame⟩ := X12.leave (v := none) (fun _ => rfl)
 refine ⟨_, _, hTG _ (pre0 _ ?_), hrun, hended, _, _, rfl, ?_, ⟨_, rfl⟩, hW, hsame.mono (by decide) (by decide)⟩
 ·refine st10 _ ?_
  refine y_ifYes X10 hx 37 (hb B d31_3) (XT.i0_ne_t (by decide)) rfl rfl ?_
  refine st11 _ ?_
  refine y_ifYes X11 hx 70 (hb B d31_40) (XT.i0_ne_t (by decide)) rfl rfl ?_
  refine st12 _ ?_
  refine y_ifYes X12 hx 110 (hb B d31_73) (XT.i0_ne_t (by decide)) rfl rfl ?_
  show Sx p e below T12 m 110 #[xvr xa1] [] _
  exact X12.returnOut hx Bd.returns (hb B d31_110) hr
 ·show QrmA5 Z G xa1 h0 n0 _ T12.heap _
  rw [e12]
  exact ⟨rfl, N0, rfl⟩
theorem pd_16 : parseMethodDescriptor "()V" = some ⟨[], none⟩ := by decide +kernel
def d30_35 : DC kc30 35 (.iload_n 1) 1 := by decide +kernel
def d30_36 : DC kc30 36 (.invokestatic 52) 3 := by decide +kernel
abbrev kc18 : ByteArray := jdk_92_method_1_code
def d18_0 : DC kc18 0 (.iload_n 0) 1 := by decide +kernel
def d18_1 : DC kc18 1 (.bipush 6) 2 := by decide +kernel
def d18_3 : DC kc18 3 (.ishr) 1 := by decide +kernel
def d18_4 : DC kc18 4 (.ireturn) 1 := by decide +kernel
def QrmA6 (Z : State) (G : Gs)  (h0 : Heap) (n0 : Nat) (v : Option Value) (h : Heap) (L : List Loc) : Prop := v = some ZI ∧ Fr n0 L ∧ h = h0
theorem rmA6 (l : Launch) (Z : State) (a0 : Array Value) (hw : HW a0 Z) (G : Gs) (ST : StartF Z G) (ws : List Jvm.Cond)  (h0 : Heap) (n0 : Nat) (X00 : Old Z n0 h0) :
  MF l Z ws mm28 jdk_92_method_1_code 1 (some .int) (rk 0 0 0 0) #[(.int (1 : Int32))] h0 (QrmA6 Z G h0 n0) := by
 refine MetFree.of_bodySF (plainFor_of_name pn_9) hisR ?_
 intro p e s m args below meth c s₁ Bd hml0 hP hK
 obtain ⟨rfl, hZ, hh⟩ := hP
 have hx := Bd.exec
 have B := Bd.bytes
 have X0 : Stand p l e (rk 0 0 0 0) s m #[(.int (1 : Int32))] below meth c s₁ [] 0 0 := Stand.of_body Bd
 have e0 : s₁.heap = h0 := by rw [← hh, Bd.state]; rfl
 have N0 := Fr.nil n0
 obtain ⟨TG, hTG, pre0⟩ := own_pre p e below s₁ (ef_rmCE m (1 : Int32) )
 obtain ⟨fs, hr, hrun, hended, hW, hsame⟩ := X0.leave (v := some ZI) (own_rv Bd.returns)
 refine ⟨_, _, hTG _ (pre0 _ ?_), hrun, hended, _, _, rfl, ?_, ⟨_, rfl⟩, hW, hsame.mono (by decide) (by decide)⟩
 ·refine y_iloadN X0 hx 1 (hb B d18_0) rfl rfl <| y_bipush X0 hx (6 : Int32) 3 (hb B d18_1) rfl rfl ?_
  refine XS.ishr X0.here hx rfl (hb B d18_3) rfl ?_
  rw [show ((1 : Int32) >>> ((6 : Int32) &&& 31)) = (0 : Int32) from by decide]
  show Sx p e below s₁ m 4 #[xvi (1 : Int32)] [xwi (0 : Int32)] _
  exact retOut X0 hx Bd.returns rfl (Or.inl ⟨rfl, Or.inl rfl, _, rfl⟩) (hb B d18_4) hr
 ·show QrmA6 Z G  h0 n0 _ s₁.heap _
  rw [e0]
  exact ⟨rfl, N0, rfl⟩
theorem pd_17 : parseMethodDescriptor "(I)I" = some ⟨[.int], some .int⟩ := by decide +kernel
def d30_39 : DC kc30 39 (.istore_n 2) 1 := by decide +kernel
def d30_40 : DC kc30 40 (.iload_n 2) 1 := by decide +kernel
def d30_41 : DC kc30 41 (.aload_n 0) 1 := by decide +kernel
def d30_42 : DC kc30 42 (.getfield 7) 3 := by decide +kernel
def d30_45 : DC kc30 45 (.if_icmp .ge 22) 3 := by decide +kernel
def d30_48 : DC kc30 48 (.aload_n 0) 1 := by decide +kernel
def d30_49 : DC kc30 49 (.getfield 11) 3 := by decide +kernel
def d30_52 : DC kc30 52 (.iload_n 2) 1 := by decide +kernel
def d30_53 : DC kc30 53 (.laload) 1 := by decide +kernel
def d30_54 : DC kc30 54 (.lconst 1) 1 := by decide +kernel
def d30_55 : DC kc30 55 (.iload_n 1) 1 := by decide +kernel
def d30_56 : DC kc30 56 (.lshl) 1 := by decide +kernel
def d30_57 : DC kc30 57 (.land) 1 := by decide +kernel
def d30_58 : DC kc30 58 (.lconst 0) 1 := by decide +kernel
def d30_59 : DC kc30 59 (.lcmp) 1 := by decide +kernel
def d30_60 : DC kc30 60 (.ifCond .eq 7) 3 := by decide +kernel
def d30_67 : DC kc30 67 (.iconst 0) 1 := by decide +kernel
def d30_68 : DC kc30 68 (.ireturn) 1 := by decide +kernel
def QrmG1 (Z : State) (G : Gs) (ba wa : Addr) (kw : ClassId) (bu : Int32) (wx : Int64) (h0 : Heap) (n0 : Nat) (v : Option Value) (h : Heap) (L : List Loc) : Prop := v = some ZI ∧ Fr n0 L ∧ h = h0
theorem rmG1 (l : Launch) (Z : State) (a0 : Array Value) (hw : HW a0 Z) (G : Gs) (ST : StartF Z G) (ws : List Jvm.Cond) (ba wa : Addr) (kw : ClassId) (bu : Int32) (wx : Int64) (h0 : Heap) (n0 : Nat) (X00 : Old Z n0 h0) (bE : Exa Z h0 ba sg2) (bU : Fld Z h0 ba sg2 "wordsInUse" "I" (.int bu)) (bW : Fld Z h0 ba sg2 "words" "[J" (.ref wa)) (bV : Arv Z h0 wa kw .long (1 : Int32) [(.long wx)] (.long (0 : Int64))) (hbw : BW bu wx) :
  MF l Z ws mm29 jdk_92_method_26_code 3 (some .boolean) (rk 1 0 0 12) #[(.ref ba), (.int (1 : Int32))] h0 (QrmG1 Z G ba wa kw bu wx h0 n0) := by
 refine MetFree.of_bodySF (plainFor_of_name pn_9) hisR ?_
 intro p e s m args below meth c s₁ Bd hml0 hP hK
 obtain ⟨rfl, hZ, hh⟩ := hP
 have hx := Bd.exec
 have B := Bd.bytes
 have hml : c.maxLocals = 3 := hml0
 have hown : s.vm.findClass sg2 = some m.cls := findClass_of_methodNamed Bd.named
 have X0 : Stand p l e (rk 1 0 0 12) s m #[(.ref ba), (.int (1 : Int32))] below meth c s₁ [] 0 0 := Stand.of_body Bd
 have e0 : s₁.heap = h0 := by rw [← hh, Bd.state]; rfl
 have N0 := Fr.nil n0
 obtain ⟨TG, hTG, pre0⟩ := own_pre p e below s₁ (ef_rmG1 m ba (1 : Int32) )
 obtain ⟨cq10, q10, q10'⟩ := bE.cell
 obtain ⟨_, _, ⟨T11, L11, k11, n11⟩, -, X11, ⟨Lc11, hQ11, l11, y11, z11⟩, st11⟩ := X0.privateBack hx (y := mm27) hown (mvT hZ (w_211 hw)) (mvT hZ (w_212 hw)) (mvT hZ (w_214 hw)) (Cond.privateMethod_at (mvP hZ (w_213 hw) (args := #[]))) (mvT hZ (w_215 hw)) (by decide) (backOf (W := 0) (rmA5 l Z a0 hw G ST [] ba h0 n0 X00 ) hZ (w_215 hw) (w_116 hw) (by decide) (by decide)) (g := (mkF m 32 #[xvr ba, xvi (1 : Int32), xun] [xwr ba])) rfl (by rw [hml]; rfl) (Steps.refl _) (a := ba) (by rw [e0]; exact q10) q10' (argsL := []) (rest := []) (lenOf pd_16 rfl) rfl (Nat.le_of_eq rfl) (hb B d30_32) (fun _ _ => ⟨rfl, e0, (by decide : 0 + 0 ≤ _), (by decide : 0 + 0 ≤ _)⟩)
 dsimp only [Pt.U, Pt.locs, Pt.cells, Pt.slots] at X11 l11 y11 z11 st11 hQ11
 subst l11 y11 z11
 obtain ⟨rfl, N11q, e11⟩ := hQ11
 have N11 := Fr.app N0 N11q
 obtain ⟨_, _, ⟨T12, L12, k12, n12⟩, -, X12, ⟨Lc12, hQ12, l12, y12, z12⟩, st12⟩ := Jvm.LawKit.callS X11 hx (y := mm28) hown (mvT hZ (w_130 hw)) (mvT hZ (w_131 hw)) (mvT hZ (w_116 hw)) (mvT hZ (w_132 hw)) (by decide) (backOf (W := 0) (rmA6 l Z a0 hw G ST []  h0 n0 X00 ) hZ (w_132 hw) (w_116 hw) (by decide) (by decide)) (g := (mkF m 36 #[xvr ba, xvi (1 : Int32), xun] [xwi (1 : Int32)])) rfl (by rw [hml]; rfl) (argsL := [(.int (1 : Int32))]) (rest := []) (lenOf pd_17 rfl) rfl (Nat.le_of_eq rfl) (hb B d30_36) (fun _ _ => ⟨rfl, e11, (by decide : 0 + 0 ≤ _), (by decide : 0 + 0 ≤ _)⟩)
 dsimp only [Pt.U, Pt.locs, Pt.cells, Pt.slots] at X12 l12 y12 z12 st12 hQ12
 subst l12 y12 z12
 obtain ⟨rfl, N12q, e12⟩ := hQ12
 have N12 := Fr.app N11 N12q
 obtain ⟨T13, X13, e13, st13⟩ := getF X12 hx hZ hown (host := "") (Or.inl (w_121 hw)) Via.refl e12 bU (g := (mkF m 42 #[xvr ba, xvi (1 : Int32), xvi (0 : Int32)] [xwr ba, xwi (0 : Int32)])) rfl rfl (hb B d30_42)
 have c14 : ∀ t, Sx p e below T13 m 45 #[xvr ba, xvi (1 : Int32), xvi (0 : Int32)] [xwi bu, xwi (0 : Int32)] t → TG t := fun t k => pre0 t (by
  refine y_iloadN X0 hx 1 (hb B d30_0) rfl rfl <| y_ifYes X0 hx 31 (hb B d30_1) (XT.i0_ge_t (by decide)) rfl rfl <| y_aloadN X0 hx 32 (hb B d30_31) rfl rfl rfl ?_
  refine st11.trans ?_
  refine y_iloadN X11 hx 36 (hb B d30_35) rfl rfl ?_
  refine st12 _ ?_
  refine y_istoreN X12 hx 40 (hb B d30_39) (L' := #[xvr ba, xvi (1 : Int32), xvi (0 : Int32)]) rfl rfl <| y_iloadN X12 hx 41 (hb B d30_40) rfl rfl <| y_aloadN X12 hx 42 (hb B d30_41) rfl rfl rfl ?_
  refine st13 _ ?_
  exact k)
 by_cases hc15 : (0 : Int32) < bu
 ·obtain ⟨T16, X16, e16, st16⟩ := getF X13 hx hZ hown (host := "") (Or.inl (w_134 hw)) Via.refl e13 bW (g := (mkF m 49 #[xvr ba, xvi (1 : Int32), xvi (0 : Int32)] [xwr ba])) rfl rfl (hb B d30_49)
  obtain ⟨cl17, Ar17, q17, S17, M17, H17, G17⟩ := id bV
  have in17 : ¬ ((0 : Int32) < 0 ∨ cl17.slots.size ≤ ((0 : Int32)).toNatClampNeg) := inb_of S17 ⟨by decide, by decide⟩
  obtain ⟨fs, hr, hrun, hended, hW, hsame⟩ := X16.leave (v := some ZI) (own_rv Bd.returns)
  refine ⟨_, _, hTG _ (c14 _ ?_), hrun, hended, _, _, rfl, ?_, ⟨_, rfl⟩, hW, hsame.mono (by decide) (by decide)⟩
  ·refine y_icmpNo X13 hx 48 (hb B d30_45) (XT.ii_ge_f hc15) rfl <| y_aloadN X13 hx 49 (hb B d30_48) rfl rfl rfl ?_
   refine st16 _ ?_
   refine y_iloadN X16 hx 53 (hb B d30_52) rfl rfl ?_
   refine X16.laload hx (j := (0 : Int32)) (v := (.long wx)) (by rw [e16]; exact Ar17.1) (State.isArrayOf_alike hZ.alike Ar17.2.1) Ar17.2.2 in17 (Has.at H17 in17 rfl) (g := (mkF m 53 #[xvr ba, xvi (1 : Int32), xvi (0 : Int32)] [xwi (0 : Int32), xwr wa])) rfl rfl (hb B d30_53) _ ?_
   refine XS.lconst X16.here hx rfl (hb B d30_54) ?_
   refine y_iloadN X16 hx 56 (hb B d30_55) rfl rfl ?_
   show Sx p e below T16 m 56 #[xvr ba, xvi (1 : Int32), xvi (0 : Int32)] [xwi (1 : Int32), xwj (1 : Int64), xwj wx] _
   refine XS.lshl X16.here hx rfl (hb B d30_56) rfl ?_
   rw [show ((1 : Int64) <<< ((1 : Int32) &&& 0x3f).toInt64) = (2 : Int64) from by decide]
   refine y_land X16 hx 58 (hb B d30_57) rfl ?_
   refine XS.lconst X16.here hx rfl (hb B d30_58) ?_
   refine y_lcmp X16 hx 60 (hb B d30_59) rfl <| y_ifYes X16 hx 67 (hb B d30_60) (XT.ll_eq_t (own_bw hbw)) rfl rfl <| y_iconst X16 hx (0 : Int32) 68 (hb B d30_67) rfl rfl ?_
   show Sx p e below T16 m 68 #[xvr ba, xvi (1 : Int32), xvi (0 : Int32)] [xwi (0 : Int32)] _
   exact retN X16 hx (t := .boolean) Bd.returns (by simp) (hb B d30_68) (hr)
  ·show QrmG1 Z G ba wa kw bu wx h0 n0 _ T16.heap _
   rw [e16]
   exact ⟨rfl, N12, rfl⟩
 ·obtain ⟨fs, hr, hrun, hended, hW, hsame⟩ := X13.leave (v := some ZI) (own_rv Bd.returns)
  refine ⟨_, _, hTG _ (c14 _ ?_), hrun, hended, _, _, rfl, ?_, ⟨_, rfl⟩, hW, hsame.mono (by decide) (by decide)⟩
  ·refine y_icmpYes X13 hx 67 (hb B d30_45) (XT.ii_ge_t hc15) rfl rfl <| y_iconst X13 hx (0 : Int32) 68 (hb B d30_67) rfl rfl ?_
   show Sx p e below T13 m 68 #[xvr ba, xvi (1 : Int32), xvi (0 : Int32)] [xwi (0 : Int32)] _
   exact retN X13 hx (t := .boolean) Bd.returns (by simp) (hb B d30_68) (hr)
  ·show QrmG1 Z G ba wa kw bu wx h0 n0 _ T13.heap _
   rw [e13]
   exact ⟨rfl, N12, rfl⟩
abbrev kc23 : ByteArray := jdk_92_method_33_code
def d23_0 : DC kc23 0 (.aload_n 0) 1 := by decide +kernel
def d23_1 : DC kc23 1 (.getfield 7) 3 := by decide +kernel
def d23_4 : DC kc23 4 (.ifCond .ne 7) 3 := by decide +kernel
def d23_7 : DC kc23 7 (.iconst 1) 1 := by decide +kernel
def d23_8 : DC kc23 8 (.goto 4) 3 := by decide +kernel
def d23_12 : DC kc23 12 (.ireturn) 1 := by decide +kernel
def d23_11 : DC kc23 11 (.iconst 0) 1 := by decide +kernel
def QrmEm (Z : State) (G : Gs) (ba : Addr) (bu : Int32) (h0 : Heap) (n0 : Nat) (v : Option Value) (h : Heap) (L : List Loc) : Prop := ∃ (ex : Int32), v = some (.int ex) ∧ Fr n0 L ∧ h = h0 ∧ ((ex = 1 ∧ bu = (0 : Int32)) ∨ (ex = 0 ∧ ¬ bu = (0 : Int32)))
theorem rmEm (l : Launch) (Z : State) (a0 : Array Value) (hw : HW a0 Z) (G : Gs) (ST : StartF Z G) (ws : List Jvm.Cond) (ba : Addr) (bu : Int32) (h0 : Heap) (n0 : Nat) (X00 : Old Z n0 h0) (F1 : Fld Z h0 ba sg2 "wordsInUse" "I" (.int bu)) :
  MF l Z ws mm30 jdk_92_method_33_code 1 (some .boolean) (rk 0 0 0 0) #[(.ref ba)] h0 (QrmEm Z G ba bu h0 n0) := by
 refine MetFree.of_bodySF (plainFor_of_name pn_9) hisR ?_
 intro p e s m args below meth c s₁ Bd hml0 hP hK
 obtain ⟨rfl, hZ, hh⟩ := hP
 have hx := Bd.exec
 have B := Bd.bytes
 have hown : s.vm.findClass sg2 = some m.cls := findClass_of_methodNamed Bd.named
 have X0 : Stand p l e (rk 0 0 0 0) s m #[(.ref ba)] below meth c s₁ [] 0 0 := Stand.of_body Bd
 have e0 : s₁.heap = h0 := by rw [← hh, Bd.state]; rfl
 have N0 := Fr.nil n0
 obtain ⟨TG, hTG, pre0⟩ := own_pre p e below s₁ (ef_rmL1 m ba )
 obtain ⟨T10, X10, e10, st10⟩ := getF X0 hx hZ hown (host := "") (Or.inl (w_121 hw)) Via.refl e0 F1 (g := (mkF m 1 #[xvr ba] [xwr ba])) rfl rfl (hb B d23_1)
 have c11 : ∀ t, Sx p e below T10 m 4 #[xvr ba] [xwi bu] t → TG t := fun t k => pre0 t (by
  refine y_aloadN X0 hx 1 (hb B d23_0) rfl rfl rfl ?_
  refine st10 _ ?_
  exact k)
 by_cases hc12 : bu = (0 : Int32)
 ·obtain ⟨fs, hr, hrun, hended, hW, hsame⟩ := X10.leave (v := some (.int (1 : Int32))) (own_rv Bd.returns)
  refine ⟨_, _, hTG _ (c11 _ ?_), hrun, hended, _, _, rfl, ?_, ⟨_, rfl⟩, hW, hsame.mono (by decide) (by decide)⟩
  ·refine y_ifNo X10 hx 7 (hb B d23_4) (XT.i0_ne_f hc12) rfl <| y_iconst X10 hx (1 : Int32) 8 (hb B d23_7) rfl rfl <| y_goto X10 hx 12 (hb B d23_8) rfl rfl ?_
   show Sx p e below T10 m 12 #[xvr ba] [xwi (1 : Int32)] _
   exact retN X10 hx (t := .boolean) Bd.returns (by simp) (hb B d23_12) (hr)
  ·show QrmEm Z G ba bu h0 n0 _ T10.heap _
   rw [e10]
   exact ⟨(1 : Int32), rfl, N0, rfl, (Or.inl ⟨rfl, hc12⟩)⟩
 ·obtain ⟨fs, hr, hrun, hended, hW, hsame⟩ := X10.leave (v := some ZI) (own_rv Bd.returns)
  refine ⟨_, _, hTG _ (c11 _ ?_), hrun, hended, _, _, rfl, ?_, ⟨_, rfl⟩, hW, hsame.mono (by decide) (by decide)⟩
  ·refine y_ifYes X10 hx 11 (hb B d23_4) (XT.i0_ne_t hc12) rfl rfl <| y_iconst X10 hx (0 : Int32) 12 (hb B d23_11) rfl rfl ?_
   show Sx p e below T10 m 12 #[xvr ba] [xwi (0 : Int32)] _
   exact retN X10 hx (t := .boolean) Bd.returns (by simp) (hb B d23_12) (hr)
  ·show QrmEm Z G ba bu h0 n0 _ T10.heap _
   rw [e10]
   exact ⟨(0 : Int32), rfl, N0, rfl, (Or.inr ⟨rfl, hc12⟩)⟩
abbrev kc22 : ByteArray := prog_54_method_3_code
def d22_0 : DC kc22 0 (.aload_n 0) 1 := by decide +kernel
def d22_1 : DC kc22 1 (.getfield 24) 3 := by decide +kernel
def d22_4 : DC kc22 4 (.invokevirtual 82) 3 := by decide +kernel
def d22_7 : DC kc22 7 (.ifCond .ne 7) 3 := by decide +kernel
def d22_14 : DC kc22 14 (.iconst 0) 1 := by decide +kernel
def d22_15 : DC kc22 15 (.ireturn) 1 := by decide +kernel
def d22_10 : DC kc22 10 (.iconst 1) 1 := by decide +kernel
def d22_11 : DC kc22 11 (.goto 4) 3 := by decide +kernel
def QrmAnG (Z : State) (G : Gs) (ta ba : Addr) (bu : Int32) (h0 : Heap) (n0 : Nat) (v : Option Value) (h : Heap) (L : List Loc) : Prop := v = some (.int bu) ∧ Fr n0 L ∧ h = h0
theorem rmAnG (l : Launch) (Z : State) (a0 : Array Value) (hw : HW a0 Z) (G : Gs) (ST : StartF Z G) (ws : List Jvm.Cond) (ta ba : Addr) (bu : Int32) (h0 : Heap) (n0 : Nat) (X00 : Old Z n0 h0) (tE : Exa Z h0 ta sg0) (tB : Fld Z h0 ta sg0 "outOfOrder" sg6 (.ref ba)) (bE : Exa Z h0 ba sg2) (F1 : Fld Z h0 ba sg2 "wordsInUse" "I" (.int bu)) (h01 : (bu = 1 ∨ bu = 0)) :
  MF l Z ws mm31 prog_54_method_3_code 1 (some .boolean) (rk 1 0 0 12) #[(.ref ta)] h0 (QrmAnG Z G ta ba bu h0 n0) := by
 refine MetFree.of_bodySF (plainFor_of_name pn_2) hisR ?_
 intro p e s m args below meth c s₁ Bd hml0 hP hK
 obtain ⟨rfl, hZ, hh⟩ := hP
 have hx := Bd.exec
 have B := Bd.bytes
 have hml : c.maxLocals = 1 := hml0
 have hown : s.vm.findClass sg0 = some m.cls := findClass_of_methodNamed Bd.named
 have X0 : Stand p l e (rk 1 0 0 12) s m #[(.ref ta)] below meth c s₁ [] 0 0 := Stand.of_body Bd
 have e0 : s₁.heap = h0 := by rw [← hh, Bd.state]; rfl
 have N0 := Fr.nil n0
 obtain ⟨TG, hTG, pre0⟩ := own_pre p e below s₁ (ef_rmL1 m ta )
 obtain ⟨T10, X10, e10, st10⟩ := getF X0 hx hZ hown (host := "") (Or.inl (w_136 hw)) Via.refl e0 tB (g := (mkF m 1 #[xvr ta] [xwr ta])) rfl rfl (hb B d22_1)
 obtain ⟨cq11, kq11, q11a, q11b, q11c⟩ := isOf hZ e10 bE
 obtain ⟨_, _, ⟨T12, L12, k12, n12⟩, -, X12, ⟨Lc12, hQ12, l12, y12, z12⟩, st12⟩ := X10.virtualBack hx (y := mm30) (z := mm30) hown (mvT hZ (w_168 hw)) (mvT hZ (w_169 hw)) (notFace_of_selects (args := #[]) (mvT hZ (w_171 hw))) (mvT hZ (w_171 hw)) (mvT hZ (w_170 hw)) (by decide) (backOf (W := 0) (rmEm l Z a0 hw G ST [] ba bu h0 n0 X00 F1) hZ (w_172 hw) (w_116 hw) (by decide) (by decide)) q11a q11c (g := (mkF m 4 #[xvr ta] [xwr ba])) rfl (by rw [hml]; rfl) (Steps.refl _) (argsL := []) (rest := []) (lenOf pd_3 rfl) rfl (Nat.le_of_eq rfl) (hb B d22_4) (fun _ _ => ⟨rfl, e10, (by decide : 0 + 0 ≤ _), (by decide : 0 + 0 ≤ _)⟩)
 dsimp only [Pt.U, Pt.locs, Pt.cells, Pt.slots] at X12 l12 y12 z12 st12 hQ12
 subst l12 y12 z12
 obtain ⟨o13, rfl, N12q, e12, p14⟩ := hQ12
 have N12 := Fr.app N0 N12q
 have c15 : ∀ t, Sx p e below T12 m 7 #[xvr ta] [xwi o13] t → TG t := fun t k => pre0 t (by
  refine y_aloadN X0 hx 1 (hb B d22_0) rfl rfl rfl ?_
  refine st10 _ ?_
  refine st12.trans ?_
  exact k)
 rcases p14 with hk16 | hk16
 ·obtain ⟨fs, hr, hrun, hended, hW, hsame⟩ := X12.leave (v := some (.int bu)) (own_rv Bd.returns)
  refine ⟨_, _, hTG _ (c15 _ ?_), hrun, hended, _, _, rfl, ?_, ⟨_, rfl⟩, hW, hsame.mono (by decide) (by decide)⟩
  ·rw [hk16.1]
   refine y_ifYes X12 hx 14 (hb B d22_7) (XT.i0_ne_t (by decide)) rfl rfl <| y_iconst X12 hx (0 : Int32) 15 (hb B d22_14) rfl rfl ?_
   rw [(show (0 : Int32) = bu from hk16.2.symm)]
   show Sx p e below T12 m 15 #[xvr ta] [xwi bu] _
   exact retN X12 hx (t := .boolean) Bd.returns (by simp) (hb B d22_15) ((by rw [own_n01 h01]; exact hr))
  ·show QrmAnG Z G ta ba bu h0 n0 _ T12.heap _
   rw [e12]
   exact ⟨rfl, N12, rfl⟩
 ·obtain ⟨fs, hr, hrun, hended, hW, hsame⟩ := X12.leave (v := some (.int bu)) (own_rv Bd.returns)
  refine ⟨_, _, hTG _ (c15 _ ?_), hrun, hended, _, _, rfl, ?_, ⟨_, rfl⟩, hW, hsame.mono (by decide) (by decide)⟩
  ·rw [hk16.1]
   refine y_ifNo X12 hx 10 (hb B d22_7) (XT.i0_ne_f (by decide)) rfl <| y_iconst X12 hx (1 : Int32) 11 (hb B d22_10) rfl rfl <| y_goto X12 hx 15 (hb B d22_11) rfl rfl ?_
   rw [(show (1 : Int32) = bu from (own_one h01 hk16.2))]
   show Sx p e below T12 m 15 #[xvr ta] [xwi bu] _
   exact retN X12 hx (t := .boolean) Bd.returns (by simp) (hb B d22_15) ((by rw [own_n01 h01]; exact hr))
  ·show QrmAnG Z G ta ba bu h0 n0 _ T12.heap _
   rw [e12]
   exact ⟨rfl, N12, rfl⟩
def QrmEm0 (Z : State) (G : Gs) (ba : Addr) (h0 : Heap) (n0 : Nat) (v : Option Value) (h : Heap) (L : List Loc) : Prop := v = some (.int (1 : Int32)) ∧ Fr n0 L ∧ h = h0
theorem rmEm0 (l : Launch) (Z : State) (a0 : Array Value) (hw : HW a0 Z) (G : Gs) (ST : StartF Z G) (ws : List Jvm.Cond) (ba : Addr) (h0 : Heap) (n0 : Nat) (X00 : Old Z n0 h0) (F1 : Fld Z h0 ba sg2 "wordsInUse" "I" ZI) :
  MF l Z ws mm30 jdk_92_method_33_code 1 (some .boolean) (rk 0 0 0 0) #[(.ref ba)] h0 (QrmEm0 Z G ba h0 n0) := by
 refine MetFree.of_bodySF (plainFor_of_name pn_9) hisR ?_
 intro p e s m args below meth c s₁ Bd hml0 hP hK
 obtain ⟨rfl, hZ, hh⟩ := hP
 have hx := Bd.exec
 have B := Bd.bytes
 have hown : s.vm.findClass sg2 = some m.cls := findClass_of_methodNamed Bd.named
 have X0 : Stand p l e (rk 0 0 0 0) s m #[(.ref ba)] below meth c s₁ [] 0 0 := Stand.of_body Bd
 have e0 : s₁.heap = h0 := by rw [← hh, Bd.state]; rfl
 have N0 := Fr.nil n0
 obtain ⟨TG, hTG, pre0⟩ := own_pre p e below s₁ (ef_rmL1 m ba )
 obtain ⟨T10, X10, e10, st10⟩ := getF X0 hx hZ hown (host := "") (Or.inl (w_121 hw)) Via.refl e0 F1 (g := (mkF m 1 #[xvr ba] [xwr ba])) rfl rfl (hb B d23_1)
 obtain ⟨fs, hr, hrun, hended, hW, hsame⟩ := X10.leave (v := some (.int (1 : Int32))) (own_rv Bd.returns)
 refine ⟨_, _, hTG _ (pre0 _ ?_), hrun, hended, _, _, rfl, ?_, ⟨_, rfl⟩, hW, hsame.mono (by decide) (by decide)⟩
 ·refine y_aloadN X0 hx 1 (hb B d23_0) rfl rfl rfl ?_
  refine st10 _ ?_
  refine y_ifNo X10 hx 7 (hb B d23_4) (XT.i0_ne_f (by decide)) rfl <| y_iconst X10 hx (1 : Int32) 8 (hb B d23_7) rfl rfl <| y_goto X10 hx 12 (hb B d23_8) rfl rfl ?_
  show Sx p e below T10 m 12 #[xvr ba] [xwi (1 : Int32)] _
  exact retN X10 hx (t := .boolean) Bd.returns (by simp) (hb B d23_12) (hr)
 ·show QrmEm0 Z G ba h0 n0 _ T10.heap _
  rw [e10]
  exact ⟨rfl, N0, rfl⟩
def QrmAn0 (Z : State) (G : Gs) (ta ba : Addr) (h0 : Heap) (n0 : Nat) (v : Option Value) (h : Heap) (L : List Loc) : Prop := v = some ZI ∧ Fr n0 L ∧ h = h0
theorem rmAn0 (l : Launch) (Z : State) (a0 : Array Value) (hw : HW a0 Z) (G : Gs) (ST : StartF Z G) (ws : List Jvm.Cond) (ta ba : Addr) (h0 : Heap) (n0 : Nat) (X00 : Old Z n0 h0) (tE : Exa Z h0 ta sg0) (tB : Fld Z h0 ta sg0 "outOfOrder" sg6 (.ref ba)) (bE : Exa Z h0 ba sg2) (F1 : Fld Z h0 ba sg2 "wordsInUse" "I" ZI) :
  MF l Z ws mm31 prog_54_method_3_code 1 (some .boolean) (rk 1 0 0 12) #[(.ref ta)] h0 (QrmAn0 Z G ta ba h0 n0) := by
 refine MetFree.of_bodySF (plainFor_of_name pn_2) hisR ?_
 intro p e s m args below meth c s₁ Bd hml0 hP hK
 obtain ⟨rfl, hZ, hh⟩ := hP
 have hx := Bd.exec
 have B := Bd.bytes
 have hml : c.maxLocals = 1 := hml0
 have hown : s.vm.findClass sg0 = some m.cls := findClass_of_methodNamed Bd.named
 have X0 : Stand p l e (rk 1 0 0 12) s m #[(.ref ta)] below meth c s₁ [] 0 0 := Stand.of_body Bd
 have e0 : s₁.heap = h0 := by rw [← hh, Bd.state]; rfl
 have N0 := Fr.nil n0
 obtain ⟨TG, hTG, pre0⟩ := own_pre p e below s₁ (ef_rmL1 m ta )
 obtain ⟨T10, X10, e10, st10⟩ := getF X0 hx hZ hown (host := "") (Or.inl (w_136 hw)) Via.refl e0 tB (g := (mkF m 1 #[xvr ta] [xwr ta])) rfl rfl (hb B d22_1)
 obtain ⟨cq11, kq11, q11a, q11b, q11c⟩ := isOf hZ e10 bE
 obtain ⟨_, _, ⟨T12, L12, k12, n12⟩, -, X12, ⟨Lc12, hQ12, l12, y12, z12⟩, st12⟩ := X10.virtualBack hx (y := mm30) (z := mm30) hown (mvT hZ (w_168 hw)) (mvT hZ (w_169 hw)) (notFace_of_selects (args := #[]) (mvT hZ (w_171 hw))) (mvT hZ (w_171 hw)) (mvT hZ (w_170 hw)) (by decide) (backOf (W := 0) (rmEm0 l Z a0 hw G ST [] ba h0 n0 X00 F1) hZ (w_172 hw) (w_116 hw) (by decide) (by decide)) q11a q11c (g := (mkF m 4 #[xvr ta] [xwr ba])) rfl (by rw [hml]; rfl) (Steps.refl _) (argsL := []) (rest := []) (lenOf pd_3 rfl) rfl (Nat.le_of_eq rfl) (hb B d22_4) (fun _ _ => ⟨rfl, e10, (by decide : 0 + 0 ≤ _), (by decide : 0 + 0 ≤ _)⟩)
 dsimp only [Pt.U, Pt.locs, Pt.cells, Pt.slots] at X12 l12 y12 z12 st12 hQ12
 subst l12 y12 z12
 obtain ⟨rfl, N12q, e12⟩ := hQ12
 have N12 := Fr.app N0 N12q
 obtain ⟨fs, hr, hrun, hended, hW, hsame⟩ := X12.leave (v := some ZI) (own_rv Bd.returns)
 refine ⟨_, _, hTG _ (pre0 _ ?_), hrun, hended, _, _, rfl, ?_, ⟨_, rfl⟩, hW, hsame.mono (by decide) (by decide)⟩
 ·refine y_aloadN X0 hx 1 (hb B d22_0) rfl rfl rfl ?_
  refine st10 _ ?_
  refine st12.trans ?_
  refine y_ifYes X12 hx 14 (hb B d22_7) (XT.i0_ne_t (by decide)) rfl rfl <| y_iconst X12 hx (0 : Int32) 15 (hb B d22_14) rfl rfl ?_
  show Sx p e below T12 m 15 #[xvr ta] [xwi (0 : Int32)] _
  exact retN X12 hx (t := .boolean) Bd.returns (by simp) (hb B d22_15) (hr)
 ·show QrmAn0 Z G ta ba h0 n0 _ T12.heap _
  rw [e12]
  exact ⟨rfl, N12, rfl⟩
def QrmEm1 (Z : State) (G : Gs) (ba : Addr) (h0 : Heap) (n0 : Nat) (v : Option Value) (h : Heap) (L : List Loc) : Prop := v = some ZI ∧ Fr n0 L ∧ h = h0
theorem rmEm1 (l : Launch) (Z : State) (a0 : Array Value) (hw : HW a0 Z) (G : Gs) (ST : StartF Z G) (ws : List Jvm.Cond) (ba : Addr) (h0 : Heap) (n0 : Nat) (X00 : Old Z n0 h0) (F1 : Fld Z h0 ba sg2 "wordsInUse" "I" (.int (1 : Int32))) :
  MF l Z ws mm30 jdk_92_method_33_code 1 (some .boolean) (rk 0 0 0 0) #[(.ref ba)] h0 (QrmEm1 Z G ba h0 n0) := by
 refine MetFree.of_bodySF (plainFor_of_name pn_9) hisR ?_
 intro p e s m args below meth c s₁ Bd hml0 hP hK
 obtain ⟨rfl, hZ, hh⟩ := hP
 have hx := Bd.exec
 have B := Bd.bytes
 have hown : s.vm.findClass sg2 = some m.cls := findClass_of_methodNamed Bd.named
 have X0 : Stand p l e (rk 0 0 0 0) s m #[(.ref ba)] below meth c s₁ [] 0 0 := Stand.of_body Bd
 have e0 : s₁.heap = h0 := by rw [← hh, Bd.state]; rfl
 have N0 := Fr.nil n0
 obtain ⟨TG, hTG, pre0⟩ := own_pre p e below s₁ (ef_rmL1 m ba )
 obtain ⟨T10, X10, e10, st10⟩ := getF X0 hx hZ hown (host := "") (Or.inl (w_121 hw)) Via.refl e0 F1 (g := (mkF m 1 #[xvr ba] [xwr ba])) rfl rfl (hb B d23_1)
 obtain ⟨fs, hr, hrun, hended, hW, hsame⟩ := X10.leave (v := some ZI) (own_rv Bd.returns)
 refine ⟨_, _, hTG _ (pre0 _ ?_), hrun, hended, _, _, rfl, ?_, ⟨_, rfl⟩, hW, hsame.mono (by decide) (by decide)⟩
 ·refine y_aloadN X0 hx 1 (hb B d23_0) rfl rfl rfl ?_
  refine st10 _ ?_
  refine y_ifYes X10 hx 11 (hb B d23_4) (XT.i0_ne_t (by decide)) rfl rfl <| y_iconst X10 hx (0 : Int32) 12 (hb B d23_11) rfl rfl ?_
  show Sx p e below T10 m 12 #[xvr ba] [xwi (0 : Int32)] _
  exact retN X10 hx (t := .boolean) Bd.returns (by simp) (hb B d23_12) (hr)
 ·show QrmEm1 Z G ba h0 n0 _ T10.heap _
  rw [e10]
  exact ⟨rfl, N0, rfl⟩
def QrmAn1 (Z : State) (G : Gs) (ta ba : Addr) (h0 : Heap) (n0 : Nat) (v : Option Value) (h : Heap) (L : List Loc) : Prop := v = some (.int (1 : Int32)) ∧ Fr n0 L ∧ h = h0
theorem rmAn1 (l : Launch) (Z : State) (a0 : Array Value) (hw : HW a0 Z) (G : Gs) (ST : StartF Z G) (ws : List Jvm.Cond) (ta ba : Addr) (h0 : Heap) (n0 : Nat) (X00 : Old Z n0 h0) (tE : Exa Z h0 ta sg0) (tB : Fld Z h0 ta sg0 "outOfOrder" sg6 (.ref ba)) (bE : Exa Z h0 ba sg2) (F1 : Fld Z h0 ba sg2 "wordsInUse" "I" (.int (1 : Int32))) :
  MF l Z ws mm31 prog_54_method_3_code 1 (some .boolean) (rk 1 0 0 12) #[(.ref ta)] h0 (QrmAn1 Z G ta ba h0 n0) := by
 refine MetFree.of_bodySF (plainFor_of_name pn_2) hisR ?_
 intro p e s m args below meth c s₁ Bd hml0 hP hK
 obtain ⟨rfl, hZ, hh⟩ := hP
 have hx := Bd.exec
 have B := Bd.bytes
 have hml : c.maxLocals = 1 := hml0
 have hown : s.vm.findClass sg0 = some m.cls := findClass_of_methodNamed Bd.named
 have X0 : Stand p l e (rk 1 0 0 12) s m #[(.ref ta)] below meth c s₁ [] 0 0 := Stand.of_body Bd
 have e0 : s₁.heap = h0 := by rw [← hh, Bd.state]; rfl
 have N0 := Fr.nil n0
 obtain ⟨TG, hTG, pre0⟩ := own_pre p e below s₁ (ef_rmL1 m ta )
 obtain ⟨T10, X10, e10, st10⟩ := getF X0 hx hZ hown (host := "") (Or.inl (w_136 hw)) Via.refl e0 tB (g := (mkF m 1 #[xvr ta] [xwr ta])) rfl rfl (hb B d22_1)
 obtain ⟨cq11, kq11, q11a, q11b, q11c⟩ := isOf hZ e10 bE
 obtain ⟨_, _, ⟨T12, L12, k12, n12⟩, -, X12, ⟨Lc12, hQ12, l12, y12, z12⟩, st12⟩ := X10.virtualBack hx (y := mm30) (z := mm30) hown (mvT hZ (w_168 hw)) (mvT hZ (w_169 hw)) (notFace_of_selects (args := #[]) (mvT hZ (w_171 hw))) (mvT hZ (w_171 hw)) (mvT hZ (w_170 hw)) (by decide) (backOf (W := 0) (rmEm1 l Z a0 hw G ST [] ba h0 n0 X00 F1) hZ (w_172 hw) (w_116 hw) (by decide) (by decide)) q11a q11c (g := (mkF m 4 #[xvr ta] [xwr ba])) rfl (by rw [hml]; rfl) (Steps.refl _) (argsL := []) (rest := []) (lenOf pd_3 rfl) rfl (Nat.le_of_eq rfl) (hb B d22_4) (fun _ _ => ⟨rfl, e10, (by decide : 0 + 0 ≤ _), (by decide : 0 + 0 ≤ _)⟩)
 dsimp only [Pt.U, Pt.locs, Pt.cells, Pt.slots] at X12 l12 y12 z12 st12 hQ12
 subst l12 y12 z12
 obtain ⟨rfl, N12q, e12⟩ := hQ12
 have N12 := Fr.app N0 N12q
 obtain ⟨fs, hr, hrun, hended, hW, hsame⟩ := X12.leave (v := some (.int (1 : Int32))) (own_rv Bd.returns)
 refine ⟨_, _, hTG _ (pre0 _ ?_), hrun, hended, _, _, rfl, ?_, ⟨_, rfl⟩, hW, hsame.mono (by decide) (by decide)⟩
 ·refine y_aloadN X0 hx 1 (hb B d22_0) rfl rfl rfl ?_
  refine st10 _ ?_
  refine st12.trans ?_
  refine y_ifNo X12 hx 10 (hb B d22_7) (XT.i0_ne_f (by decide)) rfl <| y_iconst X12 hx (1 : Int32) 11 (hb B d22_10) rfl rfl <| y_goto X12 hx 15 (hb B d22_11) rfl rfl ?_
  show Sx p e below T12 m 15 #[xvr ta] [xwi (1 : Int32)] _
  exact retN X12 hx (t := .boolean) Bd.returns (by simp) (hb B d22_15) (hr)
 ·show QrmAn1 Z G ta ba h0 n0 _ T12.heap _
  rw [e12]
  exact ⟨rfl, N12, rfl⟩
abbrev kc6 : ByteArray := method_2_code
def d6_0 : DC kc6 0 (.iload_n 0) 1 := by decide +kernel
def d6_1 : DC kc6 1 (.ifCond .ne 7) 3 := by decide +kernel
def d6_4 : DC kc6 4 (.getstatic 7) 3 := by decide +kernel
def d6_7 : DC kc6 7 (.areturn) 1 := by decide +kernel
def d6_8 : DC kc6 8 (.iload_n 0) 1 := by decide +kernel
def d6_9 : DC kc6 9 (.iconst 1) 1 := by decide +kernel
def d6_10 : DC kc6 10 (.if_icmp .ne 7) 3 := by decide +kernel
def d6_13 : DC kc6 13 (.getstatic 13) 3 := by decide +kernel
def d6_16 : DC kc6 16 (.areturn) 1 := by decide +kernel
def d6_17 : DC kc6 17 (.iload_n 0) 1 := by decide +kernel
def d6_18 : DC kc6 18 (.iconst 2) 1 := by decide +kernel
def d6_19 : DC kc6 19 (.if_icmp .ne 7) 3 := by decide +kernel
def d6_22 : DC kc6 22 (.getstatic 16) 3 := by decide +kernel
def d6_25 : DC kc6 25 (.areturn) 1 := by decide +kernel
def d6_26 : DC kc6 26 (.iload_n 0) 1 := by decide +kernel
def d6_27 : DC kc6 27 (.iconst 3) 1 := by decide +kernel
def d6_28 : DC kc6 28 (.if_icmp .ne 7) 3 := by decide +kernel
def d6_31 : DC kc6 31 (.getstatic 19) 3 := by decide +kernel
def d6_34 : DC kc6 34 (.areturn) 1 := by decide +kernel
def d6_35 : DC kc6 35 (.iload_n 0) 1 := by decide +kernel
def d6_36 : DC kc6 36 (.iconst 4) 1 := by decide +kernel
def d6_37 : DC kc6 37 (.if_icmp .ne 7) 3 := by decide +kernel
def d6_40 : DC kc6 40 (.getstatic 22) 3 := by decide +kernel
def d6_43 : DC kc6 43 (.areturn) 1 := by decide +kernel
def d6_44 : DC kc6 44 (.iload_n 0) 1 := by decide +kernel
def d6_45 : DC kc6 45 (.iconst 5) 1 := by decide +kernel
def d6_46 : DC kc6 46 (.if_icmp .ne 7) 3 := by decide +kernel
def d6_49 : DC kc6 49 (.getstatic 25) 3 := by decide +kernel
def d6_52 : DC kc6 52 (.areturn) 1 := by decide +kernel
def d6_53 : DC kc6 53 (.iload_n 0) 1 := by decide +kernel
def d6_54 : DC kc6 54 (.bipush 6) 2 := by decide +kernel
def d6_56 : DC kc6 56 (.if_icmp .ne 7) 3 := by decide +kernel
def d6_59 : DC kc6 59 (.getstatic 28) 3 := by decide +kernel
def d6_62 : DC kc6 62 (.areturn) 1 := by decide +kernel
def d6_63 : DC kc6 63 (.iload_n 0) 1 := by decide +kernel
def d6_64 : DC kc6 64 (.bipush 7) 2 := by decide +kernel
def d6_66 : DC kc6 66 (.if_icmp .ne 7) 3 := by decide +kernel
def d6_69 : DC kc6 69 (.getstatic 31) 3 := by decide +kernel
def d6_72 : DC kc6 72 (.areturn) 1 := by decide +kernel
def d6_73 : DC kc6 73 (.getstatic 34) 3 := by decide +kernel
def d6_76 : DC kc6 76 (.areturn) 1 := by decide +kernel
theorem pn_10 : plainName "com/example/planwright/planwright/model/LatestPayDatesAnyOutOfOrderPinLaw" = true := by first | (simp [plainName, overriddenIn]; done) | decide +kernel
def QrmIt (Z : State) (G : Gs) (kx : Int32) (h0 : Heap) (n0 : Nat) (v : Option Value) (h : Heap) (L : List Loc) : Prop := ∃ (it : Addr), v = some (.ref it) ∧ Fr n0 L ∧ Keep h0 h [] ∧ Exa Z h it sg4 ∧ Fld Z h it sg7 "ordinal" "I" (.int kx) ∧ it < Z.heap.size
theorem rmIt (l : Launch) (Z : State) (a0 : Array Value) (hw : HW a0 Z) (G : Gs) (ST : StartF Z G) (ws : List Jvm.Cond) (kx : Int32) (h0 : Heap) (n0 : Nat) (X00 : Old Z n0 h0) (hk9 : (¬ kx < 0 ∧ kx < (9 : Int32))) :
  MF l Z ws mm32 method_2_code 1 (some (.object sg4)) (rk 0 0 0 0) #[(.int kx)] h0 (QrmIt Z G kx h0 n0) := by
 refine MetFree.of_bodySF (plainFor_of_name pn_10) hisR ?_
 intro p e s m args below meth c s₁ Bd hml0 hP hK
 obtain ⟨rfl, hZ, hh⟩ := hP
 have hx := Bd.exec
 have B := Bd.bytes
 have hown : s.vm.findClass sg10 = some m.cls := findClass_of_methodNamed Bd.named
 have X0 : Stand p l e (rk 0 0 0 0) s m #[(.int kx)] below meth c s₁ [] 0 0 := Stand.of_body Bd
 have e0 : s₁.heap = h0 := by rw [← hh, Bd.state]; rfl
 have N0 := Fr.nil n0
 obtain ⟨TG, hTG, pre0⟩ := own_pre p e below s₁ (ef_rmCE m kx )
 have c10 : ∀ t, Sx p e below s₁ m 1 #[xvi kx] [xwi kx] t → TG t := fun t k => pre0 t (by
  refine y_iloadN X0 hx 1 (hb B d6_0) rfl rfl ?_
  exact k)
 by_cases hc11 : kx = (0 : Int32)
 ·obtain ⟨T12, X12, e12, st12⟩ := getS2 X0 hx hZ hown (host := "") (Or.inl (w_33 hw)) Via.refl e0 (ST.c16.ext X00.2) (g := (mkF m 4 #[xvi kx] [])) rfl (hb B d6_4)
  have fi13 : Fld Z h0 G.a4 sg7 "ordinal" "I" (.int kx) := by rw [hc11]; exact (ST.c18.ext X00.2)
  obtain ⟨fs, hr, hrun, hended, hW, hsame⟩ := X12.leave (v := some (.ref G.a4)) (own_rv Bd.returns)
  refine ⟨_, _, hTG _ (c10 _ ?_), hrun, hended, _, _, rfl, ?_, ⟨_, rfl⟩, hW, hsame.mono (by decide) (by decide)⟩
  ·refine y_ifNo X0 hx 4 (hb B d6_1) (XT.i0_ne_f hc11) rfl ?_
   refine st12 _ ?_
   show Sx p e below T12 m 7 #[xvi kx] [xwr G.a4] _
   exact retOut X12 hx Bd.returns rfl (Or.inr (Or.inr (Or.inr (Or.inr ⟨rfl, rfl, rfl⟩)))) (hb B d6_7) hr
  ·show QrmIt Z G kx h0 n0 _ T12.heap _
   rw [e12]
   exact ⟨G.a4, rfl, N0, (Keep.refl h0 []), (ST.c17.ext X00.2), fi13, ST.c17.lt⟩
 ·have c14 : ∀ t, Sx p e below s₁ m 10 #[xvi kx] [xwi (1 : Int32), xwi kx] t → TG t := fun t k => c10 t (by
   refine y_ifYes X0 hx 8 (hb B d6_1) (XT.i0_ne_t hc11) rfl rfl <| y_iloadN X0 hx 9 (hb B d6_8) rfl rfl <| y_iconst X0 hx (1 : Int32) 10 (hb B d6_9) rfl rfl ?_
   exact k)
  by_cases hc15 : kx = (1 : Int32)
  ·obtain ⟨T16, X16, e16, st16⟩ := getS2 X0 hx hZ hown (host := "") (Or.inl (w_301 hw)) Via.refl e0 (ST.c19.ext X00.2) (g := (mkF m 13 #[xvi kx] [])) rfl (hb B d6_13)
   have fi17 : Fld Z h0 G.a5 sg7 "ordinal" "I" (.int kx) := by rw [hc15]; exact (ST.c21.ext X00.2)
   obtain ⟨fs, hr, hrun, hended, hW, hsame⟩ := X16.leave (v := some (.ref G.a5)) (own_rv Bd.returns)
   refine ⟨_, _, hTG _ (c14 _ ?_), hrun, hended, _, _, rfl, ?_, ⟨_, rfl⟩, hW, hsame.mono (by decide) (by decide)⟩
   ·refine y_icmpNo X0 hx 13 (hb B d6_10) (XT.ii_ne_f hc15) rfl ?_
    refine st16 _ ?_
    show Sx p e below T16 m 16 #[xvi kx] [xwr G.a5] _
    exact retOut X16 hx Bd.returns rfl (Or.inr (Or.inr (Or.inr (Or.inr ⟨rfl, rfl, rfl⟩)))) (hb B d6_16) hr
   ·show QrmIt Z G kx h0 n0 _ T16.heap _
    rw [e16]
    exact ⟨G.a5, rfl, N0, (Keep.refl h0 []), (ST.c20.ext X00.2), fi17, ST.c20.lt⟩
  ·have c18 : ∀ t, Sx p e below s₁ m 19 #[xvi kx] [xwi (2 : Int32), xwi kx] t → TG t := fun t k => c14 t (by
    refine y_icmpYes X0 hx 17 (hb B d6_10) (XT.ii_ne_t hc15) rfl rfl <| y_iloadN X0 hx 18 (hb B d6_17) rfl rfl <| y_iconst X0 hx (2 : Int32) 19 (hb B d6_18) rfl rfl ?_
    exact k)
   by_cases hc19 : kx = (2 : Int32)
   ·obtain ⟨T20, X20, e20, st20⟩ := getS2 X0 hx hZ hown (host := "") (Or.inl (w_276 hw)) Via.refl e0 (ST.c22.ext X00.2) (g := (mkF m 22 #[xvi kx] [])) rfl (hb B d6_22)
    have fi21 : Fld Z h0 G.a6 sg7 "ordinal" "I" (.int kx) := by rw [hc19]; exact (ST.c24.ext X00.2)
    obtain ⟨fs, hr, hrun, hended, hW, hsame⟩ := X20.leave (v := some (.ref G.a6)) (own_rv Bd.returns)
    refine ⟨_, _, hTG _ (c18 _ ?_), hrun, hended, _, _, rfl, ?_, ⟨_, rfl⟩, hW, hsame.mono (by decide) (by decide)⟩
    ·refine y_icmpNo X0 hx 22 (hb B d6_19) (XT.ii_ne_f hc19) rfl ?_
     refine st20 _ ?_
     show Sx p e below T20 m 25 #[xvi kx] [xwr G.a6] _
     exact retOut X20 hx Bd.returns rfl (Or.inr (Or.inr (Or.inr (Or.inr ⟨rfl, rfl, rfl⟩)))) (hb B d6_25) hr
    ·show QrmIt Z G kx h0 n0 _ T20.heap _
     rw [e20]
     exact ⟨G.a6, rfl, N0, (Keep.refl h0 []), (ST.c23.ext X00.2), fi21, ST.c23.lt⟩
   ·have c22 : ∀ t, Sx p e below s₁ m 28 #[xvi kx] [xwi (3 : Int32), xwi kx] t → TG t := fun t k => c18 t (by
     refine y_icmpYes X0 hx 26 (hb B d6_19) (XT.ii_ne_t hc19) rfl rfl <| y_iloadN X0 hx 27 (hb B d6_26) rfl rfl <| y_iconst X0 hx (3 : Int32) 28 (hb B d6_27) rfl rfl ?_
     exact k)
    by_cases hc23 : kx = (3 : Int32)
    ·obtain ⟨T24, X24, e24, st24⟩ := getS2 X0 hx hZ hown (host := "") (Or.inl (w_30 hw)) Via.refl e0 (ST.c25.ext X00.2) (g := (mkF m 31 #[xvi kx] [])) rfl (hb B d6_31)
     have fi25 : Fld Z h0 G.a7 sg7 "ordinal" "I" (.int kx) := by rw [hc23]; exact (ST.c27.ext X00.2)
     obtain ⟨fs, hr, hrun, hended, hW, hsame⟩ := X24.leave (v := some (.ref G.a7)) (own_rv Bd.returns)
     refine ⟨_, _, hTG _ (c22 _ ?_), hrun, hended, _, _, rfl, ?_, ⟨_, rfl⟩, hW, hsame.mono (by decide) (by decide)⟩
     ·refine y_icmpNo X0 hx 31 (hb B d6_28) (XT.ii_ne_f hc23) rfl ?_
      refine st24 _ ?_
      show Sx p e below T24 m 34 #[xvi kx] [xwr G.a7] _
      exact retOut X24 hx Bd.returns rfl (Or.inr (Or.inr (Or.inr (Or.inr ⟨rfl, rfl, rfl⟩)))) (hb B d6_34) hr
     ·show QrmIt Z G kx h0 n0 _ T24.heap _
      rw [e24]
      exact ⟨G.a7, rfl, N0, (Keep.refl h0 []), (ST.c26.ext X00.2), fi25, ST.c26.lt⟩
    ·have c26 : ∀ t, Sx p e below s₁ m 37 #[xvi kx] [xwi (4 : Int32), xwi kx] t → TG t := fun t k => c22 t (by
      refine y_icmpYes X0 hx 35 (hb B d6_28) (XT.ii_ne_t hc23) rfl rfl <| y_iloadN X0 hx 36 (hb B d6_35) rfl rfl <| y_iconst X0 hx (4 : Int32) 37 (hb B d6_36) rfl rfl ?_
      exact k)
     by_cases hc27 : kx = (4 : Int32)
     ·obtain ⟨T28, X28, e28, st28⟩ := getS2 X0 hx hZ hown (host := "") (Or.inl (w_259 hw)) Via.refl e0 (ST.c28.ext X00.2) (g := (mkF m 40 #[xvi kx] [])) rfl (hb B d6_40)
      have fi29 : Fld Z h0 G.a8 sg7 "ordinal" "I" (.int kx) := by rw [hc27]; exact (ST.c30.ext X00.2)
      obtain ⟨fs, hr, hrun, hended, hW, hsame⟩ := X28.leave (v := some (.ref G.a8)) (own_rv Bd.returns)
      refine ⟨_, _, hTG _ (c26 _ ?_), hrun, hended, _, _, rfl, ?_, ⟨_, rfl⟩, hW, hsame.mono (by decide) (by decide)⟩
      ·refine y_icmpNo X0 hx 40 (hb B d6_37) (XT.ii_ne_f hc27) rfl ?_
       refine st28 _ ?_
       show Sx p e below T28 m 43 #[xvi kx] [xwr G.a8] _
       exact retOut X28 hx Bd.returns rfl (Or.inr (Or.inr (Or.inr (Or.inr ⟨rfl, rfl, rfl⟩)))) (hb B d6_43) hr
      ·show QrmIt Z G kx h0 n0 _ T28.heap _
       rw [e28]
       exact ⟨G.a8, rfl, N0, (Keep.refl h0 []), (ST.c29.ext X00.2), fi29, ST.c29.lt⟩
     ·have c30 : ∀ t, Sx p e below s₁ m 46 #[xvi kx] [xwi (5 : Int32), xwi kx] t → TG t := fun t k => c26 t (by
       refine y_icmpYes X0 hx 44 (hb B d6_37) (XT.ii_ne_t hc27) rfl rfl <| y_iloadN X0 hx 45 (hb B d6_44) rfl rfl <| y_iconst X0 hx (5 : Int32) 46 (hb B d6_45) rfl rfl ?_
       exact k)
      by_cases hc31 : kx = (5 : Int32)
      ·obtain ⟨T32, X32, e32, st32⟩ := getS2 X0 hx hZ hown (host := "") (Or.inl (w_278 hw)) Via.refl e0 (ST.c31.ext X00.2) (g := (mkF m 49 #[xvi kx] [])) rfl (hb B d6_49)
       have fi33 : Fld Z h0 G.a9 sg7 "ordinal" "I" (.int kx) := by rw [hc31]; exact (ST.c33.ext X00.2)
       obtain ⟨fs, hr, hrun, hended, hW, hsame⟩ := X32.leave (v := some (.ref G.a9)) (own_rv Bd.returns)
       refine ⟨_, _, hTG _ (c30 _ ?_), hrun, hended, _, _, rfl, ?_, ⟨_, rfl⟩, hW, hsame.mono (by decide) (by decide)⟩
       ·refine y_icmpNo X0 hx 49 (hb B d6_46) (XT.ii_ne_f hc31) rfl ?_
        refine st32 _ ?_
        show Sx p e below T32 m 52 #[xvi kx] [xwr G.a9] _
        exact retOut X32 hx Bd.returns rfl (Or.inr (Or.inr (Or.inr (Or.inr ⟨rfl, rfl, rfl⟩)))) (hb B d6_52) hr
       ·show QrmIt Z G kx h0 n0 _ T32.heap _
        rw [e32]
        exact ⟨G.a9, rfl, N0, (Keep.refl h0 []), (ST.c32.ext X00.2), fi33, ST.c32.lt⟩
      ·have c34 : ∀ t, Sx p e below s₁ m 56 #[xvi kx] [xwi (6 : Int32), xwi kx] t → TG t := fun t k => c30 t (by
        refine y_icmpYes X0 hx 53 (hb B d6_46) (XT.ii_ne_t hc31) rfl rfl <| y_iloadN X0 hx 54 (hb B d6_53) rfl rfl <| y_bipush X0 hx (6 : Int32) 56 (hb B d6_54) rfl rfl ?_
        exact k)
       by_cases hc35 : kx = (6 : Int32)
       ·obtain ⟨T36, X36, e36, st36⟩ := getS2 X0 hx hZ hown (host := "") (Or.inl (w_297 hw)) Via.refl e0 (ST.c34.ext X00.2) (g := (mkF m 59 #[xvi kx] [])) rfl (hb B d6_59)
        have fi37 : Fld Z h0 G.a10 sg7 "ordinal" "I" (.int kx) := by rw [hc35]; exact (ST.c36.ext X00.2)
        obtain ⟨fs, hr, hrun, hended, hW, hsame⟩ := X36.leave (v := some (.ref G.a10)) (own_rv Bd.returns)
        refine ⟨_, _, hTG _ (c34 _ ?_), hrun, hended, _, _, rfl, ?_, ⟨_, rfl⟩, hW, hsame.mono (by decide) (by decide)⟩
        ·refine y_icmpNo X0 hx 59 (hb B d6_56) (XT.ii_ne_f hc35) rfl ?_
         refine st36 _ ?_
         show Sx p e below T36 m 62 #[xvi kx] [xwr G.a10] _
         exact retOut X36 hx Bd.returns rfl (Or.inr (Or.inr (Or.inr (Or.inr ⟨rfl, rfl, rfl⟩)))) (hb B d6_62) hr
        ·show QrmIt Z G kx h0 n0 _ T36.heap _
         rw [e36]
         exact ⟨G.a10, rfl, N0, (Keep.refl h0 []), (ST.c35.ext X00.2), fi37, ST.c35.lt⟩
       ·have c38 : ∀ t, Sx p e below s₁ m 66 #[xvi kx] [xwi (7 : Int32), xwi kx] t → TG t := fun t k => c34 t (by
         refine y_icmpYes X0 hx 63 (hb B d6_56) (XT.ii_ne_t hc35) rfl rfl <| y_iloadN X0 hx 64 (hb B d6_63) rfl rfl <| y_bipush X0 hx (7 : Int32) 66 (hb B d6_64) rfl rfl ?_
         exact k)
        by_cases hc39 : kx = (7 : Int32)
        ·obtain ⟨T40, X40, e40, st40⟩ := getS2 X0 hx hZ hown (host := "") (Or.inl (w_299 hw)) Via.refl e0 (ST.c37.ext X00.2) (g := (mkF m 69 #[xvi kx] [])) rfl (hb B d6_69)
         have fi41 : Fld Z h0 G.a11 sg7 "ordinal" "I" (.int kx) := by rw [hc39]; exact (ST.c39.ext X00.2)
         obtain ⟨fs, hr, hrun, hended, hW, hsame⟩ := X40.leave (v := some (.ref G.a11)) (own_rv Bd.returns)
         refine ⟨_, _, hTG _ (c38 _ ?_), hrun, hended, _, _, rfl, ?_, ⟨_, rfl⟩, hW, hsame.mono (by decide) (by decide)⟩
         ·refine y_icmpNo X0 hx 69 (hb B d6_66) (XT.ii_ne_f hc39) rfl ?_
          refine st40 _ ?_
          show Sx p e below T40 m 72 #[xvi kx] [xwr G.a11] _
          exact retOut X40 hx Bd.returns rfl (Or.inr (Or.inr (Or.inr (Or.inr ⟨rfl, rfl, rfl⟩)))) (hb B d6_72) hr
         ·show QrmIt Z G kx h0 n0 _ T40.heap _
          rw [e40]
          exact ⟨G.a11, rfl, N0, (Keep.refl h0 []), (ST.c38.ext X00.2), fi41, ST.c38.lt⟩
        ·obtain ⟨T42, X42, e42, st42⟩ := getS2 X0 hx hZ hown (host := "") (Or.inl (w_303 hw)) Via.refl e0 (ST.c40.ext X00.2) (g := (mkF m 73 #[xvi kx] [])) rfl (hb B d6_73)
         have fi43 : Fld Z h0 G.a12 sg7 "ordinal" "I" (.int kx) := by rw [(own_is8 hk9 hc11 hc15 hc19 hc23 hc27 hc31 hc35 hc39)]; exact (ST.c42.ext X00.2)
         obtain ⟨fs, hr, hrun, hended, hW, hsame⟩ := X42.leave (v := some (.ref G.a12)) (own_rv Bd.returns)
         refine ⟨_, _, hTG _ (c38 _ ?_), hrun, hended, _, _, rfl, ?_, ⟨_, rfl⟩, hW, hsame.mono (by decide) (by decide)⟩
         ·refine y_icmpYes X0 hx 73 (hb B d6_66) (XT.ii_ne_t hc39) rfl rfl ?_
          refine st42 _ ?_
          show Sx p e below T42 m 76 #[xvi kx] [xwr G.a12] _
          exact retOut X42 hx Bd.returns rfl (Or.inr (Or.inr (Or.inr (Or.inr ⟨rfl, rfl, rfl⟩)))) (hb B d6_76) hr
         ·show QrmIt Z G kx h0 n0 _ T42.heap _
          rw [e42]
          exact ⟨G.a12, rfl, N0, (Keep.refl h0 []), (ST.c41.ext X00.2), fi43, ST.c41.lt⟩
theorem ef_rmMx (m : MethodId) (x0 x1 : Int32)  : entryFrame m #[(.int x0), (.int x1)] 2 = mkF m 0 #[.val (.int x0), .val (.int x1)] [] := by first | (simp [entryFrame, mkF, argsToLocals, Value.category]; done) | rfl
abbrev kc19 : ByteArray := jdk_29_method_65_code
def d19_0 : DC kc19 0 (.iload_n 0) 1 := by decide +kernel
def d19_1 : DC kc19 1 (.iload_n 1) 1 := by decide +kernel
def d19_2 : DC kc19 2 (.if_icmp .lt 7) 3 := by decide +kernel
def d19_5 : DC kc19 5 (.iload_n 0) 1 := by decide +kernel
def d19_6 : DC kc19 6 (.goto 4) 3 := by decide +kernel
def d19_10 : DC kc19 10 (.ireturn) 1 := by decide +kernel
def QrmMx (Z : State) (G : Gs) (px : Int32) (h0 : Heap) (n0 : Nat) (v : Option Value) (h : Heap) (L : List Loc) : Prop := v = some (.int px) ∧ Fr n0 L ∧ h = h0
theorem rmMx (l : Launch) (Z : State) (a0 : Array Value) (hw : HW a0 Z) (G : Gs) (ST : StartF Z G) (ws : List Jvm.Cond) (px : Int32) (h0 : Heap) (n0 : Nat) (X00 : Old Z n0 h0) (hp1 : ¬ px < (1 : Int32)) :
  MF l Z ws mm33 jdk_29_method_65_code 2 (some .int) (rk 0 0 0 0) #[(.int px), (.int (1 : Int32))] h0 (QrmMx Z G px h0 n0) := by
 refine MetFree.of_bodySF (Jvm.Free.JP.mathPlain rfl (by decide +kernel)) hisR ?_
 intro p e s m args below meth c s₁ Bd hml0 hP hK
 obtain ⟨rfl, hZ, hh⟩ := hP
 have hx := Bd.exec
 have B := Bd.bytes
 have X0 : Stand p l e (rk 0 0 0 0) s m #[(.int px), (.int (1 : Int32))] below meth c s₁ [] 0 0 := Stand.of_body Bd
 have e0 : s₁.heap = h0 := by rw [← hh, Bd.state]; rfl
 have N0 := Fr.nil n0
 obtain ⟨TG, hTG, pre0⟩ := own_pre p e below s₁ (ef_rmMx m px (1 : Int32) )
 obtain ⟨fs, hr, hrun, hended, hW, hsame⟩ := X0.leave (v := some (.int px)) (own_rv Bd.returns)
 refine ⟨_, _, hTG _ (pre0 _ ?_), hrun, hended, _, _, rfl, ?_, ⟨_, rfl⟩, hW, hsame.mono (by decide) (by decide)⟩
 ·refine y_iloadN X0 hx 1 (hb B d19_0) rfl rfl <| y_iloadN X0 hx 2 (hb B d19_1) rfl rfl <| y_icmpNo X0 hx 5 (hb B d19_2) (XT.ii_lt_f hp1) rfl <| y_iloadN X0 hx 6 (hb B d19_5) rfl rfl <| y_goto X0 hx 10 (hb B d19_6) rfl rfl ?_
  show Sx p e below s₁ m 10 #[xvi px, xvi (1 : Int32)] [xwi px] _
  exact retOut X0 hx Bd.returns rfl (Or.inl ⟨rfl, Or.inl rfl, _, rfl⟩) (hb B d19_10) hr
 ·show QrmMx Z G px h0 n0 _ s₁.heap _
  rw [e0]
  exact ⟨rfl, N0, rfl⟩
theorem ef_rmNl (m : MethodId) (x0 : Int32)  : entryFrame m #[(.int x0)] 2 = mkF m 0 #[.val (.int x0), .unset] [] := by first | (simp [entryFrame, mkF, argsToLocals, Value.category]; done) | rfl
abbrev kc21 : ByteArray := jdk_33_method_47_code
def d21_0 : DC kc21 0 (.iload_n 0) 1 := by decide +kernel
def d21_1 : DC kc21 1 (.ifCond .gt 14) 3 := by decide +kernel
def d21_15 : DC kc21 15 (.bipush 31) 2 := by decide +kernel
def d21_17 : DC kc21 17 (.istore_n 1) 1 := by decide +kernel
def d21_18 : DC kc21 18 (.iload_n 0) 1 := by decide +kernel
def d21_19 : DC kc21 19 (.ldc_w 264) 3 := by decide +kernel
def d21_22 : DC kc21 22 (.if_icmp .lt 11) 3 := by decide +kernel
def d21_33 : DC kc21 33 (.iload_n 0) 1 := by decide +kernel
def d21_34 : DC kc21 34 (.sipush 256) 3 := by decide +kernel
def d21_37 : DC kc21 37 (.if_icmp .lt 11) 3 := by decide +kernel
def d21_48 : DC kc21 48 (.iload_n 0) 1 := by decide +kernel
def d21_49 : DC kc21 49 (.bipush 16) 2 := by decide +kernel
def d21_51 : DC kc21 51 (.if_icmp .lt 10) 3 := by decide +kernel
def d21_61 : DC kc21 61 (.iload_n 0) 1 := by decide +kernel
def d21_62 : DC kc21 62 (.iconst 4) 1 := by decide +kernel
def d21_63 : DC kc21 63 (.if_icmp .lt 10) 3 := by decide +kernel
def d21_73 : DC kc21 73 (.iload_n 1) 1 := by decide +kernel
def d21_74 : DC kc21 74 (.iload_n 0) 1 := by decide +kernel
def d21_75 : DC kc21 75 (.iconst 1) 1 := by decide +kernel
def d21_76 : DC kc21 76 (.iushr) 1 := by decide +kernel
def d21_77 : DC kc21 77 (.isub) 1 := by decide +kernel
def d21_78 : DC kc21 78 (.ireturn) 1 := by decide +kernel
def d21_66 : DC kc21 66 (.iinc 1 (-2)) 3 := by decide +kernel
def d21_69 : DC kc21 69 (.iload_n 0) 1 := by decide +kernel
def d21_70 : DC kc21 70 (.iconst 2) 1 := by decide +kernel
def d21_71 : DC kc21 71 (.iushr) 1 := by decide +kernel
def d21_72 : DC kc21 72 (.istore_n 0) 1 := by decide +kernel
def d21_54 : DC kc21 54 (.iinc 1 (-4)) 3 := by decide +kernel
def d21_57 : DC kc21 57 (.iload_n 0) 1 := by decide +kernel
def d21_58 : DC kc21 58 (.iconst 4) 1 := by decide +kernel
def d21_59 : DC kc21 59 (.iushr) 1 := by decide +kernel
def d21_60 : DC kc21 60 (.istore_n 0) 1 := by decide +kernel
theorem pn_11 : plainName "java/lang/Integer" = true := by first | (simp [plainName, overriddenIn]; done) | decide +kernel
def QrmNl (Z : State) (G : Gs) (nx : Int32) (h0 : Heap) (n0 : Nat) (v : Option Value) (h : Heap) (L : List Loc) : Prop := v = some (.int (nlzf nx)) ∧ Fr n0 L ∧ h = h0
theorem rmNl (l : Launch) (Z : State) (a0 : Array Value) (hw : HW a0 Z) (G : Gs) (ST : StartF Z G) (ws : List Jvm.Cond) (nx : Int32) (h0 : Heap) (n0 : Nat) (X00 : Old Z n0 h0) (hnl : ((0 : Int32) < nx ∧ nx < (256 : Int32))) :
  MF l Z ws mm34 jdk_33_method_47_code 2 (some .int) (rk 0 0 0 0) #[(.int nx)] h0 (QrmNl Z G nx h0 n0) := by
 refine MetFree.of_bodySF (plainFor_of_name pn_11) hisR ?_
 intro p e s m args below meth c s₁ Bd hml0 hP hK
 obtain ⟨rfl, hZ, hh⟩ := hP
 have hx := Bd.exec
 have B := Bd.bytes
 have hown : s.vm.findClass sg14 = some m.cls := findClass_of_methodNamed Bd.named
 have X0 : Stand p l e (rk 0 0 0 0) s m #[(.int nx)] below meth c s₁ [] 0 0 := Stand.of_body Bd
 have e0 : s₁.heap = h0 := by rw [← hh, Bd.state]; rfl
 have N0 := Fr.nil n0
 obtain ⟨TG, hTG, pre0⟩ := own_pre p e below s₁ (ef_rmNl m nx )
 have c10 : ∀ t, Sx p e below s₁ m 51 #[xvi nx, xvi (31 : Int32)] [xwi (16 : Int32), xwi nx] t → TG t := fun t k => pre0 t (by
  refine y_iloadN X0 hx 1 (hb B d21_0) rfl rfl <| y_ifYes X0 hx 15 (hb B d21_1) (XT.i0_gt_t hnl.1) rfl rfl <| y_bipush X0 hx (31 : Int32) 17 (hb B d21_15) rfl rfl <| y_istoreN X0 hx 18 (hb B d21_17) (L' := #[xvi nx, xvi (31 : Int32)]) rfl rfl <| y_iloadN X0 hx 19 (hb B d21_18) rfl rfl ?_
  refine X0.ldcwInt hx hown (mvT hZ (w_150 hw)) (g := (mkF m 19 #[xvi nx, xvi (31 : Int32)] [xwi nx])) rfl (hb B d21_19) _ ?_
  refine y_icmpYes X0 hx 33 (hb B d21_22) (XT.ii_lt_t (own_lt64k hnl.2)) rfl rfl <| y_iloadN X0 hx 34 (hb B d21_33) rfl rfl <| y_sipush X0 hx (256 : Int32) 37 (hb B d21_34) rfl rfl <| y_icmpYes X0 hx 48 (hb B d21_37) (XT.ii_lt_t hnl.2) rfl rfl <| y_iloadN X0 hx 49 (hb B d21_48) rfl rfl <| y_bipush X0 hx (16 : Int32) 51 (hb B d21_49) rfl rfl ?_
  exact k)
 by_cases hc11 : nx < (16 : Int32)
 ·have c12 : ∀ t, Sx p e below s₁ m 63 #[xvi nx, xvi (31 : Int32)] [xwi (4 : Int32), xwi nx] t → TG t := fun t k => c10 t (by
   refine y_icmpYes X0 hx 61 (hb B d21_51) (XT.ii_lt_t hc11) rfl rfl <| y_iloadN X0 hx 62 (hb B d21_61) rfl rfl <| y_iconst X0 hx (4 : Int32) 63 (hb B d21_62) rfl rfl ?_
   exact k)
  by_cases hc13 : nx < (4 : Int32)
  ·obtain ⟨fs, hr, hrun, hended, hW, hsame⟩ := X0.leave (v := some (.int (nlzf nx))) (own_rv Bd.returns)
   refine ⟨_, _, hTG _ (c12 _ ?_), hrun, hended, _, _, rfl, ?_, ⟨_, rfl⟩, hW, hsame.mono (by decide) (by decide)⟩
   ·refine y_icmpYes X0 hx 73 (hb B d21_63) (XT.ii_lt_t hc13) rfl rfl <| y_iloadN X0 hx 74 (hb B d21_73) rfl rfl <| y_iloadN X0 hx 75 (hb B d21_74) rfl rfl <| y_iconst X0 hx (1 : Int32) 76 (hb B d21_75) rfl rfl ?_
    refine XS.iushr X0.here hx rfl (hb B d21_76) rfl ?_
    refine y_isub X0 hx 78 (hb B d21_77) rfl ?_
    show Sx p e below s₁ m 78 #[xvi nx, xvi (31 : Int32)] [xwi ((31 : Int32) - ((nx.toUInt32 >>> ((1 : Int32) &&& 31).toUInt32).toInt32))] _
    rw [(show ((31 : Int32) - ((nx.toUInt32 >>> ((1 : Int32) &&& 31).toUInt32).toInt32)) = nlzf nx from (by unfold nlzf; rw [if_pos hc11, if_pos hc13]))]
    show Sx p e below s₁ m 78 #[xvi nx, xvi (31 : Int32)] [xwi (nlzf nx)] _
    exact retOut X0 hx Bd.returns rfl (Or.inl ⟨rfl, Or.inl rfl, _, rfl⟩) (hb B d21_78) hr
   ·show QrmNl Z G nx h0 n0 _ s₁.heap _
    rw [e0]
    exact ⟨rfl, N0, rfl⟩
  ·obtain ⟨fs, hr, hrun, hended, hW, hsame⟩ := X0.leave (v := some (.int (nlzf nx))) (own_rv Bd.returns)
   refine ⟨_, _, hTG _ (c12 _ ?_), hrun, hended, _, _, rfl, ?_, ⟨_, rfl⟩, hW, hsame.mono (by decide) (by decide)⟩
   ·refine y_icmpNo X0 hx 66 (hb B d21_63) (XT.ii_lt_f hc13) rfl ?_
    refine XS.iinc X0.here hx rfl (hb B d21_66) rfl (l' := #[xvi nx, xvi ((31 : Int32) + (-2 : Int32))]) rfl ?_
    rw [show ((31 : Int32) + (-2 : Int32)) = (29 : Int32) from by decide]
    refine y_iloadN X0 hx 70 (hb B d21_69) rfl rfl <| y_iconst X0 hx (2 : Int32) 71 (hb B d21_70) rfl rfl ?_
    refine XS.iushr X0.here hx rfl (hb B d21_71) rfl ?_
    refine y_istoreN X0 hx 73 (hb B d21_72) (L' := #[xvi ((nx.toUInt32 >>> ((2 : Int32) &&& 31).toUInt32).toInt32), xvi (29 : Int32)]) rfl rfl <| y_iloadN X0 hx 74 (hb B d21_73) rfl rfl <| y_iloadN X0 hx 75 (hb B d21_74) rfl rfl <| y_iconst X0 hx (1 : Int32) 76 (hb B d21_75) rfl rfl ?_
    refine XS.iushr X0.here hx rfl (hb B d21_76) rfl ?_
    refine y_isub X0 hx 78 (hb B d21_77) rfl ?_
    show Sx p e below s₁ m 78 #[xvi ((nx.toUInt32 >>> ((2 : Int32) &&& 31).toUInt32).toInt32), xvi (29 : Int32)] [xwi ((29 : Int32) - ((((nx.toUInt32 >>> ((2 : Int32) &&& 31).toUInt32).toInt32).toUInt32 >>> ((1 : Int32) &&& 31).toUInt32).toInt32))] _
    rw [(show ((29 : Int32) - ((((nx.toUInt32 >>> ((2 : Int32) &&& 31).toUInt32).toInt32).toUInt32 >>> ((1 : Int32) &&& 31).toUInt32).toInt32)) = nlzf nx from (by unfold nlzf; rw [if_pos hc11, if_neg hc13]))]
    show Sx p e below s₁ m 78 #[xvi ((nx.toUInt32 >>> ((2 : Int32) &&& 31).toUInt32).toInt32), xvi (29 : Int32)] [xwi (nlzf nx)] _
    exact retOut X0 hx Bd.returns rfl (Or.inl ⟨rfl, Or.inl rfl, _, rfl⟩) (hb B d21_78) hr
   ·show QrmNl Z G nx h0 n0 _ s₁.heap _
    rw [e0]
    exact ⟨rfl, N0, rfl⟩
 ·have c14 : ∀ t, Sx p e below s₁ m 63 #[xvi ((nx.toUInt32 >>> ((4 : Int32) &&& 31).toUInt32).toInt32), xvi (27 : Int32)] [xwi (4 : Int32), xwi ((nx.toUInt32 >>> ((4 : Int32) &&& 31).toUInt32).toInt32)] t → TG t := fun t k => c10 t (by
   refine y_icmpNo X0 hx 54 (hb B d21_51) (XT.ii_lt_f hc11) rfl ?_
   refine XS.iinc X0.here hx rfl (hb B d21_54) rfl (l' := #[xvi nx, xvi ((31 : Int32) + (-4 : Int32))]) rfl ?_
   rw [show ((31 : Int32) + (-4 : Int32)) = (27 : Int32) from by decide]
   refine y_iloadN X0 hx 58 (hb B d21_57) rfl rfl <| y_iconst X0 hx (4 : Int32) 59 (hb B d21_58) rfl rfl ?_
   refine XS.iushr X0.here hx rfl (hb B d21_59) rfl ?_
   refine y_istoreN X0 hx 61 (hb B d21_60) (L' := #[xvi ((nx.toUInt32 >>> ((4 : Int32) &&& 31).toUInt32).toInt32), xvi (27 : Int32)]) rfl rfl <| y_iloadN X0 hx 62 (hb B d21_61) rfl rfl <| y_iconst X0 hx (4 : Int32) 63 (hb B d21_62) rfl rfl ?_
   exact k)
  by_cases hc15 : ((nx.toUInt32 >>> ((4 : Int32) &&& 31).toUInt32).toInt32) < (4 : Int32)
  ·obtain ⟨fs, hr, hrun, hended, hW, hsame⟩ := X0.leave (v := some (.int (nlzf nx))) (own_rv Bd.returns)
   refine ⟨_, _, hTG _ (c14 _ ?_), hrun, hended, _, _, rfl, ?_, ⟨_, rfl⟩, hW, hsame.mono (by decide) (by decide)⟩
   ·refine y_icmpYes X0 hx 73 (hb B d21_63) (XT.ii_lt_t hc15) rfl rfl <| y_iloadN X0 hx 74 (hb B d21_73) rfl rfl <| y_iloadN X0 hx 75 (hb B d21_74) rfl rfl <| y_iconst X0 hx (1 : Int32) 76 (hb B d21_75) rfl rfl ?_
    refine XS.iushr X0.here hx rfl (hb B d21_76) rfl ?_
    refine y_isub X0 hx 78 (hb B d21_77) rfl ?_
    show Sx p e below s₁ m 78 #[xvi ((nx.toUInt32 >>> ((4 : Int32) &&& 31).toUInt32).toInt32), xvi (27 : Int32)] [xwi ((27 : Int32) - ((((nx.toUInt32 >>> ((4 : Int32) &&& 31).toUInt32).toInt32).toUInt32 >>> ((1 : Int32) &&& 31).toUInt32).toInt32))] _
    rw [(show ((27 : Int32) - ((((nx.toUInt32 >>> ((4 : Int32) &&& 31).toUInt32).toInt32).toUInt32 >>> ((1 : Int32) &&& 31).toUInt32).toInt32)) = nlzf nx from (by unfold nlzf; rw [if_neg hc11, if_pos hc15]))]
    show Sx p e below s₁ m 78 #[xvi ((nx.toUInt32 >>> ((4 : Int32) &&& 31).toUInt32).toInt32), xvi (27 : Int32)] [xwi (nlzf nx)] _
    exact retOut X0 hx Bd.returns rfl (Or.inl ⟨rfl, Or.inl rfl, _, rfl⟩) (hb B d21_78) hr
   ·show QrmNl Z G nx h0 n0 _ s₁.heap _
    rw [e0]
    exact ⟨rfl, N0, rfl⟩
  ·obtain ⟨fs, hr, hrun, hended, hW, hsame⟩ := X0.leave (v := some (.int (nlzf nx))) (own_rv Bd.returns)
   refine ⟨_, _, hTG _ (c14 _ ?_), hrun, hended, _, _, rfl, ?_, ⟨_, rfl⟩, hW, hsame.mono (by decide) (by decide)⟩
   ·refine y_icmpNo X0 hx 66 (hb B d21_63) (XT.ii_lt_f hc15) rfl ?_
    refine XS.iinc X0.here hx rfl (hb B d21_66) rfl (l' := #[xvi ((nx.toUInt32 >>> ((4 : Int32) &&& 31).toUInt32).toInt32), xvi ((27 : Int32) + (-2 : Int32))]) rfl ?_
    rw [show ((27 : Int32) + (-2 : Int32)) = (25 : Int32) from by decide]
    refine y_iloadN X0 hx 70 (hb B d21_69) rfl rfl <| y_iconst X0 hx (2 : Int32) 71 (hb B d21_70) rfl rfl ?_
    refine XS.iushr X0.here hx rfl (hb B d21_71) rfl ?_
    refine y_istoreN X0 hx 73 (hb B d21_72) (L' := #[xvi ((((nx.toUInt32 >>> ((4 : Int32) &&& 31).toUInt32).toInt32).toUInt32 >>> ((2 : Int32) &&& 31).toUInt32).toInt32), xvi (25 : Int32)]) rfl rfl <| y_iloadN X0 hx 74 (hb B d21_73) rfl rfl <| y_iloadN X0 hx 75 (hb B d21_74) rfl rfl <| y_iconst X0 hx (1 : Int32) 76 (hb B d21_75) rfl rfl ?_
    refine XS.iushr X0.here hx rfl (hb B d21_76) rfl ?_
    refine y_isub X0 hx 78 (hb B d21_77) rfl ?_
    show Sx p e below s₁ m 78 #[xvi ((((nx.toUInt32 >>> ((4 : Int32) &&& 31).toUInt32).toInt32).toUInt32 >>> ((2 : Int32) &&& 31).toUInt32).toInt32), xvi (25 : Int32)] [xwi ((25 : Int32) - ((((((nx.toUInt32 >>> ((4 : Int32) &&& 31).toUInt32).toInt32).toUInt32 >>> ((2 : Int32) &&& 31).toUInt32).toInt32).toUInt32 >>> ((1 : Int32) &&& 31).toUInt32).toInt32))] _
    rw [(show ((25 : Int32) - ((((((nx.toUInt32 >>> ((4 : Int32) &&& 31).toUInt32).toInt32).toUInt32 >>> ((2 : Int32) &&& 31).toUInt32).toInt32).toUInt32 >>> ((1 : Int32) &&& 31).toUInt32).toInt32)) = nlzf nx from (by unfold nlzf; rw [if_neg hc11, if_neg hc15]))]
    show Sx p e below s₁ m 78 #[xvi ((((nx.toUInt32 >>> ((4 : Int32) &&& 31).toUInt32).toInt32).toUInt32 >>> ((2 : Int32) &&& 31).toUInt32).toInt32), xvi (25 : Int32)] [xwi (nlzf nx)] _
    exact retOut X0 hx Bd.returns rfl (Or.inl ⟨rfl, Or.inl rfl, _, rfl⟩) (hb B d21_78) hr
   ·show QrmNl Z G nx h0 n0 _ s₁.heap _
    rw [e0]
    exact ⟨rfl, N0, rfl⟩
abbrev kc20 : ByteArray := jdk_33_method_45_code
def d20_0 : DC kc20 0 (.iload_n 0) 1 := by decide +kernel
def d20_1 : DC kc20 1 (.ldc 127) 2 := by decide +kernel
def d20_3 : DC kc20 3 (.iload_n 0) 1 := by decide +kernel
def d20_4 : DC kc20 4 (.invokestatic 51) 3 := by decide +kernel
def d20_7 : DC kc20 7 (.iushr) 1 := by decide +kernel
def d20_8 : DC kc20 8 (.iand) 1 := by decide +kernel
def d20_9 : DC kc20 9 (.ireturn) 1 := by decide +kernel
def QrmHo (Z : State) (G : Gs) (nx : Int32) (h0 : Heap) (n0 : Nat) (v : Option Value) (h : Heap) (L : List Loc) : Prop := v = some (.int (hob nx)) ∧ Fr n0 L ∧ h = h0
theorem rmHo (l : Launch) (Z : State) (a0 : Array Value) (hw : HW a0 Z) (G : Gs) (ST : StartF Z G) (ws : List Jvm.Cond) (nx : Int32) (h0 : Heap) (n0 : Nat) (X00 : Old Z n0 h0) (hnl : ((0 : Int32) < nx ∧ nx < (256 : Int32))) :
  MF l Z ws mm35 jdk_33_method_45_code 1 (some .int) (rk 1 0 0 15) #[(.int nx)] h0 (QrmHo Z G nx h0 n0) := by
 refine MetFree.of_bodySF (plainFor_of_name pn_11) hisR ?_
 intro p e s m args below meth c s₁ Bd hml0 hP hK
 obtain ⟨rfl, hZ, hh⟩ := hP
 have hx := Bd.exec
 have B := Bd.bytes
 have hml : c.maxLocals = 1 := hml0
 have hown : s.vm.findClass sg14 = some m.cls := findClass_of_methodNamed Bd.named
 have X0 : Stand p l e (rk 1 0 0 15) s m #[(.int nx)] below meth c s₁ [] 0 0 := Stand.of_body Bd
 have e0 : s₁.heap = h0 := by rw [← hh, Bd.state]; rfl
 have N0 := Fr.nil n0
 obtain ⟨TG, hTG, pre0⟩ := own_pre p e below s₁ (ef_rmCE m nx )
 obtain ⟨_, _, ⟨T10, L10, k10, n10⟩, -, X10, ⟨Lc10, hQ10, l10, y10, z10⟩, st10⟩ := Jvm.LawKit.callS X0 hx (y := mm34) hown (mvT hZ (w_147 hw)) (mvT hZ (w_148 hw)) (mvT hZ (w_144 hw)) (mvT hZ (w_149 hw)) (by decide) (backOf (W := 2) (rmNl l Z a0 hw G ST [] nx h0 n0 X00 hnl) hZ (w_149 hw) (w_144 hw) (by decide) (by decide)) (g := (mkF m 4 #[xvi nx] [xwi nx, xwi (-2147483648 : Int32), xwi nx])) rfl (by rw [hml]; rfl) (argsL := [(.int nx)]) (rest := [(.int (-2147483648 : Int32)), (.int nx)]) (lenOf pd_17 rfl) rfl (Nat.le_of_eq rfl) (hb B d20_4) (fun _ _ => ⟨rfl, e0, (by decide : 0 + 0 ≤ _), (by decide : 0 + 0 ≤ _)⟩)
 dsimp only [Pt.U, Pt.locs, Pt.cells, Pt.slots] at X10 l10 y10 z10 st10 hQ10
 subst l10 y10 z10
 obtain ⟨rfl, N10q, e10⟩ := hQ10
 have N10 := Fr.app N0 N10q
 obtain ⟨fs, hr, hrun, hended, hW, hsame⟩ := X10.leave (v := some (.int (hob nx))) (own_rv Bd.returns)
 refine ⟨_, _, hTG _ (pre0 _ ?_), hrun, hended, _, _, rfl, ?_, ⟨_, rfl⟩, hW, hsame.mono (by decide) (by decide)⟩
 ·refine y_iloadN X0 hx 1 (hb B d20_0) rfl rfl ?_
  refine X0.ldcInt hx hown (mvT hZ (w_146 hw)) (g := (mkF m 1 #[xvi nx] [xwi nx])) rfl (hb B d20_1) _ ?_
  refine y_iloadN X0 hx 4 (hb B d20_3) rfl rfl ?_
  refine st10 _ ?_
  refine XS.iushr X10.here hx rfl (hb B d20_7) rfl ?_
  refine y_iand X10 hx 9 (hb B d20_8) rfl ?_
  show Sx p e below T10 m 9 #[xvi nx] [xwi (nx &&& (((-2147483648 : Int32).toUInt32 >>> ((nlzf nx) &&& 31).toUInt32).toInt32))] _
  rw [(show (nx &&& (((-2147483648 : Int32).toUInt32 >>> ((nlzf nx) &&& 31).toUInt32).toInt32)) = hob nx from rfl)]
  show Sx p e below T10 m 9 #[xvi nx] [xwi (hob nx)] _
  exact retOut X10 hx Bd.returns rfl (Or.inl ⟨rfl, Or.inl rfl, _, rfl⟩) (hb B d20_9) hr
 ·show QrmHo Z G nx h0 n0 _ T10.heap _
  rw [e10]
  exact ⟨rfl, N10, rfl⟩
abbrev kc15 : ByteArray := prog_54_method_1_code
def d15_0 : DC kc15 0 (.aload_n 0) 1 := by decide +kernel
def d15_1 : DC kc15 1 (.invokespecial 3) 3 := by decide +kernel
def d15_4 : DC kc15 4 (.aload_n 0) 1 := by decide +kernel
def d15_5 : DC kc15 5 (.getstatic 9) 3 := by decide +kernel
def d15_8 : DC kc15 8 (.anewarray 15) 3 := by decide +kernel
def d15_11 : DC kc15 11 (.putfield 17) 3 := by decide +kernel
def d15_14 : DC kc15 14 (.aload_n 0) 1 := by decide +kernel
def d15_15 : DC kc15 15 (.new 21) 3 := by decide +kernel
def d15_18 : DC kc15 18 (.dup) 1 := by decide +kernel
def d15_19 : DC kc15 19 (.invokespecial 23) 3 := by decide +kernel
abbrev kc16 : ByteArray := jdk_92_method_4_code
def d16_0 : DC kc16 0 (.aload_n 0) 1 := by decide +kernel
def d16_1 : DC kc16 1 (.invokespecial 21) 3 := by decide +kernel
def d16_4 : DC kc16 4 (.aload_n 0) 1 := by decide +kernel
def d16_5 : DC kc16 5 (.iconst 0) 1 := by decide +kernel
def d16_6 : DC kc16 6 (.putfield 7) 3 := by decide +kernel
def d16_9 : DC kc16 9 (.aload_n 0) 1 := by decide +kernel
def d16_10 : DC kc16 10 (.iconst 0) 1 := by decide +kernel
def d16_11 : DC kc16 11 (.putfield 24) 3 := by decide +kernel
def d16_14 : DC kc16 14 (.aload_n 0) 1 := by decide +kernel
def d16_15 : DC kc16 15 (.bipush 64) 2 := by decide +kernel
def d16_17 : DC kc16 17 (.invokevirtual 27) 3 := by decide +kernel
theorem ef_rmA8 (m : MethodId) (x0 : Addr) (x1 : Int32)  : entryFrame m #[(.ref x0), (.int x1)] 2 = mkF m 0 #[.val (.ref x0), .val (.int x1)] [] := by first | (simp [entryFrame, mkF, argsToLocals, Value.category]; done) | rfl
abbrev kc17 : ByteArray := jdk_92_method_6_code
def d17_0 : DC kc17 0 (.aload_n 0) 1 := by decide +kernel
def d17_1 : DC kc17 1 (.iload_n 1) 1 := by decide +kernel
def d17_2 : DC kc17 2 (.iconst 1) 1 := by decide +kernel
def d17_3 : DC kc17 3 (.isub) 1 := by decide +kernel
def d17_4 : DC kc17 4 (.invokestatic 52) 3 := by decide +kernel
def QrmA9 (Z : State) (G : Gs)  (h0 : Heap) (n0 : Nat) (v : Option Value) (h : Heap) (L : List Loc) : Prop := v = some ZI ∧ Fr n0 L ∧ h = h0
theorem rmA9 (l : Launch) (Z : State) (a0 : Array Value) (hw : HW a0 Z) (G : Gs) (ST : StartF Z G) (ws : List Jvm.Cond)  (h0 : Heap) (n0 : Nat) (X00 : Old Z n0 h0) :
  MF l Z ws mm28 jdk_92_method_1_code 1 (some .int) (rk 0 0 0 0) #[(.int (63 : Int32))] h0 (QrmA9 Z G h0 n0) := by
 refine MetFree.of_bodySF (plainFor_of_name pn_9) hisR ?_
 intro p e s m args below meth c s₁ Bd hml0 hP hK
 obtain ⟨rfl, hZ, hh⟩ := hP
 have hx := Bd.exec
 have B := Bd.bytes
 have X0 : Stand p l e (rk 0 0 0 0) s m #[(.int (63 : Int32))] below meth c s₁ [] 0 0 := Stand.of_body Bd
 have e0 : s₁.heap = h0 := by rw [← hh, Bd.state]; rfl
 have N0 := Fr.nil n0
 obtain ⟨TG, hTG, pre0⟩ := own_pre p e below s₁ (ef_rmCE m (63 : Int32) )
 obtain ⟨fs, hr, hrun, hended, hW, hsame⟩ := X0.leave (v := some ZI) (own_rv Bd.returns)
 refine ⟨_, _, hTG _ (pre0 _ ?_), hrun, hended, _, _, rfl, ?_, ⟨_, rfl⟩, hW, hsame.mono (by decide) (by decide)⟩
 ·refine y_iloadN X0 hx 1 (hb B d18_0) rfl rfl <| y_bipush X0 hx (6 : Int32) 3 (hb B d18_1) rfl rfl ?_
  refine XS.ishr X0.here hx rfl (hb B d18_3) rfl ?_
  rw [show ((63 : Int32) >>> ((6 : Int32) &&& 31)) = (0 : Int32) from by decide]
  show Sx p e below s₁ m 4 #[xvi (63 : Int32)] [xwi (0 : Int32)] _
  exact retOut X0 hx Bd.returns rfl (Or.inl ⟨rfl, Or.inl rfl, _, rfl⟩) (hb B d18_4) hr
 ·show QrmA9 Z G  h0 n0 _ s₁.heap _
  rw [e0]
  exact ⟨rfl, N0, rfl⟩
def d17_7 : DC kc17 7 (.iconst 1) 1 := by decide +kernel
def d17_8 : DC kc17 8 (.iadd) 1 := by decide +kernel
def d17_9 : DC kc17 9 (.newarray .long) 2 := by decide +kernel
def d17_11 : DC kc17 11 (.putfield 11) 3 := by decide +kernel
def d17_14 : DC kc17 14 (.return_) 1 := by decide +kernel
def QrmA8 (Z : State) (G : Gs) (xa1 : Addr) (h0 : Heap) (n0 : Nat) (v : Option Value) (h : Heap) (L : List Loc) : Prop := ∃ (yo1 : Addr), ∃ (yk_yo1 : ClassId), v = none ∧ Fr n0 L ∧ Keep h0 h [xa1] ∧ Exa Z h xa1 sg2 ∧ Fld Z h xa1 sg2 sg13 "Z" ZI ∧ Fld Z h xa1 sg2 "words" "[J" (.ref yo1) ∧ Fld Z h xa1 sg2 "wordsInUse" "I" ZI ∧ h0.size ≤ yo1 ∧ Arv Z h yo1 yk_yo1 .long (1 : Int32) [(.long (0 : Int64))] (.long (0 : Int64))
theorem rmA8 (l : Launch) (Z : State) (a0 : Array Value) (hw : HW a0 Z) (G : Gs) (ST : StartF Z G) (ws : List Jvm.Cond) (xa1 : Addr) (h0 : Heap) (n0 : Nat) (X00 : Old Z n0 h0) (xE_xa1 : Exa Z h0 xa1 sg2) (xF_xa1_sizeIsSticky : Fld Z h0 xa1 sg2 sg13 "Z" ZI) (xF_xa1_words : Fld Z h0 xa1 sg2 "words" "[J" .null) (xF_xa1_wordsInUse : Fld Z h0 xa1 sg2 "wordsInUse" "I" ZI) (xg_xa1 : n0 ≤ xa1) :
  MF l Z ws mm36 jdk_92_method_6_code 2 none (rk 1 1 1 13) #[(.ref xa1), (.int (64 : Int32))] h0 (QrmA8 Z G xa1 h0 n0) := by
 refine MetFree.of_bodySF (plainFor_of_name pn_9) hisR ?_
 intro p e s m args below meth c s₁ Bd hml0 hP hK
 obtain ⟨rfl, hZ, hh⟩ := hP
 have hx := Bd.exec
 have B := Bd.bytes
 have hml : c.maxLocals = 2 := hml0
 have hown : s.vm.findClass sg2 = some m.cls := findClass_of_methodNamed Bd.named
 have X0 : Stand p l e (rk 1 1 1 13) s m #[(.ref xa1), (.int (64 : Int32))] below meth c s₁ [] 0 0 := Stand.of_body Bd
 have e0 : s₁.heap = h0 := by rw [← hh, Bd.state]; rfl
 have N0 := Fr.nil n0
 obtain ⟨TG, hTG, pre0⟩ := own_pre p e below s₁ (ef_rmA8 m xa1 (64 : Int32) )
 obtain ⟨_, _, ⟨T10, L10, k10, n10⟩, -, X10, ⟨Lc10, hQ10, l10, y10, z10⟩, st10⟩ := Jvm.LawKit.callS X0 hx (y := mm28) hown (mvT hZ (w_130 hw)) (mvT hZ (w_131 hw)) (mvT hZ (w_116 hw)) (mvT hZ (w_132 hw)) (by decide) (backOf (W := 1) (rmA9 l Z a0 hw G ST []  h0 n0 X00 ) hZ (w_132 hw) (w_116 hw) (by decide) (by decide)) (g := (mkF m 4 #[xvr xa1, xvi (64 : Int32)] [xwi (63 : Int32), xwr xa1])) rfl (by rw [hml]; rfl) (argsL := [(.int (63 : Int32))]) (rest := [(.ref xa1)]) (lenOf pd_17 rfl) rfl (Nat.le_of_eq rfl) (hb B d17_4) (fun _ _ => ⟨rfl, e0, (by decide : 0 + 0 ≤ _), (by decide : 0 + 0 ≤ _)⟩)
 dsimp only [Pt.U, Pt.locs, Pt.cells, Pt.slots] at X10 l10 y10 z10 st10 hQ10
 subst l10 y10 z10
 obtain ⟨rfl, N10q, e10⟩ := hQ10
 have N10 := Fr.app N0 N10q
 obtain ⟨T11, h11, k11, X11, e11, E11, A11, st11⟩ := newP (aty := .long) X10 hx hZ (w_133 hw) e10 (g := (mkF m 9 #[xvr xa1, xvi (64 : Int32)] [xwi (1 : Int32), xwr xa1])) rfl (hb B d17_9) rfl (by decide) (cap := 1) (by decide) (by decide) (by decide) (by decide)
 obtain ⟨b11, g11⟩ : ∃ z, z = h0.size := ⟨_, rfl⟩
 rw [← g11] at A11 st11
 have V11 : Arv Z h11 b11 k11 .long (1 : Int32) [(.long (0 : Int64))] (.long (0 : Int64)) := (Arv.new A11 (by decide)).pad (pad_rep [] (.long (0 : Int64)) 1)
 have f12 := (xF_xa1_words.ext E11)
 have f13 := (xE_xa1.ext E11)
 obtain ⟨T14, h14, X14, e14, W14, st14⟩ := putF X11 hx hZ hown (host := "") (Or.inl (w_134 hw)) Via.refl e11 f12 f13 (Or.inl (w_135 hw)) (w_115 hw) (ty := (.array .long)) (by decide) rfl rfl (g := (mkF m 11 #[xvr xa1, xvi (64 : Int32)] [xwr b11, xwr xa1])) rfl rfl (hb B d17_11)
 have Fw14 := f12.same W14
 have N14 := Fr.snoc X14 N10 xg_xa1
 have f15 := (f13.wr W14)
 have f16 := ((xF_xa1_sizeIsSticky.ext E11).other W14 (Or.inr (slot_ne (Or.inl (w_124 hw)) (Or.inl (w_135 hw)) (by decide) (t := .boolean) (t' := (.array .long)) (by decide) (by decide))))
 have f17 := ((xF_xa1_wordsInUse.ext E11).other W14 (Or.inr (slot_ne (Or.inl (w_122 hw)) (Or.inl (w_135 hw)) (by decide) (t := .int) (t' := (.array .long)) (by decide) (by decide))))
 have ne18 : b11 ≠ xa1 := (Ne.symm (onb xE_xa1.lt (Nat.le_refl _) (Nat.le_of_eq g11.symm)))
 have f19 := (V11.other W14 ne18)
 obtain ⟨fs, hr, hrun, hended, hW, hsame⟩ := X14.leave (v := none) (fun _ => rfl)
 refine ⟨_, _, hTG _ (pre0 _ ?_), hrun, hended, _, _, rfl, ?_, ⟨_, rfl⟩, hW, hsame.mono (by decide) (by decide)⟩
 ·refine y_aloadN X0 hx 1 (hb B d17_0) rfl rfl rfl <| y_iloadN X0 hx 2 (hb B d17_1) rfl rfl <| y_iconst X0 hx (1 : Int32) 3 (hb B d17_2) rfl rfl <| y_isub X0 hx 4 (hb B d17_3) rfl ?_
  rw [show ((64 : Int32) - (1 : Int32)) = (63 : Int32) from by decide]
  refine st10 _ ?_
  refine y_iconst X10 hx (1 : Int32) 8 (hb B d17_7) rfl rfl <| y_iadd X10 hx 9 (hb B d17_8) rfl ?_
  rw [show ((0 : Int32) + (1 : Int32)) = (1 : Int32) from by decide]
  refine st11 _ ?_
  refine st14 _ ?_
  show Sx p e below T14 m 14 #[xvr xa1, xvi (64 : Int32)] [] _
  exact X14.returnOut hx Bd.returns (hb B d17_14) hr
 ·show QrmA8 Z G xa1 h0 n0 _ T14.heap _
  rw [e14]
  exact ⟨b11, k11, rfl, N14, (((Keep.refl h0 [xa1]).ext E11).wr W14 (oi 0 rfl)), f15, f16, Fw14, f17, (ntr (Nat.le_refl _) (Nat.le_of_eq g11.symm)), f19⟩
theorem pd_18 : parseMethodDescriptor "(I)V" = some ⟨[.int], none⟩ := by decide +kernel
def d16_20 : DC kc16 20 (.aload_n 0) 1 := by decide +kernel
def d16_21 : DC kc16 21 (.iconst 0) 1 := by decide +kernel
def d16_22 : DC kc16 22 (.putfield 24) 3 := by decide +kernel
def d16_25 : DC kc16 25 (.return_) 1 := by decide +kernel
def QrmA7 (Z : State) (G : Gs) (xa1 : Addr) (h0 : Heap) (n0 : Nat) (v : Option Value) (h : Heap) (L : List Loc) : Prop := ∃ (yo1 : Addr), ∃ (yk_yo1 : ClassId), v = none ∧ Fr n0 L ∧ Keep h0 h [xa1] ∧ Exa Z h xa1 sg2 ∧ Fld Z h xa1 sg2 sg13 "Z" ZI ∧ Fld Z h xa1 sg2 "words" "[J" (.ref yo1) ∧ Fld Z h xa1 sg2 "wordsInUse" "I" ZI ∧ h0.size ≤ yo1 ∧ Arv Z h yo1 yk_yo1 .long (1 : Int32) [(.long (0 : Int64))] (.long (0 : Int64))
theorem rmA7 (l : Launch) (Z : State) (a0 : Array Value) (hw : HW a0 Z) (G : Gs) (ST : StartF Z G) (ws : List Jvm.Cond) (xa1 : Addr) (h0 : Heap) (n0 : Nat) (X00 : Old Z n0 h0) (xE_xa1 : Exa Z h0 xa1 sg2) (xF_xa1_sizeIsSticky : Fld Z h0 xa1 sg2 sg13 "Z" ZI) (xF_xa1_words : Fld Z h0 xa1 sg2 "words" "[J" .null) (xF_xa1_wordsInUse : Fld Z h0 xa1 sg2 "wordsInUse" "I" ZI) (xg_xa1 : n0 ≤ xa1) :
  MF l Z ws mm37 jdk_92_method_4_code 1 none (rk 2 1 1 26) #[(.ref xa1)] h0 (QrmA7 Z G xa1 h0 n0) := by
 refine MetFree.of_bodySF (plainFor_of_name pn_9) hisR ?_
 intro p e s m args below meth c s₁ Bd hml0 hP hK
 obtain ⟨rfl, hZ, hh⟩ := hP
 have hx := Bd.exec
 have B := Bd.bytes
 have hml : c.maxLocals = 1 := hml0
 have hown : s.vm.findClass sg2 = some m.cls := findClass_of_methodNamed Bd.named
 have X0 : Stand p l e (rk 2 1 1 26) s m #[(.ref xa1)] below meth c s₁ [] 0 0 := Stand.of_body Bd
 have e0 : s₁.heap = h0 := by rw [← hh, Bd.state]; rfl
 have N0 := Fr.nil n0
 obtain ⟨TG, hTG, pre0⟩ := own_pre p e below s₁ (ef_rmL1 m xa1 )
 obtain ⟨T10, X10, e10, st10⟩ := initO X0 hx hZ hown (w_120 hw) (w_20 hw) (w_21 hw) e0 (g := (mkF m 1 #[xvr xa1] [xwr xa1])) rfl (by rw [hml]; rfl) rfl (hb B d16_1) (by decide) (W := 0) (by show 2 * 0 + _ ≤ _; exact Nat.le_of_eq rfl) (by decide)
 obtain ⟨T11, h11, X11, e11, W11, st11⟩ := putF X10 hx hZ hown (host := "") (Or.inl (w_121 hw)) Via.refl e10 xF_xa1_wordsInUse xE_xa1 (Or.inl (w_122 hw)) (w_115 hw) (ty := .int) (by decide) rfl rfl (g := (mkF m 6 #[xvr xa1] [xwi (0 : Int32), xwr xa1])) rfl rfl (hb B d16_6)
 have Fw11 := xF_xa1_wordsInUse.same W11
 have N11 := Fr.snoc X11 N0 xg_xa1
 have f12 := (xF_xa1_sizeIsSticky.other W11 (Or.inr (slot_ne (Or.inl (w_124 hw)) (Or.inl (w_122 hw)) (by decide) (t := .boolean) (t' := .int) (by decide) (by decide))))
 have f13 := (xE_xa1.wr W11)
 obtain ⟨T14, h14, X14, e14, W14, st14⟩ := putFN X11 hx hZ hown (w_123 hw) Via.refl e11 f12 f13 (Or.inl (w_124 hw)) (w_115 hw) (ty := .boolean) (v' := ZI) (by decide) (by decide) (by decide) (g := (mkF m 11 #[xvr xa1] [xwi (0 : Int32), xwr xa1])) rfl rfl (hb B d16_11)
 have Fw14 := f12.same W14
 have N14 := Fr.snoc X14 N11 xg_xa1
 have f15 := (f13.wr W14)
 have f16 := ((xF_xa1_words.other W11 (Or.inr (slot_ne (Or.inl (w_135 hw)) (Or.inl (w_122 hw)) (by decide) (t := (.array .long)) (t' := .int) (by decide) (by decide)))).other W14 (Or.inr (slot_ne (Or.inl (w_135 hw)) (Or.inl (w_124 hw)) (by decide) (t := (.array .long)) (t' := .boolean) (by decide) (by decide))))
 have f17 := (Fw11.other W14 (Or.inr (slot_ne (Or.inl (w_122 hw)) (Or.inl (w_124 hw)) (by decide) (t := .int) (t' := .boolean) (by decide) (by decide))))
 have Ol18 : Old Z n0 h14 := ((X00.wr W11 xg_xa1).wr W14 xg_xa1)
 obtain ⟨cq19, q19, q19'⟩ := f15.cell
 obtain ⟨_, _, ⟨T20, L20, k20, n20⟩, -, X20, ⟨Lc20, hQ20, l20, y20, z20⟩, st20⟩ := X14.privateBack hx (y := mm36) hown (mvT hZ (w_125 hw)) (mvT hZ (w_126 hw)) (mvT hZ (w_128 hw)) (Cond.privateMethod_at (mvP hZ (w_127 hw) (args := #[]))) (mvT hZ (w_129 hw)) (by decide) (backOf (W := 0) (rmA8 l Z a0 hw G ST [] xa1 h14 n0 Ol18 f15 Fw14 f16 f17 xg_xa1) hZ (w_129 hw) (w_116 hw) (by decide) (by decide)) (g := (mkF m 17 #[xvr xa1] [xwi (64 : Int32), xwr xa1])) rfl (by rw [hml]; rfl) (Steps.refl _) (a := xa1) (by rw [e14]; exact q19) q19' (argsL := [(.int (64 : Int32))]) (rest := []) (lenOf pd_18 rfl) rfl (Nat.le_of_eq rfl) (hb B d16_17) (fun _ _ => ⟨rfl, e14, (by decide : 0 + 1 ≤ _), (by decide : 0 + 1 ≤ _)⟩)
 dsimp only [Pt.U, Pt.locs, Pt.cells, Pt.slots] at X20 l20 y20 z20 st20 hQ20
 subst l20 y20 z20
 obtain ⟨hp20, e20⟩ : ∃ z, T20.heap = z := ⟨_, rfl⟩
 rw [e20] at hQ20
 obtain ⟨o21, o22, rfl, N20q, K20, p23, p24, p25, p26, p27, p28⟩ := hQ20
 have N20 := Fr.app N14 N20q
 obtain ⟨T29, h29, X29, e29, W29, st29⟩ := putFN X20 hx hZ hown (w_123 hw) Via.refl e20 p24 p23 (Or.inl (w_124 hw)) (w_115 hw) (ty := .boolean) (v' := ZI) (by decide) (by decide) (by decide) (g := (mkF m 22 #[xvr xa1] [xwi (0 : Int32), xwr xa1])) rfl rfl (hb B d16_22)
 have Fw29 := p24.same W29
 have N29 := Fr.snoc X29 N20 xg_xa1
 have f30 := (p23.wr W29)
 have f31 := (p25.other W29 (Or.inr (slot_ne (Or.inl (w_135 hw)) (Or.inl (w_124 hw)) (by decide) (t := (.array .long)) (t' := .boolean) (by decide) (by decide))))
 have f32 := (p26.other W29 (Or.inr (slot_ne (Or.inl (w_122 hw)) (Or.inl (w_124 hw)) (by decide) (t := .int) (t' := .boolean) (by decide) (by decide))))
 have ne33 : o21 ≠ xa1 := (Ne.symm (onb xE_xa1.lt (ntr (Nat.le_of_eq W11.size.symm) (Nat.le_of_eq W14.size.symm)) p27))
 have f34 := (p28.other W29 ne33)
 obtain ⟨fs, hr, hrun, hended, hW, hsame⟩ := X29.leave (v := none) (fun _ => rfl)
 refine ⟨_, _, hTG _ (pre0 _ ?_), hrun, hended, _, _, rfl, ?_, ⟨_, rfl⟩, hW, hsame.mono (by decide) (by decide)⟩
 ·refine y_aloadN X0 hx 1 (hb B d16_0) rfl rfl rfl ?_
  refine st10 _ ?_
  refine y_aloadN X10 hx 5 (hb B d16_4) rfl rfl rfl <| y_iconst X10 hx (0 : Int32) 6 (hb B d16_5) rfl rfl ?_
  refine st11 _ ?_
  refine y_aloadN X11 hx 10 (hb B d16_9) rfl rfl rfl <| y_iconst X11 hx (0 : Int32) 11 (hb B d16_10) rfl rfl ?_
  refine st14 _ ?_
  refine y_aloadN X14 hx 15 (hb B d16_14) rfl rfl rfl <| y_bipush X14 hx (64 : Int32) 17 (hb B d16_15) rfl rfl ?_
  refine st20.trans ?_
  refine y_aloadN X20 hx 21 (hb B d16_20) rfl rfl rfl <| y_iconst X20 hx (0 : Int32) 22 (hb B d16_21) rfl rfl ?_
  refine st29 _ ?_
  show Sx p e below T29 m 25 #[xvr xa1] [] _
  exact X29.returnOut hx Bd.returns (hb B d16_25) hr
 ·show QrmA7 Z G xa1 h0 n0 _ T29.heap _
  rw [e29]
  exact ⟨o21, o22, rfl, N29, (((((Keep.refl h0 [xa1]).wr W11 (oi 0 rfl)).wr W14 (oi 0 rfl)).trans K20 (allS (oi 0 rfl) all0)).wr W29 (oi 0 rfl)), f30, Fw29, f31, f32, (ntr (ntr (Nat.le_of_eq W11.size.symm) (Nat.le_of_eq W14.size.symm)) p27), f34⟩
def d15_22 : DC kc15 22 (.putfield 24) 3 := by decide +kernel
def d15_25 : DC kc15 25 (.iconst 2) 1 := by decide +kernel
def d15_26 : DC kc15 26 (.iconst 2) 1 := by decide +kernel
def d15_27 : DC kc15 27 (.iload_n 1) 1 := by decide +kernel
def d15_28 : DC kc15 28 (.iconst 1) 1 := by decide +kernel
def d15_29 : DC kc15 29 (.invokestatic 28) 3 := by decide +kernel
theorem pd_19 : parseMethodDescriptor "(II)I" = some ⟨[.int, .int], some .int⟩ := by decide +kernel
def d15_32 : DC kc15 32 (.imul) 1 := by decide +kernel
def d15_33 : DC kc15 33 (.iconst 1) 1 := by decide +kernel
def d15_34 : DC kc15 34 (.isub) 1 := by decide +kernel
def d15_35 : DC kc15 35 (.invokestatic 34) 3 := by decide +kernel
def d15_38 : DC kc15 38 (.imul) 1 := by decide +kernel
def d15_39 : DC kc15 39 (.istore_n 2) 1 := by decide +kernel
def d15_40 : DC kc15 40 (.aload_n 0) 1 := by decide +kernel
def d15_41 : DC kc15 41 (.iload_n 2) 1 := by decide +kernel
def d15_42 : DC kc15 42 (.anewarray 38) 3 := by decide +kernel
def d15_45 : DC kc15 45 (.putfield 40) 3 := by decide +kernel
def d15_48 : DC kc15 48 (.aload_n 0) 1 := by decide +kernel
def d15_49 : DC kc15 49 (.iload_n 2) 1 := by decide +kernel
def d15_50 : DC kc15 50 (.newarray .int) 2 := by decide +kernel
def d15_52 : DC kc15 52 (.putfield 44) 3 := by decide +kernel
def d15_55 : DC kc15 55 (.aload_n 0) 1 := by decide +kernel
def d15_56 : DC kc15 56 (.iload_n 2) 1 := by decide +kernel
def d15_57 : DC kc15 57 (.invokestatic 47) 3 := by decide +kernel
def d15_60 : DC kc15 60 (.iconst 1) 1 := by decide +kernel
def d15_61 : DC kc15 61 (.iadd) 1 := by decide +kernel
def d15_62 : DC kc15 62 (.putfield 50) 3 := by decide +kernel
def d15_65 : DC kc15 65 (.aload_n 0) 1 := by decide +kernel
def d15_66 : DC kc15 66 (.iload_n 1) 1 := by decide +kernel
def d15_67 : DC kc15 67 (.putfield 53) 3 := by decide +kernel
def d15_70 : DC kc15 70 (.return_) 1 := by decide +kernel
def QrmLP (Z : State) (G : Gs) (ta : Addr) (mo : Int32) (h0 : Heap) (n0 : Nat) (v : Option Value) (h : Heap) (L : List Loc) : Prop := ∃ (pa : Addr), ∃ (na : Addr), ∃ (da : Addr), ∃ (ba : Addr), ∃ (wa : Addr), ∃ (kp : ClassId), ∃ (kn : ClassId), ∃ (kd : ClassId), ∃ (kw : ClassId), ∃ (sl : Int32), ∃ (sf : Int32), v = none ∧ Fr n0 L ∧ Keep h0 h [ta] ∧ Exa Z h ta sg0 ∧ Fld Z h ta sg0 sg8 sg5 (.ref pa) ∧ Fld Z h ta sg0 "numbers" "[I" (.ref na) ∧ Fld Z h ta sg0 "shift" "I" (.int sf) ∧ Fld Z h ta sg0 "days" "[[I" (.ref da) ∧ Fld Z h ta sg0 "most" "I" (.int mo) ∧ Fld Z h ta sg0 "outOfOrder" sg6 (.ref ba) ∧ Fld Z h ta sg0 "count" "I" ZI ∧ Arv Z h pa kp (.object sg1) sl (List.replicate 32 .null) .null ∧ Arv Z h na kn .int sl (List.replicate 32 ZI) ZI ∧ Arv Z h da kd (.array .int) (9 : Int32) (List.replicate 9 .null) .null ∧ Exa Z h ba sg2 ∧ Fld Z h ba sg2 "wordsInUse" "I" ZI ∧ Fld Z h ba sg2 "words" "[J" (.ref wa) ∧ Arv Z h wa kw .long (1 : Int32) [(.long (0 : Int64))] (.long (0 : Int64)) ∧ h0.size ≤ pa ∧ h0.size ≤ na ∧ h0.size ≤ da ∧ h0.size ≤ ba ∧ h0.size ≤ wa ∧ SLS sl sf ∧ Ovr Z kp sg1 ∧ OvrA Z kd .int "[I"
theorem rmLP (l : Launch) (Z : State) (a0 : Array Value) (hw : HW a0 Z) (G : Gs) (ST : StartF Z G) (ws : List Jvm.Cond) (ta : Addr) (mo : Int32) (h0 : Heap) (n0 : Nat) (X00 : Old Z n0 h0) (tE : Exa Z h0 ta sg0) (t0 : Fld Z h0 ta sg0 sg8 sg5 .null) (t1 : Fld Z h0 ta sg0 "numbers" "[I" .null) (t2 : Fld Z h0 ta sg0 "shift" "I" ZI) (t3 : Fld Z h0 ta sg0 "days" "[[I" .null) (t4 : Fld Z h0 ta sg0 "most" "I" ZI) (t5 : Fld Z h0 ta sg0 "outOfOrder" sg6 .null) (t6 : Fld Z h0 ta sg0 "count" "I" ZI) (gt : n0 ≤ ta) (hmo : Mo mo) :
  MF l Z ws mm38 prog_54_method_1_code 3 none (rk 3 5 77 40) #[(.ref ta), (.int mo)] h0 (QrmLP Z G ta mo h0 n0) := by
 refine MetFree.of_bodySF (plainFor_of_name pn_2) hisR ?_
 intro p e s m args below meth c s₁ Bd hml0 hP hK
 obtain ⟨rfl, hZ, hh⟩ := hP
 have hx := Bd.exec
 have B := Bd.bytes
 have hml : c.maxLocals = 3 := hml0
 have hown : s.vm.findClass sg0 = some m.cls := findClass_of_methodNamed Bd.named
 have hnm := (name_of_methodNamed Bd.named Bd.method).1
 have X0 : Stand p l e (rk 3 5 77 40) s m #[(.ref ta), (.int mo)] below meth c s₁ [] 0 0 := Stand.of_body Bd
 have e0 : s₁.heap = h0 := by rw [← hh, Bd.state]; rfl
 have N0 := Fr.nil n0
 have Z0 := own_Z0 X00
 obtain ⟨TG, hTG, pre0⟩ := own_pre p e below s₁ (ef_rmG1 m ta mo )
 obtain ⟨T10, X10, e10, st10⟩ := initO X0 hx hZ hown (w_107 hw) (w_20 hw) (w_21 hw) e0 (g := (mkF m 1 #[xvr ta, xvi mo, xun] [xwr ta])) rfl (by rw [hml]; rfl) rfl (hb B d15_1) (by decide) (W := 0) (by show 2 * 0 + _ ≤ _; exact Nat.le_of_eq rfl) (by decide)
 obtain ⟨T11, X11, e11, st11⟩ := getS2 X10 hx hZ hown (host := "") (Or.inl (w_108 hw)) Via.refl e10 (ST.c15.ext X00.2) (g := (mkF m 5 #[xvr ta, xvi mo, xun] [xwr ta])) rfl (hb B d15_5)
 obtain ⟨T12, h12, k12, X12, e12, E12, A12, Ex12, O12, st12⟩ := newRA X11 hx hZ hown (C := "[I") (ty := .int) (by first | rfl | decide +kernel) (w_110 hw) (w_111 hw) e11 (g := (mkF m 8 #[xvr ta, xvi mo, xun] [xwi (9 : Int32), xwr ta])) rfl (hb B d15_8) rfl (by decide) (cap := 9) (by decide) (by decide) (by decide) (by decide) (ad := "[[I") (by first | rfl | decide +kernel)
 obtain ⟨b12, g12⟩ : ∃ z, z = h0.size := ⟨_, rfl⟩
 rw [← g12] at A12 Ex12 st12
 have V12 : Arv Z h12 b12 k12 (.array .int) (9 : Int32) (List.replicate 9 .null) .null := (Arv.new A12 (by decide)).pad (pad_rep [] .null 9)
 have f13 := (t3.ext E12)
 have f14 := (tE.ext E12)
 obtain ⟨T15, h15, X15, e15, W15, st15⟩ := putF X12 hx hZ hown (host := "") (Or.inl (w_112 hw)) Via.refl e12 f13 f14 (Or.inr ⟨(w_113 hw), rfl, hnm⟩) (w_102 hw) (ty := (.array (.array .int))) (by decide) rfl rfl (g := (mkF m 11 #[xvr ta, xvi mo, xun] [xwr b12, xwr ta])) rfl rfl (hb B d15_11)
 have Fw15 := f13.same W15
 have N15 := Fr.snoc X15 N0 gt
 obtain ⟨T16, h16, X16, e16, E16, A16, D16, -, st16⟩ := newO X15 hx hZ hown (w_114 hw) (w_115 hw) (w_116 hw) e15 (g := (mkF m 15 #[xvr ta, xvi mo, xun] [xwr ta])) rfl (hb B d15_15) (by decide) (by decide)
 obtain ⟨b16, g16⟩ : ∃ z, z = h15.size := ⟨_, rfl⟩
 rw [← g16] at A16 D16 st16
 have Fb16_wordsInUse : Fld Z h16 b16 sg2 "wordsInUse" "I" ZI := D16 (Or.inl (w_122 hw)) (ty := .int) (by decide)
 have Fb16_sizeIsSticky : Fld Z h16 b16 sg2 sg13 "Z" ZI := D16 (Or.inl (w_124 hw)) (ty := .boolean) (by decide)
 have Fb16_words : Fld Z h16 b16 sg2 "words" "[J" .null := D16 (Or.inl (w_135 hw)) (ty := (.array .long)) (by decide)
 have Ol17 : Old Z n0 h16 := (((X00.ext E12).wr W15 gt).ext E16)
 obtain ⟨_, _, ⟨T18, L18, k18, n18⟩, -, X18, ⟨Lc18, hQ18, l18, y18, z18⟩, st18⟩ := X16.specialBack hx (y := mm37) rfl hown (mvT hZ (w_117 hw)) (mvT hZ (w_118 hw)) (mvT hZ (w_119 hw)) (by decide) (backOf (W := 2) (rmA7 l Z a0 hw G ST [] b16 h16 n0 Ol17 A16 Fb16_sizeIsSticky Fb16_words Fb16_wordsInUse (ntr Z0 (ntr (ntr E12.1 (Nat.le_of_eq W15.size.symm)) (Nat.le_of_eq g16.symm)))) hZ (w_119 hw) (w_116 hw) (by decide) (by decide)) (g := (mkF m 19 #[xvr ta, xvi mo, xun] [xwr b16, xwr b16, xwr ta])) rfl (by rw [hml]; rfl) (Steps.refl _) (a := b16) (argsL := []) (rest := [(.ref b16), (.ref ta)]) (lenOf pd_16 rfl) rfl (Nat.le_of_eq rfl) (hb B d15_19) (fun _ _ => ⟨rfl, e16, (by decide : 2 + 1 ≤ _), (by decide : 12 + 1 ≤ _)⟩)
 dsimp only [Pt.U, Pt.locs, Pt.cells, Pt.slots] at X18 l18 y18 z18 st18 hQ18
 subst l18 y18 z18
 obtain ⟨hp18, e18⟩ : ∃ z, T18.heap = z := ⟨_, rfl⟩
 rw [e18] at hQ18
 obtain ⟨o19, o20, rfl, N18q, K18, p21, p22, p23, p24, p25, p26⟩ := hQ18
 have N18 := Fr.app N15 N18q
 have ne27 : ta ≠ b16 := (onb tE.lt (ntr E12.1 (Nat.le_of_eq W15.size.symm)) (Nat.le_of_eq g16.symm))
 have f28 := ((((t5.ext E12).other W15 (Or.inr (slot_ne (Or.inr (w_137 hw)) (Or.inr (w_113 hw)) (by decide) (t := (.object sg2)) (t' := (.array (.array .int))) (by decide) (by decide)))).ext E16).keep K18 (ninS ne27 nin0))
 have f29 := (((f14.wr W15).ext E16).keep K18)
 obtain ⟨T30, h30, X30, e30, W30, st30⟩ := putF X18 hx hZ hown (host := "") (Or.inl (w_136 hw)) Via.refl e18 f28 f29 (Or.inr ⟨(w_137 hw), rfl, hnm⟩) (w_102 hw) (ty := (.object sg2)) (by decide) rfl rfl (g := (mkF m 22 #[xvr ta, xvi mo, xun] [xwr b16, xwr ta])) rfl rfl (hb B d15_22)
 have Fw30 := f28.same W30
 have N30 := Fr.snoc X30 N18 gt
 have Ol31 : Old Z n0 h30 := ((Ol17.keep K18 (allS (ntr Z0 (ntr (ntr E12.1 (Nat.le_of_eq W15.size.symm)) (Nat.le_of_eq g16.symm))) all0)).wr W30 gt)
 obtain ⟨_, _, ⟨T32, L32, k32, n32⟩, -, X32, ⟨Lc32, hQ32, l32, y32, z32⟩, st32⟩ := Jvm.LawKit.callS X30 hx (y := mm33) hown (mvT hZ (w_138 hw)) (mvT hZ (w_139 hw)) (mvT hZ (w_140 hw)) (mvT hZ (w_141 hw)) (by decide) (backOf (W := 2) (rmMx l Z a0 hw G ST [] mo h30 n0 Ol31 (own_mog1 hmo)) hZ (w_141 hw) (w_140 hw) (by decide) (by decide)) (g := (mkF m 29 #[xvr ta, xvi mo, xun] [xwi (1 : Int32), xwi mo, xwi (2 : Int32), xwi (2 : Int32)])) rfl (by rw [hml]; rfl) (argsL := [(.int mo), (.int (1 : Int32))]) (rest := [(.int (2 : Int32)), (.int (2 : Int32))]) (lenOf pd_19 rfl) rfl (Nat.le_of_eq rfl) (hb B d15_29) (fun _ _ => ⟨rfl, e30, (by decide : 3 + 0 ≤ _), (by decide : 13 + 0 ≤ _)⟩)
 dsimp only [Pt.U, Pt.locs, Pt.cells, Pt.slots] at X32 l32 y32 z32 st32 hQ32
 subst l32 y32 z32
 obtain ⟨rfl, N32q, e32⟩ := hQ32
 have N32 := Fr.app N30 N32q
 obtain ⟨_, _, ⟨T33, L33, k33, n33⟩, -, X33, ⟨Lc33, hQ33, l33, y33, z33⟩, st33⟩ := Jvm.LawKit.callS X32 hx (y := mm35) hown (mvT hZ (w_142 hw)) (mvT hZ (w_143 hw)) (mvT hZ (w_144 hw)) (mvT hZ (w_145 hw)) (by decide) (backOf (W := 1) (rmHo l Z a0 hw G ST [] (((2 : Int32) * mo) - (1 : Int32)) h30 n0 Ol31 (own_nl1 hmo)) hZ (w_145 hw) (w_144 hw) (by decide) (by decide)) (g := (mkF m 35 #[xvr ta, xvi mo, xun] [xwi (((2 : Int32) * mo) - (1 : Int32)), xwi (2 : Int32)])) rfl (by rw [hml]; rfl) (argsL := [(.int (((2 : Int32) * mo) - (1 : Int32)))]) (rest := [(.int (2 : Int32))]) (lenOf pd_17 rfl) rfl (Nat.le_of_eq rfl) (hb B d15_35) (fun _ _ => ⟨rfl, e32, (by decide : 3 + 0 ≤ _), (by decide : 13 + 0 ≤ _)⟩)
 dsimp only [Pt.U, Pt.locs, Pt.cells, Pt.slots] at X33 l33 y33 z33 st33 hQ33
 subst l33 y33 z33
 obtain ⟨rfl, N33q, e33⟩ := hQ33
 have N33 := Fr.app N32 N33q
 obtain ⟨slx, e_slx⟩ : ∃ z, z = ((2 : Int32) * (hob (((2 : Int32) * mo) - (1 : Int32)))) := ⟨_, rfl⟩
 have h4 : SL4 slx := by rw [e_slx]; exact own_slx hmo
 obtain ⟨T34, h34, k34, X34, e34, E34, A34, O34, st34⟩ := newR X33 hx hZ hown (w_151 hw) (w_152 hw) e33 (g := (mkF m 42 #[xvr ta, xvi mo, xvi slx] [xwi slx, xwr ta])) rfl (hb B d15_42) rfl (own_sl0 h4) (cap := 32) (own_slc h4) (by decide) (by decide) (by decide)
 obtain ⟨b34, g34⟩ : ∃ z, z = h30.size := ⟨_, rfl⟩
 rw [← g34] at A34 st34
 have V34 : Arv Z h34 b34 k34 (.object sg1) slx (List.replicate 32 .null) .null := (Arv.new A34 (own_sl0 h4)).pad (pad_rep [] .null 32)
 have f35 := ((((((t0.ext E12).other W15 (Or.inr (slot_ne (Or.inr (w_154 hw)) (Or.inr (w_113 hw)) (by decide) (t := (.array (.object sg1))) (t' := (.array (.array .int))) (by decide) (by decide)))).ext E16).keep K18 (ninS ne27 nin0)).other W30 (Or.inr (slot_ne (Or.inr (w_154 hw)) (Or.inr (w_137 hw)) (by decide) (t := (.array (.object sg1))) (t' := (.object sg2)) (by decide) (by decide)))).ext E34)
 have f36 := ((f29.wr W30).ext E34)
 obtain ⟨T37, h37, X37, e37, W37, st37⟩ := putF X34 hx hZ hown (host := "") (Or.inl (w_153 hw)) Via.refl e34 f35 f36 (Or.inr ⟨(w_154 hw), rfl, hnm⟩) (w_102 hw) (ty := (.array (.object sg1))) (by decide) rfl rfl (g := (mkF m 45 #[xvr ta, xvi mo, xvi slx] [xwr b34, xwr ta])) rfl rfl (hb B d15_45)
 have Fw37 := f35.same W37
 have N37 := Fr.snoc X37 N33 gt
 obtain ⟨T38, h38, k38, X38, e38, E38, A38, st38⟩ := newP (aty := .int) X37 hx hZ (w_155 hw) e37 (g := (mkF m 50 #[xvr ta, xvi mo, xvi slx] [xwi slx, xwr ta])) rfl (hb B d15_50) rfl (own_sl0 h4) (cap := 32) (own_slc h4) (by decide) (by decide) (by decide)
 obtain ⟨b38, g38⟩ : ∃ z, z = h37.size := ⟨_, rfl⟩
 rw [← g38] at A38 st38
 have V38 : Arv Z h38 b38 k38 .int slx (List.replicate 32 ZI) ZI := (Arv.new A38 (own_sl0 h4)).pad (pad_rep [] ZI 32)
 have f39 := ((((((((t1.ext E12).other W15 (Or.inr (slot_ne (Or.inr (w_157 hw)) (Or.inr (w_113 hw)) (by decide) (t := (.array .int)) (t' := (.array (.array .int))) (by decide) (by decide)))).ext E16).keep K18 (ninS ne27 nin0)).other W30 (Or.inr (slot_ne (Or.inr (w_157 hw)) (Or.inr (w_137 hw)) (by decide) (t := (.array .int)) (t' := (.object sg2)) (by decide) (by decide)))).ext E34).other W37 (Or.inr (slot_ne (Or.inr (w_157 hw)) (Or.inr (w_154 hw)) (by decide) (t := (.array .int)) (t' := (.array (.object sg1))) (by decide) (by decide)))).ext E38)
 have f40 := ((f36.wr W37).ext E38)
 obtain ⟨T41, h41, X41, e41, W41, st41⟩ := putF X38 hx hZ hown (host := "") (Or.inl (w_156 hw)) Via.refl e38 f39 f40 (Or.inr ⟨(w_157 hw), rfl, hnm⟩) (w_102 hw) (ty := (.array .int)) (by decide) rfl rfl (g := (mkF m 52 #[xvr ta, xvi mo, xvi slx] [xwr b38, xwr ta])) rfl rfl (hb B d15_52)
 have Fw41 := f39.same W41
 have N41 := Fr.snoc X41 N37 gt
 have Ol42 : Old Z n0 h41 := ((((Ol31.ext E34).wr W37 gt).ext E38).wr W41 gt)
 obtain ⟨_, _, ⟨T43, L43, k43, n43⟩, -, X43, ⟨Lc43, hQ43, l43, y43, z43⟩, st43⟩ := Jvm.LawKit.callS X41 hx (y := mm34) hown (mvT hZ (w_158 hw)) (mvT hZ (w_148 hw)) (mvT hZ (w_144 hw)) (mvT hZ (w_149 hw)) (by decide) (backOf (W := 1) (rmNl l Z a0 hw G ST [] slx h41 n0 Ol42 (own_sln h4)) hZ (w_149 hw) (w_144 hw) (by decide) (by decide)) (g := (mkF m 57 #[xvr ta, xvi mo, xvi slx] [xwi slx, xwr ta])) rfl (by rw [hml]; rfl) (argsL := [(.int slx)]) (rest := [(.ref ta)]) (lenOf pd_17 rfl) rfl (Nat.le_of_eq rfl) (hb B d15_57) (fun _ _ => ⟨rfl, e41, (by decide : 5 + 0 ≤ _), (by decide : 77 + 0 ≤ _)⟩)
 dsimp only [Pt.U, Pt.locs, Pt.cells, Pt.slots] at X43 l43 y43 z43 st43 hQ43
 subst l43 y43 z43
 obtain ⟨rfl, N43q, e43⟩ := hQ43
 have N43 := Fr.app N41 N43q
 have f44 := (((((((((t2.ext E12).other W15 (Or.inr (slot_ne (Or.inr (w_160 hw)) (Or.inr (w_113 hw)) (by decide) (t := .int) (t' := (.array (.array .int))) (by decide) (by decide)))).ext E16).keep K18 (ninS ne27 nin0)).other W30 (Or.inr (slot_ne (Or.inr (w_160 hw)) (Or.inr (w_137 hw)) (by decide) (t := .int) (t' := (.object sg2)) (by decide) (by decide)))).ext E34).other W37 (Or.inr (slot_ne (Or.inr (w_160 hw)) (Or.inr (w_154 hw)) (by decide) (t := .int) (t' := (.array (.object sg1))) (by decide) (by decide)))).ext E38).other W41 (Or.inr (slot_ne (Or.inr (w_160 hw)) (Or.inr (w_157 hw)) (by decide) (t := .int) (t' := (.array .int)) (by decide) (by decide))))
 have f45 := (f40.wr W41)
 obtain ⟨T46, h46, X46, e46, W46, st46⟩ := putF X43 hx hZ hown (host := "") (Or.inl (w_159 hw)) Via.refl e43 f44 f45 (Or.inr ⟨(w_160 hw), rfl, hnm⟩) (w_102 hw) (ty := .int) (by decide) rfl rfl (g := (mkF m 62 #[xvr ta, xvi mo, xvi slx] [xwi ((nlzf slx) + (1 : Int32)), xwr ta])) rfl rfl (hb B d15_62)
 have Fw46 := f44.same W46
 have N46 := Fr.snoc X46 N43 gt
 have f47 := ((((((((((t4.ext E12).other W15 (Or.inr (slot_ne (Or.inr (w_162 hw)) (Or.inr (w_113 hw)) (by decide) (t := .int) (t' := (.array (.array .int))) (by decide) (by decide)))).ext E16).keep K18 (ninS ne27 nin0)).other W30 (Or.inr (slot_ne (Or.inr (w_162 hw)) (Or.inr (w_137 hw)) (by decide) (t := .int) (t' := (.object sg2)) (by decide) (by decide)))).ext E34).other W37 (Or.inr (slot_ne (Or.inr (w_162 hw)) (Or.inr (w_154 hw)) (by decide) (t := .int) (t' := (.array (.object sg1))) (by decide) (by decide)))).ext E38).other W41 (Or.inr (slot_ne (Or.inr (w_162 hw)) (Or.inr (w_157 hw)) (by decide) (t := .int) (t' := (.array .int)) (by decide) (by decide)))).other W46 (Or.inr (slot_ne (Or.inr (w_162 hw)) (Or.inr (w_160 hw)) (by decide) (t := .int) (t' := .int) (by decide) (by decide))))
 have f48 := (f45.wr W46)
 obtain ⟨T49, h49, X49, e49, W49, st49⟩ := putF X46 hx hZ hown (host := "") (Or.inl (w_161 hw)) Via.refl e46 f47 f48 (Or.inr ⟨(w_162 hw), rfl, hnm⟩) (w_102 hw) (ty := .int) (by decide) rfl rfl (g := (mkF m 67 #[xvr ta, xvi mo, xvi slx] [xwi mo, xwr ta])) rfl rfl (hb B d15_67)
 have Fw49 := f47.same W49
 have N49 := Fr.snoc X49 N46 gt
 have f50 := (f48.wr W49)
 have f51 := ((((Fw37.ext E38).other W41 (Or.inr (slot_ne (Or.inr (w_154 hw)) (Or.inr (w_157 hw)) (by decide) (t := (.array (.object sg1))) (t' := (.array .int)) (by decide) (by decide)))).other W46 (Or.inr (slot_ne (Or.inr (w_154 hw)) (Or.inr (w_160 hw)) (by decide) (t := (.array (.object sg1))) (t' := .int) (by decide) (by decide)))).other W49 (Or.inr (slot_ne (Or.inr (w_154 hw)) (Or.inr (w_162 hw)) (by decide) (t := (.array (.object sg1))) (t' := .int) (by decide) (by decide))))
 have f52 := ((Fw41.other W46 (Or.inr (slot_ne (Or.inr (w_157 hw)) (Or.inr (w_160 hw)) (by decide) (t := (.array .int)) (t' := .int) (by decide) (by decide)))).other W49 (Or.inr (slot_ne (Or.inr (w_157 hw)) (Or.inr (w_162 hw)) (by decide) (t := (.array .int)) (t' := .int) (by decide) (by decide))))
 have f53 := (Fw46.other W49 (Or.inr (slot_ne (Or.inr (w_160 hw)) (Or.inr (w_162 hw)) (by decide) (t := .int) (t' := .int) (by decide) (by decide))))
 have f54 := (((((((((Fw15.ext E16).keep K18 (ninS ne27 nin0)).other W30 (Or.inr (slot_ne (Or.inr (w_113 hw)) (Or.inr (w_137 hw)) (by decide) (t := (.array (.array .int))) (t' := (.object sg2)) (by decide) (by decide)))).ext E34).other W37 (Or.inr (slot_ne (Or.inr (w_113 hw)) (Or.inr (w_154 hw)) (by decide) (t := (.array (.array .int))) (t' := (.array (.object sg1))) (by decide) (by decide)))).ext E38).other W41 (Or.inr (slot_ne (Or.inr (w_113 hw)) (Or.inr (w_157 hw)) (by decide) (t := (.array (.array .int))) (t' := (.array .int)) (by decide) (by decide)))).other W46 (Or.inr (slot_ne (Or.inr (w_113 hw)) (Or.inr (w_160 hw)) (by decide) (t := (.array (.array .int))) (t' := .int) (by decide) (by decide)))).other W49 (Or.inr (slot_ne (Or.inr (w_113 hw)) (Or.inr (w_162 hw)) (by decide) (t := (.array (.array .int))) (t' := .int) (by decide) (by decide))))
 have f55 := ((((((Fw30.ext E34).other W37 (Or.inr (slot_ne (Or.inr (w_137 hw)) (Or.inr (w_154 hw)) (by decide) (t := (.object sg2)) (t' := (.array (.object sg1))) (by decide) (by decide)))).ext E38).other W41 (Or.inr (slot_ne (Or.inr (w_137 hw)) (Or.inr (w_157 hw)) (by decide) (t := (.object sg2)) (t' := (.array .int)) (by decide) (by decide)))).other W46 (Or.inr (slot_ne (Or.inr (w_137 hw)) (Or.inr (w_160 hw)) (by decide) (t := (.object sg2)) (t' := .int) (by decide) (by decide)))).other W49 (Or.inr (slot_ne (Or.inr (w_137 hw)) (Or.inr (w_162 hw)) (by decide) (t := (.object sg2)) (t' := .int) (by decide) (by decide))))
 have f56 := (((((((((((t6.ext E12).other W15 (Or.inr (slot_ne (Or.inl (w_205 hw)) (Or.inr (w_113 hw)) (by decide) (t := .int) (t' := (.array (.array .int))) (by decide) (by decide)))).ext E16).keep K18 (ninS ne27 nin0)).other W30 (Or.inr (slot_ne (Or.inl (w_205 hw)) (Or.inr (w_137 hw)) (by decide) (t := .int) (t' := (.object sg2)) (by decide) (by decide)))).ext E34).other W37 (Or.inr (slot_ne (Or.inl (w_205 hw)) (Or.inr (w_154 hw)) (by decide) (t := .int) (t' := (.array (.object sg1))) (by decide) (by decide)))).ext E38).other W41 (Or.inr (slot_ne (Or.inl (w_205 hw)) (Or.inr (w_157 hw)) (by decide) (t := .int) (t' := (.array .int)) (by decide) (by decide)))).other W46 (Or.inr (slot_ne (Or.inl (w_205 hw)) (Or.inr (w_160 hw)) (by decide) (t := .int) (t' := .int) (by decide) (by decide)))).other W49 (Or.inr (slot_ne (Or.inl (w_205 hw)) (Or.inr (w_162 hw)) (by decide) (t := .int) (t' := .int) (by decide) (by decide))))
 have ne57 : b34 ≠ ta := (Ne.symm (onb tE.lt (ntr (ntr (ntr (ntr E12.1 (Nat.le_of_eq W15.size.symm)) E16.1) K18.1) (Nat.le_of_eq W30.size.symm)) (Nat.le_of_eq g34.symm)))
 have f58 := (((((V34.other W37 ne57).ext E38).other W41 ne57).other W46 ne57).other W49 ne57)
 have ne59 : b38 ≠ ta := (Ne.symm (onb tE.lt (ntr (ntr (ntr (ntr (ntr (ntr E12.1 (Nat.le_of_eq W15.size.symm)) E16.1) K18.1) (Nat.le_of_eq W30.size.symm)) E34.1) (Nat.le_of_eq W37.size.symm)) (Nat.le_of_eq g38.symm)))
 have f60 := (((V38.other W41 ne59).other W46 ne59).other W49 ne59)
 have ne61 : b12 ≠ ta := (Ne.symm (onb tE.lt (Nat.le_refl _) (Nat.le_of_eq g12.symm)))
 have ne62 : b12 ≠ b16 := (onb V12.lt (Nat.le_of_eq W15.size.symm) (Nat.le_of_eq g16.symm))
 have f63 := ((((((((((V12.other W15 ne61).ext E16).keep K18 (ninS ne62 nin0)).other W30 ne61).ext E34).other W37 ne61).ext E38).other W41 ne61).other W46 ne61).other W49 ne61)
 have f64 := (((((((p21.wr W30).ext E34).wr W37).ext E38).wr W41).wr W46).wr W49)
 have f65 := (((((((p24.other W30 (Or.inl (Ne.symm ne27))).ext E34).other W37 (Or.inl (Ne.symm ne27))).ext E38).other W41 (Or.inl (Ne.symm ne27))).other W46 (Or.inl (Ne.symm ne27))).other W49 (Or.inl (Ne.symm ne27)))
 have f66 := (((((((p23.other W30 (Or.inl (Ne.symm ne27))).ext E34).other W37 (Or.inl (Ne.symm ne27))).ext E38).other W41 (Or.inl (Ne.symm ne27))).other W46 (Or.inl (Ne.symm ne27))).other W49 (Or.inl (Ne.symm ne27)))
 have ne67 : o19 ≠ ta := (Ne.symm (onb tE.lt (ntr (ntr E12.1 (Nat.le_of_eq W15.size.symm)) E16.1) p25))
 have f68 := (((((((p26.other W30 ne67).ext E34).other W37 ne67).ext E38).other W41 ne67).other W46 ne67).other W49 ne67)
 obtain ⟨fs, hr, hrun, hended, hW, hsame⟩ := X49.leave (v := none) (fun _ => rfl)
 refine ⟨_, _, hTG _ (pre0 _ ?_), hrun, hended, _, _, rfl, ?_, ⟨_, rfl⟩, hW, hsame.mono (by decide) (by decide)⟩
 ·refine y_aloadN X0 hx 1 (hb B d15_0) rfl rfl rfl ?_
  refine st10 _ ?_
  refine y_aloadN X10 hx 5 (hb B d15_4) rfl rfl rfl ?_
  refine st11 _ ?_
  refine st12 _ ?_
  refine st15 _ ?_
  refine y_aloadN X15 hx 15 (hb B d15_14) rfl rfl rfl ?_
  refine st16 _ ?_
  refine y_dup X16 hx 19 (hb B d15_18) rfl rfl ?_
  refine st18.trans ?_
  refine st30 _ ?_
  refine y_iconst X30 hx (2 : Int32) 26 (hb B d15_25) rfl rfl <| y_iconst X30 hx (2 : Int32) 27 (hb B d15_26) rfl rfl <| y_iloadN X30 hx 28 (hb B d15_27) rfl rfl <| y_iconst X30 hx (1 : Int32) 29 (hb B d15_28) rfl rfl ?_
  refine st32 _ ?_
  refine y_imul X32 hx 33 (hb B d15_32) rfl <| y_iconst X32 hx (1 : Int32) 34 (hb B d15_33) rfl rfl <| y_isub X32 hx 35 (hb B d15_34) rfl ?_
  refine st33 _ ?_
  refine y_imul X33 hx 39 (hb B d15_38) rfl ?_
  show Sx p e below T33 m 39 #[xvr ta, xvi mo, xun] [xwi ((2 : Int32) * (hob (((2 : Int32) * mo) - (1 : Int32))))] _
  rw [← e_slx]
  refine y_istoreN X33 hx 40 (hb B d15_39) (L' := #[xvr ta, xvi mo, xvi slx]) rfl rfl <| y_aloadN X33 hx 41 (hb B d15_40) rfl rfl rfl <| y_iloadN X33 hx 42 (hb B d15_41) rfl rfl ?_
  refine st34 _ ?_
  refine st37 _ ?_
  refine y_aloadN X37 hx 49 (hb B d15_48) rfl rfl rfl <| y_iloadN X37 hx 50 (hb B d15_49) rfl rfl ?_
  refine st38 _ ?_
  refine st41 _ ?_
  refine y_aloadN X41 hx 56 (hb B d15_55) rfl rfl rfl <| y_iloadN X41 hx 57 (hb B d15_56) rfl rfl ?_
  refine st43 _ ?_
  refine y_iconst X43 hx (1 : Int32) 61 (hb B d15_60) rfl rfl <| y_iadd X43 hx 62 (hb B d15_61) rfl ?_
  refine st46 _ ?_
  refine y_aloadN X46 hx 66 (hb B d15_65) rfl rfl rfl <| y_iloadN X46 hx 67 (hb B d15_66) rfl rfl ?_
  refine st49 _ ?_
  show Sx p e below T49 m 70 #[xvr ta, xvi mo, xvi slx] [] _
  exact X49.returnOut hx Bd.returns (hb B d15_70) hr
 ·show QrmLP Z G ta mo h0 n0 _ T49.heap _
  rw [e49]
  exact ⟨b34, b38, b12, b16, o19, k34, k38, k12, o20, slx, ((nlzf slx) + (1 : Int32)), rfl, N49, ((((((((((((Keep.refl h0 [ta]).ext E12).wr W15 (oi 0 rfl)).ext E16).trans K18 (allS (Or.inr (ntr (ntr E12.1 (Nat.le_of_eq W15.size.symm)) (Nat.le_of_eq g16.symm))) all0)).wr W30 (oi 0 rfl)).ext E34).wr W37 (oi 0 rfl)).ext E38).wr W41 (oi 0 rfl)).wr W46 (oi 0 rfl)).wr W49 (oi 0 rfl)), f50, f51, f52, f53, f54, Fw49, f55, f56, f58, f60, f63, f64, f65, f66, f68, (ntr (ntr (ntr (ntr (ntr E12.1 (Nat.le_of_eq W15.size.symm)) E16.1) K18.1) (Nat.le_of_eq W30.size.symm)) (Nat.le_of_eq g34.symm)), (ntr (ntr (ntr (ntr (ntr (ntr (ntr E12.1 (Nat.le_of_eq W15.size.symm)) E16.1) K18.1) (Nat.le_of_eq W30.size.symm)) E34.1) (Nat.le_of_eq W37.size.symm)) (Nat.le_of_eq g38.symm)), (ntr (Nat.le_refl _) (Nat.le_of_eq g12.symm)), (ntr (ntr E12.1 (Nat.le_of_eq W15.size.symm)) (Nat.le_of_eq g16.symm)), (ntr (ntr (ntr E12.1 (Nat.le_of_eq W15.size.symm)) E16.1) p25), (own_SLS h4), O34, O12⟩
theorem ef_rmAd0 (m : MethodId) (x0 x1 : Addr) (x2 x3 : Addr)  : entryFrame m #[(.ref x0), (.ref x1), (.ref x2), (.ref x3)] 8 = mkF m 0 #[.val (.ref x0), .val (.ref x1), .val (.ref x2), .val (.ref x3), .unset, .unset, .unset, .unset] [] := by first | (simp [entryFrame, mkF, argsToLocals, Value.category]; done) | rfl
abbrev kc24 : ByteArray := prog_54_method_2_code
def d24_0 : DC kc24 0 (.aload_n 0) 1 := by decide +kernel
def d24_1 : DC kc24 1 (.aload_n 1) 1 := by decide +kernel
def d24_2 : DC kc24 2 (.invokevirtual 56) 3 := by decide +kernel
def d24_5 : DC kc24 5 (.istore 4) 2 := by decide +kernel
def d24_7 : DC kc24 7 (.iconst 0) 1 := by decide +kernel
def d24_8 : DC kc24 8 (.istore 5) 2 := by decide +kernel
def d24_10 : DC kc24 10 (.aload_n 0) 1 := by decide +kernel
def d24_11 : DC kc24 11 (.getfield 24) 3 := by decide +kernel
def d24_14 : DC kc24 14 (.iload 4) 2 := by decide +kernel
def d24_16 : DC kc24 16 (.invokevirtual 60) 3 := by decide +kernel
def QrmA11 (Z : State) (G : Gs)  (h0 : Heap) (n0 : Nat) (v : Option Value) (h : Heap) (L : List Loc) : Prop := v = some ZI ∧ Fr n0 L ∧ h = h0
theorem rmA11 (l : Launch) (Z : State) (a0 : Array Value) (hw : HW a0 Z) (G : Gs) (ST : StartF Z G) (ws : List Jvm.Cond)  (h0 : Heap) (n0 : Nat) (X00 : Old Z n0 h0) :
  MF l Z ws mm28 jdk_92_method_1_code 1 (some .int) (rk 0 0 0 0) #[ZI] h0 (QrmA11 Z G h0 n0) := by
 refine MetFree.of_bodySF (plainFor_of_name pn_9) hisR ?_
 intro p e s m args below meth c s₁ Bd hml0 hP hK
 obtain ⟨rfl, hZ, hh⟩ := hP
 have hx := Bd.exec
 have B := Bd.bytes
 have X0 : Stand p l e (rk 0 0 0 0) s m #[ZI] below meth c s₁ [] 0 0 := Stand.of_body Bd
 have e0 : s₁.heap = h0 := by rw [← hh, Bd.state]; rfl
 have N0 := Fr.nil n0
 obtain ⟨TG, hTG, pre0⟩ := own_pre p e below s₁ (ef_rmCE m (0 : Int32) )
 obtain ⟨fs, hr, hrun, hended, hW, hsame⟩ := X0.leave (v := some ZI) (own_rv Bd.returns)
 refine ⟨_, _, hTG _ (pre0 _ ?_), hrun, hended, _, _, rfl, ?_, ⟨_, rfl⟩, hW, hsame.mono (by decide) (by decide)⟩
 ·refine y_iloadN X0 hx 1 (hb B d18_0) rfl rfl <| y_bipush X0 hx (6 : Int32) 3 (hb B d18_1) rfl rfl ?_
  refine XS.ishr X0.here hx rfl (hb B d18_3) rfl ?_
  rw [show ((0 : Int32) >>> ((6 : Int32) &&& 31)) = (0 : Int32) from by decide]
  show Sx p e below s₁ m 4 #[xvi (0 : Int32)] [xwi (0 : Int32)] _
  exact retOut X0 hx Bd.returns rfl (Or.inl ⟨rfl, Or.inl rfl, _, rfl⟩) (hb B d18_4) hr
 ·show QrmA11 Z G  h0 n0 _ s₁.heap _
  rw [e0]
  exact ⟨rfl, N0, rfl⟩
def QrmA10 (Z : State) (G : Gs) (xa1 : Addr) (h0 : Heap) (n0 : Nat) (v : Option Value) (h : Heap) (L : List Loc) : Prop := v = some ZI ∧ Fr n0 L ∧ h = h0
theorem rmA10 (l : Launch) (Z : State) (a0 : Array Value) (hw : HW a0 Z) (G : Gs) (ST : StartF Z G) (ws : List Jvm.Cond) (xa1 : Addr) (h0 : Heap) (n0 : Nat) (X00 : Old Z n0 h0) (xE_xa1 : Exa Z h0 xa1 sg2) (xF_xa1_wordsInUse : Fld Z h0 xa1 sg2 "wordsInUse" "I" ZI) :
  MF l Z ws mm29 jdk_92_method_26_code 3 (some .boolean) (rk 1 0 0 12) #[(.ref xa1), ZI] h0 (QrmA10 Z G xa1 h0 n0) := by
 refine MetFree.of_bodySF (plainFor_of_name pn_9) hisR ?_
 intro p e s m args below meth c s₁ Bd hml0 hP hK
 obtain ⟨rfl, hZ, hh⟩ := hP
 have hx := Bd.exec
 have B := Bd.bytes
 have hml : c.maxLocals = 3 := hml0
 have hown : s.vm.findClass sg2 = some m.cls := findClass_of_methodNamed Bd.named
 have X0 : Stand p l e (rk 1 0 0 12) s m #[(.ref xa1), ZI] below meth c s₁ [] 0 0 := Stand.of_body Bd
 have e0 : s₁.heap = h0 := by rw [← hh, Bd.state]; rfl
 have N0 := Fr.nil n0
 obtain ⟨TG, hTG, pre0⟩ := own_pre p e below s₁ (ef_rmG1 m xa1 (0 : Int32) )
 obtain ⟨cq10, q10, q10'⟩ := xE_xa1.cell
 obtain ⟨_, _, ⟨T11, L11, k11, n11⟩, -, X11, ⟨Lc11, hQ11, l11, y11, z11⟩, st11⟩ := X0.privateBack hx (y := mm27) hown (mvT hZ (w_211 hw)) (mvT hZ (w_212 hw)) (mvT hZ (w_214 hw)) (Cond.privateMethod_at (mvP hZ (w_213 hw) (args := #[]))) (mvT hZ (w_215 hw)) (by decide) (backOf (W := 0) (rmA5 l Z a0 hw G ST [] xa1 h0 n0 X00 ) hZ (w_215 hw) (w_116 hw) (by decide) (by decide)) (g := (mkF m 32 #[xvr xa1, xvi (0 : Int32), xun] [xwr xa1])) rfl (by rw [hml]; rfl) (Steps.refl _) (a := xa1) (by rw [e0]; exact q10) q10' (argsL := []) (rest := []) (lenOf pd_16 rfl) rfl (Nat.le_of_eq rfl) (hb B d30_32) (fun _ _ => ⟨rfl, e0, (by decide : 0 + 0 ≤ _), (by decide : 0 + 0 ≤ _)⟩)
 dsimp only [Pt.U, Pt.locs, Pt.cells, Pt.slots] at X11 l11 y11 z11 st11 hQ11
 subst l11 y11 z11
 obtain ⟨rfl, N11q, e11⟩ := hQ11
 have N11 := Fr.app N0 N11q
 obtain ⟨_, _, ⟨T12, L12, k12, n12⟩, -, X12, ⟨Lc12, hQ12, l12, y12, z12⟩, st12⟩ := Jvm.LawKit.callS X11 hx (y := mm28) hown (mvT hZ (w_130 hw)) (mvT hZ (w_131 hw)) (mvT hZ (w_116 hw)) (mvT hZ (w_132 hw)) (by decide) (backOf (W := 0) (rmA11 l Z a0 hw G ST []  h0 n0 X00 ) hZ (w_132 hw) (w_116 hw) (by decide) (by decide)) (g := (mkF m 36 #[xvr xa1, xvi (0 : Int32), xun] [xwi (0 : Int32)])) rfl (by rw [hml]; rfl) (argsL := [ZI]) (rest := []) (lenOf pd_17 rfl) rfl (Nat.le_of_eq rfl) (hb B d30_36) (fun _ _ => ⟨rfl, e11, (by decide : 0 + 0 ≤ _), (by decide : 0 + 0 ≤ _)⟩)
 dsimp only [Pt.U, Pt.locs, Pt.cells, Pt.slots] at X12 l12 y12 z12 st12 hQ12
 subst l12 y12 z12
 obtain ⟨rfl, N12q, e12⟩ := hQ12
 have N12 := Fr.app N11 N12q
 obtain ⟨T13, X13, e13, st13⟩ := getF X12 hx hZ hown (host := "") (Or.inl (w_121 hw)) Via.refl e12 xF_xa1_wordsInUse (g := (mkF m 42 #[xvr xa1, xvi (0 : Int32), xvi (0 : Int32)] [xwr xa1, xwi (0 : Int32)])) rfl rfl (hb B d30_42)
 obtain ⟨fs, hr, hrun, hended, hW, hsame⟩ := X13.leave (v := some ZI) (own_rv Bd.returns)
 refine ⟨_, _, hTG _ (pre0 _ ?_), hrun, hended, _, _, rfl, ?_, ⟨_, rfl⟩, hW, hsame.mono (by decide) (by decide)⟩
 ·refine y_iloadN X0 hx 1 (hb B d30_0) rfl rfl <| y_ifYes X0 hx 31 (hb B d30_1) (XT.i0_ge_t (by decide)) rfl rfl <| y_aloadN X0 hx 32 (hb B d30_31) rfl rfl rfl ?_
  refine st11.trans ?_
  refine y_iloadN X11 hx 36 (hb B d30_35) rfl rfl ?_
  refine st12 _ ?_
  refine y_istoreN X12 hx 40 (hb B d30_39) (L' := #[xvr xa1, xvi (0 : Int32), xvi (0 : Int32)]) rfl rfl <| y_iloadN X12 hx 41 (hb B d30_40) rfl rfl <| y_aloadN X12 hx 42 (hb B d30_41) rfl rfl rfl ?_
  refine st13 _ ?_
  refine y_icmpYes X13 hx 67 (hb B d30_45) (XT.ii_ge_t (by decide)) rfl rfl <| y_iconst X13 hx (0 : Int32) 68 (hb B d30_67) rfl rfl ?_
  show Sx p e below T13 m 68 #[xvr xa1, xvi (0 : Int32), xvi (0 : Int32)] [xwi (0 : Int32)] _
  exact retN X13 hx (t := .boolean) Bd.returns (by simp) (hb B d30_68) (hr)
 ·show QrmA10 Z G xa1 h0 n0 _ T13.heap _
  rw [e13]
  exact ⟨rfl, N12, rfl⟩
theorem pd_23 : parseMethodDescriptor "(I)Z" = some ⟨[.int], some .boolean⟩ := by decide +kernel
def d24_19 : DC kc24 19 (.ifCond .ne 64) 3 := by decide +kernel
def d24_22 : DC kc24 22 (.aload_n 0) 1 := by decide +kernel
def d24_23 : DC kc24 23 (.aload_n 3) 1 := by decide +kernel
def d24_24 : DC kc24 24 (.invokevirtual 64) 3 := by decide +kernel
theorem pd_24 : parseMethodDescriptor "(Lcom/example/planwright/planwright/model/PayItem;)[I" = some ⟨[(.object "com/example/planwright/planwright/model/PayItem")], some (.array .int)⟩ := by decide +kernel
def d24_27 : DC kc24 27 (.astore 6) 2 := by decide +kernel
def d24_29 : DC kc24 29 (.aload_n 2) 1 := by decide +kernel
def d24_30 : DC kc24 30 (.invokevirtual 68) 3 := by decide +kernel
def d24_33 : DC kc24 33 (.invokestatic 74) 3 := by decide +kernel
theorem pd_25 : parseMethodDescriptor "(J)I" = some ⟨[.long], some .int⟩ := by decide +kernel
def d24_36 : DC kc24 36 (.istore 7) 2 := by decide +kernel
def d24_38 : DC kc24 38 (.iload 7) 2 := by decide +kernel
def d24_40 : DC kc24 40 (.aload 6) 2 := by decide +kernel
def d24_42 : DC kc24 42 (.iload 4) 2 := by decide +kernel
def d24_44 : DC kc24 44 (.iaload) 1 := by decide +kernel
def d24_45 : DC kc24 45 (.if_icmp .le 13) 3 := by decide +kernel
def d24_48 : DC kc24 48 (.aload 6) 2 := by decide +kernel
def d24_50 : DC kc24 50 (.iload 4) 2 := by decide +kernel
def d24_52 : DC kc24 52 (.iload 7) 2 := by decide +kernel
def d24_54 : DC kc24 54 (.iastore) 1 := by decide +kernel
def d24_55 : DC kc24 55 (.goto 28) 3 := by decide +kernel
def d24_83 : DC kc24 83 (.iload 5) 2 := by decide +kernel
def d24_85 : DC kc24 85 (.ifCond .ne 7) 3 := by decide +kernel
def d24_88 : DC kc24 88 (.iconst 1) 1 := by decide +kernel
def d24_89 : DC kc24 89 (.goto 4) 3 := by decide +kernel
def d24_93 : DC kc24 93 (.ireturn) 1 := by decide +kernel
def QrmAd0 (Z : State) (G : Gs) (ta pa : Addr) (kp : ClassId) (sl sf : Int32) (pv : List Value) (na : Addr) (kn : ClassId) (nv : List Value) (da ba : Addr) (mo : Int32) (sx vx : Addr) (kb : ClassId) (cx : Int32) (wa : Addr) (kw : ClassId) (ea : Addr) (yx mx : Int32) (dy dx : Int32) (kd : ClassId) (dv : List Value) (it : Addr) (ii : Int32) (h0 : Heap) (n0 : Nat) (v : Option Value) (h : Heap) (L : List Loc) : Prop := ∃ (co : Addr), ∃ (kc : ClassId), v = some (.int (1 : Int32)) ∧ Fr n0 L ∧ Keep h0 h [sx, pa, na, ta, da] ∧ Exa Z h sx sg1 ∧ Fld Z h sx sg1 "coder" "B" ZI ∧ Fld Z h sx sg1 "value" "[B" (.ref vx) ∧ Exa Z h ta sg0 ∧ Fld Z h ta sg0 sg8 sg5 (.ref pa) ∧ Fld Z h ta sg0 "shift" "I" (.int sf) ∧ Fld Z h ta sg0 "numbers" "[I" (.ref na) ∧ Fld Z h ta sg0 "days" "[[I" (.ref da) ∧ Fld Z h ta sg0 "most" "I" (.int mo) ∧ Fld Z h ta sg0 "outOfOrder" sg6 (.ref ba) ∧ Fld Z h ta sg0 "count" "I" (.int (1 : Int32)) ∧ Arv Z h pa kp (.object sg1) sl (List.set pv (hs cx sf).toNatClampNeg (.ref sx)) .null ∧ Arv Z h na kn .int sl (List.set nv (hs cx sf).toNatClampNeg ZI) ZI ∧ h0.size ≤ co ∧ Arv Z h co kc .int mo [(.int dx), MI, MI, MI, MI, MI, MI, MI, MI] ZI ∧ Arv Z h da kd (.array .int) (9 : Int32) (List.set dv ii.toNatClampNeg (.ref co)) .null
theorem rmAd0 (l : Launch) (Z : State) (a0 : Array Value) (hw : HW a0 Z) (G : Gs) (ST : StartF Z G) (ws : List Jvm.Cond) (ta pa : Addr) (kp : ClassId) (sl sf : Int32) (pv : List Value) (na : Addr) (kn : ClassId) (nv : List Value) (da ba : Addr) (mo : Int32) (sx vx : Addr) (kb : ClassId) (cx : Int32) (wa : Addr) (kw : ClassId) (ea : Addr) (yx mx : Int32) (dy dx : Int32) (kd : ClassId) (dv : List Value) (it : Addr) (ii : Int32) (h0 : Heap) (n0 : Nat) (X00 : Old Z n0 h0) (tE : Exa Z h0 ta sg0) (tP : Fld Z h0 ta sg0 sg8 sg5 (.ref pa)) (tS : Fld Z h0 ta sg0 "shift" "I" (.int sf)) (tV : Arv Z h0 pa kp (.object sg1) sl pv .null) (hsl : SLS sl sf) (tN : Fld Z h0 ta sg0 "numbers" "[I" (.ref na)) (nV : Arv Z h0 na kn .int sl nv ZI) (tD : Fld Z h0 ta sg0 "days" "[[I" (.ref da)) (tM : Fld Z h0 ta sg0 "most" "I" (.int mo)) (tB : Fld Z h0 ta sg0 "outOfOrder" sg6 (.ref ba)) (sE : Exa Z h0 sx sg1) (sC : Fld Z h0 sx sg1 "coder" "B" ZI) (sW : Fld Z h0 sx sg1 "value" "[B" (.ref vx)) (sA : Arv Z h0 vx kb .byte (1 : Int32) [(.int cx.toInt8.toInt32)] ZI) (sH : Fld Z h0 sx sg1 "hash" "I" ZI) (sZ : Fld Z h0 sx sg1 "hashIsZero" "Z" ZI) (sg : n0 ≤ sx) (hc : (¬ cx < 0 ∧ ¬ (255 : Int32) < cx)) (tC : Fld Z h0 ta sg0 "count" "I" ZI) (gt : n0 ≤ ta) (gp : n0 ≤ pa) (gn : n0 ≤ na) (hO : Ovr Z kp sg1) (hpl : pv.length = 32) (hnl : nv.length = 32) (hu0 : pv.getD (hs cx sf).toNatClampNeg .null = .null) (bE : Exa Z h0 ba sg2) (bU : Fld Z h0 ba sg2 "wordsInUse" "I" ZI) (bW : Fld Z h0 ba sg2 "words" "[J" (.ref wa)) (bV : Arv Z h0 wa kw .long (1 : Int32) [(.long (0 : Int64))] (.long (0 : Int64))) (eE : Exa Z h0 ea sg3) (eY : Fld Z h0 ea sg3 "year" "I" (.int yx)) (eM : Fld Z h0 ea sg3 "month" "S" (.int mx)) (eD : Fld Z h0 ea sg3 "day" "S" (.int dy)) (hTD : TD yx mx dy dx) (dV : Arv Z h0 da kd (.array .int) (9 : Int32) dv .null) (iE : Exa Z h0 it sg4) (iF : Fld Z h0 it sg7 "ordinal" "I" (.int ii)) (hii : (¬ ii < 0 ∧ ii < (9 : Int32))) (hdr : DR dx) (hmo : Mo mo) (iO : it < Z.heap.size) (hdn : dv.getD ii.toNatClampNeg .null = .null) (hdl : dv.length = 9) (hOA : OvrA Z kd .int "[I") (gd : n0 ≤ da) :
  MF l Z ws mm39 prog_54_method_2_code 8 (some .boolean) (rk 4 1 9 53) #[(.ref ta), (.ref sx), (.ref ea), (.ref it)] h0 (QrmAd0 Z G ta pa kp sl sf pv na kn nv da ba mo sx vx kb cx wa kw ea yx mx dy dx kd dv it ii h0 n0) := by
 refine MetFree.of_bodySF (plainFor_of_name pn_2) hisR ?_
 intro p e s m args below meth c s₁ Bd hml0 hP hK
 obtain ⟨rfl, hZ, hh⟩ := hP
 have hx := Bd.exec
 have B := Bd.bytes
 have hml : c.maxLocals = 8 := hml0
 have hown : s.vm.findClass sg0 = some m.cls := findClass_of_methodNamed Bd.named
 have X0 : Stand p l e (rk 4 1 9 53) s m #[(.ref ta), (.ref sx), (.ref ea), (.ref it)] below meth c s₁ [] 0 0 := Stand.of_body Bd
 have e0 : s₁.heap = h0 := by rw [← hh, Bd.state]; rfl
 have N0 := Fr.nil n0
 have Z0 := own_Z0 X00
 obtain ⟨TG, hTG, pre0⟩ := own_pre p e below s₁ (ef_rmAd0 m ta sx ea it )
 obtain ⟨cq10, q10, q10'⟩ := tE.cell
 obtain ⟨_, _, ⟨T11, L11, k11, n11⟩, -, X11, ⟨Lc11, hQ11, l11, y11, z11⟩, st11⟩ := X0.privateBack hx (y := mm10) hown (mvT hZ (w_178 hw)) (mvT hZ (w_179 hw)) (mvT hZ (own_selp (y := mm10) (w_102 hw) (w_180 hw) (w_179 hw) (by decide))) (Cond.privateMethod_at (mvP hZ (w_180 hw) (args := #[]))) (mvT hZ (w_181 hw)) (by decide) (backOf (W := 0) (rmN0 l Z a0 hw G ST [] ta pa _ sl sf _ na _ _ da ba mo sx vx _ cx h0 n0 X00 tE tP tS tV hsl tN nV tD tM tB sE sC sW sA sH sZ sg hc tC gt gp gn hO hpl hnl hu0) hZ (w_181 hw) (w_103 hw) (by decide) (by decide)) (g := (mkF m 2 #[xvr ta, xvr sx, xvr ea, xvr it, xun, xun, xun, xun] [xwr sx, xwr ta])) rfl (by rw [hml]; rfl) (Steps.refl _) (a := ta) (by rw [e0]; exact q10) q10' (argsL := [(.ref sx)]) (rest := []) (lenOf pd_8 rfl) rfl (Nat.le_of_eq rfl) (hb B d24_2) (fun _ _ => ⟨rfl, e0, (by decide : 0 + 0 ≤ _), (by decide : 0 + 0 ≤ _)⟩)
 dsimp only [Pt.U, Pt.locs, Pt.cells, Pt.slots] at X11 l11 y11 z11 st11 hQ11
 subst l11 y11 z11
 obtain ⟨hp11, e11⟩ : ∃ z, T11.heap = z := ⟨_, rfl⟩
 rw [e11] at hQ11
 obtain ⟨rfl, N11q, K11, p12, p13, p14, p15, p16, p17, p18, p19, p20, p21, p22, p23, p24⟩ := hQ11
 have N11 := Fr.app N0 N11q
 obtain ⟨T25, X25, e25, st25⟩ := getF X11 hx hZ hown (host := "") (Or.inl (w_136 hw)) Via.refl e11 p21 (g := (mkF m 11 #[xvr ta, xvr sx, xvr ea, xvr it, xvi (0 : Int32), xvi (0 : Int32), xun, xun] [xwr ta])) rfl rfl (hb B d24_11)
 have f26 := (bE.keep K11)
 have f27 := (bU.keep K11 (ninS (Exa.ne f26 p12 (by decide)) (ninS (Exa.neArv bE tV (w_115 hw)) (ninS (Exa.neArv bE nV (w_115 hw)) (ninS (Exa.ne f26 p15 (by decide)) nin0)))))
 have Ol28 : Old Z n0 hp11 := (X00.keep K11 (allS sg (allS gp (allS gn (allS gt all0)))))
 obtain ⟨cq29, kq29, q29a, q29b, q29c⟩ := isOf hZ e25 f26
 obtain ⟨_, _, ⟨T30, L30, k30, n30⟩, -, X30, ⟨Lc30, hQ30, l30, y30, z30⟩, st30⟩ := X25.virtualBack hx (y := mm29) (z := mm29) hown (mvT hZ (w_206 hw)) (mvT hZ (w_207 hw)) (notFace_of_selects (args := #[]) (mvT hZ (w_209 hw))) (mvT hZ (w_209 hw)) (mvT hZ (w_208 hw)) (by decide) (backOf (W := 0) (rmA10 l Z a0 hw G ST [] ba hp11 n0 Ol28 f26 f27) hZ (w_210 hw) (w_116 hw) (by decide) (by decide)) q29a q29c (g := (mkF m 16 #[xvr ta, xvr sx, xvr ea, xvr it, xvi (0 : Int32), xvi (0 : Int32), xun, xun] [xwi (0 : Int32), xwr ba])) rfl (by rw [hml]; rfl) (Steps.refl _) (argsL := [ZI]) (rest := []) (lenOf pd_23 rfl) rfl (Nat.le_of_eq rfl) (hb B d24_16) (fun _ _ => ⟨rfl, e25, (by decide : 0 + 0 ≤ _), (by decide : 0 + 0 ≤ _)⟩)
 dsimp only [Pt.U, Pt.locs, Pt.cells, Pt.slots] at X30 l30 y30 z30 st30 hQ30
 subst l30 y30 z30
 obtain ⟨rfl, N30q, e30⟩ := hQ30
 have N30 := Fr.app N11 N30q
 have f31 := (dV.keep K11 (ninS (Ne.symm (Exa.neArv sE dV (w_10 hw))) (ninS (own_neV dV tV (by decide)) (ninS (own_neV dV nV (by decide)) (ninS (Ne.symm (Exa.neArv tE dV (w_102 hw))) nin0)))))
 have f32 := (iE.keep K11)
 have f33 := (iF.keep K11 (ninS (Old.ne X00 iO sg) (ninS (Old.ne X00 iO gp) (ninS (Old.ne X00 iO gn) (ninS (Old.ne X00 iO gt) nin0)))))
 obtain ⟨cq34, q34, q34'⟩ := p15.cell
 obtain ⟨_, _, ⟨T35, L35, k35, n35⟩, -, X35, ⟨Lc35, hQ35, l35, y35, z35⟩, st35⟩ := X30.privateBack hx (y := mm13) hown (mvT hZ (w_217 hw)) (mvT hZ (w_218 hw)) (mvT hZ (own_selp (y := mm13) (w_102 hw) (w_219 hw) (w_218 hw) (by decide))) (Cond.privateMethod_at (mvP hZ (w_219 hw) (args := #[]))) (mvT hZ (w_220 hw)) (by decide) (backOf (W := 0) (rmCn l Z a0 hw G ST [] ta da _ _ it ii mo hp11 n0 Ol28 p15 p19 p20 f31 f32 f33 hii hdn hdl hOA gd hmo) hZ (w_220 hw) (w_103 hw) (by decide) (by decide)) (g := (mkF m 24 #[xvr ta, xvr sx, xvr ea, xvr it, xvi (0 : Int32), xvi (0 : Int32), xun, xun] [xwr it, xwr ta])) rfl (by rw [hml]; rfl) (Steps.refl _) (a := ta) (by rw [e30]; exact q34) q34' (argsL := [(.ref it)]) (rest := []) (lenOf pd_24 rfl) rfl (Nat.le_of_eq rfl) (hb B d24_24) (fun _ _ => ⟨rfl, e30, (by decide : 0 + 1 ≤ _), (by decide : 0 + 9 ≤ _)⟩)
 dsimp only [Pt.U, Pt.locs, Pt.cells, Pt.slots] at X35 l35 y35 z35 st35 hQ35
 subst l35 y35 z35
 obtain ⟨hp35, e35⟩ : ∃ z, T35.heap = z := ⟨_, rfl⟩
 rw [e35] at hQ35
 obtain ⟨o36, o37, rfl, N35q, K35, p38, p39, p40⟩ := hQ35
 have N35 := Fr.app N30 N35q
 have f41 := ((eE.keep K11).keep K35)
 have f42 := (p15.keep K35)
 have f43 := (p12.keep K35)
 have f44 := ((eY.keep K11 (ninS (Exa.ne f41 f43 (by decide)) (ninS (Exa.neArv eE tV (w_89 hw)) (ninS (Exa.neArv eE nV (w_89 hw)) (ninS (Exa.ne f41 f42 (by decide)) nin0))))).keep K35 (ninS (Exa.neArv eE dV (w_89 hw)) nin0))
 have f45 := ((eM.keep K11 (ninS (Exa.ne f41 f43 (by decide)) (ninS (Exa.neArv eE tV (w_89 hw)) (ninS (Exa.neArv eE nV (w_89 hw)) (ninS (Exa.ne f41 f42 (by decide)) nin0))))).keep K35 (ninS (Exa.neArv eE dV (w_89 hw)) nin0))
 have f46 := ((eD.keep K11 (ninS (Exa.ne f41 f43 (by decide)) (ninS (Exa.neArv eE tV (w_89 hw)) (ninS (Exa.neArv eE nV (w_89 hw)) (ninS (Exa.ne f41 f42 (by decide)) nin0))))).keep K35 (ninS (Exa.neArv eE dV (w_89 hw)) nin0))
 have Ol47 : Old Z n0 hp35 := (Ol28.keep K35 (allS gd all0))
 obtain ⟨cq48, kq48, q48a, q48b, q48c⟩ := isOf hZ e35 f41
 obtain ⟨_, _, ⟨T49, L49, k49, n49⟩, -, X49, ⟨Lc49, hQ49, l49, y49, z49⟩, st49⟩ := X35.virtualBack hx (y := mm19) (z := mm19) hown (mvT hZ (w_236 hw)) (mvT hZ (w_237 hw)) (notFace_of_selects (args := #[]) (mvT hZ (w_239 hw))) (mvT hZ (w_239 hw)) (mvT hZ (w_238 hw)) (by decide) (backOf (W := 0) (rmTE l Z a0 hw G ST [] ea yx mx dy dx hp35 n0 Ol47 f41 f44 f45 f46 hTD) hZ (w_240 hw) (w_39 hw) (by decide) (by decide)) q48a q48c (g := (mkF m 30 #[xvr ta, xvr sx, xvr ea, xvr it, xvi (0 : Int32), xvi (0 : Int32), xvr o36, xun] [xwr ea])) rfl (by rw [hml]; rfl) (Steps.refl _) (argsL := []) (rest := []) (lenOf pd_12 rfl) rfl (Nat.le_of_eq rfl) (hb B d24_30) (fun _ _ => ⟨rfl, e35, (by decide : 1 + 0 ≤ _), (by decide : 9 + 0 ≤ _)⟩)
 dsimp only [Pt.U, Pt.locs, Pt.cells, Pt.slots] at X49 l49 y49 z49 st49 hQ49
 subst l49 y49 z49
 obtain ⟨hp49, e49⟩ : ∃ z, T49.heap = z := ⟨_, rfl⟩
 rw [e49] at hQ49
 obtain ⟨rfl, N49q, K49⟩ := hQ49
 have N49 := Fr.app N35 N49q
 have Ol50 : Old Z n0 hp49 := (Ol47.keep K49 all0)
 obtain ⟨_, _, ⟨T51, L51, k51, n51⟩, -, X51, ⟨Lc51, hQ51, l51, y51, z51⟩, st51⟩ := Jvm.LawKit.callS X49 hx (y := mm20) hown (mvT hZ (w_248 hw)) (mvT hZ (w_249 hw)) (mvT hZ (w_140 hw)) (mvT hZ (w_250 hw)) (by decide) (backOf (W := 0) (rmTI l Z a0 hw G ST [] dx hp49 n0 Ol50 ) hZ (w_250 hw) (w_140 hw) (by decide) (by decide)) (g := (mkF m 33 #[xvr ta, xvr sx, xvr ea, xvr it, xvi (0 : Int32), xvi (0 : Int32), xvr o36, xun] [xwj (dx.toInt64)])) rfl (by rw [hml]; rfl) (argsL := [(.long (dx.toInt64))]) (rest := []) (lenOf pd_25 rfl) rfl (Nat.le_of_eq rfl) (hb B d24_33) (fun _ _ => ⟨rfl, e49, (by decide : 1 + 0 ≤ _), (by decide : 9 + 0 ≤ _)⟩)
 dsimp only [Pt.U, Pt.locs, Pt.cells, Pt.slots] at X51 l51 y51 z51 st51 hQ51
 subst l51 y51 z51
 obtain ⟨rfl, N51q, e51⟩ := hQ51
 have N51 := Fr.app N49 N51q
 have f52 := (p39.keep K49 nin0)
 obtain ⟨cl53, Ar53, q53, S53, M53, H53, G53⟩ := id f52
 have in53 : ¬ ((0 : Int32) < 0 ∨ cl53.slots.size ≤ ((0 : Int32)).toNatClampNeg) := inb_of S53 ⟨by decide, (own_mo0 hmo)⟩
 obtain ⟨cl54, Ar54, q54, S54, M54, H54, G54⟩ := id f52
 have in54 : ¬ ((0 : Int32) < 0 ∨ cl54.slots.size ≤ ((0 : Int32)).toNatClampNeg) := inb_of S54 ⟨by decide, (own_mo0 hmo)⟩
 obtain ⟨T55, h55, X55, e55, W55, st55⟩ := stI X51 hx hZ e51 Ar54 (j := (0 : Int32)) in54 (g := (mkF m 54 #[xvr ta, xvr sx, xvr ea, xvr it, xvi (0 : Int32), xvi (0 : Int32), xvr o36, xvi dx] [xwi dx, xwi (0 : Int32), xwr o36])) rfl rfl (hb B d24_54)
 have V55 : Arv Z h55 o36 o37 .int mo [(.int dx), MI, MI, MI, MI, MI, MI, MI, MI] ZI := Arv.set Ar54 q54 S54 M54 H54 G54 rfl W55 0 rfl (Nat.le_of_ble_eq_true rfl)
 have N55 := Fr.snoc X55 N51 (ntr Z0 (ntr K11.1 p38))
 have f56 := ((f43.keep K49).wr W55)
 have f57 := (((p13.keep K35 (ninS (Exa.neArv sE dV (w_10 hw)) nin0)).keep K49 nin0).other W55 (Or.inl (onb sE.lt K11.1 p38)))
 have f58 := (((p14.keep K35 (ninS (Exa.neArv sE dV (w_10 hw)) nin0)).keep K49 nin0).other W55 (Or.inl (onb sE.lt K11.1 p38)))
 have f59 := ((f42.keep K49).wr W55)
 have f60 := (((p16.keep K35 (ninS (Exa.neArv tE dV (w_102 hw)) nin0)).keep K49 nin0).other W55 (Or.inl (onb tE.lt K11.1 p38)))
 have f61 := (((p17.keep K35 (ninS (Exa.neArv tE dV (w_102 hw)) nin0)).keep K49 nin0).other W55 (Or.inl (onb tE.lt K11.1 p38)))
 have f62 := (((p18.keep K35 (ninS (Exa.neArv tE dV (w_102 hw)) nin0)).keep K49 nin0).other W55 (Or.inl (onb tE.lt K11.1 p38)))
 have f63 := (((p19.keep K35 (ninS (Exa.neArv tE dV (w_102 hw)) nin0)).keep K49 nin0).other W55 (Or.inl (onb tE.lt K11.1 p38)))
 have f64 := (((p20.keep K35 (ninS (Exa.neArv tE dV (w_102 hw)) nin0)).keep K49 nin0).other W55 (Or.inl (onb tE.lt K11.1 p38)))
 have f65 := (((p21.keep K35 (ninS (Exa.neArv tE dV (w_102 hw)) nin0)).keep K49 nin0).other W55 (Or.inl (onb tE.lt K11.1 p38)))
 have f66 := (((p22.keep K35 (ninS (Exa.neArv tE dV (w_102 hw)) nin0)).keep K49 nin0).other W55 (Or.inl (onb tE.lt K11.1 p38)))
 have f67 := (((p23.keep K35 (ninS (own_neV tV dV (by decide)) nin0)).keep K49 nin0).other W55 (onb tV.lt K11.1 p38))
 have f68 := (((p24.keep K35 (ninS (own_neV nV dV (by decide)) nin0)).keep K49 nin0).other W55 (onb nV.lt K11.1 p38))
 have f69 := ((p40.keep K49 nin0).other W55 (onb dV.lt K11.1 p38))
 obtain ⟨fs, hr, hrun, hended, hW, hsame⟩ := X55.leave (v := some (.int (1 : Int32))) (own_rv Bd.returns)
 refine ⟨_, _, hTG _ (pre0 _ ?_), hrun, hended, _, _, rfl, ?_, ⟨_, rfl⟩, hW, hsame.mono (by decide) (by decide)⟩
 ·refine y_aloadN X0 hx 1 (hb B d24_0) rfl rfl rfl <| y_aloadN X0 hx 2 (hb B d24_1) rfl rfl rfl ?_
  refine st11.trans ?_
  refine y_istore X11 hx 7 (hb B d24_5) (L' := #[xvr ta, xvr sx, xvr ea, xvr it, xvi (0 : Int32), xun, xun, xun]) rfl rfl <| y_iconst X11 hx (0 : Int32) 8 (hb B d24_7) rfl rfl <| y_istore X11 hx 10 (hb B d24_8) (L' := #[xvr ta, xvr sx, xvr ea, xvr it, xvi (0 : Int32), xvi (0 : Int32), xun, xun]) rfl rfl <| y_aloadN X11 hx 11 (hb B d24_10) rfl rfl rfl ?_
  refine st25 _ ?_
  refine y_iload X25 hx 16 (hb B d24_14) rfl rfl ?_
  refine st30.trans ?_
  refine y_ifNo X30 hx 22 (hb B d24_19) (XT.i0_ne_f (by decide)) rfl <| y_aloadN X30 hx 23 (hb B d24_22) rfl rfl rfl <| y_aloadN X30 hx 24 (hb B d24_23) rfl rfl rfl ?_
  refine st35.trans ?_
  refine y_astore X35 hx 29 (hb B d24_27) (L' := #[xvr ta, xvr sx, xvr ea, xvr it, xvi (0 : Int32), xvi (0 : Int32), xvr o36, xun]) rfl rfl rfl <| y_aloadN X35 hx 30 (hb B d24_29) rfl rfl rfl ?_
  refine st49.trans ?_
  refine st51 _ ?_
  refine y_istore X51 hx 38 (hb B d24_36) (L' := #[xvr ta, xvr sx, xvr ea, xvr it, xvi (0 : Int32), xvi (0 : Int32), xvr o36, xvi dx]) rfl rfl <| y_iload X51 hx 40 (hb B d24_38) rfl rfl <| y_aload X51 hx 42 (hb B d24_40) rfl rfl rfl <| y_iload X51 hx 44 (hb B d24_42) rfl rfl ?_
  refine X51.iaload hx (j := (0 : Int32)) (v := (.int (-2147483648 : Int32))) (by rw [e51]; exact Ar53.1) (State.isArrayOf_alike hZ.alike Ar53.2.1) Ar53.2.2 in53 (Has.at H53 in53 rfl) (g := (mkF m 44 #[xvr ta, xvr sx, xvr ea, xvr it, xvi (0 : Int32), xvi (0 : Int32), xvr o36, xvi dx] [xwi (0 : Int32), xwr o36, xwi dx])) rfl rfl (hb B d24_44) _ ?_
  refine y_icmpNo X51 hx 48 (hb B d24_45) (XT.ii_le_f (own_min hdr)) rfl <| y_aload X51 hx 50 (hb B d24_48) rfl rfl rfl <| y_iload X51 hx 52 (hb B d24_50) rfl rfl <| y_iload X51 hx 54 (hb B d24_52) rfl rfl ?_
  refine st55 _ ?_
  refine y_goto X55 hx 83 (hb B d24_55) rfl rfl <| y_iload X55 hx 85 (hb B d24_83) rfl rfl <| y_ifNo X55 hx 88 (hb B d24_85) (XT.i0_ne_f (by decide)) rfl <| y_iconst X55 hx (1 : Int32) 89 (hb B d24_88) rfl rfl <| y_goto X55 hx 93 (hb B d24_89) rfl rfl ?_
  show Sx p e below T55 m 93 #[xvr ta, xvr sx, xvr ea, xvr it, xvi (0 : Int32), xvi (0 : Int32), xvr o36, xvi dx] [xwi (1 : Int32)] _
  exact retN X55 hx (t := .boolean) Bd.returns (by simp) (hb B d24_93) (hr)
 ·show QrmAd0 Z G ta pa kp sl sf pv na kn nv da ba mo sx vx kb cx wa kw ea yx mx dy dx kd dv it ii h0 n0 _ T55.heap _
  rw [e55]
  exact ⟨o36, o37, rfl, N55, (((((Keep.refl h0 [sx, pa, na, ta, da]).trans K11 (allS (oi 0 rfl) (allS (oi 1 rfl) (allS (oi 2 rfl) (allS (oi 3 rfl) all0))))).trans K35 (allS (oi 4 rfl) all0)).trans K49 all0).wr W55 (Or.inr (ntr K11.1 p38))), f56, f57, f58, f59, f60, f61, f62, f63, f64, f65, f66, f67, f68, (ntr K11.1 p38), V55, f69⟩
def d24_58 : DC kc24 58 (.iload 7) 2 := by decide +kernel
def d24_60 : DC kc24 60 (.aload 6) 2 := by decide +kernel
def d24_62 : DC kc24 62 (.iload 4) 2 := by decide +kernel
def d24_64 : DC kc24 64 (.iaload) 1 := by decide +kernel
def d24_65 : DC kc24 65 (.if_icmp .ne 9) 3 := by decide +kernel
def d24_74 : DC kc24 74 (.aload_n 0) 1 := by decide +kernel
def d24_75 : DC kc24 75 (.getfield 24) 3 := by decide +kernel
def d24_78 : DC kc24 78 (.iload 4) 2 := by decide +kernel
def d24_80 : DC kc24 80 (.invokevirtual 78) 3 := by decide +kernel
abbrev kc39 : ByteArray := jdk_92_method_19_code
def d39_0 : DC kc39 0 (.iload_n 1) 1 := by decide +kernel
def d39_1 : DC kc39 1 (.ifCond .ge 30) 3 := by decide +kernel
def d39_31 : DC kc39 31 (.iload_n 1) 1 := by decide +kernel
def d39_32 : DC kc39 32 (.invokestatic 52) 3 := by decide +kernel
def d39_35 : DC kc39 35 (.istore_n 2) 1 := by decide +kernel
def d39_36 : DC kc39 36 (.aload_n 0) 1 := by decide +kernel
def d39_37 : DC kc39 37 (.iload_n 2) 1 := by decide +kernel
def d39_38 : DC kc39 38 (.invokevirtual 155) 3 := by decide +kernel
abbrev kc40 : ByteArray := jdk_92_method_15_code
def d40_0 : DC kc40 0 (.iload_n 1) 1 := by decide +kernel
def d40_1 : DC kc40 1 (.iconst 1) 1 := by decide +kernel
def d40_2 : DC kc40 2 (.iadd) 1 := by decide +kernel
def d40_3 : DC kc40 3 (.istore_n 2) 1 := by decide +kernel
def d40_4 : DC kc40 4 (.aload_n 0) 1 := by decide +kernel
def d40_5 : DC kc40 5 (.getfield 7) 3 := by decide +kernel
def d40_8 : DC kc40 8 (.iload_n 2) 1 := by decide +kernel
def d40_9 : DC kc40 9 (.if_icmp .ge 13) 3 := by decide +kernel
def d40_12 : DC kc40 12 (.aload_n 0) 1 := by decide +kernel
def d40_13 : DC kc40 13 (.iload_n 2) 1 := by decide +kernel
def d40_14 : DC kc40 14 (.invokevirtual 139) 3 := by decide +kernel
abbrev kc41 : ByteArray := jdk_92_method_14_code
def d41_0 : DC kc41 0 (.aload_n 0) 1 := by decide +kernel
def d41_1 : DC kc41 1 (.getfield 11) 3 := by decide +kernel
def d41_4 : DC kc41 4 (.arraylength) 1 := by decide +kernel
def d41_5 : DC kc41 5 (.iload_n 1) 1 := by decide +kernel
def d41_6 : DC kc41 6 (.if_icmp .ge 32) 3 := by decide +kernel
def d41_38 : DC kc41 38 (.return_) 1 := by decide +kernel
def QrmA14 (Z : State) (G : Gs) (xa1 xa2 : Addr) (xk_xa2 : ClassId) (h0 : Heap) (n0 : Nat) (v : Option Value) (h : Heap) (L : List Loc) : Prop := v = none ∧ Fr n0 L ∧ h = h0
theorem rmA14 (l : Launch) (Z : State) (a0 : Array Value) (hw : HW a0 Z) (G : Gs) (ST : StartF Z G) (ws : List Jvm.Cond) (xa1 xa2 : Addr) (xk_xa2 : ClassId) (h0 : Heap) (n0 : Nat) (X00 : Old Z n0 h0) (xF_xa1_words : Fld Z h0 xa1 sg2 "words" "[J" (.ref xa2)) (xV_xa2 : Arv Z h0 xa2 xk_xa2 .long (1 : Int32) [(.long (0 : Int64))] (.long (0 : Int64))) :
  MF l Z ws mm40 jdk_92_method_14_code 3 none (rk 0 0 0 0) #[(.ref xa1), (.int (1 : Int32))] h0 (QrmA14 Z G xa1 xa2 xk_xa2 h0 n0) := by
 refine MetFree.of_bodySF (plainFor_of_name pn_9) hisR ?_
 intro p e s m args below meth c s₁ Bd hml0 hP hK
 obtain ⟨rfl, hZ, hh⟩ := hP
 have hx := Bd.exec
 have B := Bd.bytes
 have hown : s.vm.findClass sg2 = some m.cls := findClass_of_methodNamed Bd.named
 have X0 : Stand p l e (rk 0 0 0 0) s m #[(.ref xa1), (.int (1 : Int32))] below meth c s₁ [] 0 0 := Stand.of_body Bd
 have e0 : s₁.heap = h0 := by rw [← hh, Bd.state]; rfl
 have N0 := Fr.nil n0
 obtain ⟨TG, hTG, pre0⟩ := own_pre p e below s₁ (ef_rmG1 m xa1 (1 : Int32) )
 obtain ⟨T10, X10, e10, st10⟩ := getF X0 hx hZ hown (host := "") (Or.inl (w_134 hw)) Via.refl e0 xF_xa1_words (g := (mkF m 1 #[xvr xa1, xvi (1 : Int32), xun] [xwr xa1])) rfl rfl (hb B d41_1)
 obtain ⟨cl11, Ar11, q11, S11, M11, H11, G11⟩ := id xV_xa2
 obtain ⟨fs, hr, hrun, hended, hW, hsame⟩ := X10.leave (v := none) (fun _ => rfl)
 refine ⟨_, _, hTG _ (pre0 _ ?_), hrun, hended, _, _, rfl, ?_, ⟨_, rfl⟩, hW, hsame.mono (by decide) (by decide)⟩
 ·refine y_aloadN X0 hx 1 (hb B d41_0) rfl rfl rfl ?_
  refine st10 _ ?_
  show Sx p e below T10 m 4 #[xvr xa1, xvi (1 : Int32), xun] [xwr xa2] _
  refine X10.arraylength hx (by rw [e10]; exact Ar11.1) (State.isArrayOf_alike hZ.alike Ar11.2.1) (g := (mkF m 4 #[xvr xa1, xvi (1 : Int32), xun] [xwr xa2])) rfl rfl (hb B d41_4) _ ?_
  rw [len_of S11 M11]
  refine y_iloadN X10 hx 6 (hb B d41_5) rfl rfl <| y_icmpYes X10 hx 38 (hb B d41_6) (XT.ii_ge_t (by decide)) rfl rfl ?_
  show Sx p e below T10 m 38 #[xvr xa1, xvi (1 : Int32), xun] [] _
  exact X10.returnOut hx Bd.returns (hb B d41_38) hr
 ·show QrmA14 Z G xa1 xa2 xk_xa2 h0 n0 _ T10.heap _
  rw [e10]
  exact ⟨rfl, N0, rfl⟩
def d40_17 : DC kc40 17 (.aload_n 0) 1 := by decide +kernel
def d40_18 : DC kc40 18 (.iload_n 2) 1 := by decide +kernel
def d40_19 : DC kc40 19 (.putfield 7) 3 := by decide +kernel
def d40_22 : DC kc40 22 (.return_) 1 := by decide +kernel
def QrmA13 (Z : State) (G : Gs) (xa1 xa2 : Addr) (xk_xa2 : ClassId) (h0 : Heap) (n0 : Nat) (v : Option Value) (h : Heap) (L : List Loc) : Prop := v = none ∧ Fr n0 L ∧ Keep h0 h [xa1] ∧ Exa Z h xa1 sg2 ∧ Fld Z h xa1 sg2 "words" "[J" (.ref xa2) ∧ Fld Z h xa1 sg2 "wordsInUse" "I" (.int (1 : Int32))
theorem rmA13 (l : Launch) (Z : State) (a0 : Array Value) (hw : HW a0 Z) (G : Gs) (ST : StartF Z G) (ws : List Jvm.Cond) (xa1 xa2 : Addr) (xk_xa2 : ClassId) (h0 : Heap) (n0 : Nat) (X00 : Old Z n0 h0) (xE_xa1 : Exa Z h0 xa1 sg2) (xF_xa1_words : Fld Z h0 xa1 sg2 "words" "[J" (.ref xa2)) (xF_xa1_wordsInUse : Fld Z h0 xa1 sg2 "wordsInUse" "I" ZI) (xg_xa1 : n0 ≤ xa1) (xV_xa2 : Arv Z h0 xa2 xk_xa2 .long (1 : Int32) [(.long (0 : Int64))] (.long (0 : Int64))) :
  MF l Z ws mm41 jdk_92_method_15_code 3 none (rk 1 0 0 14) #[(.ref xa1), ZI] h0 (QrmA13 Z G xa1 xa2 xk_xa2 h0 n0) := by
 refine MetFree.of_bodySF (plainFor_of_name pn_9) hisR ?_
 intro p e s m args below meth c s₁ Bd hml0 hP hK
 obtain ⟨rfl, hZ, hh⟩ := hP
 have hx := Bd.exec
 have B := Bd.bytes
 have hml : c.maxLocals = 3 := hml0
 have hown : s.vm.findClass sg2 = some m.cls := findClass_of_methodNamed Bd.named
 have X0 : Stand p l e (rk 1 0 0 14) s m #[(.ref xa1), ZI] below meth c s₁ [] 0 0 := Stand.of_body Bd
 have e0 : s₁.heap = h0 := by rw [← hh, Bd.state]; rfl
 have N0 := Fr.nil n0
 obtain ⟨TG, hTG, pre0⟩ := own_pre p e below s₁ (ef_rmG1 m xa1 (0 : Int32) )
 obtain ⟨T10, X10, e10, st10⟩ := getF X0 hx hZ hown (host := "") (Or.inl (w_121 hw)) Via.refl e0 xF_xa1_wordsInUse (g := (mkF m 5 #[xvr xa1, xvi (0 : Int32), xvi (1 : Int32)] [xwr xa1])) rfl rfl (hb B d40_5)
 obtain ⟨cq11, q11, q11'⟩ := xE_xa1.cell
 obtain ⟨_, _, ⟨T12, L12, k12, n12⟩, -, X12, ⟨Lc12, hQ12, l12, y12, z12⟩, st12⟩ := X10.privateBack hx (y := mm40) hown (mvT hZ (w_271 hw)) (mvT hZ (w_272 hw)) (mvT hZ (w_274 hw)) (Cond.privateMethod_at (mvP hZ (w_273 hw) (args := #[]))) (mvT hZ (w_275 hw)) (by decide) (backOf (W := 0) (rmA14 l Z a0 hw G ST [] xa1 xa2 _ h0 n0 X00 xF_xa1_words xV_xa2) hZ (w_275 hw) (w_116 hw) (by decide) (by decide)) (g := (mkF m 14 #[xvr xa1, xvi (0 : Int32), xvi (1 : Int32)] [xwi (1 : Int32), xwr xa1])) rfl (by rw [hml]; rfl) (Steps.refl _) (a := xa1) (by rw [e10]; exact q11) q11' (argsL := [(.int (1 : Int32))]) (rest := []) (lenOf pd_18 rfl) rfl (Nat.le_of_eq rfl) (hb B d40_14) (fun _ _ => ⟨rfl, e10, (by decide : 0 + 0 ≤ _), (by decide : 0 + 0 ≤ _)⟩)
 dsimp only [Pt.U, Pt.locs, Pt.cells, Pt.slots] at X12 l12 y12 z12 st12 hQ12
 subst l12 y12 z12
 obtain ⟨rfl, N12q, e12⟩ := hQ12
 have N12 := Fr.app N0 N12q
 obtain ⟨T13, h13, X13, e13, W13, st13⟩ := putF X12 hx hZ hown (host := "") (Or.inl (w_121 hw)) Via.refl e12 xF_xa1_wordsInUse xE_xa1 (Or.inl (w_122 hw)) (w_115 hw) (ty := .int) (by decide) rfl rfl (g := (mkF m 19 #[xvr xa1, xvi (0 : Int32), xvi (1 : Int32)] [xwi (1 : Int32), xwr xa1])) rfl rfl (hb B d40_19)
 have Fw13 := xF_xa1_wordsInUse.same W13
 have N13 := Fr.snoc X13 N12 xg_xa1
 have f14 := (xE_xa1.wr W13)
 have f15 := (xF_xa1_words.other W13 (Or.inr (slot_ne (Or.inl (w_135 hw)) (Or.inl (w_122 hw)) (by decide) (t := (.array .long)) (t' := .int) (by decide) (by decide))))
 obtain ⟨fs, hr, hrun, hended, hW, hsame⟩ := X13.leave (v := none) (fun _ => rfl)
 refine ⟨_, _, hTG _ (pre0 _ ?_), hrun, hended, _, _, rfl, ?_, ⟨_, rfl⟩, hW, hsame.mono (by decide) (by decide)⟩
 ·refine y_iloadN X0 hx 1 (hb B d40_0) rfl rfl <| y_iconst X0 hx (1 : Int32) 2 (hb B d40_1) rfl rfl <| y_iadd X0 hx 3 (hb B d40_2) rfl ?_
  rw [show ((0 : Int32) + (1 : Int32)) = (1 : Int32) from by decide]
  refine y_istoreN X0 hx 4 (hb B d40_3) (L' := #[xvr xa1, xvi (0 : Int32), xvi (1 : Int32)]) rfl rfl <| y_aloadN X0 hx 5 (hb B d40_4) rfl rfl rfl ?_
  refine st10 _ ?_
  refine y_iloadN X10 hx 9 (hb B d40_8) rfl rfl <| y_icmpNo X10 hx 12 (hb B d40_9) (XT.ii_ge_f (by decide)) rfl <| y_aloadN X10 hx 13 (hb B d40_12) rfl rfl rfl <| y_iloadN X10 hx 14 (hb B d40_13) rfl rfl ?_
  refine st12.trans ?_
  refine y_aloadN X12 hx 18 (hb B d40_17) rfl rfl rfl <| y_iloadN X12 hx 19 (hb B d40_18) rfl rfl ?_
  refine st13 _ ?_
  show Sx p e below T13 m 22 #[xvr xa1, xvi (0 : Int32), xvi (1 : Int32)] [] _
  exact X13.returnOut hx Bd.returns (hb B d40_22) hr
 ·show QrmA13 Z G xa1 xa2 xk_xa2 h0 n0 _ T13.heap _
  rw [e13]
  exact ⟨rfl, N13, ((Keep.refl h0 [xa1]).wr W13 (oi 0 rfl)), f14, f15, Fw13⟩
def d39_41 : DC kc39 41 (.aload_n 0) 1 := by decide +kernel
def d39_42 : DC kc39 42 (.getfield 11) 3 := by decide +kernel
def d39_45 : DC kc39 45 (.iload_n 2) 1 := by decide +kernel
def d39_46 : DC kc39 46 (.dup2) 1 := by decide +kernel
def d39_47 : DC kc39 47 (.laload) 1 := by decide +kernel
def d39_48 : DC kc39 48 (.lconst 1) 1 := by decide +kernel
def d39_49 : DC kc39 49 (.iload_n 1) 1 := by decide +kernel
def d39_50 : DC kc39 50 (.lshl) 1 := by decide +kernel
def d39_51 : DC kc39 51 (.lor) 1 := by decide +kernel
def d39_52 : DC kc39 52 (.lastore) 1 := by decide +kernel
def d39_53 : DC kc39 53 (.aload_n 0) 1 := by decide +kernel
def d39_54 : DC kc39 54 (.invokevirtual 56) 3 := by decide +kernel
def d39_57 : DC kc39 57 (.return_) 1 := by decide +kernel
def QrmA12 (Z : State) (G : Gs) (xa1 xa2 : Addr) (xk_xa2 : ClassId) (h0 : Heap) (n0 : Nat) (v : Option Value) (h : Heap) (L : List Loc) : Prop := v = none ∧ Fr n0 L ∧ Keep h0 h [xa1, xa2] ∧ Exa Z h xa1 sg2 ∧ Fld Z h xa1 sg2 "words" "[J" (.ref xa2) ∧ Fld Z h xa1 sg2 "wordsInUse" "I" (.int (1 : Int32)) ∧ Arv Z h xa2 xk_xa2 .long (1 : Int32) [(.long (1 : Int64))] (.long (0 : Int64))
theorem rmA12 (l : Launch) (Z : State) (a0 : Array Value) (hw : HW a0 Z) (G : Gs) (ST : StartF Z G) (ws : List Jvm.Cond) (xa1 xa2 : Addr) (xk_xa2 : ClassId) (h0 : Heap) (n0 : Nat) (X00 : Old Z n0 h0) (xE_xa1 : Exa Z h0 xa1 sg2) (xF_xa1_words : Fld Z h0 xa1 sg2 "words" "[J" (.ref xa2)) (xF_xa1_wordsInUse : Fld Z h0 xa1 sg2 "wordsInUse" "I" ZI) (xg_xa1 : n0 ≤ xa1) (xV_xa2 : Arv Z h0 xa2 xk_xa2 .long (1 : Int32) [(.long (0 : Int64))] (.long (0 : Int64))) (xg_xa2 : n0 ≤ xa2) (xn_xa2_xa1 : xa2 ≠ xa1) :
  MF l Z ws mm42 jdk_92_method_19_code 3 none (rk 2 0 0 28) #[(.ref xa1), ZI] h0 (QrmA12 Z G xa1 xa2 xk_xa2 h0 n0) := by
 refine MetFree.of_bodySF (plainFor_of_name pn_9) hisR ?_
 intro p e s m args below meth c s₁ Bd hml0 hP hK
 obtain ⟨rfl, hZ, hh⟩ := hP
 have hx := Bd.exec
 have B := Bd.bytes
 have hml : c.maxLocals = 3 := hml0
 have hown : s.vm.findClass sg2 = some m.cls := findClass_of_methodNamed Bd.named
 have X0 : Stand p l e (rk 2 0 0 28) s m #[(.ref xa1), ZI] below meth c s₁ [] 0 0 := Stand.of_body Bd
 have e0 : s₁.heap = h0 := by rw [← hh, Bd.state]; rfl
 have N0 := Fr.nil n0
 obtain ⟨TG, hTG, pre0⟩ := own_pre p e below s₁ (ef_rmG1 m xa1 (0 : Int32) )
 obtain ⟨_, _, ⟨T10, L10, k10, n10⟩, -, X10, ⟨Lc10, hQ10, l10, y10, z10⟩, st10⟩ := Jvm.LawKit.callS X0 hx (y := mm28) hown (mvT hZ (w_130 hw)) (mvT hZ (w_131 hw)) (mvT hZ (w_116 hw)) (mvT hZ (w_132 hw)) (by decide) (backOf (W := 0) (rmA11 l Z a0 hw G ST []  h0 n0 X00 ) hZ (w_132 hw) (w_116 hw) (by decide) (by decide)) (g := (mkF m 32 #[xvr xa1, xvi (0 : Int32), xun] [xwi (0 : Int32)])) rfl (by rw [hml]; rfl) (argsL := [ZI]) (rest := []) (lenOf pd_17 rfl) rfl (Nat.le_of_eq rfl) (hb B d39_32) (fun _ _ => ⟨rfl, e0, (by decide : 0 + 0 ≤ _), (by decide : 0 + 0 ≤ _)⟩)
 dsimp only [Pt.U, Pt.locs, Pt.cells, Pt.slots] at X10 l10 y10 z10 st10 hQ10
 subst l10 y10 z10
 obtain ⟨rfl, N10q, e10⟩ := hQ10
 have N10 := Fr.app N0 N10q
 obtain ⟨cq11, q11, q11'⟩ := xE_xa1.cell
 obtain ⟨_, _, ⟨T12, L12, k12, n12⟩, -, X12, ⟨Lc12, hQ12, l12, y12, z12⟩, st12⟩ := X10.privateBack hx (y := mm41) hown (mvT hZ (w_266 hw)) (mvT hZ (w_267 hw)) (mvT hZ (w_269 hw)) (Cond.privateMethod_at (mvP hZ (w_268 hw) (args := #[]))) (mvT hZ (w_270 hw)) (by decide) (backOf (W := 0) (rmA13 l Z a0 hw G ST [] xa1 xa2 _ h0 n0 X00 xE_xa1 xF_xa1_words xF_xa1_wordsInUse xg_xa1 xV_xa2) hZ (w_270 hw) (w_116 hw) (by decide) (by decide)) (g := (mkF m 38 #[xvr xa1, xvi (0 : Int32), xvi (0 : Int32)] [xwi (0 : Int32), xwr xa1])) rfl (by rw [hml]; rfl) (Steps.refl _) (a := xa1) (by rw [e10]; exact q11) q11' (argsL := [ZI]) (rest := []) (lenOf pd_18 rfl) rfl (Nat.le_of_eq rfl) (hb B d39_38) (fun _ _ => ⟨rfl, e10, (by decide : 0 + 0 ≤ _), (by decide : 0 + 0 ≤ _)⟩)
 dsimp only [Pt.U, Pt.locs, Pt.cells, Pt.slots] at X12 l12 y12 z12 st12 hQ12
 subst l12 y12 z12
 obtain ⟨hp12, e12⟩ : ∃ z, T12.heap = z := ⟨_, rfl⟩
 rw [e12] at hQ12
 obtain ⟨rfl, N12q, K12, p13, p14, p15⟩ := hQ12
 have N12 := Fr.app N10 N12q
 obtain ⟨T16, X16, e16, st16⟩ := getF X12 hx hZ hown (host := "") (Or.inl (w_134 hw)) Via.refl e12 p14 (g := (mkF m 42 #[xvr xa1, xvi (0 : Int32), xvi (0 : Int32)] [xwr xa1])) rfl rfl (hb B d39_42)
 have f17 := (xV_xa2.keep K12 (ninS xn_xa2_xa1 nin0))
 obtain ⟨cl18, Ar18, q18, S18, M18, H18, G18⟩ := id f17
 have in18 : ¬ ((0 : Int32) < 0 ∨ cl18.slots.size ≤ ((0 : Int32)).toNatClampNeg) := inb_of S18 ⟨by decide, by decide⟩
 obtain ⟨cl19, Ar19, q19, S19, M19, H19, G19⟩ := id f17
 have in19 : ¬ ((0 : Int32) < 0 ∨ cl19.slots.size ≤ ((0 : Int32)).toNatClampNeg) := inb_of S19 ⟨by decide, by decide⟩
 obtain ⟨T20, h20, X20, e20, W20, st20⟩ := stJ X16 hx hZ e16 Ar19 (j := (0 : Int32)) in19 (g := (mkF m 52 #[xvr xa1, xvi (0 : Int32), xvi (0 : Int32)] [xwj (1 : Int64), xwi (0 : Int32), xwr xa2])) rfl rfl (hb B d39_52)
 have V20 : Arv Z h20 xa2 xk_xa2 .long (1 : Int32) [(.long (1 : Int64))] (.long (0 : Int64)) := Arv.set Ar19 q19 S19 M19 H19 G19 rfl W20 0 rfl (Nat.le_of_ble_eq_true rfl)
 have N20 := Fr.snoc X20 N12 xg_xa2
 have Ol21 : Old Z n0 h20 := ((X00.keep K12 (allS xg_xa1 all0)).wr W20 xg_xa2)
 have f22 := (p13.wr W20)
 obtain ⟨cq23, q23, q23'⟩ := f22.cell
 obtain ⟨_, _, ⟨T24, L24, k24, n24⟩, -, X24, ⟨Lc24, hQ24, l24, y24, z24⟩, st24⟩ := X20.privateBack hx (y := mm27) hown (mvT hZ (w_211 hw)) (mvT hZ (w_212 hw)) (mvT hZ (w_214 hw)) (Cond.privateMethod_at (mvP hZ (w_213 hw) (args := #[]))) (mvT hZ (w_215 hw)) (by decide) (backOf (W := 0) (rmA5 l Z a0 hw G ST [] xa1 h20 n0 Ol21 ) hZ (w_215 hw) (w_116 hw) (by decide) (by decide)) (g := (mkF m 54 #[xvr xa1, xvi (0 : Int32), xvi (0 : Int32)] [xwr xa1])) rfl (by rw [hml]; rfl) (Steps.refl _) (a := xa1) (by rw [e20]; exact q23) q23' (argsL := []) (rest := []) (lenOf pd_16 rfl) rfl (Nat.le_of_eq rfl) (hb B d39_54) (fun _ _ => ⟨rfl, e20, (by decide : 0 + 0 ≤ _), (by decide : 0 + 0 ≤ _)⟩)
 dsimp only [Pt.U, Pt.locs, Pt.cells, Pt.slots] at X24 l24 y24 z24 st24 hQ24
 subst l24 y24 z24
 obtain ⟨rfl, N24q, e24⟩ := hQ24
 have N24 := Fr.app N20 N24q
 have f25 := (p14.other W20 (Or.inl (Ne.symm xn_xa2_xa1)))
 have f26 := (p15.other W20 (Or.inl (Ne.symm xn_xa2_xa1)))
 obtain ⟨fs, hr, hrun, hended, hW, hsame⟩ := X24.leave (v := none) (fun _ => rfl)
 refine ⟨_, _, hTG _ (pre0 _ ?_), hrun, hended, _, _, rfl, ?_, ⟨_, rfl⟩, hW, hsame.mono (by decide) (by decide)⟩
 ·refine y_iloadN X0 hx 1 (hb B d39_0) rfl rfl <| y_ifYes X0 hx 31 (hb B d39_1) (XT.i0_ge_t (by decide)) rfl rfl <| y_iloadN X0 hx 32 (hb B d39_31) rfl rfl ?_
  refine st10 _ ?_
  refine y_istoreN X10 hx 36 (hb B d39_35) (L' := #[xvr xa1, xvi (0 : Int32), xvi (0 : Int32)]) rfl rfl <| y_aloadN X10 hx 37 (hb B d39_36) rfl rfl rfl <| y_iloadN X10 hx 38 (hb B d39_37) rfl rfl ?_
  refine st12.trans ?_
  refine y_aloadN X12 hx 42 (hb B d39_41) rfl rfl rfl ?_
  refine st16 _ ?_
  refine y_iloadN X16 hx 46 (hb B d39_45) rfl rfl ?_
  show Sx p e below T16 m 46 #[xvr xa1, xvi (0 : Int32), xvi (0 : Int32)] [xwi (0 : Int32), xwr xa2] _
  jvm_step X16.here [X16.here.top, hx, (hb B d39_46), Value.category]
  refine X16.laload hx (j := (0 : Int32)) (v := (.long (0 : Int64))) (by rw [e16]; exact Ar18.1) (State.isArrayOf_alike hZ.alike Ar18.2.1) Ar18.2.2 in18 (Has.at H18 in18 rfl) (g := (mkF m 47 #[xvr xa1, xvi (0 : Int32), xvi (0 : Int32)] [xwi (0 : Int32), xwr xa2, xwi (0 : Int32), xwr xa2])) rfl rfl (hb B d39_47) _ ?_
  refine XS.lconst X16.here hx rfl (hb B d39_48) ?_
  refine y_iloadN X16 hx 50 (hb B d39_49) rfl rfl ?_
  show Sx p e below T16 m 50 #[xvr xa1, xvi (0 : Int32), xvi (0 : Int32)] [xwi (0 : Int32), xwj (1 : Int64), xwj (0 : Int64), xwi (0 : Int32), xwr xa2] _
  refine XS.lshl X16.here hx rfl (hb B d39_50) rfl ?_
  rw [show ((1 : Int64) <<< ((0 : Int32) &&& 0x3f).toInt64) = (1 : Int64) from by decide]
  refine y_lor X16 hx 52 (hb B d39_51) rfl ?_
  rw [show ((0 : Int64) ||| (1 : Int64)) = (1 : Int64) from by decide]
  refine st20 _ ?_
  refine y_aloadN X20 hx 54 (hb B d39_53) rfl rfl rfl ?_
  refine st24.trans ?_
  show Sx p e below T24 m 57 #[xvr xa1, xvi (0 : Int32), xvi (0 : Int32)] [] _
  exact X24.returnOut hx Bd.returns (hb B d39_57) hr
 ·show QrmA12 Z G xa1 xa2 xk_xa2 h0 n0 _ T24.heap _
  rw [e24]
  exact ⟨rfl, N24, (((Keep.refl h0 [xa1, xa2]).trans K12 (allS (oi 0 rfl) all0)).wr W20 (oi 1 rfl)), f22, f25, f26, V20⟩
def d24_68 : DC kc24 68 (.iconst 1) 1 := by decide +kernel
def d24_69 : DC kc24 69 (.istore 5) 2 := by decide +kernel
def d24_71 : DC kc24 71 (.goto 12) 3 := by decide +kernel
def d24_92 : DC kc24 92 (.iconst 0) 1 := by decide +kernel
def QrmAd1 (Z : State) (G : Gs) (ta pa : Addr) (kp : ClassId) (sl sf : Int32) (pv : List Value) (na : Addr) (kn : ClassId) (nv : List Value) (sx vx : Addr) (kb : ClassId) (cx : Int32) (q1 w1 : Addr) (kq : ClassId) (cq : Int32) (da ba : Addr) (mo : Int32) (wa : Addr) (kw : ClassId) (ea : Addr) (yx mx : Int32) (dy dx : Int32) (kd : ClassId) (dv : List Value) (it : Addr) (ii : Int32) (ca : Addr) (kc : ClassId) (cv : List Value) (lv : Int32) (h0 : Heap) (n0 : Nat) (v : Option Value) (h : Heap) (L : List Loc) : Prop := ∃ (rr : Int32), ∃ (bo : Int32), ∃ (wo : Int64), ∃ (cw : List Value), v = some (.int rr) ∧ Fr n0 L ∧ Keep h0 h [sx, ca, ba, wa] ∧ Exa Z h sx sg1 ∧ Fld Z h sx sg1 "coder" "B" ZI ∧ Fld Z h sx sg1 "value" "[B" (.ref vx) ∧ Exa Z h ba sg2 ∧ Fld Z h ba sg2 "wordsInUse" "I" (.int bo) ∧ Fld Z h ba sg2 "words" "[J" (.ref wa) ∧ Arv Z h wa kw .long (1 : Int32) [(.long wo)] (.long (0 : Int64)) ∧ Arv Z h ca kc .int mo cw ZI ∧ ((¬ dx < lv ∧ bo = (0 : Int32) ∧ wo = (0 : Int64) ∧ cw = List.set cv 0 (.int dx)) ∨ (dx < lv ∧ bo = (1 : Int32) ∧ wo = (1 : Int64) ∧ cw = cv))
theorem rmAd1 (l : Launch) (Z : State) (a0 : Array Value) (hw : HW a0 Z) (G : Gs) (ST : StartF Z G) (ws : List Jvm.Cond) (ta pa : Addr) (kp : ClassId) (sl sf : Int32) (pv : List Value) (na : Addr) (kn : ClassId) (nv : List Value) (sx vx : Addr) (kb : ClassId) (cx : Int32) (q1 w1 : Addr) (kq : ClassId) (cq : Int32) (da ba : Addr) (mo : Int32) (wa : Addr) (kw : ClassId) (ea : Addr) (yx mx : Int32) (dy dx : Int32) (kd : ClassId) (dv : List Value) (it : Addr) (ii : Int32) (ca : Addr) (kc : ClassId) (cv : List Value) (lv : Int32) (h0 : Heap) (n0 : Nat) (X00 : Old Z n0 h0) (tE : Exa Z h0 ta sg0) (tP : Fld Z h0 ta sg0 sg8 sg5 (.ref pa)) (tS : Fld Z h0 ta sg0 "shift" "I" (.int sf)) (tV : Arv Z h0 pa kp (.object sg1) sl pv .null) (hsl : SLS sl sf) (tN : Fld Z h0 ta sg0 "numbers" "[I" (.ref na)) (nV : Arv Z h0 na kn .int sl nv ZI) (sE : Exa Z h0 sx sg1) (sC : Fld Z h0 sx sg1 "coder" "B" ZI) (sW : Fld Z h0 sx sg1 "value" "[B" (.ref vx)) (sA : Arv Z h0 vx kb .byte (1 : Int32) [(.int cx.toInt8.toInt32)] ZI) (sH : Fld Z h0 sx sg1 "hash" "I" ZI) (sZ : Fld Z h0 sx sg1 "hashIsZero" "Z" ZI) (sg : n0 ≤ sx) (hc : (¬ cx < 0 ∧ ¬ (255 : Int32) < cx)) (qE : Exa Z h0 q1 sg1) (qC : Fld Z h0 q1 sg1 "coder" "B" ZI) (qW : Fld Z h0 q1 sg1 "value" "[B" (.ref w1)) (qA : Arv Z h0 w1 kq .byte (1 : Int32) [(.int cq.toInt8.toInt32)] ZI) (nqs : q1 ≠ sx) (hu0 : pv.getD (hs cx sf).toNatClampNeg .null = .ref q1) (he : cq.toInt8.toInt32 = cx.toInt8.toInt32) (hg : nv.getD (hs cx sf).toNatClampNeg ZI = .int (0 : Int32)) (tD : Fld Z h0 ta sg0 "days" "[[I" (.ref da)) (tM : Fld Z h0 ta sg0 "most" "I" (.int mo)) (tB : Fld Z h0 ta sg0 "outOfOrder" sg6 (.ref ba)) (bE : Exa Z h0 ba sg2) (bU : Fld Z h0 ba sg2 "wordsInUse" "I" ZI) (bW : Fld Z h0 ba sg2 "words" "[J" (.ref wa)) (bV : Arv Z h0 wa kw .long (1 : Int32) [(.long (0 : Int64))] (.long (0 : Int64))) (eE : Exa Z h0 ea sg3) (eY : Fld Z h0 ea sg3 "year" "I" (.int yx)) (eM : Fld Z h0 ea sg3 "month" "S" (.int mx)) (eD : Fld Z h0 ea sg3 "day" "S" (.int dy)) (hTD : TD yx mx dy dx) (dV : Arv Z h0 da kd (.array .int) (9 : Int32) dv .null) (iE : Exa Z h0 it sg4) (iF : Fld Z h0 it sg7 "ordinal" "I" (.int ii)) (hii : (¬ ii < 0 ∧ ii < (9 : Int32))) (hdr : DR dx) (hmo : Mo mo) (iO : it < Z.heap.size) (hdo : dv.getD ii.toNatClampNeg .null = .ref ca) (cV : Arv Z h0 ca kc .int mo cv ZI) (hlv : cv.getD 0 ZI = .int lv) (hcl : cv.length = 9) (gc : n0 ≤ ca) (nnc : na ≠ ca) (gb : n0 ≤ ba) (gw : n0 ≤ wa) :
  MF l Z ws mm39 prog_54_method_2_code 8 (some .boolean) (rk 4 0 0 56) #[(.ref ta), (.ref sx), (.ref ea), (.ref it)] h0 (QrmAd1 Z G ta pa kp sl sf pv na kn nv sx vx kb cx q1 w1 kq cq da ba mo wa kw ea yx mx dy dx kd dv it ii ca kc cv lv h0 n0) := by
 refine MetFree.of_bodySF (plainFor_of_name pn_2) hisR ?_
 intro p e s m args below meth c s₁ Bd hml0 hP hK
 obtain ⟨rfl, hZ, hh⟩ := hP
 have hx := Bd.exec
 have B := Bd.bytes
 have hml : c.maxLocals = 8 := hml0
 have hown : s.vm.findClass sg0 = some m.cls := findClass_of_methodNamed Bd.named
 have X0 : Stand p l e (rk 4 0 0 56) s m #[(.ref ta), (.ref sx), (.ref ea), (.ref it)] below meth c s₁ [] 0 0 := Stand.of_body Bd
 have e0 : s₁.heap = h0 := by rw [← hh, Bd.state]; rfl
 have N0 := Fr.nil n0
 obtain ⟨TG, hTG, pre0⟩ := own_pre p e below s₁ (ef_rmAd0 m ta sx ea it )
 obtain ⟨cq10, q10, q10'⟩ := tE.cell
 obtain ⟨_, _, ⟨T11, L11, k11, n11⟩, -, X11, ⟨Lc11, hQ11, l11, y11, z11⟩, st11⟩ := X0.privateBack hx (y := mm10) hown (mvT hZ (w_178 hw)) (mvT hZ (w_179 hw)) (mvT hZ (own_selp (y := mm10) (w_102 hw) (w_180 hw) (w_179 hw) (by decide))) (Cond.privateMethod_at (mvP hZ (w_180 hw) (args := #[]))) (mvT hZ (w_181 hw)) (by decide) (backOf (W := 0) (rmNH l Z a0 hw G ST [] ta pa _ sl sf _ na _ _ sx vx _ cx q1 w1 _ cq (0 : Int32) h0 n0 X00 tE tP tS tV hsl tN nV sE sC sW sA sH sZ sg hc qE qC qW qA nqs hu0 he hg) hZ (w_181 hw) (w_103 hw) (by decide) (by decide)) (g := (mkF m 2 #[xvr ta, xvr sx, xvr ea, xvr it, xun, xun, xun, xun] [xwr sx, xwr ta])) rfl (by rw [hml]; rfl) (Steps.refl _) (a := ta) (by rw [e0]; exact q10) q10' (argsL := [(.ref sx)]) (rest := []) (lenOf pd_8 rfl) rfl (Nat.le_of_eq rfl) (hb B d24_2) (fun _ _ => ⟨rfl, e0, (by decide : 0 + 0 ≤ _), (by decide : 0 + 0 ≤ _)⟩)
 dsimp only [Pt.U, Pt.locs, Pt.cells, Pt.slots] at X11 l11 y11 z11 st11 hQ11
 subst l11 y11 z11
 obtain ⟨hp11, e11⟩ : ∃ z, T11.heap = z := ⟨_, rfl⟩
 rw [e11] at hQ11
 obtain ⟨rfl, N11q, K11, p12, p13, p14⟩ := hQ11
 have N11 := Fr.app N0 N11q
 have f15 := (tE.keep K11)
 have f16 := (tB.keep K11 (ninS (Exa.ne f15 p12 (by decide)) nin0))
 obtain ⟨T17, X17, e17, st17⟩ := getF X11 hx hZ hown (host := "") (Or.inl (w_136 hw)) Via.refl e11 f16 (g := (mkF m 11 #[xvr ta, xvr sx, xvr ea, xvr it, xvi (0 : Int32), xvi (0 : Int32), xun, xun] [xwr ta])) rfl rfl (hb B d24_11)
 have f18 := (bE.keep K11)
 have f19 := (bU.keep K11 (ninS (Exa.ne f18 p12 (by decide)) nin0))
 have Ol20 : Old Z n0 hp11 := (X00.keep K11 (allS sg all0))
 obtain ⟨cq21, kq21, q21a, q21b, q21c⟩ := isOf hZ e17 f18
 obtain ⟨_, _, ⟨T22, L22, k22, n22⟩, -, X22, ⟨Lc22, hQ22, l22, y22, z22⟩, st22⟩ := X17.virtualBack hx (y := mm29) (z := mm29) hown (mvT hZ (w_206 hw)) (mvT hZ (w_207 hw)) (notFace_of_selects (args := #[]) (mvT hZ (w_209 hw))) (mvT hZ (w_209 hw)) (mvT hZ (w_208 hw)) (by decide) (backOf (W := 0) (rmA10 l Z a0 hw G ST [] ba hp11 n0 Ol20 f18 f19) hZ (w_210 hw) (w_116 hw) (by decide) (by decide)) q21a q21c (g := (mkF m 16 #[xvr ta, xvr sx, xvr ea, xvr it, xvi (0 : Int32), xvi (0 : Int32), xun, xun] [xwi (0 : Int32), xwr ba])) rfl (by rw [hml]; rfl) (Steps.refl _) (argsL := [ZI]) (rest := []) (lenOf pd_23 rfl) rfl (Nat.le_of_eq rfl) (hb B d24_16) (fun _ _ => ⟨rfl, e17, (by decide : 0 + 0 ≤ _), (by decide : 0 + 0 ≤ _)⟩)
 dsimp only [Pt.U, Pt.locs, Pt.cells, Pt.slots] at X22 l22 y22 z22 st22 hQ22
 subst l22 y22 z22
 obtain ⟨rfl, N22q, e22⟩ := hQ22
 have N22 := Fr.app N11 N22q
 have f23 := (tD.keep K11 (ninS (Exa.ne f15 p12 (by decide)) nin0))
 have f24 := (dV.keep K11 (ninS (Ne.symm (Exa.neArv sE dV (w_10 hw))) nin0))
 have f25 := (iE.keep K11)
 have f26 := (iF.keep K11 (ninS (Old.ne X00 iO sg) nin0))
 obtain ⟨cq27, q27, q27'⟩ := f15.cell
 obtain ⟨_, _, ⟨T28, L28, k28, n28⟩, -, X28, ⟨Lc28, hQ28, l28, y28, z28⟩, st28⟩ := X22.privateBack hx (y := mm13) hown (mvT hZ (w_217 hw)) (mvT hZ (w_218 hw)) (mvT hZ (own_selp (y := mm13) (w_102 hw) (w_219 hw) (w_218 hw) (by decide))) (Cond.privateMethod_at (mvP hZ (w_219 hw) (args := #[]))) (mvT hZ (w_220 hw)) (by decide) (backOf (W := 0) (rmCo l Z a0 hw G ST [] ta da _ _ it ii ca hp11 n0 Ol20 f15 f23 f24 f25 f26 hii hdo) hZ (w_220 hw) (w_103 hw) (by decide) (by decide)) (g := (mkF m 24 #[xvr ta, xvr sx, xvr ea, xvr it, xvi (0 : Int32), xvi (0 : Int32), xun, xun] [xwr it, xwr ta])) rfl (by rw [hml]; rfl) (Steps.refl _) (a := ta) (by rw [e22]; exact q27) q27' (argsL := [(.ref it)]) (rest := []) (lenOf pd_24 rfl) rfl (Nat.le_of_eq rfl) (hb B d24_24) (fun _ _ => ⟨rfl, e22, (by decide : 0 + 0 ≤ _), (by decide : 0 + 0 ≤ _)⟩)
 dsimp only [Pt.U, Pt.locs, Pt.cells, Pt.slots] at X28 l28 y28 z28 st28 hQ28
 subst l28 y28 z28
 obtain ⟨rfl, N28q, e28⟩ := hQ28
 have N28 := Fr.app N22 N28q
 have f29 := (eE.keep K11)
 have f30 := (eY.keep K11 (ninS (Exa.ne f29 p12 (by decide)) nin0))
 have f31 := (eM.keep K11 (ninS (Exa.ne f29 p12 (by decide)) nin0))
 have f32 := (eD.keep K11 (ninS (Exa.ne f29 p12 (by decide)) nin0))
 obtain ⟨cq33, kq33, q33a, q33b, q33c⟩ := isOf hZ e28 f29
 obtain ⟨_, _, ⟨T34, L34, k34, n34⟩, -, X34, ⟨Lc34, hQ34, l34, y34, z34⟩, st34⟩ := X28.virtualBack hx (y := mm19) (z := mm19) hown (mvT hZ (w_236 hw)) (mvT hZ (w_237 hw)) (notFace_of_selects (args := #[]) (mvT hZ (w_239 hw))) (mvT hZ (w_239 hw)) (mvT hZ (w_238 hw)) (by decide) (backOf (W := 0) (rmTE l Z a0 hw G ST [] ea yx mx dy dx hp11 n0 Ol20 f29 f30 f31 f32 hTD) hZ (w_240 hw) (w_39 hw) (by decide) (by decide)) q33a q33c (g := (mkF m 30 #[xvr ta, xvr sx, xvr ea, xvr it, xvi (0 : Int32), xvi (0 : Int32), xvr ca, xun] [xwr ea])) rfl (by rw [hml]; rfl) (Steps.refl _) (argsL := []) (rest := []) (lenOf pd_12 rfl) rfl (Nat.le_of_eq rfl) (hb B d24_30) (fun _ _ => ⟨rfl, e28, (by decide : 0 + 0 ≤ _), (by decide : 0 + 0 ≤ _)⟩)
 dsimp only [Pt.U, Pt.locs, Pt.cells, Pt.slots] at X34 l34 y34 z34 st34 hQ34
 subst l34 y34 z34
 obtain ⟨hp34, e34⟩ : ∃ z, T34.heap = z := ⟨_, rfl⟩
 rw [e34] at hQ34
 obtain ⟨rfl, N34q, K34⟩ := hQ34
 have N34 := Fr.app N28 N34q
 have Ol35 : Old Z n0 hp34 := (Ol20.keep K34 all0)
 obtain ⟨_, _, ⟨T36, L36, k36, n36⟩, -, X36, ⟨Lc36, hQ36, l36, y36, z36⟩, st36⟩ := Jvm.LawKit.callS X34 hx (y := mm20) hown (mvT hZ (w_248 hw)) (mvT hZ (w_249 hw)) (mvT hZ (w_140 hw)) (mvT hZ (w_250 hw)) (by decide) (backOf (W := 0) (rmTI l Z a0 hw G ST [] dx hp34 n0 Ol35 ) hZ (w_250 hw) (w_140 hw) (by decide) (by decide)) (g := (mkF m 33 #[xvr ta, xvr sx, xvr ea, xvr it, xvi (0 : Int32), xvi (0 : Int32), xvr ca, xun] [xwj (dx.toInt64)])) rfl (by rw [hml]; rfl) (argsL := [(.long (dx.toInt64))]) (rest := []) (lenOf pd_25 rfl) rfl (Nat.le_of_eq rfl) (hb B d24_33) (fun _ _ => ⟨rfl, e34, (by decide : 0 + 0 ≤ _), (by decide : 0 + 0 ≤ _)⟩)
 dsimp only [Pt.U, Pt.locs, Pt.cells, Pt.slots] at X36 l36 y36 z36 st36 hQ36
 subst l36 y36 z36
 obtain ⟨rfl, N36q, e36⟩ := hQ36
 have N36 := Fr.app N34 N36q
 have f37 := ((cV.keep K11 (ninS (Ne.symm (Exa.neArv sE cV (w_10 hw))) nin0)).keep K34 nin0)
 obtain ⟨cl38, Ar38, q38, S38, M38, H38, G38⟩ := id f37
 have in38 : ¬ ((0 : Int32) < 0 ∨ cl38.slots.size ≤ ((0 : Int32)).toNatClampNeg) := inb_of S38 ⟨by decide, (own_mo0 hmo)⟩
 have c39 : ∀ t, Sx p e below T36 m 45 #[xvr ta, xvr sx, xvr ea, xvr it, xvi (0 : Int32), xvi (0 : Int32), xvr ca, xvi dx] [xwi lv, xwi dx] t → TG t := fun t k => pre0 t (by
  refine y_aloadN X0 hx 1 (hb B d24_0) rfl rfl rfl <| y_aloadN X0 hx 2 (hb B d24_1) rfl rfl rfl ?_
  refine st11.trans ?_
  refine y_istore X11 hx 7 (hb B d24_5) (L' := #[xvr ta, xvr sx, xvr ea, xvr it, xvi (0 : Int32), xun, xun, xun]) rfl rfl <| y_iconst X11 hx (0 : Int32) 8 (hb B d24_7) rfl rfl <| y_istore X11 hx 10 (hb B d24_8) (L' := #[xvr ta, xvr sx, xvr ea, xvr it, xvi (0 : Int32), xvi (0 : Int32), xun, xun]) rfl rfl <| y_aloadN X11 hx 11 (hb B d24_10) rfl rfl rfl ?_
  refine st17 _ ?_
  refine y_iload X17 hx 16 (hb B d24_14) rfl rfl ?_
  refine st22.trans ?_
  refine y_ifNo X22 hx 22 (hb B d24_19) (XT.i0_ne_f (by decide)) rfl <| y_aloadN X22 hx 23 (hb B d24_22) rfl rfl rfl <| y_aloadN X22 hx 24 (hb B d24_23) rfl rfl rfl ?_
  refine st28.trans ?_
  refine y_astore X28 hx 29 (hb B d24_27) (L' := #[xvr ta, xvr sx, xvr ea, xvr it, xvi (0 : Int32), xvi (0 : Int32), xvr ca, xun]) rfl rfl rfl <| y_aloadN X28 hx 30 (hb B d24_29) rfl rfl rfl ?_
  refine st34.trans ?_
  refine st36 _ ?_
  refine y_istore X36 hx 38 (hb B d24_36) (L' := #[xvr ta, xvr sx, xvr ea, xvr it, xvi (0 : Int32), xvi (0 : Int32), xvr ca, xvi dx]) rfl rfl <| y_iload X36 hx 40 (hb B d24_38) rfl rfl <| y_aload X36 hx 42 (hb B d24_40) rfl rfl rfl <| y_iload X36 hx 44 (hb B d24_42) rfl rfl ?_
  refine X36.iaload hx (j := (0 : Int32)) (v := (.int lv)) (by rw [e36]; exact Ar38.1) (State.isArrayOf_alike hZ.alike Ar38.2.1) Ar38.2.2 in38 (Has.at H38 in38 hlv) (g := (mkF m 44 #[xvr ta, xvr sx, xvr ea, xvr it, xvi (0 : Int32), xvi (0 : Int32), xvr ca, xvi dx] [xwi (0 : Int32), xwr ca, xwi dx])) rfl rfl (hb B d24_44) _ ?_
  exact k)
 by_cases hk40 : dx < lv
 ·obtain ⟨cl41, Ar41, q41, S41, M41, H41, G41⟩ := id f37
  have in41 : ¬ ((0 : Int32) < 0 ∨ cl41.slots.size ≤ ((0 : Int32)).toNatClampNeg) := inb_of S41 ⟨by decide, (own_mo0 hmo)⟩
  have f42 := (f16.keep K34 nin0)
  obtain ⟨T43, X43, e43, st43⟩ := getF X36 hx hZ hown (host := "") (Or.inl (w_136 hw)) Via.refl e36 f42 (g := (mkF m 75 #[xvr ta, xvr sx, xvr ea, xvr it, xvi (0 : Int32), xvi (0 : Int32), xvr ca, xvi dx] [xwr ta])) rfl rfl (hb B d24_75)
  have f44 := (f18.keep K34)
  have f45 := (p12.keep K34)
  have f46 := ((bW.keep K11 (ninS (Exa.ne f44 f45 (by decide)) nin0)).keep K34 nin0)
  have f47 := (f19.keep K34 nin0)
  have f48 := ((bV.keep K11 (ninS (Ne.symm (Exa.neArv sE bV (w_10 hw))) nin0)).keep K34 nin0)
  obtain ⟨cq49, kq49, q49a, q49b, q49c⟩ := isOf hZ e43 f44
  obtain ⟨_, _, ⟨T50, L50, k50, n50⟩, -, X50, ⟨Lc50, hQ50, l50, y50, z50⟩, st50⟩ := X43.virtualBack hx (y := mm42) (z := mm42) hown (mvT hZ (w_261 hw)) (mvT hZ (w_262 hw)) (notFace_of_selects (args := #[]) (mvT hZ (w_264 hw))) (mvT hZ (w_264 hw)) (mvT hZ (w_263 hw)) (by decide) (backOf (W := 0) (rmA12 l Z a0 hw G ST [] ba wa _ hp34 n0 Ol35 f44 f46 f47 gb f48 gw (Ne.symm (Exa.neArv bE bV (w_115 hw)))) hZ (w_265 hw) (w_116 hw) (by decide) (by decide)) q49a q49c (g := (mkF m 80 #[xvr ta, xvr sx, xvr ea, xvr it, xvi (0 : Int32), xvi (0 : Int32), xvr ca, xvi dx] [xwi (0 : Int32), xwr ba])) rfl (by rw [hml]; rfl) (Steps.refl _) (argsL := [ZI]) (rest := []) (lenOf pd_18 rfl) rfl (Nat.le_of_eq rfl) (hb B d24_80) (fun _ _ => ⟨rfl, e43, (by decide : 0 + 0 ≤ _), (by decide : 0 + 0 ≤ _)⟩)
  dsimp only [Pt.U, Pt.locs, Pt.cells, Pt.slots] at X50 l50 y50 z50 st50 hQ50
  subst l50 y50 z50
  obtain ⟨hp50, e50⟩ : ∃ z, T50.heap = z := ⟨_, rfl⟩
  rw [e50] at hQ50
  obtain ⟨rfl, N50q, K50, p51, p52, p53, p54⟩ := hQ50
  have N50 := Fr.app N36 N50q
  have f55 := (f45.keep K50)
  have f56 := ((p13.keep K34 nin0).keep K50 (ninS (Exa.ne f55 p51 (by decide)) (ninS (Exa.neArv sE bV (w_10 hw)) nin0)))
  have f57 := ((p14.keep K34 nin0).keep K50 (ninS (Exa.ne f55 p51 (by decide)) (ninS (Exa.neArv sE bV (w_10 hw)) nin0)))
  have f58 := (f37.keep K50 (ninS (Ne.symm (Exa.neArv bE cV (w_115 hw))) (ninS (own_neV cV bV (by decide)) nin0)))
  obtain ⟨fs, hr, hrun, hended, hW, hsame⟩ := X50.leave (v := some (.int (1 : Int32))) (own_rv Bd.returns)
  refine ⟨_, _, hTG _ (c39 _ ?_), hrun, hended, _, _, rfl, ?_, ⟨_, rfl⟩, hW, hsame.mono (by decide) (by decide)⟩
  ·refine y_icmpYes X36 hx 58 (hb B d24_45) (XT.ii_le_t (own_asym hk40)) rfl rfl <| y_iload X36 hx 60 (hb B d24_58) rfl rfl <| y_aload X36 hx 62 (hb B d24_60) rfl rfl rfl <| y_iload X36 hx 64 (hb B d24_62) rfl rfl ?_
   refine X36.iaload hx (j := (0 : Int32)) (v := (.int lv)) (by rw [e36]; exact Ar41.1) (State.isArrayOf_alike hZ.alike Ar41.2.1) Ar41.2.2 in41 (Has.at H41 in41 hlv) (g := (mkF m 64 #[xvr ta, xvr sx, xvr ea, xvr it, xvi (0 : Int32), xvi (0 : Int32), xvr ca, xvi dx] [xwi (0 : Int32), xwr ca, xwi dx])) rfl rfl (hb B d24_64) _ ?_
   refine y_icmpYes X36 hx 74 (hb B d24_65) (XT.ii_ne_t (own_nel hk40)) rfl rfl <| y_aloadN X36 hx 75 (hb B d24_74) rfl rfl rfl ?_
   refine st43 _ ?_
   refine y_iload X43 hx 80 (hb B d24_78) rfl rfl ?_
   refine st50.trans ?_
   refine y_iload X50 hx 85 (hb B d24_83) rfl rfl <| y_ifNo X50 hx 88 (hb B d24_85) (XT.i0_ne_f (by decide)) rfl <| y_iconst X50 hx (1 : Int32) 89 (hb B d24_88) rfl rfl <| y_goto X50 hx 93 (hb B d24_89) rfl rfl ?_
   show Sx p e below T50 m 93 #[xvr ta, xvr sx, xvr ea, xvr it, xvi (0 : Int32), xvi (0 : Int32), xvr ca, xvi dx] [xwi (1 : Int32)] _
   exact retN X50 hx (t := .boolean) Bd.returns (by simp) (hb B d24_93) (hr)
  ·show QrmAd1 Z G ta pa kp sl sf pv na kn nv sx vx kb cx q1 w1 kq cq da ba mo wa kw ea yx mx dy dx kd dv it ii ca kc cv lv h0 n0 _ T50.heap _
   rw [e50]
   exact ⟨(1 : Int32), (1 : Int32), (1 : Int64), cv, rfl, N50, ((((Keep.refl h0 [sx, ca, ba, wa]).trans K11 (allS (oi 0 rfl) all0)).trans K34 all0).trans K50 (allS (oi 2 rfl) (allS (oi 3 rfl) all0))), f55, f56, f57, p51, p53, p52, p54, f58, (Or.inr ⟨hk40, rfl, rfl, rfl⟩)⟩
 ·by_cases hc59 : lv < dx
  ·obtain ⟨cl60, Ar60, q60, S60, M60, H60, G60⟩ := id f37
   have in60 : ¬ ((0 : Int32) < 0 ∨ cl60.slots.size ≤ ((0 : Int32)).toNatClampNeg) := inb_of S60 ⟨by decide, (own_mo0 hmo)⟩
   obtain ⟨T61, h61, X61, e61, W61, st61⟩ := stI X36 hx hZ e36 Ar60 (j := (0 : Int32)) in60 (g := (mkF m 54 #[xvr ta, xvr sx, xvr ea, xvr it, xvi (0 : Int32), xvi (0 : Int32), xvr ca, xvi dx] [xwi dx, xwi (0 : Int32), xwr ca])) rfl rfl (hb B d24_54)
   have V61 : Arv Z h61 ca kc .int mo (List.set cv 0 (.int dx)) ZI := Arv.set Ar60 q60 S60 M60 H60 G60 rfl W61 0 rfl (own_l9 hcl (by decide))
   have N61 := Fr.snoc X61 N36 gc
   have f62 := ((p12.keep K34).wr W61)
   have f63 := ((p13.keep K34 nin0).other W61 (Or.inl (Exa.neArv sE cV (w_10 hw))))
   have f64 := ((p14.keep K34 nin0).other W61 (Or.inl (Exa.neArv sE cV (w_10 hw))))
   have f65 := ((f18.keep K34).wr W61)
   have f66 := ((f19.keep K34 nin0).other W61 (Or.inl (Exa.neArv bE cV (w_115 hw))))
   have f67 := (((bW.keep K11 (ninS (Exa.ne f65 f62 (by decide)) nin0)).keep K34 nin0).other W61 (Or.inl (Exa.neArv bE cV (w_115 hw))))
   have f68 := (((bV.keep K11 (ninS (Ne.symm (Exa.neArv sE bV (w_10 hw))) nin0)).keep K34 nin0).other W61 (own_neV bV cV (by decide)))
   obtain ⟨fs, hr, hrun, hended, hW, hsame⟩ := X61.leave (v := some (.int (1 : Int32))) (own_rv Bd.returns)
   refine ⟨_, _, hTG _ (c39 _ ?_), hrun, hended, _, _, rfl, ?_, ⟨_, rfl⟩, hW, hsame.mono (by decide) (by decide)⟩
   ·refine y_icmpNo X36 hx 48 (hb B d24_45) (XT.ii_le_f hc59) rfl <| y_aload X36 hx 50 (hb B d24_48) rfl rfl rfl <| y_iload X36 hx 52 (hb B d24_50) rfl rfl <| y_iload X36 hx 54 (hb B d24_52) rfl rfl ?_
    refine st61 _ ?_
    refine y_goto X61 hx 83 (hb B d24_55) rfl rfl <| y_iload X61 hx 85 (hb B d24_83) rfl rfl <| y_ifNo X61 hx 88 (hb B d24_85) (XT.i0_ne_f (by decide)) rfl <| y_iconst X61 hx (1 : Int32) 89 (hb B d24_88) rfl rfl <| y_goto X61 hx 93 (hb B d24_89) rfl rfl ?_
    show Sx p e below T61 m 93 #[xvr ta, xvr sx, xvr ea, xvr it, xvi (0 : Int32), xvi (0 : Int32), xvr ca, xvi dx] [xwi (1 : Int32)] _
    exact retN X61 hx (t := .boolean) Bd.returns (by simp) (hb B d24_93) (hr)
   ·show QrmAd1 Z G ta pa kp sl sf pv na kn nv sx vx kb cx q1 w1 kq cq da ba mo wa kw ea yx mx dy dx kd dv it ii ca kc cv lv h0 n0 _ T61.heap _
    rw [e61]
    exact ⟨(1 : Int32), (0 : Int32), (0 : Int64), (List.set cv 0 (.int dx)), rfl, N61, ((((Keep.refl h0 [sx, ca, ba, wa]).trans K11 (allS (oi 0 rfl) all0)).trans K34 all0).wr W61 (oi 1 rfl)), f62, f63, f64, f65, f66, f67, f68, V61, (Or.inl ⟨hk40, rfl, rfl, rfl⟩)⟩
  ·obtain ⟨cl69, Ar69, q69, S69, M69, H69, G69⟩ := id f37
   have in69 : ¬ ((0 : Int32) < 0 ∨ cl69.slots.size ≤ ((0 : Int32)).toNatClampNeg) := inb_of S69 ⟨by decide, (own_mo0 hmo)⟩
   have Vs70 : Arv Z hp34 ca kc .int mo (List.set cv 0 (.int dx)) ZI := by rw [own_setsame (own_l9 hcl (by decide)) (hlv.trans (congrArg Value.int (own_tri hk40 hc59).symm))]; exact f37
   have f71 := (p12.keep K34)
   have f72 := (p13.keep K34 nin0)
   have f73 := (p14.keep K34 nin0)
   have f74 := (f18.keep K34)
   have f75 := (f19.keep K34 nin0)
   have f76 := ((bW.keep K11 (ninS (Exa.ne f74 f71 (by decide)) nin0)).keep K34 nin0)
   have f77 := ((bV.keep K11 (ninS (Ne.symm (Exa.neArv sE bV (w_10 hw))) nin0)).keep K34 nin0)
   obtain ⟨fs, hr, hrun, hended, hW, hsame⟩ := X36.leave (v := some ZI) (own_rv Bd.returns)
   refine ⟨_, _, hTG _ (c39 _ ?_), hrun, hended, _, _, rfl, ?_, ⟨_, rfl⟩, hW, hsame.mono (by decide) (by decide)⟩
   ·refine y_icmpYes X36 hx 58 (hb B d24_45) (XT.ii_le_t hc59) rfl rfl <| y_iload X36 hx 60 (hb B d24_58) rfl rfl <| y_aload X36 hx 62 (hb B d24_60) rfl rfl rfl <| y_iload X36 hx 64 (hb B d24_62) rfl rfl ?_
    refine X36.iaload hx (j := (0 : Int32)) (v := (.int lv)) (by rw [e36]; exact Ar69.1) (State.isArrayOf_alike hZ.alike Ar69.2.1) Ar69.2.2 in69 (Has.at H69 in69 hlv) (g := (mkF m 64 #[xvr ta, xvr sx, xvr ea, xvr it, xvi (0 : Int32), xvi (0 : Int32), xvr ca, xvi dx] [xwi (0 : Int32), xwr ca, xwi dx])) rfl rfl (hb B d24_64) _ ?_
    refine y_icmpNo X36 hx 68 (hb B d24_65) (XT.ii_ne_f (own_tri hk40 hc59)) rfl <| y_iconst X36 hx (1 : Int32) 69 (hb B d24_68) rfl rfl <| y_istore X36 hx 71 (hb B d24_69) (L' := #[xvr ta, xvr sx, xvr ea, xvr it, xvi (0 : Int32), xvi (1 : Int32), xvr ca, xvi dx]) rfl rfl <| y_goto X36 hx 83 (hb B d24_71) rfl rfl <| y_iload X36 hx 85 (hb B d24_83) rfl rfl <| y_ifYes X36 hx 92 (hb B d24_85) (XT.i0_ne_t (by decide)) rfl rfl <| y_iconst X36 hx (0 : Int32) 93 (hb B d24_92) rfl rfl ?_
    show Sx p e below T36 m 93 #[xvr ta, xvr sx, xvr ea, xvr it, xvi (0 : Int32), xvi (1 : Int32), xvr ca, xvi dx] [xwi (0 : Int32)] _
    exact retN X36 hx (t := .boolean) Bd.returns (by simp) (hb B d24_93) (hr)
   ·show QrmAd1 Z G ta pa kp sl sf pv na kn nv sx vx kb cx q1 w1 kq cq da ba mo wa kw ea yx mx dy dx kd dv it ii ca kc cv lv h0 n0 _ T36.heap _
    rw [e36]
    exact ⟨(0 : Int32), (0 : Int32), (0 : Int64), (List.set cv 0 (.int dx)), rfl, N36, (((Keep.refl h0 [sx, ca, ba, wa]).trans K11 (allS (oi 0 rfl) all0)).trans K34 all0), f71, f72, f73, f74, f75, f76, f77, Vs70, (Or.inl ⟨hk40, rfl, rfl, rfl⟩)⟩
def QrmAd2 (Z : State) (G : Gs) (ta pa : Addr) (kp : ClassId) (sl sf : Int32) (pv : List Value) (na : Addr) (kn : ClassId) (nv : List Value) (sx vx : Addr) (kb : ClassId) (cx : Int32) (q1 w1 : Addr) (kq : ClassId) (cq : Int32) (da ba : Addr) (mo : Int32) (wa : Addr) (kw : ClassId) (ea : Addr) (yx mx : Int32) (dy dx : Int32) (kd : ClassId) (dv : List Value) (it : Addr) (ii : Int32) (h0 : Heap) (n0 : Nat) (v : Option Value) (h : Heap) (L : List Loc) : Prop := ∃ (co : Addr), ∃ (kc : ClassId), v = some (.int (1 : Int32)) ∧ Fr n0 L ∧ Keep h0 h [sx, da] ∧ Exa Z h sx sg1 ∧ Fld Z h sx sg1 "coder" "B" ZI ∧ Fld Z h sx sg1 "value" "[B" (.ref vx) ∧ h0.size ≤ co ∧ Arv Z h co kc .int mo [(.int dx), MI, MI, MI, MI, MI, MI, MI, MI] ZI ∧ Arv Z h da kd (.array .int) (9 : Int32) (List.set dv ii.toNatClampNeg (.ref co)) .null
theorem rmAd2 (l : Launch) (Z : State) (a0 : Array Value) (hw : HW a0 Z) (G : Gs) (ST : StartF Z G) (ws : List Jvm.Cond) (ta pa : Addr) (kp : ClassId) (sl sf : Int32) (pv : List Value) (na : Addr) (kn : ClassId) (nv : List Value) (sx vx : Addr) (kb : ClassId) (cx : Int32) (q1 w1 : Addr) (kq : ClassId) (cq : Int32) (da ba : Addr) (mo : Int32) (wa : Addr) (kw : ClassId) (ea : Addr) (yx mx : Int32) (dy dx : Int32) (kd : ClassId) (dv : List Value) (it : Addr) (ii : Int32) (h0 : Heap) (n0 : Nat) (X00 : Old Z n0 h0) (tE : Exa Z h0 ta sg0) (tP : Fld Z h0 ta sg0 sg8 sg5 (.ref pa)) (tS : Fld Z h0 ta sg0 "shift" "I" (.int sf)) (tV : Arv Z h0 pa kp (.object sg1) sl pv .null) (hsl : SLS sl sf) (tN : Fld Z h0 ta sg0 "numbers" "[I" (.ref na)) (nV : Arv Z h0 na kn .int sl nv ZI) (sE : Exa Z h0 sx sg1) (sC : Fld Z h0 sx sg1 "coder" "B" ZI) (sW : Fld Z h0 sx sg1 "value" "[B" (.ref vx)) (sA : Arv Z h0 vx kb .byte (1 : Int32) [(.int cx.toInt8.toInt32)] ZI) (sH : Fld Z h0 sx sg1 "hash" "I" ZI) (sZ : Fld Z h0 sx sg1 "hashIsZero" "Z" ZI) (sg : n0 ≤ sx) (hc : (¬ cx < 0 ∧ ¬ (255 : Int32) < cx)) (qE : Exa Z h0 q1 sg1) (qC : Fld Z h0 q1 sg1 "coder" "B" ZI) (qW : Fld Z h0 q1 sg1 "value" "[B" (.ref w1)) (qA : Arv Z h0 w1 kq .byte (1 : Int32) [(.int cq.toInt8.toInt32)] ZI) (nqs : q1 ≠ sx) (hu0 : pv.getD (hs cx sf).toNatClampNeg .null = .ref q1) (he : cq.toInt8.toInt32 = cx.toInt8.toInt32) (hg : nv.getD (hs cx sf).toNatClampNeg ZI = .int (0 : Int32)) (tD : Fld Z h0 ta sg0 "days" "[[I" (.ref da)) (tM : Fld Z h0 ta sg0 "most" "I" (.int mo)) (tB : Fld Z h0 ta sg0 "outOfOrder" sg6 (.ref ba)) (bE : Exa Z h0 ba sg2) (bU : Fld Z h0 ba sg2 "wordsInUse" "I" ZI) (bW : Fld Z h0 ba sg2 "words" "[J" (.ref wa)) (bV : Arv Z h0 wa kw .long (1 : Int32) [(.long (0 : Int64))] (.long (0 : Int64))) (eE : Exa Z h0 ea sg3) (eY : Fld Z h0 ea sg3 "year" "I" (.int yx)) (eM : Fld Z h0 ea sg3 "month" "S" (.int mx)) (eD : Fld Z h0 ea sg3 "day" "S" (.int dy)) (hTD : TD yx mx dy dx) (dV : Arv Z h0 da kd (.array .int) (9 : Int32) dv .null) (iE : Exa Z h0 it sg4) (iF : Fld Z h0 it sg7 "ordinal" "I" (.int ii)) (hii : (¬ ii < 0 ∧ ii < (9 : Int32))) (hdr : DR dx) (hmo : Mo mo) (iO : it < Z.heap.size) (hdn : dv.getD ii.toNatClampNeg .null = .null) (hdl : dv.length = 9) (hOA : OvrA Z kd .int "[I") (gd : n0 ≤ da) :
  MF l Z ws mm39 prog_54_method_2_code 8 (some .boolean) (rk 4 1 9 56) #[(.ref ta), (.ref sx), (.ref ea), (.ref it)] h0 (QrmAd2 Z G ta pa kp sl sf pv na kn nv sx vx kb cx q1 w1 kq cq da ba mo wa kw ea yx mx dy dx kd dv it ii h0 n0) := by
 refine MetFree.of_bodySF (plainFor_of_name pn_2) hisR ?_
 intro p e s m args below meth c s₁ Bd hml0 hP hK
 obtain ⟨rfl, hZ, hh⟩ := hP
 have hx := Bd.exec
 have B := Bd.bytes
 have hml : c.maxLocals = 8 := hml0
 have hown : s.vm.findClass sg0 = some m.cls := findClass_of_methodNamed Bd.named
 have X0 : Stand p l e (rk 4 1 9 56) s m #[(.ref ta), (.ref sx), (.ref ea), (.ref it)] below meth c s₁ [] 0 0 := Stand.of_body Bd
 have e0 : s₁.heap = h0 := by rw [← hh, Bd.state]; rfl
 have N0 := Fr.nil n0
 have Z0 := own_Z0 X00
 obtain ⟨TG, hTG, pre0⟩ := own_pre p e below s₁ (ef_rmAd0 m ta sx ea it )
 obtain ⟨cq10, q10, q10'⟩ := tE.cell
 obtain ⟨_, _, ⟨T11, L11, k11, n11⟩, -, X11, ⟨Lc11, hQ11, l11, y11, z11⟩, st11⟩ := X0.privateBack hx (y := mm10) hown (mvT hZ (w_178 hw)) (mvT hZ (w_179 hw)) (mvT hZ (own_selp (y := mm10) (w_102 hw) (w_180 hw) (w_179 hw) (by decide))) (Cond.privateMethod_at (mvP hZ (w_180 hw) (args := #[]))) (mvT hZ (w_181 hw)) (by decide) (backOf (W := 0) (rmNH l Z a0 hw G ST [] ta pa _ sl sf _ na _ _ sx vx _ cx q1 w1 _ cq (0 : Int32) h0 n0 X00 tE tP tS tV hsl tN nV sE sC sW sA sH sZ sg hc qE qC qW qA nqs hu0 he hg) hZ (w_181 hw) (w_103 hw) (by decide) (by decide)) (g := (mkF m 2 #[xvr ta, xvr sx, xvr ea, xvr it, xun, xun, xun, xun] [xwr sx, xwr ta])) rfl (by rw [hml]; rfl) (Steps.refl _) (a := ta) (by rw [e0]; exact q10) q10' (argsL := [(.ref sx)]) (rest := []) (lenOf pd_8 rfl) rfl (Nat.le_of_eq rfl) (hb B d24_2) (fun _ _ => ⟨rfl, e0, (by decide : 0 + 0 ≤ _), (by decide : 0 + 0 ≤ _)⟩)
 dsimp only [Pt.U, Pt.locs, Pt.cells, Pt.slots] at X11 l11 y11 z11 st11 hQ11
 subst l11 y11 z11
 obtain ⟨hp11, e11⟩ : ∃ z, T11.heap = z := ⟨_, rfl⟩
 rw [e11] at hQ11
 obtain ⟨rfl, N11q, K11, p12, p13, p14⟩ := hQ11
 have N11 := Fr.app N0 N11q
 have f15 := (tE.keep K11)
 have f16 := (tB.keep K11 (ninS (Exa.ne f15 p12 (by decide)) nin0))
 obtain ⟨T17, X17, e17, st17⟩ := getF X11 hx hZ hown (host := "") (Or.inl (w_136 hw)) Via.refl e11 f16 (g := (mkF m 11 #[xvr ta, xvr sx, xvr ea, xvr it, xvi (0 : Int32), xvi (0 : Int32), xun, xun] [xwr ta])) rfl rfl (hb B d24_11)
 have f18 := (bE.keep K11)
 have f19 := (bU.keep K11 (ninS (Exa.ne f18 p12 (by decide)) nin0))
 have Ol20 : Old Z n0 hp11 := (X00.keep K11 (allS sg all0))
 obtain ⟨cq21, kq21, q21a, q21b, q21c⟩ := isOf hZ e17 f18
 obtain ⟨_, _, ⟨T22, L22, k22, n22⟩, -, X22, ⟨Lc22, hQ22, l22, y22, z22⟩, st22⟩ := X17.virtualBack hx (y := mm29) (z := mm29) hown (mvT hZ (w_206 hw)) (mvT hZ (w_207 hw)) (notFace_of_selects (args := #[]) (mvT hZ (w_209 hw))) (mvT hZ (w_209 hw)) (mvT hZ (w_208 hw)) (by decide) (backOf (W := 0) (rmA10 l Z a0 hw G ST [] ba hp11 n0 Ol20 f18 f19) hZ (w_210 hw) (w_116 hw) (by decide) (by decide)) q21a q21c (g := (mkF m 16 #[xvr ta, xvr sx, xvr ea, xvr it, xvi (0 : Int32), xvi (0 : Int32), xun, xun] [xwi (0 : Int32), xwr ba])) rfl (by rw [hml]; rfl) (Steps.refl _) (argsL := [ZI]) (rest := []) (lenOf pd_23 rfl) rfl (Nat.le_of_eq rfl) (hb B d24_16) (fun _ _ => ⟨rfl, e17, (by decide : 0 + 0 ≤ _), (by decide : 0 + 0 ≤ _)⟩)
 dsimp only [Pt.U, Pt.locs, Pt.cells, Pt.slots] at X22 l22 y22 z22 st22 hQ22
 subst l22 y22 z22
 obtain ⟨rfl, N22q, e22⟩ := hQ22
 have N22 := Fr.app N11 N22q
 have f23 := (tD.keep K11 (ninS (Exa.ne f15 p12 (by decide)) nin0))
 have f24 := (tM.keep K11 (ninS (Exa.ne f15 p12 (by decide)) nin0))
 have f25 := (dV.keep K11 (ninS (Ne.symm (Exa.neArv sE dV (w_10 hw))) nin0))
 have f26 := (iE.keep K11)
 have f27 := (iF.keep K11 (ninS (Old.ne X00 iO sg) nin0))
 obtain ⟨cq28, q28, q28'⟩ := f15.cell
 obtain ⟨_, _, ⟨T29, L29, k29, n29⟩, -, X29, ⟨Lc29, hQ29, l29, y29, z29⟩, st29⟩ := X22.privateBack hx (y := mm13) hown (mvT hZ (w_217 hw)) (mvT hZ (w_218 hw)) (mvT hZ (own_selp (y := mm13) (w_102 hw) (w_219 hw) (w_218 hw) (by decide))) (Cond.privateMethod_at (mvP hZ (w_219 hw) (args := #[]))) (mvT hZ (w_220 hw)) (by decide) (backOf (W := 0) (rmCn l Z a0 hw G ST [] ta da _ _ it ii mo hp11 n0 Ol20 f15 f23 f24 f25 f26 f27 hii hdn hdl hOA gd hmo) hZ (w_220 hw) (w_103 hw) (by decide) (by decide)) (g := (mkF m 24 #[xvr ta, xvr sx, xvr ea, xvr it, xvi (0 : Int32), xvi (0 : Int32), xun, xun] [xwr it, xwr ta])) rfl (by rw [hml]; rfl) (Steps.refl _) (a := ta) (by rw [e22]; exact q28) q28' (argsL := [(.ref it)]) (rest := []) (lenOf pd_24 rfl) rfl (Nat.le_of_eq rfl) (hb B d24_24) (fun _ _ => ⟨rfl, e22, (by decide : 0 + 1 ≤ _), (by decide : 0 + 9 ≤ _)⟩)
 dsimp only [Pt.U, Pt.locs, Pt.cells, Pt.slots] at X29 l29 y29 z29 st29 hQ29
 subst l29 y29 z29
 obtain ⟨hp29, e29⟩ : ∃ z, T29.heap = z := ⟨_, rfl⟩
 rw [e29] at hQ29
 obtain ⟨o30, o31, rfl, N29q, K29, p32, p33, p34⟩ := hQ29
 have N29 := Fr.app N22 N29q
 have f35 := ((eE.keep K11).keep K29)
 have f36 := (p12.keep K29)
 have f37 := ((eY.keep K11 (ninS (Exa.ne f35 f36 (by decide)) nin0)).keep K29 (ninS (Exa.neArv eE dV (w_89 hw)) nin0))
 have f38 := ((eM.keep K11 (ninS (Exa.ne f35 f36 (by decide)) nin0)).keep K29 (ninS (Exa.neArv eE dV (w_89 hw)) nin0))
 have f39 := ((eD.keep K11 (ninS (Exa.ne f35 f36 (by decide)) nin0)).keep K29 (ninS (Exa.neArv eE dV (w_89 hw)) nin0))
 have Ol40 : Old Z n0 hp29 := (Ol20.keep K29 (allS gd all0))
 obtain ⟨cq41, kq41, q41a, q41b, q41c⟩ := isOf hZ e29 f35
 obtain ⟨_, _, ⟨T42, L42, k42, n42⟩, -, X42, ⟨Lc42, hQ42, l42, y42, z42⟩, st42⟩ := X29.virtualBack hx (y := mm19) (z := mm19) hown (mvT hZ (w_236 hw)) (mvT hZ (w_237 hw)) (notFace_of_selects (args := #[]) (mvT hZ (w_239 hw))) (mvT hZ (w_239 hw)) (mvT hZ (w_238 hw)) (by decide) (backOf (W := 0) (rmTE l Z a0 hw G ST [] ea yx mx dy dx hp29 n0 Ol40 f35 f37 f38 f39 hTD) hZ (w_240 hw) (w_39 hw) (by decide) (by decide)) q41a q41c (g := (mkF m 30 #[xvr ta, xvr sx, xvr ea, xvr it, xvi (0 : Int32), xvi (0 : Int32), xvr o30, xun] [xwr ea])) rfl (by rw [hml]; rfl) (Steps.refl _) (argsL := []) (rest := []) (lenOf pd_12 rfl) rfl (Nat.le_of_eq rfl) (hb B d24_30) (fun _ _ => ⟨rfl, e29, (by decide : 1 + 0 ≤ _), (by decide : 9 + 0 ≤ _)⟩)
 dsimp only [Pt.U, Pt.locs, Pt.cells, Pt.slots] at X42 l42 y42 z42 st42 hQ42
 subst l42 y42 z42
 obtain ⟨hp42, e42⟩ : ∃ z, T42.heap = z := ⟨_, rfl⟩
 rw [e42] at hQ42
 obtain ⟨rfl, N42q, K42⟩ := hQ42
 have N42 := Fr.app N29 N42q
 have Ol43 : Old Z n0 hp42 := (Ol40.keep K42 all0)
 obtain ⟨_, _, ⟨T44, L44, k44, n44⟩, -, X44, ⟨Lc44, hQ44, l44, y44, z44⟩, st44⟩ := Jvm.LawKit.callS X42 hx (y := mm20) hown (mvT hZ (w_248 hw)) (mvT hZ (w_249 hw)) (mvT hZ (w_140 hw)) (mvT hZ (w_250 hw)) (by decide) (backOf (W := 0) (rmTI l Z a0 hw G ST [] dx hp42 n0 Ol43 ) hZ (w_250 hw) (w_140 hw) (by decide) (by decide)) (g := (mkF m 33 #[xvr ta, xvr sx, xvr ea, xvr it, xvi (0 : Int32), xvi (0 : Int32), xvr o30, xun] [xwj (dx.toInt64)])) rfl (by rw [hml]; rfl) (argsL := [(.long (dx.toInt64))]) (rest := []) (lenOf pd_25 rfl) rfl (Nat.le_of_eq rfl) (hb B d24_33) (fun _ _ => ⟨rfl, e42, (by decide : 1 + 0 ≤ _), (by decide : 9 + 0 ≤ _)⟩)
 dsimp only [Pt.U, Pt.locs, Pt.cells, Pt.slots] at X44 l44 y44 z44 st44 hQ44
 subst l44 y44 z44
 obtain ⟨rfl, N44q, e44⟩ := hQ44
 have N44 := Fr.app N42 N44q
 have f45 := (p33.keep K42 nin0)
 obtain ⟨cl46, Ar46, q46, S46, M46, H46, G46⟩ := id f45
 have in46 : ¬ ((0 : Int32) < 0 ∨ cl46.slots.size ≤ ((0 : Int32)).toNatClampNeg) := inb_of S46 ⟨by decide, (own_mo0 hmo)⟩
 obtain ⟨cl47, Ar47, q47, S47, M47, H47, G47⟩ := id f45
 have in47 : ¬ ((0 : Int32) < 0 ∨ cl47.slots.size ≤ ((0 : Int32)).toNatClampNeg) := inb_of S47 ⟨by decide, (own_mo0 hmo)⟩
 obtain ⟨T48, h48, X48, e48, W48, st48⟩ := stI X44 hx hZ e44 Ar47 (j := (0 : Int32)) in47 (g := (mkF m 54 #[xvr ta, xvr sx, xvr ea, xvr it, xvi (0 : Int32), xvi (0 : Int32), xvr o30, xvi dx] [xwi dx, xwi (0 : Int32), xwr o30])) rfl rfl (hb B d24_54)
 have V48 : Arv Z h48 o30 o31 .int mo [(.int dx), MI, MI, MI, MI, MI, MI, MI, MI] ZI := Arv.set Ar47 q47 S47 M47 H47 G47 rfl W48 0 rfl (Nat.le_of_ble_eq_true rfl)
 have N48 := Fr.snoc X48 N44 (ntr Z0 (ntr K11.1 p32))
 have f49 := ((f36.keep K42).wr W48)
 have f50 := (((p13.keep K29 (ninS (Exa.neArv sE dV (w_10 hw)) nin0)).keep K42 nin0).other W48 (Or.inl (onb sE.lt K11.1 p32)))
 have f51 := (((p14.keep K29 (ninS (Exa.neArv sE dV (w_10 hw)) nin0)).keep K42 nin0).other W48 (Or.inl (onb sE.lt K11.1 p32)))
 have f52 := ((p34.keep K42 nin0).other W48 (onb dV.lt K11.1 p32))
 obtain ⟨fs, hr, hrun, hended, hW, hsame⟩ := X48.leave (v := some (.int (1 : Int32))) (own_rv Bd.returns)
 refine ⟨_, _, hTG _ (pre0 _ ?_), hrun, hended, _, _, rfl, ?_, ⟨_, rfl⟩, hW, hsame.mono (by decide) (by decide)⟩
 ·refine y_aloadN X0 hx 1 (hb B d24_0) rfl rfl rfl <| y_aloadN X0 hx 2 (hb B d24_1) rfl rfl rfl ?_
  refine st11.trans ?_
  refine y_istore X11 hx 7 (hb B d24_5) (L' := #[xvr ta, xvr sx, xvr ea, xvr it, xvi (0 : Int32), xun, xun, xun]) rfl rfl <| y_iconst X11 hx (0 : Int32) 8 (hb B d24_7) rfl rfl <| y_istore X11 hx 10 (hb B d24_8) (L' := #[xvr ta, xvr sx, xvr ea, xvr it, xvi (0 : Int32), xvi (0 : Int32), xun, xun]) rfl rfl <| y_aloadN X11 hx 11 (hb B d24_10) rfl rfl rfl ?_
  refine st17 _ ?_
  refine y_iload X17 hx 16 (hb B d24_14) rfl rfl ?_
  refine st22.trans ?_
  refine y_ifNo X22 hx 22 (hb B d24_19) (XT.i0_ne_f (by decide)) rfl <| y_aloadN X22 hx 23 (hb B d24_22) rfl rfl rfl <| y_aloadN X22 hx 24 (hb B d24_23) rfl rfl rfl ?_
  refine st29.trans ?_
  refine y_astore X29 hx 29 (hb B d24_27) (L' := #[xvr ta, xvr sx, xvr ea, xvr it, xvi (0 : Int32), xvi (0 : Int32), xvr o30, xun]) rfl rfl rfl <| y_aloadN X29 hx 30 (hb B d24_29) rfl rfl rfl ?_
  refine st42.trans ?_
  refine st44 _ ?_
  refine y_istore X44 hx 38 (hb B d24_36) (L' := #[xvr ta, xvr sx, xvr ea, xvr it, xvi (0 : Int32), xvi (0 : Int32), xvr o30, xvi dx]) rfl rfl <| y_iload X44 hx 40 (hb B d24_38) rfl rfl <| y_aload X44 hx 42 (hb B d24_40) rfl rfl rfl <| y_iload X44 hx 44 (hb B d24_42) rfl rfl ?_
  refine X44.iaload hx (j := (0 : Int32)) (v := (.int (-2147483648 : Int32))) (by rw [e44]; exact Ar46.1) (State.isArrayOf_alike hZ.alike Ar46.2.1) Ar46.2.2 in46 (Has.at H46 in46 rfl) (g := (mkF m 44 #[xvr ta, xvr sx, xvr ea, xvr it, xvi (0 : Int32), xvi (0 : Int32), xvr o30, xvi dx] [xwi (0 : Int32), xwr o30, xwi dx])) rfl rfl (hb B d24_44) _ ?_
  refine y_icmpNo X44 hx 48 (hb B d24_45) (XT.ii_le_f (own_min hdr)) rfl <| y_aload X44 hx 50 (hb B d24_48) rfl rfl rfl <| y_iload X44 hx 52 (hb B d24_50) rfl rfl <| y_iload X44 hx 54 (hb B d24_52) rfl rfl ?_
  refine st48 _ ?_
  refine y_goto X48 hx 83 (hb B d24_55) rfl rfl <| y_iload X48 hx 85 (hb B d24_83) rfl rfl <| y_ifNo X48 hx 88 (hb B d24_85) (XT.i0_ne_f (by decide)) rfl <| y_iconst X48 hx (1 : Int32) 89 (hb B d24_88) rfl rfl <| y_goto X48 hx 93 (hb B d24_89) rfl rfl ?_
  show Sx p e below T48 m 93 #[xvr ta, xvr sx, xvr ea, xvr it, xvi (0 : Int32), xvi (0 : Int32), xvr o30, xvi dx] [xwi (1 : Int32)] _
  exact retN X48 hx (t := .boolean) Bd.returns (by simp) (hb B d24_93) (hr)
 ·show QrmAd2 Z G ta pa kp sl sf pv na kn nv sx vx kb cx q1 w1 kq cq da ba mo wa kw ea yx mx dy dx kd dv it ii h0 n0 _ T48.heap _
  rw [e48]
  exact ⟨o30, o31, rfl, N48, (((((Keep.refl h0 [sx, da]).trans K11 (allS (oi 0 rfl) all0)).trans K29 (allS (oi 1 rfl) all0)).trans K42 all0).wr W48 (Or.inr (ntr K11.1 p32))), f49, f50, f51, (ntr K11.1 p32), V48, f52⟩
def QrmAd3 (Z : State) (G : Gs) (ta pa : Addr) (kp : ClassId) (sl sf : Int32) (pv : List Value) (na : Addr) (kn : ClassId) (nv : List Value) (da ba : Addr) (mo : Int32) (sx vx : Addr) (kb : ClassId) (cx : Int32) (q1 w1 : Addr) (kq : ClassId) (cq s0 : Int32) (wa : Addr) (kw : ClassId) (bu : Int32) (wx : Int64) (ea : Addr) (yx mx : Int32) (dy dx : Int32) (kd : ClassId) (dv : List Value) (it : Addr) (ii : Int32) (ca : Addr) (kc : ClassId) (cv : List Value) (lv : Int32) (h0 : Heap) (n0 : Nat) (v : Option Value) (h : Heap) (L : List Loc) : Prop := ∃ (ix : Int32), ∃ (rr : Int32), v = some (.int rr) ∧ Fr n0 L ∧ Keep h0 h [sx, pa, na, ta, ca] ∧ Exa Z h sx sg1 ∧ Fld Z h sx sg1 "coder" "B" ZI ∧ Fld Z h sx sg1 "value" "[B" (.ref vx) ∧ Exa Z h ta sg0 ∧ Fld Z h ta sg0 sg8 sg5 (.ref pa) ∧ Fld Z h ta sg0 "shift" "I" (.int sf) ∧ Fld Z h ta sg0 "numbers" "[I" (.ref na) ∧ Fld Z h ta sg0 "days" "[[I" (.ref da) ∧ Fld Z h ta sg0 "most" "I" (.int mo) ∧ Fld Z h ta sg0 "outOfOrder" sg6 (.ref ba) ∧ Fld Z h ta sg0 "count" "I" (.int (2 : Int32)) ∧ Arv Z h pa kp (.object sg1) sl (List.set pv (ix).toNatClampNeg (.ref sx)) .null ∧ Arv Z h na kn .int sl (List.set nv (ix).toNatClampNeg (.int (1 : Int32))) ZI ∧ IXP cx sf sl s0 ix ∧ Arv Z h ca kc .int mo (List.set cv 1 (.int dx)) ZI
theorem rmAd3 (l : Launch) (Z : State) (a0 : Array Value) (hw : HW a0 Z) (G : Gs) (ST : StartF Z G) (ws : List Jvm.Cond) (ta pa : Addr) (kp : ClassId) (sl sf : Int32) (pv : List Value) (na : Addr) (kn : ClassId) (nv : List Value) (da ba : Addr) (mo : Int32) (sx vx : Addr) (kb : ClassId) (cx : Int32) (q1 w1 : Addr) (kq : ClassId) (cq s0 : Int32) (wa : Addr) (kw : ClassId) (bu : Int32) (wx : Int64) (ea : Addr) (yx mx : Int32) (dy dx : Int32) (kd : ClassId) (dv : List Value) (it : Addr) (ii : Int32) (ca : Addr) (kc : ClassId) (cv : List Value) (lv : Int32) (h0 : Heap) (n0 : Nat) (X00 : Old Z n0 h0) (tE : Exa Z h0 ta sg0) (tP : Fld Z h0 ta sg0 sg8 sg5 (.ref pa)) (tS : Fld Z h0 ta sg0 "shift" "I" (.int sf)) (tV : Arv Z h0 pa kp (.object sg1) sl pv .null) (hsl : SLS sl sf) (tN : Fld Z h0 ta sg0 "numbers" "[I" (.ref na)) (nV : Arv Z h0 na kn .int sl nv ZI) (tD : Fld Z h0 ta sg0 "days" "[[I" (.ref da)) (tM : Fld Z h0 ta sg0 "most" "I" (.int mo)) (tB : Fld Z h0 ta sg0 "outOfOrder" sg6 (.ref ba)) (sE : Exa Z h0 sx sg1) (sC : Fld Z h0 sx sg1 "coder" "B" ZI) (sW : Fld Z h0 sx sg1 "value" "[B" (.ref vx)) (sA : Arv Z h0 vx kb .byte (1 : Int32) [(.int cx.toInt8.toInt32)] ZI) (sH : Fld Z h0 sx sg1 "hash" "I" ZI) (sZ : Fld Z h0 sx sg1 "hashIsZero" "Z" ZI) (sg : n0 ≤ sx) (hc : (¬ cx < 0 ∧ ¬ (255 : Int32) < cx)) (qE : Exa Z h0 q1 sg1) (qC : Fld Z h0 q1 sg1 "coder" "B" ZI) (qW : Fld Z h0 q1 sg1 "value" "[B" (.ref w1)) (qA : Arv Z h0 w1 kq .byte (1 : Int32) [(.int cq.toInt8.toInt32)] ZI) (tC : Fld Z h0 ta sg0 "count" "I" (.int (1 : Int32))) (gt : n0 ≤ ta) (gp : n0 ≤ pa) (gn : n0 ≤ na) (hO : Ovr Z kp sg1) (hpl : pv.length = 32) (hnl : nv.length = 32) (nqs : q1 ≠ sx) (hT : T1 pv s0 q1) (he : ¬ cq.toInt8.toInt32 = cx.toInt8.toInt32) (hs0 : (¬ s0 < 0 ∧ s0 < sl)) (bE : Exa Z h0 ba sg2) (bU : Fld Z h0 ba sg2 "wordsInUse" "I" (.int bu)) (bW : Fld Z h0 ba sg2 "words" "[J" (.ref wa)) (bV : Arv Z h0 wa kw .long (1 : Int32) [(.long wx)] (.long (0 : Int64))) (hbw : BW bu wx) (eE : Exa Z h0 ea sg3) (eY : Fld Z h0 ea sg3 "year" "I" (.int yx)) (eM : Fld Z h0 ea sg3 "month" "S" (.int mx)) (eD : Fld Z h0 ea sg3 "day" "S" (.int dy)) (hTD : TD yx mx dy dx) (dV : Arv Z h0 da kd (.array .int) (9 : Int32) dv .null) (iE : Exa Z h0 it sg4) (iF : Fld Z h0 it sg7 "ordinal" "I" (.int ii)) (hii : (¬ ii < 0 ∧ ii < (9 : Int32))) (hdr : DR dx) (hmo : Mo mo) (iO : it < Z.heap.size) (hdo : dv.getD ii.toNatClampNeg .null = .ref ca) (cV : Arv Z h0 ca kc .int mo cv ZI) (hlv : cv.getD 1 ZI = .int lv) (hcl : cv.length = 9) (gc : n0 ≤ ca) (nnc : na ≠ ca) (hcmp : ¬ dx < lv) :
  MF l Z ws mm39 prog_54_method_2_code 8 (some .boolean) (rk 4 0 0 56) #[(.ref ta), (.ref sx), (.ref ea), (.ref it)] h0 (QrmAd3 Z G ta pa kp sl sf pv na kn nv da ba mo sx vx kb cx q1 w1 kq cq s0 wa kw bu wx ea yx mx dy dx kd dv it ii ca kc cv lv h0 n0) := by
 refine MetFree.of_bodySF (plainFor_of_name pn_2) hisR ?_
 intro p e s m args below meth c s₁ Bd hml0 hP hK
 obtain ⟨rfl, hZ, hh⟩ := hP
 have hx := Bd.exec
 have B := Bd.bytes
 have hml : c.maxLocals = 8 := hml0
 have hown : s.vm.findClass sg0 = some m.cls := findClass_of_methodNamed Bd.named
 have X0 : Stand p l e (rk 4 0 0 56) s m #[(.ref ta), (.ref sx), (.ref ea), (.ref it)] below meth c s₁ [] 0 0 := Stand.of_body Bd
 have e0 : s₁.heap = h0 := by rw [← hh, Bd.state]; rfl
 have N0 := Fr.nil n0
 obtain ⟨TG, hTG, pre0⟩ := own_pre p e below s₁ (ef_rmAd0 m ta sx ea it )
 obtain ⟨cq10, q10, q10'⟩ := tE.cell
 obtain ⟨_, _, ⟨T11, L11, k11, n11⟩, -, X11, ⟨Lc11, hQ11, l11, y11, z11⟩, st11⟩ := X0.privateBack hx (y := mm10) hown (mvT hZ (w_178 hw)) (mvT hZ (w_179 hw)) (mvT hZ (own_selp (y := mm10) (w_102 hw) (w_180 hw) (w_179 hw) (by decide))) (Cond.privateMethod_at (mvP hZ (w_180 hw) (args := #[]))) (mvT hZ (w_181 hw)) (by decide) (backOf (W := 0) (rmN1d l Z a0 hw G ST [] ta pa _ sl sf _ na _ _ da ba mo sx vx _ cx q1 w1 _ cq s0 h0 n0 X00 tE tP tS tV hsl tN nV tD tM tB sE sC sW sA sH sZ sg hc qE qC qW qA tC gt gp gn hO hpl hnl nqs hT he hs0) hZ (w_181 hw) (w_103 hw) (by decide) (by decide)) (g := (mkF m 2 #[xvr ta, xvr sx, xvr ea, xvr it, xun, xun, xun, xun] [xwr sx, xwr ta])) rfl (by rw [hml]; rfl) (Steps.refl _) (a := ta) (by rw [e0]; exact q10) q10' (argsL := [(.ref sx)]) (rest := []) (lenOf pd_8 rfl) rfl (Nat.le_of_eq rfl) (hb B d24_2) (fun _ _ => ⟨rfl, e0, (by decide : 0 + 0 ≤ _), (by decide : 0 + 0 ≤ _)⟩)
 dsimp only [Pt.U, Pt.locs, Pt.cells, Pt.slots] at X11 l11 y11 z11 st11 hQ11
 subst l11 y11 z11
 obtain ⟨hp11, e11⟩ : ∃ z, T11.heap = z := ⟨_, rfl⟩
 rw [e11] at hQ11
 obtain ⟨o12, rfl, N11q, K11, p13, p14, p15, p16, p17, p18, p19, p20, p21, p22, p23, p24, p25, p26⟩ := hQ11
 have N11 := Fr.app N0 N11q
 obtain ⟨T27, X27, e27, st27⟩ := getF X11 hx hZ hown (host := "") (Or.inl (w_136 hw)) Via.refl e11 p22 (g := (mkF m 11 #[xvr ta, xvr sx, xvr ea, xvr it, xvi (1 : Int32), xvi (0 : Int32), xun, xun] [xwr ta])) rfl rfl (hb B d24_11)
 have f28 := (bE.keep K11)
 have f29 := (bU.keep K11 (ninS (Exa.ne f28 p13 (by decide)) (ninS (Exa.neArv bE tV (w_115 hw)) (ninS (Exa.neArv bE nV (w_115 hw)) (ninS (Exa.ne f28 p16 (by decide)) nin0)))))
 have f30 := (bW.keep K11 (ninS (Exa.ne f28 p13 (by decide)) (ninS (Exa.neArv bE tV (w_115 hw)) (ninS (Exa.neArv bE nV (w_115 hw)) (ninS (Exa.ne f28 p16 (by decide)) nin0)))))
 have f31 := (bV.keep K11 (ninS (Ne.symm (Exa.neArv sE bV (w_10 hw))) (ninS (own_neV bV tV (by decide)) (ninS (own_neV bV nV (by decide)) (ninS (Ne.symm (Exa.neArv tE bV (w_102 hw))) nin0)))))
 have Ol32 : Old Z n0 hp11 := (X00.keep K11 (allS sg (allS gp (allS gn (allS gt all0)))))
 obtain ⟨cq33, kq33, q33a, q33b, q33c⟩ := isOf hZ e27 f28
 obtain ⟨_, _, ⟨T34, L34, k34, n34⟩, -, X34, ⟨Lc34, hQ34, l34, y34, z34⟩, st34⟩ := X27.virtualBack hx (y := mm29) (z := mm29) hown (mvT hZ (w_206 hw)) (mvT hZ (w_207 hw)) (notFace_of_selects (args := #[]) (mvT hZ (w_209 hw))) (mvT hZ (w_209 hw)) (mvT hZ (w_208 hw)) (by decide) (backOf (W := 0) (rmG1 l Z a0 hw G ST [] ba wa _ bu wx hp11 n0 Ol32 f28 f29 f30 f31 hbw) hZ (w_210 hw) (w_116 hw) (by decide) (by decide)) q33a q33c (g := (mkF m 16 #[xvr ta, xvr sx, xvr ea, xvr it, xvi (1 : Int32), xvi (0 : Int32), xun, xun] [xwi (1 : Int32), xwr ba])) rfl (by rw [hml]; rfl) (Steps.refl _) (argsL := [(.int (1 : Int32))]) (rest := []) (lenOf pd_23 rfl) rfl (Nat.le_of_eq rfl) (hb B d24_16) (fun _ _ => ⟨rfl, e27, (by decide : 0 + 0 ≤ _), (by decide : 0 + 0 ≤ _)⟩)
 dsimp only [Pt.U, Pt.locs, Pt.cells, Pt.slots] at X34 l34 y34 z34 st34 hQ34
 subst l34 y34 z34
 obtain ⟨rfl, N34q, e34⟩ := hQ34
 have N34 := Fr.app N11 N34q
 have f35 := (dV.keep K11 (ninS (Ne.symm (Exa.neArv sE dV (w_10 hw))) (ninS (own_neV dV tV (by decide)) (ninS (own_neV dV nV (by decide)) (ninS (Ne.symm (Exa.neArv tE dV (w_102 hw))) nin0)))))
 have f36 := (iE.keep K11)
 have f37 := (iF.keep K11 (ninS (Old.ne X00 iO sg) (ninS (Old.ne X00 iO gp) (ninS (Old.ne X00 iO gn) (ninS (Old.ne X00 iO gt) nin0)))))
 obtain ⟨cq38, q38, q38'⟩ := p16.cell
 obtain ⟨_, _, ⟨T39, L39, k39, n39⟩, -, X39, ⟨Lc39, hQ39, l39, y39, z39⟩, st39⟩ := X34.privateBack hx (y := mm13) hown (mvT hZ (w_217 hw)) (mvT hZ (w_218 hw)) (mvT hZ (own_selp (y := mm13) (w_102 hw) (w_219 hw) (w_218 hw) (by decide))) (Cond.privateMethod_at (mvP hZ (w_219 hw) (args := #[]))) (mvT hZ (w_220 hw)) (by decide) (backOf (W := 0) (rmCo l Z a0 hw G ST [] ta da _ _ it ii ca hp11 n0 Ol32 p16 p20 f35 f36 f37 hii hdo) hZ (w_220 hw) (w_103 hw) (by decide) (by decide)) (g := (mkF m 24 #[xvr ta, xvr sx, xvr ea, xvr it, xvi (1 : Int32), xvi (0 : Int32), xun, xun] [xwr it, xwr ta])) rfl (by rw [hml]; rfl) (Steps.refl _) (a := ta) (by rw [e34]; exact q38) q38' (argsL := [(.ref it)]) (rest := []) (lenOf pd_24 rfl) rfl (Nat.le_of_eq rfl) (hb B d24_24) (fun _ _ => ⟨rfl, e34, (by decide : 0 + 0 ≤ _), (by decide : 0 + 0 ≤ _)⟩)
 dsimp only [Pt.U, Pt.locs, Pt.cells, Pt.slots] at X39 l39 y39 z39 st39 hQ39
 subst l39 y39 z39
 obtain ⟨rfl, N39q, e39⟩ := hQ39
 have N39 := Fr.app N34 N39q
 have f40 := (eE.keep K11)
 have f41 := (eY.keep K11 (ninS (Exa.ne f40 p13 (by decide)) (ninS (Exa.neArv eE tV (w_89 hw)) (ninS (Exa.neArv eE nV (w_89 hw)) (ninS (Exa.ne f40 p16 (by decide)) nin0)))))
 have f42 := (eM.keep K11 (ninS (Exa.ne f40 p13 (by decide)) (ninS (Exa.neArv eE tV (w_89 hw)) (ninS (Exa.neArv eE nV (w_89 hw)) (ninS (Exa.ne f40 p16 (by decide)) nin0)))))
 have f43 := (eD.keep K11 (ninS (Exa.ne f40 p13 (by decide)) (ninS (Exa.neArv eE tV (w_89 hw)) (ninS (Exa.neArv eE nV (w_89 hw)) (ninS (Exa.ne f40 p16 (by decide)) nin0)))))
 obtain ⟨cq44, kq44, q44a, q44b, q44c⟩ := isOf hZ e39 f40
 obtain ⟨_, _, ⟨T45, L45, k45, n45⟩, -, X45, ⟨Lc45, hQ45, l45, y45, z45⟩, st45⟩ := X39.virtualBack hx (y := mm19) (z := mm19) hown (mvT hZ (w_236 hw)) (mvT hZ (w_237 hw)) (notFace_of_selects (args := #[]) (mvT hZ (w_239 hw))) (mvT hZ (w_239 hw)) (mvT hZ (w_238 hw)) (by decide) (backOf (W := 0) (rmTE l Z a0 hw G ST [] ea yx mx dy dx hp11 n0 Ol32 f40 f41 f42 f43 hTD) hZ (w_240 hw) (w_39 hw) (by decide) (by decide)) q44a q44c (g := (mkF m 30 #[xvr ta, xvr sx, xvr ea, xvr it, xvi (1 : Int32), xvi (0 : Int32), xvr ca, xun] [xwr ea])) rfl (by rw [hml]; rfl) (Steps.refl _) (argsL := []) (rest := []) (lenOf pd_12 rfl) rfl (Nat.le_of_eq rfl) (hb B d24_30) (fun _ _ => ⟨rfl, e39, (by decide : 0 + 0 ≤ _), (by decide : 0 + 0 ≤ _)⟩)
 dsimp only [Pt.U, Pt.locs, Pt.cells, Pt.slots] at X45 l45 y45 z45 st45 hQ45
 subst l45 y45 z45
 obtain ⟨hp45, e45⟩ : ∃ z, T45.heap = z := ⟨_, rfl⟩
 rw [e45] at hQ45
 obtain ⟨rfl, N45q, K45⟩ := hQ45
 have N45 := Fr.app N39 N45q
 have Ol46 : Old Z n0 hp45 := (Ol32.keep K45 all0)
 obtain ⟨_, _, ⟨T47, L47, k47, n47⟩, -, X47, ⟨Lc47, hQ47, l47, y47, z47⟩, st47⟩ := Jvm.LawKit.callS X45 hx (y := mm20) hown (mvT hZ (w_248 hw)) (mvT hZ (w_249 hw)) (mvT hZ (w_140 hw)) (mvT hZ (w_250 hw)) (by decide) (backOf (W := 0) (rmTI l Z a0 hw G ST [] dx hp45 n0 Ol46 ) hZ (w_250 hw) (w_140 hw) (by decide) (by decide)) (g := (mkF m 33 #[xvr ta, xvr sx, xvr ea, xvr it, xvi (1 : Int32), xvi (0 : Int32), xvr ca, xun] [xwj (dx.toInt64)])) rfl (by rw [hml]; rfl) (argsL := [(.long (dx.toInt64))]) (rest := []) (lenOf pd_25 rfl) rfl (Nat.le_of_eq rfl) (hb B d24_33) (fun _ _ => ⟨rfl, e45, (by decide : 0 + 0 ≤ _), (by decide : 0 + 0 ≤ _)⟩)
 dsimp only [Pt.U, Pt.locs, Pt.cells, Pt.slots] at X47 l47 y47 z47 st47 hQ47
 subst l47 y47 z47
 obtain ⟨rfl, N47q, e47⟩ := hQ47
 have N47 := Fr.app N45 N47q
 have f48 := ((cV.keep K11 (ninS (Ne.symm (Exa.neArv sE cV (w_10 hw))) (ninS (own_neV cV tV (by decide)) (ninS (Ne.symm nnc) (ninS (Ne.symm (Exa.neArv tE cV (w_102 hw))) nin0))))).keep K45 nin0)
 obtain ⟨cl49, Ar49, q49, S49, M49, H49, G49⟩ := id f48
 have in49 : ¬ ((1 : Int32) < 0 ∨ cl49.slots.size ≤ ((1 : Int32)).toNatClampNeg) := inb_of S49 ⟨by decide, (own_mo1 hmo)⟩
 have c50 : ∀ t, Sx p e below T47 m 45 #[xvr ta, xvr sx, xvr ea, xvr it, xvi (1 : Int32), xvi (0 : Int32), xvr ca, xvi dx] [xwi lv, xwi dx] t → TG t := fun t k => pre0 t (by
  refine y_aloadN X0 hx 1 (hb B d24_0) rfl rfl rfl <| y_aloadN X0 hx 2 (hb B d24_1) rfl rfl rfl ?_
  refine st11.trans ?_
  refine y_istore X11 hx 7 (hb B d24_5) (L' := #[xvr ta, xvr sx, xvr ea, xvr it, xvi (1 : Int32), xun, xun, xun]) rfl rfl <| y_iconst X11 hx (0 : Int32) 8 (hb B d24_7) rfl rfl <| y_istore X11 hx 10 (hb B d24_8) (L' := #[xvr ta, xvr sx, xvr ea, xvr it, xvi (1 : Int32), xvi (0 : Int32), xun, xun]) rfl rfl <| y_aloadN X11 hx 11 (hb B d24_10) rfl rfl rfl ?_
  refine st27 _ ?_
  refine y_iload X27 hx 16 (hb B d24_14) rfl rfl ?_
  refine st34.trans ?_
  refine y_ifNo X34 hx 22 (hb B d24_19) (XT.i0_ne_f (by decide)) rfl <| y_aloadN X34 hx 23 (hb B d24_22) rfl rfl rfl <| y_aloadN X34 hx 24 (hb B d24_23) rfl rfl rfl ?_
  refine st39.trans ?_
  refine y_astore X39 hx 29 (hb B d24_27) (L' := #[xvr ta, xvr sx, xvr ea, xvr it, xvi (1 : Int32), xvi (0 : Int32), xvr ca, xun]) rfl rfl rfl <| y_aloadN X39 hx 30 (hb B d24_29) rfl rfl rfl ?_
  refine st45.trans ?_
  refine st47 _ ?_
  refine y_istore X47 hx 38 (hb B d24_36) (L' := #[xvr ta, xvr sx, xvr ea, xvr it, xvi (1 : Int32), xvi (0 : Int32), xvr ca, xvi dx]) rfl rfl <| y_iload X47 hx 40 (hb B d24_38) rfl rfl <| y_aload X47 hx 42 (hb B d24_40) rfl rfl rfl <| y_iload X47 hx 44 (hb B d24_42) rfl rfl ?_
  refine X47.iaload hx (j := (1 : Int32)) (v := (.int lv)) (by rw [e47]; exact Ar49.1) (State.isArrayOf_alike hZ.alike Ar49.2.1) Ar49.2.2 in49 (Has.at H49 in49 hlv) (g := (mkF m 44 #[xvr ta, xvr sx, xvr ea, xvr it, xvi (1 : Int32), xvi (0 : Int32), xvr ca, xvi dx] [xwi (1 : Int32), xwr ca, xwi dx])) rfl rfl (hb B d24_44) _ ?_
  exact k)
 by_cases hc51 : lv < dx
 ·obtain ⟨cl52, Ar52, q52, S52, M52, H52, G52⟩ := id f48
  have in52 : ¬ ((1 : Int32) < 0 ∨ cl52.slots.size ≤ ((1 : Int32)).toNatClampNeg) := inb_of S52 ⟨by decide, (own_mo1 hmo)⟩
  obtain ⟨T53, h53, X53, e53, W53, st53⟩ := stI X47 hx hZ e47 Ar52 (j := (1 : Int32)) in52 (g := (mkF m 54 #[xvr ta, xvr sx, xvr ea, xvr it, xvi (1 : Int32), xvi (0 : Int32), xvr ca, xvi dx] [xwi dx, xwi (1 : Int32), xwr ca])) rfl rfl (hb B d24_54)
  have V53 : Arv Z h53 ca kc .int mo (List.set cv 1 (.int dx)) ZI := Arv.set Ar52 q52 S52 M52 H52 G52 rfl W53 1 rfl (own_l9 hcl (by decide))
  have N53 := Fr.snoc X53 N47 gc
  have f54 := ((p13.keep K45).wr W53)
  have f55 := ((p14.keep K45 nin0).other W53 (Or.inl (Exa.neArv sE cV (w_10 hw))))
  have f56 := ((p15.keep K45 nin0).other W53 (Or.inl (Exa.neArv sE cV (w_10 hw))))
  have f57 := ((p16.keep K45).wr W53)
  have f58 := ((p17.keep K45 nin0).other W53 (Or.inl (Exa.neArv tE cV (w_102 hw))))
  have f59 := ((p18.keep K45 nin0).other W53 (Or.inl (Exa.neArv tE cV (w_102 hw))))
  have f60 := ((p19.keep K45 nin0).other W53 (Or.inl (Exa.neArv tE cV (w_102 hw))))
  have f61 := ((p20.keep K45 nin0).other W53 (Or.inl (Exa.neArv tE cV (w_102 hw))))
  have f62 := ((p21.keep K45 nin0).other W53 (Or.inl (Exa.neArv tE cV (w_102 hw))))
  have f63 := ((p22.keep K45 nin0).other W53 (Or.inl (Exa.neArv tE cV (w_102 hw))))
  have f64 := ((p23.keep K45 nin0).other W53 (Or.inl (Exa.neArv tE cV (w_102 hw))))
  have f65 := ((p24.keep K45 nin0).other W53 (own_neV tV cV (by decide)))
  have f66 := ((p25.keep K45 nin0).other W53 nnc)
  obtain ⟨fs, hr, hrun, hended, hW, hsame⟩ := X53.leave (v := some (.int (1 : Int32))) (own_rv Bd.returns)
  refine ⟨_, _, hTG _ (c50 _ ?_), hrun, hended, _, _, rfl, ?_, ⟨_, rfl⟩, hW, hsame.mono (by decide) (by decide)⟩
  ·refine y_icmpNo X47 hx 48 (hb B d24_45) (XT.ii_le_f hc51) rfl <| y_aload X47 hx 50 (hb B d24_48) rfl rfl rfl <| y_iload X47 hx 52 (hb B d24_50) rfl rfl <| y_iload X47 hx 54 (hb B d24_52) rfl rfl ?_
   refine st53 _ ?_
   refine y_goto X53 hx 83 (hb B d24_55) rfl rfl <| y_iload X53 hx 85 (hb B d24_83) rfl rfl <| y_ifNo X53 hx 88 (hb B d24_85) (XT.i0_ne_f (by decide)) rfl <| y_iconst X53 hx (1 : Int32) 89 (hb B d24_88) rfl rfl <| y_goto X53 hx 93 (hb B d24_89) rfl rfl ?_
   show Sx p e below T53 m 93 #[xvr ta, xvr sx, xvr ea, xvr it, xvi (1 : Int32), xvi (0 : Int32), xvr ca, xvi dx] [xwi (1 : Int32)] _
   exact retN X53 hx (t := .boolean) Bd.returns (by simp) (hb B d24_93) (hr)
  ·show QrmAd3 Z G ta pa kp sl sf pv na kn nv da ba mo sx vx kb cx q1 w1 kq cq s0 wa kw bu wx ea yx mx dy dx kd dv it ii ca kc cv lv h0 n0 _ T53.heap _
   rw [e53]
   exact ⟨o12, (1 : Int32), rfl, N53, ((((Keep.refl h0 [sx, pa, na, ta, ca]).trans K11 (allS (oi 0 rfl) (allS (oi 1 rfl) (allS (oi 2 rfl) (allS (oi 3 rfl) all0))))).trans K45 all0).wr W53 (oi 4 rfl)), f54, f55, f56, f57, f58, f59, f60, f61, f62, f63, f64, f65, f66, p26, V53⟩
 ·obtain ⟨cl67, Ar67, q67, S67, M67, H67, G67⟩ := id f48
  have in67 : ¬ ((1 : Int32) < 0 ∨ cl67.slots.size ≤ ((1 : Int32)).toNatClampNeg) := inb_of S67 ⟨by decide, (own_mo1 hmo)⟩
  have Vs68 : Arv Z hp45 ca kc .int mo (List.set cv 1 (.int dx)) ZI := by rw [own_setsame (own_l9 hcl (by decide)) (hlv.trans (congrArg Value.int (own_tri hcmp hc51).symm))]; exact f48
  have f69 := (p13.keep K45)
  have f70 := (p14.keep K45 nin0)
  have f71 := (p15.keep K45 nin0)
  have f72 := (p16.keep K45)
  have f73 := (p17.keep K45 nin0)
  have f74 := (p18.keep K45 nin0)
  have f75 := (p19.keep K45 nin0)
  have f76 := (p20.keep K45 nin0)
  have f77 := (p21.keep K45 nin0)
  have f78 := (p22.keep K45 nin0)
  have f79 := (p23.keep K45 nin0)
  have f80 := (p24.keep K45 nin0)
  have f81 := (p25.keep K45 nin0)
  obtain ⟨fs, hr, hrun, hended, hW, hsame⟩ := X47.leave (v := some ZI) (own_rv Bd.returns)
  refine ⟨_, _, hTG _ (c50 _ ?_), hrun, hended, _, _, rfl, ?_, ⟨_, rfl⟩, hW, hsame.mono (by decide) (by decide)⟩
  ·refine y_icmpYes X47 hx 58 (hb B d24_45) (XT.ii_le_t hc51) rfl rfl <| y_iload X47 hx 60 (hb B d24_58) rfl rfl <| y_aload X47 hx 62 (hb B d24_60) rfl rfl rfl <| y_iload X47 hx 64 (hb B d24_62) rfl rfl ?_
   refine X47.iaload hx (j := (1 : Int32)) (v := (.int lv)) (by rw [e47]; exact Ar67.1) (State.isArrayOf_alike hZ.alike Ar67.2.1) Ar67.2.2 in67 (Has.at H67 in67 hlv) (g := (mkF m 64 #[xvr ta, xvr sx, xvr ea, xvr it, xvi (1 : Int32), xvi (0 : Int32), xvr ca, xvi dx] [xwi (1 : Int32), xwr ca, xwi dx])) rfl rfl (hb B d24_64) _ ?_
   refine y_icmpNo X47 hx 68 (hb B d24_65) (XT.ii_ne_f (own_tri hcmp hc51)) rfl <| y_iconst X47 hx (1 : Int32) 69 (hb B d24_68) rfl rfl <| y_istore X47 hx 71 (hb B d24_69) (L' := #[xvr ta, xvr sx, xvr ea, xvr it, xvi (1 : Int32), xvi (1 : Int32), xvr ca, xvi dx]) rfl rfl <| y_goto X47 hx 83 (hb B d24_71) rfl rfl <| y_iload X47 hx 85 (hb B d24_83) rfl rfl <| y_ifYes X47 hx 92 (hb B d24_85) (XT.i0_ne_t (by decide)) rfl rfl <| y_iconst X47 hx (0 : Int32) 93 (hb B d24_92) rfl rfl ?_
   show Sx p e below T47 m 93 #[xvr ta, xvr sx, xvr ea, xvr it, xvi (1 : Int32), xvi (1 : Int32), xvr ca, xvi dx] [xwi (0 : Int32)] _
   exact retN X47 hx (t := .boolean) Bd.returns (by simp) (hb B d24_93) (hr)
  ·show QrmAd3 Z G ta pa kp sl sf pv na kn nv da ba mo sx vx kb cx q1 w1 kq cq s0 wa kw bu wx ea yx mx dy dx kd dv it ii ca kc cv lv h0 n0 _ T47.heap _
   rw [e47]
   exact ⟨o12, (0 : Int32), rfl, N47, (((Keep.refl h0 [sx, pa, na, ta, ca]).trans K11 (allS (oi 0 rfl) (allS (oi 1 rfl) (allS (oi 2 rfl) (allS (oi 3 rfl) all0))))).trans K45 all0), f69, f70, f71, f72, f73, f74, f75, f76, f77, f78, f79, f80, f81, p26, Vs68⟩
def QrmAd4 (Z : State) (G : Gs) (ta pa : Addr) (kp : ClassId) (sl sf : Int32) (pv : List Value) (na : Addr) (kn : ClassId) (nv : List Value) (da ba : Addr) (mo : Int32) (sx vx : Addr) (kb : ClassId) (cx : Int32) (q1 w1 : Addr) (kq : ClassId) (cq s0 : Int32) (wa : Addr) (kw : ClassId) (bu : Int32) (wx : Int64) (ea : Addr) (yx mx : Int32) (dy dx : Int32) (kd : ClassId) (dv : List Value) (it : Addr) (ii : Int32) (h0 : Heap) (n0 : Nat) (v : Option Value) (h : Heap) (L : List Loc) : Prop := ∃ (ix : Int32), ∃ (co : Addr), ∃ (kc : ClassId), v = some (.int (1 : Int32)) ∧ Fr n0 L ∧ Keep h0 h [sx, pa, na, ta, da] ∧ Exa Z h sx sg1 ∧ Fld Z h sx sg1 "coder" "B" ZI ∧ Fld Z h sx sg1 "value" "[B" (.ref vx) ∧ Exa Z h ta sg0 ∧ Fld Z h ta sg0 sg8 sg5 (.ref pa) ∧ Fld Z h ta sg0 "shift" "I" (.int sf) ∧ Fld Z h ta sg0 "numbers" "[I" (.ref na) ∧ Fld Z h ta sg0 "days" "[[I" (.ref da) ∧ Fld Z h ta sg0 "most" "I" (.int mo) ∧ Fld Z h ta sg0 "outOfOrder" sg6 (.ref ba) ∧ Fld Z h ta sg0 "count" "I" (.int (2 : Int32)) ∧ Arv Z h pa kp (.object sg1) sl (List.set pv (ix).toNatClampNeg (.ref sx)) .null ∧ Arv Z h na kn .int sl (List.set nv (ix).toNatClampNeg (.int (1 : Int32))) ZI ∧ IXP cx sf sl s0 ix ∧ h0.size ≤ co ∧ Arv Z h co kc .int mo [MI, (.int dx), MI, MI, MI, MI, MI, MI, MI] ZI ∧ Arv Z h da kd (.array .int) (9 : Int32) (List.set dv ii.toNatClampNeg (.ref co)) .null
theorem rmAd4 (l : Launch) (Z : State) (a0 : Array Value) (hw : HW a0 Z) (G : Gs) (ST : StartF Z G) (ws : List Jvm.Cond) (ta pa : Addr) (kp : ClassId) (sl sf : Int32) (pv : List Value) (na : Addr) (kn : ClassId) (nv : List Value) (da ba : Addr) (mo : Int32) (sx vx : Addr) (kb : ClassId) (cx : Int32) (q1 w1 : Addr) (kq : ClassId) (cq s0 : Int32) (wa : Addr) (kw : ClassId) (bu : Int32) (wx : Int64) (ea : Addr) (yx mx : Int32) (dy dx : Int32) (kd : ClassId) (dv : List Value) (it : Addr) (ii : Int32) (h0 : Heap) (n0 : Nat) (X00 : Old Z n0 h0) (tE : Exa Z h0 ta sg0) (tP : Fld Z h0 ta sg0 sg8 sg5 (.ref pa)) (tS : Fld Z h0 ta sg0 "shift" "I" (.int sf)) (tV : Arv Z h0 pa kp (.object sg1) sl pv .null) (hsl : SLS sl sf) (tN : Fld Z h0 ta sg0 "numbers" "[I" (.ref na)) (nV : Arv Z h0 na kn .int sl nv ZI) (tD : Fld Z h0 ta sg0 "days" "[[I" (.ref da)) (tM : Fld Z h0 ta sg0 "most" "I" (.int mo)) (tB : Fld Z h0 ta sg0 "outOfOrder" sg6 (.ref ba)) (sE : Exa Z h0 sx sg1) (sC : Fld Z h0 sx sg1 "coder" "B" ZI) (sW : Fld Z h0 sx sg1 "value" "[B" (.ref vx)) (sA : Arv Z h0 vx kb .byte (1 : Int32) [(.int cx.toInt8.toInt32)] ZI) (sH : Fld Z h0 sx sg1 "hash" "I" ZI) (sZ : Fld Z h0 sx sg1 "hashIsZero" "Z" ZI) (sg : n0 ≤ sx) (hc : (¬ cx < 0 ∧ ¬ (255 : Int32) < cx)) (qE : Exa Z h0 q1 sg1) (qC : Fld Z h0 q1 sg1 "coder" "B" ZI) (qW : Fld Z h0 q1 sg1 "value" "[B" (.ref w1)) (qA : Arv Z h0 w1 kq .byte (1 : Int32) [(.int cq.toInt8.toInt32)] ZI) (tC : Fld Z h0 ta sg0 "count" "I" (.int (1 : Int32))) (gt : n0 ≤ ta) (gp : n0 ≤ pa) (gn : n0 ≤ na) (hO : Ovr Z kp sg1) (hpl : pv.length = 32) (hnl : nv.length = 32) (nqs : q1 ≠ sx) (hT : T1 pv s0 q1) (he : ¬ cq.toInt8.toInt32 = cx.toInt8.toInt32) (hs0 : (¬ s0 < 0 ∧ s0 < sl)) (bE : Exa Z h0 ba sg2) (bU : Fld Z h0 ba sg2 "wordsInUse" "I" (.int bu)) (bW : Fld Z h0 ba sg2 "words" "[J" (.ref wa)) (bV : Arv Z h0 wa kw .long (1 : Int32) [(.long wx)] (.long (0 : Int64))) (hbw : BW bu wx) (eE : Exa Z h0 ea sg3) (eY : Fld Z h0 ea sg3 "year" "I" (.int yx)) (eM : Fld Z h0 ea sg3 "month" "S" (.int mx)) (eD : Fld Z h0 ea sg3 "day" "S" (.int dy)) (hTD : TD yx mx dy dx) (dV : Arv Z h0 da kd (.array .int) (9 : Int32) dv .null) (iE : Exa Z h0 it sg4) (iF : Fld Z h0 it sg7 "ordinal" "I" (.int ii)) (hii : (¬ ii < 0 ∧ ii < (9 : Int32))) (hdr : DR dx) (hmo : Mo mo) (iO : it < Z.heap.size) (hdn : dv.getD ii.toNatClampNeg .null = .null) (hdl : dv.length = 9) (hOA : OvrA Z kd .int "[I") (gd : n0 ≤ da) :
  MF l Z ws mm39 prog_54_method_2_code 8 (some .boolean) (rk 4 1 9 56) #[(.ref ta), (.ref sx), (.ref ea), (.ref it)] h0 (QrmAd4 Z G ta pa kp sl sf pv na kn nv da ba mo sx vx kb cx q1 w1 kq cq s0 wa kw bu wx ea yx mx dy dx kd dv it ii h0 n0) := by
 refine MetFree.of_bodySF (plainFor_of_name pn_2) hisR ?_
 intro p e s m args below meth c s₁ Bd hml0 hP hK
 obtain ⟨rfl, hZ, hh⟩ := hP
 have hx := Bd.exec
 have B := Bd.bytes
 have hml : c.maxLocals = 8 := hml0
 have hown : s.vm.findClass sg0 = some m.cls := findClass_of_methodNamed Bd.named
 have X0 : Stand p l e (rk 4 1 9 56) s m #[(.ref ta), (.ref sx), (.ref ea), (.ref it)] below meth c s₁ [] 0 0 := Stand.of_body Bd
 have e0 : s₁.heap = h0 := by rw [← hh, Bd.state]; rfl
 have N0 := Fr.nil n0
 have Z0 := own_Z0 X00
 obtain ⟨TG, hTG, pre0⟩ := own_pre p e below s₁ (ef_rmAd0 m ta sx ea it )
 obtain ⟨cq10, q10, q10'⟩ := tE.cell
 obtain ⟨_, _, ⟨T11, L11, k11, n11⟩, -, X11, ⟨Lc11, hQ11, l11, y11, z11⟩, st11⟩ := X0.privateBack hx (y := mm10) hown (mvT hZ (w_178 hw)) (mvT hZ (w_179 hw)) (mvT hZ (own_selp (y := mm10) (w_102 hw) (w_180 hw) (w_179 hw) (by decide))) (Cond.privateMethod_at (mvP hZ (w_180 hw) (args := #[]))) (mvT hZ (w_181 hw)) (by decide) (backOf (W := 0) (rmN1d l Z a0 hw G ST [] ta pa _ sl sf _ na _ _ da ba mo sx vx _ cx q1 w1 _ cq s0 h0 n0 X00 tE tP tS tV hsl tN nV tD tM tB sE sC sW sA sH sZ sg hc qE qC qW qA tC gt gp gn hO hpl hnl nqs hT he hs0) hZ (w_181 hw) (w_103 hw) (by decide) (by decide)) (g := (mkF m 2 #[xvr ta, xvr sx, xvr ea, xvr it, xun, xun, xun, xun] [xwr sx, xwr ta])) rfl (by rw [hml]; rfl) (Steps.refl _) (a := ta) (by rw [e0]; exact q10) q10' (argsL := [(.ref sx)]) (rest := []) (lenOf pd_8 rfl) rfl (Nat.le_of_eq rfl) (hb B d24_2) (fun _ _ => ⟨rfl, e0, (by decide : 0 + 0 ≤ _), (by decide : 0 + 0 ≤ _)⟩)
 dsimp only [Pt.U, Pt.locs, Pt.cells, Pt.slots] at X11 l11 y11 z11 st11 hQ11
 subst l11 y11 z11
 obtain ⟨hp11, e11⟩ : ∃ z, T11.heap = z := ⟨_, rfl⟩
 rw [e11] at hQ11
 obtain ⟨o12, rfl, N11q, K11, p13, p14, p15, p16, p17, p18, p19, p20, p21, p22, p23, p24, p25, p26⟩ := hQ11
 have N11 := Fr.app N0 N11q
 obtain ⟨T27, X27, e27, st27⟩ := getF X11 hx hZ hown (host := "") (Or.inl (w_136 hw)) Via.refl e11 p22 (g := (mkF m 11 #[xvr ta, xvr sx, xvr ea, xvr it, xvi (1 : Int32), xvi (0 : Int32), xun, xun] [xwr ta])) rfl rfl (hb B d24_11)
 have f28 := (bE.keep K11)
 have f29 := (bU.keep K11 (ninS (Exa.ne f28 p13 (by decide)) (ninS (Exa.neArv bE tV (w_115 hw)) (ninS (Exa.neArv bE nV (w_115 hw)) (ninS (Exa.ne f28 p16 (by decide)) nin0)))))
 have f30 := (bW.keep K11 (ninS (Exa.ne f28 p13 (by decide)) (ninS (Exa.neArv bE tV (w_115 hw)) (ninS (Exa.neArv bE nV (w_115 hw)) (ninS (Exa.ne f28 p16 (by decide)) nin0)))))
 have f31 := (bV.keep K11 (ninS (Ne.symm (Exa.neArv sE bV (w_10 hw))) (ninS (own_neV bV tV (by decide)) (ninS (own_neV bV nV (by decide)) (ninS (Ne.symm (Exa.neArv tE bV (w_102 hw))) nin0)))))
 have Ol32 : Old Z n0 hp11 := (X00.keep K11 (allS sg (allS gp (allS gn (allS gt all0)))))
 obtain ⟨cq33, kq33, q33a, q33b, q33c⟩ := isOf hZ e27 f28
 obtain ⟨_, _, ⟨T34, L34, k34, n34⟩, -, X34, ⟨Lc34, hQ34, l34, y34, z34⟩, st34⟩ := X27.virtualBack hx (y := mm29) (z := mm29) hown (mvT hZ (w_206 hw)) (mvT hZ (w_207 hw)) (notFace_of_selects (args := #[]) (mvT hZ (w_209 hw))) (mvT hZ (w_209 hw)) (mvT hZ (w_208 hw)) (by decide) (backOf (W := 0) (rmG1 l Z a0 hw G ST [] ba wa _ bu wx hp11 n0 Ol32 f28 f29 f30 f31 hbw) hZ (w_210 hw) (w_116 hw) (by decide) (by decide)) q33a q33c (g := (mkF m 16 #[xvr ta, xvr sx, xvr ea, xvr it, xvi (1 : Int32), xvi (0 : Int32), xun, xun] [xwi (1 : Int32), xwr ba])) rfl (by rw [hml]; rfl) (Steps.refl _) (argsL := [(.int (1 : Int32))]) (rest := []) (lenOf pd_23 rfl) rfl (Nat.le_of_eq rfl) (hb B d24_16) (fun _ _ => ⟨rfl, e27, (by decide : 0 + 0 ≤ _), (by decide : 0 + 0 ≤ _)⟩)
 dsimp only [Pt.U, Pt.locs, Pt.cells, Pt.slots] at X34 l34 y34 z34 st34 hQ34
 subst l34 y34 z34
 obtain ⟨rfl, N34q, e34⟩ := hQ34
 have N34 := Fr.app N11 N34q
 have f35 := (dV.keep K11 (ninS (Ne.symm (Exa.neArv sE dV (w_10 hw))) (ninS (own_neV dV tV (by decide)) (ninS (own_neV dV nV (by decide)) (ninS (Ne.symm (Exa.neArv tE dV (w_102 hw))) nin0)))))
 have f36 := (iE.keep K11)
 have f37 := (iF.keep K11 (ninS (Old.ne X00 iO sg) (ninS (Old.ne X00 iO gp) (ninS (Old.ne X00 iO gn) (ninS (Old.ne X00 iO gt) nin0)))))
 obtain ⟨cq38, q38, q38'⟩ := p16.cell
 obtain ⟨_, _, ⟨T39, L39, k39, n39⟩, -, X39, ⟨Lc39, hQ39, l39, y39, z39⟩, st39⟩ := X34.privateBack hx (y := mm13) hown (mvT hZ (w_217 hw)) (mvT hZ (w_218 hw)) (mvT hZ (own_selp (y := mm13) (w_102 hw) (w_219 hw) (w_218 hw) (by decide))) (Cond.privateMethod_at (mvP hZ (w_219 hw) (args := #[]))) (mvT hZ (w_220 hw)) (by decide) (backOf (W := 0) (rmCn l Z a0 hw G ST [] ta da _ _ it ii mo hp11 n0 Ol32 p16 p20 p21 f35 f36 f37 hii hdn hdl hOA gd hmo) hZ (w_220 hw) (w_103 hw) (by decide) (by decide)) (g := (mkF m 24 #[xvr ta, xvr sx, xvr ea, xvr it, xvi (1 : Int32), xvi (0 : Int32), xun, xun] [xwr it, xwr ta])) rfl (by rw [hml]; rfl) (Steps.refl _) (a := ta) (by rw [e34]; exact q38) q38' (argsL := [(.ref it)]) (rest := []) (lenOf pd_24 rfl) rfl (Nat.le_of_eq rfl) (hb B d24_24) (fun _ _ => ⟨rfl, e34, (by decide : 0 + 1 ≤ _), (by decide : 0 + 9 ≤ _)⟩)
 dsimp only [Pt.U, Pt.locs, Pt.cells, Pt.slots] at X39 l39 y39 z39 st39 hQ39
 subst l39 y39 z39
 obtain ⟨hp39, e39⟩ : ∃ z, T39.heap = z := ⟨_, rfl⟩
 rw [e39] at hQ39
 obtain ⟨o40, o41, rfl, N39q, K39, p42, p43, p44⟩ := hQ39
 have N39 := Fr.app N34 N39q
 have f45 := ((eE.keep K11).keep K39)
 have f46 := (p16.keep K39)
 have f47 := (p13.keep K39)
 have f48 := ((eY.keep K11 (ninS (Exa.ne f45 f47 (by decide)) (ninS (Exa.neArv eE tV (w_89 hw)) (ninS (Exa.neArv eE nV (w_89 hw)) (ninS (Exa.ne f45 f46 (by decide)) nin0))))).keep K39 (ninS (Exa.neArv eE dV (w_89 hw)) nin0))
 have f49 := ((eM.keep K11 (ninS (Exa.ne f45 f47 (by decide)) (ninS (Exa.neArv eE tV (w_89 hw)) (ninS (Exa.neArv eE nV (w_89 hw)) (ninS (Exa.ne f45 f46 (by decide)) nin0))))).keep K39 (ninS (Exa.neArv eE dV (w_89 hw)) nin0))
 have f50 := ((eD.keep K11 (ninS (Exa.ne f45 f47 (by decide)) (ninS (Exa.neArv eE tV (w_89 hw)) (ninS (Exa.neArv eE nV (w_89 hw)) (ninS (Exa.ne f45 f46 (by decide)) nin0))))).keep K39 (ninS (Exa.neArv eE dV (w_89 hw)) nin0))
 have Ol51 : Old Z n0 hp39 := (Ol32.keep K39 (allS gd all0))
 obtain ⟨cq52, kq52, q52a, q52b, q52c⟩ := isOf hZ e39 f45
 obtain ⟨_, _, ⟨T53, L53, k53, n53⟩, -, X53, ⟨Lc53, hQ53, l53, y53, z53⟩, st53⟩ := X39.virtualBack hx (y := mm19) (z := mm19) hown (mvT hZ (w_236 hw)) (mvT hZ (w_237 hw)) (notFace_of_selects (args := #[]) (mvT hZ (w_239 hw))) (mvT hZ (w_239 hw)) (mvT hZ (w_238 hw)) (by decide) (backOf (W := 0) (rmTE l Z a0 hw G ST [] ea yx mx dy dx hp39 n0 Ol51 f45 f48 f49 f50 hTD) hZ (w_240 hw) (w_39 hw) (by decide) (by decide)) q52a q52c (g := (mkF m 30 #[xvr ta, xvr sx, xvr ea, xvr it, xvi (1 : Int32), xvi (0 : Int32), xvr o40, xun] [xwr ea])) rfl (by rw [hml]; rfl) (Steps.refl _) (argsL := []) (rest := []) (lenOf pd_12 rfl) rfl (Nat.le_of_eq rfl) (hb B d24_30) (fun _ _ => ⟨rfl, e39, (by decide : 1 + 0 ≤ _), (by decide : 9 + 0 ≤ _)⟩)
 dsimp only [Pt.U, Pt.locs, Pt.cells, Pt.slots] at X53 l53 y53 z53 st53 hQ53
 subst l53 y53 z53
 obtain ⟨hp53, e53⟩ : ∃ z, T53.heap = z := ⟨_, rfl⟩
 rw [e53] at hQ53
 obtain ⟨rfl, N53q, K53⟩ := hQ53
 have N53 := Fr.app N39 N53q
 have Ol54 : Old Z n0 hp53 := (Ol51.keep K53 all0)
 obtain ⟨_, _, ⟨T55, L55, k55, n55⟩, -, X55, ⟨Lc55, hQ55, l55, y55, z55⟩, st55⟩ := Jvm.LawKit.callS X53 hx (y := mm20) hown (mvT hZ (w_248 hw)) (mvT hZ (w_249 hw)) (mvT hZ (w_140 hw)) (mvT hZ (w_250 hw)) (by decide) (backOf (W := 0) (rmTI l Z a0 hw G ST [] dx hp53 n0 Ol54 ) hZ (w_250 hw) (w_140 hw) (by decide) (by decide)) (g := (mkF m 33 #[xvr ta, xvr sx, xvr ea, xvr it, xvi (1 : Int32), xvi (0 : Int32), xvr o40, xun] [xwj (dx.toInt64)])) rfl (by rw [hml]; rfl) (argsL := [(.long (dx.toInt64))]) (rest := []) (lenOf pd_25 rfl) rfl (Nat.le_of_eq rfl) (hb B d24_33) (fun _ _ => ⟨rfl, e53, (by decide : 1 + 0 ≤ _), (by decide : 9 + 0 ≤ _)⟩)
 dsimp only [Pt.U, Pt.locs, Pt.cells, Pt.slots] at X55 l55 y55 z55 st55 hQ55
 subst l55 y55 z55
 obtain ⟨rfl, N55q, e55⟩ := hQ55
 have N55 := Fr.app N53 N55q
 have f56 := (p43.keep K53 nin0)
 obtain ⟨cl57, Ar57, q57, S57, M57, H57, G57⟩ := id f56
 have in57 : ¬ ((1 : Int32) < 0 ∨ cl57.slots.size ≤ ((1 : Int32)).toNatClampNeg) := inb_of S57 ⟨by decide, (own_mo1 hmo)⟩
 obtain ⟨cl58, Ar58, q58, S58, M58, H58, G58⟩ := id f56
 have in58 : ¬ ((1 : Int32) < 0 ∨ cl58.slots.size ≤ ((1 : Int32)).toNatClampNeg) := inb_of S58 ⟨by decide, (own_mo1 hmo)⟩
 obtain ⟨T59, h59, X59, e59, W59, st59⟩ := stI X55 hx hZ e55 Ar58 (j := (1 : Int32)) in58 (g := (mkF m 54 #[xvr ta, xvr sx, xvr ea, xvr it, xvi (1 : Int32), xvi (0 : Int32), xvr o40, xvi dx] [xwi dx, xwi (1 : Int32), xwr o40])) rfl rfl (hb B d24_54)
 have V59 : Arv Z h59 o40 o41 .int mo [MI, (.int dx), MI, MI, MI, MI, MI, MI, MI] ZI := Arv.set Ar58 q58 S58 M58 H58 G58 rfl W59 1 rfl (Nat.le_of_ble_eq_true rfl)
 have N59 := Fr.snoc X59 N55 (ntr Z0 (ntr K11.1 p42))
 have f60 := ((f47.keep K53).wr W59)
 have f61 := (((p14.keep K39 (ninS (Exa.neArv sE dV (w_10 hw)) nin0)).keep K53 nin0).other W59 (Or.inl (onb sE.lt K11.1 p42)))
 have f62 := (((p15.keep K39 (ninS (Exa.neArv sE dV (w_10 hw)) nin0)).keep K53 nin0).other W59 (Or.inl (onb sE.lt K11.1 p42)))
 have f63 := ((f46.keep K53).wr W59)
 have f64 := (((p17.keep K39 (ninS (Exa.neArv tE dV (w_102 hw)) nin0)).keep K53 nin0).other W59 (Or.inl (onb tE.lt K11.1 p42)))
 have f65 := (((p18.keep K39 (ninS (Exa.neArv tE dV (w_102 hw)) nin0)).keep K53 nin0).other W59 (Or.inl (onb tE.lt K11.1 p42)))
 have f66 := (((p19.keep K39 (ninS (Exa.neArv tE dV (w_102 hw)) nin0)).keep K53 nin0).other W59 (Or.inl (onb tE.lt K11.1 p42)))
 have f67 := (((p20.keep K39 (ninS (Exa.neArv tE dV (w_102 hw)) nin0)).keep K53 nin0).other W59 (Or.inl (onb tE.lt K11.1 p42)))
 have f68 := (((p21.keep K39 (ninS (Exa.neArv tE dV (w_102 hw)) nin0)).keep K53 nin0).other W59 (Or.inl (onb tE.lt K11.1 p42)))
 have f69 := (((p22.keep K39 (ninS (Exa.neArv tE dV (w_102 hw)) nin0)).keep K53 nin0).other W59 (Or.inl (onb tE.lt K11.1 p42)))
 have f70 := (((p23.keep K39 (ninS (Exa.neArv tE dV (w_102 hw)) nin0)).keep K53 nin0).other W59 (Or.inl (onb tE.lt K11.1 p42)))
 have f71 := (((p24.keep K39 (ninS (own_neV tV dV (by decide)) nin0)).keep K53 nin0).other W59 (onb tV.lt K11.1 p42))
 have f72 := (((p25.keep K39 (ninS (own_neV nV dV (by decide)) nin0)).keep K53 nin0).other W59 (onb nV.lt K11.1 p42))
 have f73 := ((p44.keep K53 nin0).other W59 (onb dV.lt K11.1 p42))
 obtain ⟨fs, hr, hrun, hended, hW, hsame⟩ := X59.leave (v := some (.int (1 : Int32))) (own_rv Bd.returns)
 refine ⟨_, _, hTG _ (pre0 _ ?_), hrun, hended, _, _, rfl, ?_, ⟨_, rfl⟩, hW, hsame.mono (by decide) (by decide)⟩
 ·refine y_aloadN X0 hx 1 (hb B d24_0) rfl rfl rfl <| y_aloadN X0 hx 2 (hb B d24_1) rfl rfl rfl ?_
  refine st11.trans ?_
  refine y_istore X11 hx 7 (hb B d24_5) (L' := #[xvr ta, xvr sx, xvr ea, xvr it, xvi (1 : Int32), xun, xun, xun]) rfl rfl <| y_iconst X11 hx (0 : Int32) 8 (hb B d24_7) rfl rfl <| y_istore X11 hx 10 (hb B d24_8) (L' := #[xvr ta, xvr sx, xvr ea, xvr it, xvi (1 : Int32), xvi (0 : Int32), xun, xun]) rfl rfl <| y_aloadN X11 hx 11 (hb B d24_10) rfl rfl rfl ?_
  refine st27 _ ?_
  refine y_iload X27 hx 16 (hb B d24_14) rfl rfl ?_
  refine st34.trans ?_
  refine y_ifNo X34 hx 22 (hb B d24_19) (XT.i0_ne_f (by decide)) rfl <| y_aloadN X34 hx 23 (hb B d24_22) rfl rfl rfl <| y_aloadN X34 hx 24 (hb B d24_23) rfl rfl rfl ?_
  refine st39.trans ?_
  refine y_astore X39 hx 29 (hb B d24_27) (L' := #[xvr ta, xvr sx, xvr ea, xvr it, xvi (1 : Int32), xvi (0 : Int32), xvr o40, xun]) rfl rfl rfl <| y_aloadN X39 hx 30 (hb B d24_29) rfl rfl rfl ?_
  refine st53.trans ?_
  refine st55 _ ?_
  refine y_istore X55 hx 38 (hb B d24_36) (L' := #[xvr ta, xvr sx, xvr ea, xvr it, xvi (1 : Int32), xvi (0 : Int32), xvr o40, xvi dx]) rfl rfl <| y_iload X55 hx 40 (hb B d24_38) rfl rfl <| y_aload X55 hx 42 (hb B d24_40) rfl rfl rfl <| y_iload X55 hx 44 (hb B d24_42) rfl rfl ?_
  refine X55.iaload hx (j := (1 : Int32)) (v := (.int (-2147483648 : Int32))) (by rw [e55]; exact Ar57.1) (State.isArrayOf_alike hZ.alike Ar57.2.1) Ar57.2.2 in57 (Has.at H57 in57 rfl) (g := (mkF m 44 #[xvr ta, xvr sx, xvr ea, xvr it, xvi (1 : Int32), xvi (0 : Int32), xvr o40, xvi dx] [xwi (1 : Int32), xwr o40, xwi dx])) rfl rfl (hb B d24_44) _ ?_
  refine y_icmpNo X55 hx 48 (hb B d24_45) (XT.ii_le_f (own_min hdr)) rfl <| y_aload X55 hx 50 (hb B d24_48) rfl rfl rfl <| y_iload X55 hx 52 (hb B d24_50) rfl rfl <| y_iload X55 hx 54 (hb B d24_52) rfl rfl ?_
  refine st59 _ ?_
  refine y_goto X59 hx 83 (hb B d24_55) rfl rfl <| y_iload X59 hx 85 (hb B d24_83) rfl rfl <| y_ifNo X59 hx 88 (hb B d24_85) (XT.i0_ne_f (by decide)) rfl <| y_iconst X59 hx (1 : Int32) 89 (hb B d24_88) rfl rfl <| y_goto X59 hx 93 (hb B d24_89) rfl rfl ?_
  show Sx p e below T59 m 93 #[xvr ta, xvr sx, xvr ea, xvr it, xvi (1 : Int32), xvi (0 : Int32), xvr o40, xvi dx] [xwi (1 : Int32)] _
  exact retN X59 hx (t := .boolean) Bd.returns (by simp) (hb B d24_93) (hr)
 ·show QrmAd4 Z G ta pa kp sl sf pv na kn nv da ba mo sx vx kb cx q1 w1 kq cq s0 wa kw bu wx ea yx mx dy dx kd dv it ii h0 n0 _ T59.heap _
  rw [e59]
  exact ⟨o12, o40, o41, rfl, N59, (((((Keep.refl h0 [sx, pa, na, ta, da]).trans K11 (allS (oi 0 rfl) (allS (oi 1 rfl) (allS (oi 2 rfl) (allS (oi 3 rfl) all0))))).trans K39 (allS (oi 4 rfl) all0)).trans K53 all0).wr W59 (Or.inr (ntr K11.1 p42))), f60, f61, f62, f63, f64, f65, f66, f67, f68, f69, f70, f71, f72, p26, (ntr K11.1 p42), V59, f73⟩
def d30_63 : DC kc30 63 (.iconst 1) 1 := by decide +kernel
def d30_64 : DC kc30 64 (.goto 4) 3 := by decide +kernel
def QrmA15 (Z : State) (G : Gs) (xa1 xa2 : Addr) (xk_xa2 : ClassId) (h0 : Heap) (n0 : Nat) (v : Option Value) (h : Heap) (L : List Loc) : Prop := v = some (.int (1 : Int32)) ∧ Fr n0 L ∧ h = h0
theorem rmA15 (l : Launch) (Z : State) (a0 : Array Value) (hw : HW a0 Z) (G : Gs) (ST : StartF Z G) (ws : List Jvm.Cond) (xa1 xa2 : Addr) (xk_xa2 : ClassId) (h0 : Heap) (n0 : Nat) (X00 : Old Z n0 h0) (xE_xa1 : Exa Z h0 xa1 sg2) (xF_xa1_words : Fld Z h0 xa1 sg2 "words" "[J" (.ref xa2)) (xF_xa1_wordsInUse : Fld Z h0 xa1 sg2 "wordsInUse" "I" (.int (1 : Int32))) (xV_xa2 : Arv Z h0 xa2 xk_xa2 .long (1 : Int32) [(.long (1 : Int64))] (.long (0 : Int64))) :
  MF l Z ws mm29 jdk_92_method_26_code 3 (some .boolean) (rk 1 0 0 12) #[(.ref xa1), ZI] h0 (QrmA15 Z G xa1 xa2 xk_xa2 h0 n0) := by
 refine MetFree.of_bodySF (plainFor_of_name pn_9) hisR ?_
 intro p e s m args below meth c s₁ Bd hml0 hP hK
 obtain ⟨rfl, hZ, hh⟩ := hP
 have hx := Bd.exec
 have B := Bd.bytes
 have hml : c.maxLocals = 3 := hml0
 have hown : s.vm.findClass sg2 = some m.cls := findClass_of_methodNamed Bd.named
 have X0 : Stand p l e (rk 1 0 0 12) s m #[(.ref xa1), ZI] below meth c s₁ [] 0 0 := Stand.of_body Bd
 have e0 : s₁.heap = h0 := by rw [← hh, Bd.state]; rfl
 have N0 := Fr.nil n0
 obtain ⟨TG, hTG, pre0⟩ := own_pre p e below s₁ (ef_rmG1 m xa1 (0 : Int32) )
 obtain ⟨cq10, q10, q10'⟩ := xE_xa1.cell
 obtain ⟨_, _, ⟨T11, L11, k11, n11⟩, -, X11, ⟨Lc11, hQ11, l11, y11, z11⟩, st11⟩ := X0.privateBack hx (y := mm27) hown (mvT hZ (w_211 hw)) (mvT hZ (w_212 hw)) (mvT hZ (w_214 hw)) (Cond.privateMethod_at (mvP hZ (w_213 hw) (args := #[]))) (mvT hZ (w_215 hw)) (by decide) (backOf (W := 0) (rmA5 l Z a0 hw G ST [] xa1 h0 n0 X00 ) hZ (w_215 hw) (w_116 hw) (by decide) (by decide)) (g := (mkF m 32 #[xvr xa1, xvi (0 : Int32), xun] [xwr xa1])) rfl (by rw [hml]; rfl) (Steps.refl _) (a := xa1) (by rw [e0]; exact q10) q10' (argsL := []) (rest := []) (lenOf pd_16 rfl) rfl (Nat.le_of_eq rfl) (hb B d30_32) (fun _ _ => ⟨rfl, e0, (by decide : 0 + 0 ≤ _), (by decide : 0 + 0 ≤ _)⟩)
 dsimp only [Pt.U, Pt.locs, Pt.cells, Pt.slots] at X11 l11 y11 z11 st11 hQ11
 subst l11 y11 z11
 obtain ⟨rfl, N11q, e11⟩ := hQ11
 have N11 := Fr.app N0 N11q
 obtain ⟨_, _, ⟨T12, L12, k12, n12⟩, -, X12, ⟨Lc12, hQ12, l12, y12, z12⟩, st12⟩ := Jvm.LawKit.callS X11 hx (y := mm28) hown (mvT hZ (w_130 hw)) (mvT hZ (w_131 hw)) (mvT hZ (w_116 hw)) (mvT hZ (w_132 hw)) (by decide) (backOf (W := 0) (rmA11 l Z a0 hw G ST []  h0 n0 X00 ) hZ (w_132 hw) (w_116 hw) (by decide) (by decide)) (g := (mkF m 36 #[xvr xa1, xvi (0 : Int32), xun] [xwi (0 : Int32)])) rfl (by rw [hml]; rfl) (argsL := [ZI]) (rest := []) (lenOf pd_17 rfl) rfl (Nat.le_of_eq rfl) (hb B d30_36) (fun _ _ => ⟨rfl, e11, (by decide : 0 + 0 ≤ _), (by decide : 0 + 0 ≤ _)⟩)
 dsimp only [Pt.U, Pt.locs, Pt.cells, Pt.slots] at X12 l12 y12 z12 st12 hQ12
 subst l12 y12 z12
 obtain ⟨rfl, N12q, e12⟩ := hQ12
 have N12 := Fr.app N11 N12q
 obtain ⟨T13, X13, e13, st13⟩ := getF X12 hx hZ hown (host := "") (Or.inl (w_121 hw)) Via.refl e12 xF_xa1_wordsInUse (g := (mkF m 42 #[xvr xa1, xvi (0 : Int32), xvi (0 : Int32)] [xwr xa1, xwi (0 : Int32)])) rfl rfl (hb B d30_42)
 obtain ⟨T14, X14, e14, st14⟩ := getF X13 hx hZ hown (host := "") (Or.inl (w_134 hw)) Via.refl e13 xF_xa1_words (g := (mkF m 49 #[xvr xa1, xvi (0 : Int32), xvi (0 : Int32)] [xwr xa1])) rfl rfl (hb B d30_49)
 obtain ⟨cl15, Ar15, q15, S15, M15, H15, G15⟩ := id xV_xa2
 have in15 : ¬ ((0 : Int32) < 0 ∨ cl15.slots.size ≤ ((0 : Int32)).toNatClampNeg) := inb_of S15 ⟨by decide, by decide⟩
 obtain ⟨fs, hr, hrun, hended, hW, hsame⟩ := X14.leave (v := some (.int (1 : Int32))) (own_rv Bd.returns)
 refine ⟨_, _, hTG _ (pre0 _ ?_), hrun, hended, _, _, rfl, ?_, ⟨_, rfl⟩, hW, hsame.mono (by decide) (by decide)⟩
 ·refine y_iloadN X0 hx 1 (hb B d30_0) rfl rfl <| y_ifYes X0 hx 31 (hb B d30_1) (XT.i0_ge_t (by decide)) rfl rfl <| y_aloadN X0 hx 32 (hb B d30_31) rfl rfl rfl ?_
  refine st11.trans ?_
  refine y_iloadN X11 hx 36 (hb B d30_35) rfl rfl ?_
  refine st12 _ ?_
  refine y_istoreN X12 hx 40 (hb B d30_39) (L' := #[xvr xa1, xvi (0 : Int32), xvi (0 : Int32)]) rfl rfl <| y_iloadN X12 hx 41 (hb B d30_40) rfl rfl <| y_aloadN X12 hx 42 (hb B d30_41) rfl rfl rfl ?_
  refine st13 _ ?_
  refine y_icmpNo X13 hx 48 (hb B d30_45) (XT.ii_ge_f (by decide)) rfl <| y_aloadN X13 hx 49 (hb B d30_48) rfl rfl rfl ?_
  refine st14 _ ?_
  refine y_iloadN X14 hx 53 (hb B d30_52) rfl rfl ?_
  refine X14.laload hx (j := (0 : Int32)) (v := (.long (1 : Int64))) (by rw [e14]; exact Ar15.1) (State.isArrayOf_alike hZ.alike Ar15.2.1) Ar15.2.2 in15 (Has.at H15 in15 rfl) (g := (mkF m 53 #[xvr xa1, xvi (0 : Int32), xvi (0 : Int32)] [xwi (0 : Int32), xwr xa2])) rfl rfl (hb B d30_53) _ ?_
  refine XS.lconst X14.here hx rfl (hb B d30_54) ?_
  refine y_iloadN X14 hx 56 (hb B d30_55) rfl rfl ?_
  show Sx p e below T14 m 56 #[xvr xa1, xvi (0 : Int32), xvi (0 : Int32)] [xwi (0 : Int32), xwj (1 : Int64), xwj (1 : Int64)] _
  refine XS.lshl X14.here hx rfl (hb B d30_56) rfl ?_
  rw [show ((1 : Int64) <<< ((0 : Int32) &&& 0x3f).toInt64) = (1 : Int64) from by decide]
  refine y_land X14 hx 58 (hb B d30_57) rfl ?_
  rw [show ((1 : Int64) &&& (1 : Int64)) = (1 : Int64) from by decide]
  refine XS.lconst X14.here hx rfl (hb B d30_58) ?_
  refine y_lcmp X14 hx 60 (hb B d30_59) rfl <| y_ifNo X14 hx 63 (hb B d30_60) (XT.ll_eq_f (by decide)) rfl <| y_iconst X14 hx (1 : Int32) 64 (hb B d30_63) rfl rfl <| y_goto X14 hx 68 (hb B d30_64) rfl rfl ?_
  show Sx p e below T14 m 68 #[xvr xa1, xvi (0 : Int32), xvi (0 : Int32)] [xwi (1 : Int32)] _
  exact retN X14 hx (t := .boolean) Bd.returns (by simp) (hb B d30_68) (hr)
 ·show QrmA15 Z G xa1 xa2 xk_xa2 h0 n0 _ T14.heap _
  rw [e14]
  exact ⟨rfl, N12, rfl⟩
def QrmAd5 (Z : State) (G : Gs) (ta pa : Addr) (kp : ClassId) (sl sf : Int32) (pv : List Value) (na : Addr) (kn : ClassId) (nv : List Value) (sx vx : Addr) (kb : ClassId) (cx : Int32) (q1 w1 : Addr) (kq : ClassId) (cq : Int32) (da ba : Addr) (mo : Int32) (wa : Addr) (kw : ClassId) (ea it : Addr) (h0 : Heap) (n0 : Nat) (v : Option Value) (h : Heap) (L : List Loc) : Prop := v = some (.int (1 : Int32)) ∧ Fr n0 L ∧ Keep h0 h [sx] ∧ Exa Z h sx sg1 ∧ Fld Z h sx sg1 "coder" "B" ZI ∧ Fld Z h sx sg1 "value" "[B" (.ref vx)
theorem rmAd5 (l : Launch) (Z : State) (a0 : Array Value) (hw : HW a0 Z) (G : Gs) (ST : StartF Z G) (ws : List Jvm.Cond) (ta pa : Addr) (kp : ClassId) (sl sf : Int32) (pv : List Value) (na : Addr) (kn : ClassId) (nv : List Value) (sx vx : Addr) (kb : ClassId) (cx : Int32) (q1 w1 : Addr) (kq : ClassId) (cq : Int32) (da ba : Addr) (mo : Int32) (wa : Addr) (kw : ClassId) (ea it : Addr) (h0 : Heap) (n0 : Nat) (X00 : Old Z n0 h0) (tE : Exa Z h0 ta sg0) (tP : Fld Z h0 ta sg0 sg8 sg5 (.ref pa)) (tS : Fld Z h0 ta sg0 "shift" "I" (.int sf)) (tV : Arv Z h0 pa kp (.object sg1) sl pv .null) (hsl : SLS sl sf) (tN : Fld Z h0 ta sg0 "numbers" "[I" (.ref na)) (nV : Arv Z h0 na kn .int sl nv ZI) (sE : Exa Z h0 sx sg1) (sC : Fld Z h0 sx sg1 "coder" "B" ZI) (sW : Fld Z h0 sx sg1 "value" "[B" (.ref vx)) (sA : Arv Z h0 vx kb .byte (1 : Int32) [(.int cx.toInt8.toInt32)] ZI) (sH : Fld Z h0 sx sg1 "hash" "I" ZI) (sZ : Fld Z h0 sx sg1 "hashIsZero" "Z" ZI) (sg : n0 ≤ sx) (hc : (¬ cx < 0 ∧ ¬ (255 : Int32) < cx)) (qE : Exa Z h0 q1 sg1) (qC : Fld Z h0 q1 sg1 "coder" "B" ZI) (qW : Fld Z h0 q1 sg1 "value" "[B" (.ref w1)) (qA : Arv Z h0 w1 kq .byte (1 : Int32) [(.int cq.toInt8.toInt32)] ZI) (nqs : q1 ≠ sx) (hu0 : pv.getD (hs cx sf).toNatClampNeg .null = .ref q1) (he : cq.toInt8.toInt32 = cx.toInt8.toInt32) (hg : nv.getD (hs cx sf).toNatClampNeg ZI = .int (0 : Int32)) (tD : Fld Z h0 ta sg0 "days" "[[I" (.ref da)) (tM : Fld Z h0 ta sg0 "most" "I" (.int mo)) (tB : Fld Z h0 ta sg0 "outOfOrder" sg6 (.ref ba)) (bE : Exa Z h0 ba sg2) (bU : Fld Z h0 ba sg2 "wordsInUse" "I" (.int (1 : Int32))) (bW : Fld Z h0 ba sg2 "words" "[J" (.ref wa)) (bV : Arv Z h0 wa kw .long (1 : Int32) [(.long (1 : Int64))] (.long (0 : Int64))) :
  MF l Z ws mm39 prog_54_method_2_code 8 (some .boolean) (rk 4 0 0 56) #[(.ref ta), (.ref sx), (.ref ea), (.ref it)] h0 (QrmAd5 Z G ta pa kp sl sf pv na kn nv sx vx kb cx q1 w1 kq cq da ba mo wa kw ea it h0 n0) := by
 refine MetFree.of_bodySF (plainFor_of_name pn_2) hisR ?_
 intro p e s m args below meth c s₁ Bd hml0 hP hK
 obtain ⟨rfl, hZ, hh⟩ := hP
 have hx := Bd.exec
 have B := Bd.bytes
 have hml : c.maxLocals = 8 := hml0
 have hown : s.vm.findClass sg0 = some m.cls := findClass_of_methodNamed Bd.named
 have X0 : Stand p l e (rk 4 0 0 56) s m #[(.ref ta), (.ref sx), (.ref ea), (.ref it)] below meth c s₁ [] 0 0 := Stand.of_body Bd
 have e0 : s₁.heap = h0 := by rw [← hh, Bd.state]; rfl
 have N0 := Fr.nil n0
 obtain ⟨TG, hTG, pre0⟩ := own_pre p e below s₁ (ef_rmAd0 m ta sx ea it )
 obtain ⟨cq10, q10, q10'⟩ := tE.cell
 obtain ⟨_, _, ⟨T11, L11, k11, n11⟩, -, X11, ⟨Lc11, hQ11, l11, y11, z11⟩, st11⟩ := X0.privateBack hx (y := mm10) hown (mvT hZ (w_178 hw)) (mvT hZ (w_179 hw)) (mvT hZ (own_selp (y := mm10) (w_102 hw) (w_180 hw) (w_179 hw) (by decide))) (Cond.privateMethod_at (mvP hZ (w_180 hw) (args := #[]))) (mvT hZ (w_181 hw)) (by decide) (backOf (W := 0) (rmNH l Z a0 hw G ST [] ta pa _ sl sf _ na _ _ sx vx _ cx q1 w1 _ cq (0 : Int32) h0 n0 X00 tE tP tS tV hsl tN nV sE sC sW sA sH sZ sg hc qE qC qW qA nqs hu0 he hg) hZ (w_181 hw) (w_103 hw) (by decide) (by decide)) (g := (mkF m 2 #[xvr ta, xvr sx, xvr ea, xvr it, xun, xun, xun, xun] [xwr sx, xwr ta])) rfl (by rw [hml]; rfl) (Steps.refl _) (a := ta) (by rw [e0]; exact q10) q10' (argsL := [(.ref sx)]) (rest := []) (lenOf pd_8 rfl) rfl (Nat.le_of_eq rfl) (hb B d24_2) (fun _ _ => ⟨rfl, e0, (by decide : 0 + 0 ≤ _), (by decide : 0 + 0 ≤ _)⟩)
 dsimp only [Pt.U, Pt.locs, Pt.cells, Pt.slots] at X11 l11 y11 z11 st11 hQ11
 subst l11 y11 z11
 obtain ⟨hp11, e11⟩ : ∃ z, T11.heap = z := ⟨_, rfl⟩
 rw [e11] at hQ11
 obtain ⟨rfl, N11q, K11, p12, p13, p14⟩ := hQ11
 have N11 := Fr.app N0 N11q
 have f15 := (tE.keep K11)
 have f16 := (tB.keep K11 (ninS (Exa.ne f15 p12 (by decide)) nin0))
 obtain ⟨T17, X17, e17, st17⟩ := getF X11 hx hZ hown (host := "") (Or.inl (w_136 hw)) Via.refl e11 f16 (g := (mkF m 11 #[xvr ta, xvr sx, xvr ea, xvr it, xvi (0 : Int32), xvi (0 : Int32), xun, xun] [xwr ta])) rfl rfl (hb B d24_11)
 have f18 := (bE.keep K11)
 have f19 := (bW.keep K11 (ninS (Exa.ne f18 p12 (by decide)) nin0))
 have f20 := (bU.keep K11 (ninS (Exa.ne f18 p12 (by decide)) nin0))
 have f21 := (bV.keep K11 (ninS (Ne.symm (Exa.neArv sE bV (w_10 hw))) nin0))
 have Ol22 : Old Z n0 hp11 := (X00.keep K11 (allS sg all0))
 obtain ⟨cq23, kq23, q23a, q23b, q23c⟩ := isOf hZ e17 f18
 obtain ⟨_, _, ⟨T24, L24, k24, n24⟩, -, X24, ⟨Lc24, hQ24, l24, y24, z24⟩, st24⟩ := X17.virtualBack hx (y := mm29) (z := mm29) hown (mvT hZ (w_206 hw)) (mvT hZ (w_207 hw)) (notFace_of_selects (args := #[]) (mvT hZ (w_209 hw))) (mvT hZ (w_209 hw)) (mvT hZ (w_208 hw)) (by decide) (backOf (W := 0) (rmA15 l Z a0 hw G ST [] ba wa _ hp11 n0 Ol22 f18 f19 f20 f21) hZ (w_210 hw) (w_116 hw) (by decide) (by decide)) q23a q23c (g := (mkF m 16 #[xvr ta, xvr sx, xvr ea, xvr it, xvi (0 : Int32), xvi (0 : Int32), xun, xun] [xwi (0 : Int32), xwr ba])) rfl (by rw [hml]; rfl) (Steps.refl _) (argsL := [ZI]) (rest := []) (lenOf pd_23 rfl) rfl (Nat.le_of_eq rfl) (hb B d24_16) (fun _ _ => ⟨rfl, e17, (by decide : 0 + 0 ≤ _), (by decide : 0 + 0 ≤ _)⟩)
 dsimp only [Pt.U, Pt.locs, Pt.cells, Pt.slots] at X24 l24 y24 z24 st24 hQ24
 subst l24 y24 z24
 obtain ⟨rfl, N24q, e24⟩ := hQ24
 have N24 := Fr.app N11 N24q
 obtain ⟨fs, hr, hrun, hended, hW, hsame⟩ := X24.leave (v := some (.int (1 : Int32))) (own_rv Bd.returns)
 refine ⟨_, _, hTG _ (pre0 _ ?_), hrun, hended, _, _, rfl, ?_, ⟨_, rfl⟩, hW, hsame.mono (by decide) (by decide)⟩
 ·refine y_aloadN X0 hx 1 (hb B d24_0) rfl rfl rfl <| y_aloadN X0 hx 2 (hb B d24_1) rfl rfl rfl ?_
  refine st11.trans ?_
  refine y_istore X11 hx 7 (hb B d24_5) (L' := #[xvr ta, xvr sx, xvr ea, xvr it, xvi (0 : Int32), xun, xun, xun]) rfl rfl <| y_iconst X11 hx (0 : Int32) 8 (hb B d24_7) rfl rfl <| y_istore X11 hx 10 (hb B d24_8) (L' := #[xvr ta, xvr sx, xvr ea, xvr it, xvi (0 : Int32), xvi (0 : Int32), xun, xun]) rfl rfl <| y_aloadN X11 hx 11 (hb B d24_10) rfl rfl rfl ?_
  refine st17 _ ?_
  refine y_iload X17 hx 16 (hb B d24_14) rfl rfl ?_
  refine st24.trans ?_
  refine y_ifYes X24 hx 83 (hb B d24_19) (XT.i0_ne_t (by decide)) rfl rfl <| y_iload X24 hx 85 (hb B d24_83) rfl rfl <| y_ifNo X24 hx 88 (hb B d24_85) (XT.i0_ne_f (by decide)) rfl <| y_iconst X24 hx (1 : Int32) 89 (hb B d24_88) rfl rfl <| y_goto X24 hx 93 (hb B d24_89) rfl rfl ?_
  show Sx p e below T24 m 93 #[xvr ta, xvr sx, xvr ea, xvr it, xvi (0 : Int32), xvi (0 : Int32), xun, xun] [xwi (1 : Int32)] _
  exact retN X24 hx (t := .boolean) Bd.returns (by simp) (hb B d24_93) (hr)
 ·show QrmAd5 Z G ta pa kp sl sf pv na kn nv sx vx kb cx q1 w1 kq cq da ba mo wa kw ea it h0 n0 _ T24.heap _
  rw [e24]
  exact ⟨rfl, N24, ((Keep.refl h0 [sx]).trans K11 (allS (oi 0 rfl) all0)), p12, p13, p14⟩
def QrmA16 (Z : State) (G : Gs) (xa1 : Addr) (h0 : Heap) (n0 : Nat) (v : Option Value) (h : Heap) (L : List Loc) : Prop := v = some ZI ∧ Fr n0 L ∧ h = h0
theorem rmA16 (l : Launch) (Z : State) (a0 : Array Value) (hw : HW a0 Z) (G : Gs) (ST : StartF Z G) (ws : List Jvm.Cond) (xa1 : Addr) (h0 : Heap) (n0 : Nat) (X00 : Old Z n0 h0) (xE_xa1 : Exa Z h0 xa1 sg2) (xF_xa1_wordsInUse : Fld Z h0 xa1 sg2 "wordsInUse" "I" ZI) :
  MF l Z ws mm29 jdk_92_method_26_code 3 (some .boolean) (rk 1 0 0 12) #[(.ref xa1), (.int (1 : Int32))] h0 (QrmA16 Z G xa1 h0 n0) := by
 refine MetFree.of_bodySF (plainFor_of_name pn_9) hisR ?_
 intro p e s m args below meth c s₁ Bd hml0 hP hK
 obtain ⟨rfl, hZ, hh⟩ := hP
 have hx := Bd.exec
 have B := Bd.bytes
 have hml : c.maxLocals = 3 := hml0
 have hown : s.vm.findClass sg2 = some m.cls := findClass_of_methodNamed Bd.named
 have X0 : Stand p l e (rk 1 0 0 12) s m #[(.ref xa1), (.int (1 : Int32))] below meth c s₁ [] 0 0 := Stand.of_body Bd
 have e0 : s₁.heap = h0 := by rw [← hh, Bd.state]; rfl
 have N0 := Fr.nil n0
 obtain ⟨TG, hTG, pre0⟩ := own_pre p e below s₁ (ef_rmG1 m xa1 (1 : Int32) )
 obtain ⟨cq10, q10, q10'⟩ := xE_xa1.cell
 obtain ⟨_, _, ⟨T11, L11, k11, n11⟩, -, X11, ⟨Lc11, hQ11, l11, y11, z11⟩, st11⟩ := X0.privateBack hx (y := mm27) hown (mvT hZ (w_211 hw)) (mvT hZ (w_212 hw)) (mvT hZ (w_214 hw)) (Cond.privateMethod_at (mvP hZ (w_213 hw) (args := #[]))) (mvT hZ (w_215 hw)) (by decide) (backOf (W := 0) (rmA5 l Z a0 hw G ST [] xa1 h0 n0 X00 ) hZ (w_215 hw) (w_116 hw) (by decide) (by decide)) (g := (mkF m 32 #[xvr xa1, xvi (1 : Int32), xun] [xwr xa1])) rfl (by rw [hml]; rfl) (Steps.refl _) (a := xa1) (by rw [e0]; exact q10) q10' (argsL := []) (rest := []) (lenOf pd_16 rfl) rfl (Nat.le_of_eq rfl) (hb B d30_32) (fun _ _ => ⟨rfl, e0, (by decide : 0 + 0 ≤ _), (by decide : 0 + 0 ≤ _)⟩)
 dsimp only [Pt.U, Pt.locs, Pt.cells, Pt.slots] at X11 l11 y11 z11 st11 hQ11
 subst l11 y11 z11
 obtain ⟨rfl, N11q, e11⟩ := hQ11
 have N11 := Fr.app N0 N11q
 obtain ⟨_, _, ⟨T12, L12, k12, n12⟩, -, X12, ⟨Lc12, hQ12, l12, y12, z12⟩, st12⟩ := Jvm.LawKit.callS X11 hx (y := mm28) hown (mvT hZ (w_130 hw)) (mvT hZ (w_131 hw)) (mvT hZ (w_116 hw)) (mvT hZ (w_132 hw)) (by decide) (backOf (W := 0) (rmA6 l Z a0 hw G ST []  h0 n0 X00 ) hZ (w_132 hw) (w_116 hw) (by decide) (by decide)) (g := (mkF m 36 #[xvr xa1, xvi (1 : Int32), xun] [xwi (1 : Int32)])) rfl (by rw [hml]; rfl) (argsL := [(.int (1 : Int32))]) (rest := []) (lenOf pd_17 rfl) rfl (Nat.le_of_eq rfl) (hb B d30_36) (fun _ _ => ⟨rfl, e11, (by decide : 0 + 0 ≤ _), (by decide : 0 + 0 ≤ _)⟩)
 dsimp only [Pt.U, Pt.locs, Pt.cells, Pt.slots] at X12 l12 y12 z12 st12 hQ12
 subst l12 y12 z12
 obtain ⟨rfl, N12q, e12⟩ := hQ12
 have N12 := Fr.app N11 N12q
 obtain ⟨T13, X13, e13, st13⟩ := getF X12 hx hZ hown (host := "") (Or.inl (w_121 hw)) Via.refl e12 xF_xa1_wordsInUse (g := (mkF m 42 #[xvr xa1, xvi (1 : Int32), xvi (0 : Int32)] [xwr xa1, xwi (0 : Int32)])) rfl rfl (hb B d30_42)
 obtain ⟨fs, hr, hrun, hended, hW, hsame⟩ := X13.leave (v := some ZI) (own_rv Bd.returns)
 refine ⟨_, _, hTG _ (pre0 _ ?_), hrun, hended, _, _, rfl, ?_, ⟨_, rfl⟩, hW, hsame.mono (by decide) (by decide)⟩
 ·refine y_iloadN X0 hx 1 (hb B d30_0) rfl rfl <| y_ifYes X0 hx 31 (hb B d30_1) (XT.i0_ge_t (by decide)) rfl rfl <| y_aloadN X0 hx 32 (hb B d30_31) rfl rfl rfl ?_
  refine st11.trans ?_
  refine y_iloadN X11 hx 36 (hb B d30_35) rfl rfl ?_
  refine st12 _ ?_
  refine y_istoreN X12 hx 40 (hb B d30_39) (L' := #[xvr xa1, xvi (1 : Int32), xvi (0 : Int32)]) rfl rfl <| y_iloadN X12 hx 41 (hb B d30_40) rfl rfl <| y_aloadN X12 hx 42 (hb B d30_41) rfl rfl rfl ?_
  refine st13 _ ?_
  refine y_icmpYes X13 hx 67 (hb B d30_45) (XT.ii_ge_t (by decide)) rfl rfl <| y_iconst X13 hx (0 : Int32) 68 (hb B d30_67) rfl rfl ?_
  show Sx p e below T13 m 68 #[xvr xa1, xvi (1 : Int32), xvi (0 : Int32)] [xwi (0 : Int32)] _
  exact retN X13 hx (t := .boolean) Bd.returns (by simp) (hb B d30_68) (hr)
 ·show QrmA16 Z G xa1 h0 n0 _ T13.heap _
  rw [e13]
  exact ⟨rfl, N12, rfl⟩
def QrmA17 (Z : State) (G : Gs) (xa1 xa2 : Addr) (xk_xa2 : ClassId) (h0 : Heap) (n0 : Nat) (v : Option Value) (h : Heap) (L : List Loc) : Prop := v = none ∧ Fr n0 L ∧ Keep h0 h [xa1, xa2] ∧ Exa Z h xa1 sg2 ∧ Fld Z h xa1 sg2 "words" "[J" (.ref xa2) ∧ Fld Z h xa1 sg2 "wordsInUse" "I" (.int (1 : Int32)) ∧ Arv Z h xa2 xk_xa2 .long (1 : Int32) [(.long (2 : Int64))] (.long (0 : Int64))
theorem rmA17 (l : Launch) (Z : State) (a0 : Array Value) (hw : HW a0 Z) (G : Gs) (ST : StartF Z G) (ws : List Jvm.Cond) (xa1 xa2 : Addr) (xk_xa2 : ClassId) (h0 : Heap) (n0 : Nat) (X00 : Old Z n0 h0) (xE_xa1 : Exa Z h0 xa1 sg2) (xF_xa1_words : Fld Z h0 xa1 sg2 "words" "[J" (.ref xa2)) (xF_xa1_wordsInUse : Fld Z h0 xa1 sg2 "wordsInUse" "I" ZI) (xg_xa1 : n0 ≤ xa1) (xV_xa2 : Arv Z h0 xa2 xk_xa2 .long (1 : Int32) [(.long (0 : Int64))] (.long (0 : Int64))) (xg_xa2 : n0 ≤ xa2) (xn_xa2_xa1 : xa2 ≠ xa1) :
  MF l Z ws mm42 jdk_92_method_19_code 3 none (rk 2 0 0 28) #[(.ref xa1), (.int (1 : Int32))] h0 (QrmA17 Z G xa1 xa2 xk_xa2 h0 n0) := by
 refine MetFree.of_bodySF (plainFor_of_name pn_9) hisR ?_
 intro p e s m args below meth c s₁ Bd hml0 hP hK
 obtain ⟨rfl, hZ, hh⟩ := hP
 have hx := Bd.exec
 have B := Bd.bytes
 have hml : c.maxLocals = 3 := hml0
 have hown : s.vm.findClass sg2 = some m.cls := findClass_of_methodNamed Bd.named
 have X0 : Stand p l e (rk 2 0 0 28) s m #[(.ref xa1), (.int (1 : Int32))] below meth c s₁ [] 0 0 := Stand.of_body Bd
 have e0 : s₁.heap = h0 := by rw [← hh, Bd.state]; rfl
 have N0 := Fr.nil n0
 obtain ⟨TG, hTG, pre0⟩ := own_pre p e below s₁ (ef_rmG1 m xa1 (1 : Int32) )
 obtain ⟨_, _, ⟨T10, L10, k10, n10⟩, -, X10, ⟨Lc10, hQ10, l10, y10, z10⟩, st10⟩ := Jvm.LawKit.callS X0 hx (y := mm28) hown (mvT hZ (w_130 hw)) (mvT hZ (w_131 hw)) (mvT hZ (w_116 hw)) (mvT hZ (w_132 hw)) (by decide) (backOf (W := 0) (rmA6 l Z a0 hw G ST []  h0 n0 X00 ) hZ (w_132 hw) (w_116 hw) (by decide) (by decide)) (g := (mkF m 32 #[xvr xa1, xvi (1 : Int32), xun] [xwi (1 : Int32)])) rfl (by rw [hml]; rfl) (argsL := [(.int (1 : Int32))]) (rest := []) (lenOf pd_17 rfl) rfl (Nat.le_of_eq rfl) (hb B d39_32) (fun _ _ => ⟨rfl, e0, (by decide : 0 + 0 ≤ _), (by decide : 0 + 0 ≤ _)⟩)
 dsimp only [Pt.U, Pt.locs, Pt.cells, Pt.slots] at X10 l10 y10 z10 st10 hQ10
 subst l10 y10 z10
 obtain ⟨rfl, N10q, e10⟩ := hQ10
 have N10 := Fr.app N0 N10q
 obtain ⟨cq11, q11, q11'⟩ := xE_xa1.cell
 obtain ⟨_, _, ⟨T12, L12, k12, n12⟩, -, X12, ⟨Lc12, hQ12, l12, y12, z12⟩, st12⟩ := X10.privateBack hx (y := mm41) hown (mvT hZ (w_266 hw)) (mvT hZ (w_267 hw)) (mvT hZ (w_269 hw)) (Cond.privateMethod_at (mvP hZ (w_268 hw) (args := #[]))) (mvT hZ (w_270 hw)) (by decide) (backOf (W := 0) (rmA13 l Z a0 hw G ST [] xa1 xa2 _ h0 n0 X00 xE_xa1 xF_xa1_words xF_xa1_wordsInUse xg_xa1 xV_xa2) hZ (w_270 hw) (w_116 hw) (by decide) (by decide)) (g := (mkF m 38 #[xvr xa1, xvi (1 : Int32), xvi (0 : Int32)] [xwi (0 : Int32), xwr xa1])) rfl (by rw [hml]; rfl) (Steps.refl _) (a := xa1) (by rw [e10]; exact q11) q11' (argsL := [ZI]) (rest := []) (lenOf pd_18 rfl) rfl (Nat.le_of_eq rfl) (hb B d39_38) (fun _ _ => ⟨rfl, e10, (by decide : 0 + 0 ≤ _), (by decide : 0 + 0 ≤ _)⟩)
 dsimp only [Pt.U, Pt.locs, Pt.cells, Pt.slots] at X12 l12 y12 z12 st12 hQ12
 subst l12 y12 z12
 obtain ⟨hp12, e12⟩ : ∃ z, T12.heap = z := ⟨_, rfl⟩
 rw [e12] at hQ12
 obtain ⟨rfl, N12q, K12, p13, p14, p15⟩ := hQ12
 have N12 := Fr.app N10 N12q
 obtain ⟨T16, X16, e16, st16⟩ := getF X12 hx hZ hown (host := "") (Or.inl (w_134 hw)) Via.refl e12 p14 (g := (mkF m 42 #[xvr xa1, xvi (1 : Int32), xvi (0 : Int32)] [xwr xa1])) rfl rfl (hb B d39_42)
 have f17 := (xV_xa2.keep K12 (ninS xn_xa2_xa1 nin0))
 obtain ⟨cl18, Ar18, q18, S18, M18, H18, G18⟩ := id f17
 have in18 : ¬ ((0 : Int32) < 0 ∨ cl18.slots.size ≤ ((0 : Int32)).toNatClampNeg) := inb_of S18 ⟨by decide, by decide⟩
 obtain ⟨cl19, Ar19, q19, S19, M19, H19, G19⟩ := id f17
 have in19 : ¬ ((0 : Int32) < 0 ∨ cl19.slots.size ≤ ((0 : Int32)).toNatClampNeg) := inb_of S19 ⟨by decide, by decide⟩
 obtain ⟨T20, h20, X20, e20, W20, st20⟩ := stJ X16 hx hZ e16 Ar19 (j := (0 : Int32)) in19 (g := (mkF m 52 #[xvr xa1, xvi (1 : Int32), xvi (0 : Int32)] [xwj (2 : Int64), xwi (0 : Int32), xwr xa2])) rfl rfl (hb B d39_52)
 have V20 : Arv Z h20 xa2 xk_xa2 .long (1 : Int32) [(.long (2 : Int64))] (.long (0 : Int64)) := Arv.set Ar19 q19 S19 M19 H19 G19 rfl W20 0 rfl (Nat.le_of_ble_eq_true rfl)
 have N20 := Fr.snoc X20 N12 xg_xa2
 have Ol21 : Old Z n0 h20 := ((X00.keep K12 (allS xg_xa1 all0)).wr W20 xg_xa2)
 have f22 := (p13.wr W20)
 obtain ⟨cq23, q23, q23'⟩ := f22.cell
 obtain ⟨_, _, ⟨T24, L24, k24, n24⟩, -, X24, ⟨Lc24, hQ24, l24, y24, z24⟩, st24⟩ := X20.privateBack hx (y := mm27) hown (mvT hZ (w_211 hw)) (mvT hZ (w_212 hw)) (mvT hZ (w_214 hw)) (Cond.privateMethod_at (mvP hZ (w_213 hw) (args := #[]))) (mvT hZ (w_215 hw)) (by decide) (backOf (W := 0) (rmA5 l Z a0 hw G ST [] xa1 h20 n0 Ol21 ) hZ (w_215 hw) (w_116 hw) (by decide) (by decide)) (g := (mkF m 54 #[xvr xa1, xvi (1 : Int32), xvi (0 : Int32)] [xwr xa1])) rfl (by rw [hml]; rfl) (Steps.refl _) (a := xa1) (by rw [e20]; exact q23) q23' (argsL := []) (rest := []) (lenOf pd_16 rfl) rfl (Nat.le_of_eq rfl) (hb B d39_54) (fun _ _ => ⟨rfl, e20, (by decide : 0 + 0 ≤ _), (by decide : 0 + 0 ≤ _)⟩)
 dsimp only [Pt.U, Pt.locs, Pt.cells, Pt.slots] at X24 l24 y24 z24 st24 hQ24
 subst l24 y24 z24
 obtain ⟨rfl, N24q, e24⟩ := hQ24
 have N24 := Fr.app N20 N24q
 have f25 := (p14.other W20 (Or.inl (Ne.symm xn_xa2_xa1)))
 have f26 := (p15.other W20 (Or.inl (Ne.symm xn_xa2_xa1)))
 obtain ⟨fs, hr, hrun, hended, hW, hsame⟩ := X24.leave (v := none) (fun _ => rfl)
 refine ⟨_, _, hTG _ (pre0 _ ?_), hrun, hended, _, _, rfl, ?_, ⟨_, rfl⟩, hW, hsame.mono (by decide) (by decide)⟩
 ·refine y_iloadN X0 hx 1 (hb B d39_0) rfl rfl <| y_ifYes X0 hx 31 (hb B d39_1) (XT.i0_ge_t (by decide)) rfl rfl <| y_iloadN X0 hx 32 (hb B d39_31) rfl rfl ?_
  refine st10 _ ?_
  refine y_istoreN X10 hx 36 (hb B d39_35) (L' := #[xvr xa1, xvi (1 : Int32), xvi (0 : Int32)]) rfl rfl <| y_aloadN X10 hx 37 (hb B d39_36) rfl rfl rfl <| y_iloadN X10 hx 38 (hb B d39_37) rfl rfl ?_
  refine st12.trans ?_
  refine y_aloadN X12 hx 42 (hb B d39_41) rfl rfl rfl ?_
  refine st16 _ ?_
  refine y_iloadN X16 hx 46 (hb B d39_45) rfl rfl ?_
  show Sx p e below T16 m 46 #[xvr xa1, xvi (1 : Int32), xvi (0 : Int32)] [xwi (0 : Int32), xwr xa2] _
  jvm_step X16.here [X16.here.top, hx, (hb B d39_46), Value.category]
  refine X16.laload hx (j := (0 : Int32)) (v := (.long (0 : Int64))) (by rw [e16]; exact Ar18.1) (State.isArrayOf_alike hZ.alike Ar18.2.1) Ar18.2.2 in18 (Has.at H18 in18 rfl) (g := (mkF m 47 #[xvr xa1, xvi (1 : Int32), xvi (0 : Int32)] [xwi (0 : Int32), xwr xa2, xwi (0 : Int32), xwr xa2])) rfl rfl (hb B d39_47) _ ?_
  refine XS.lconst X16.here hx rfl (hb B d39_48) ?_
  refine y_iloadN X16 hx 50 (hb B d39_49) rfl rfl ?_
  show Sx p e below T16 m 50 #[xvr xa1, xvi (1 : Int32), xvi (0 : Int32)] [xwi (1 : Int32), xwj (1 : Int64), xwj (0 : Int64), xwi (0 : Int32), xwr xa2] _
  refine XS.lshl X16.here hx rfl (hb B d39_50) rfl ?_
  rw [show ((1 : Int64) <<< ((1 : Int32) &&& 0x3f).toInt64) = (2 : Int64) from by decide]
  refine y_lor X16 hx 52 (hb B d39_51) rfl ?_
  rw [show ((0 : Int64) ||| (2 : Int64)) = (2 : Int64) from by decide]
  refine st20 _ ?_
  refine y_aloadN X20 hx 54 (hb B d39_53) rfl rfl rfl ?_
  refine st24.trans ?_
  show Sx p e below T24 m 57 #[xvr xa1, xvi (1 : Int32), xvi (0 : Int32)] [] _
  exact X24.returnOut hx Bd.returns (hb B d39_57) hr
 ·show QrmA17 Z G xa1 xa2 xk_xa2 h0 n0 _ T24.heap _
  rw [e24]
  exact ⟨rfl, N24, (((Keep.refl h0 [xa1, xa2]).trans K12 (allS (oi 0 rfl) all0)).wr W20 (oi 1 rfl)), f22, f25, f26, V20⟩
def QrmAd6 (Z : State) (G : Gs) (ta pa : Addr) (kp : ClassId) (sl sf : Int32) (pv : List Value) (na : Addr) (kn : ClassId) (nv : List Value) (sx vx : Addr) (kb : ClassId) (cx : Int32) (q1 w1 : Addr) (kq : ClassId) (cq : Int32) (q2 w2 : Addr) (k2 : ClassId) (c2 s0 ix : Int32) (da ba : Addr) (mo : Int32) (wa : Addr) (kw : ClassId) (ea : Addr) (yx mx : Int32) (dy dx : Int32) (kd : ClassId) (dv : List Value) (it : Addr) (ii : Int32) (ca : Addr) (kc : ClassId) (cv : List Value) (lv : Int32) (h0 : Heap) (n0 : Nat) (v : Option Value) (h : Heap) (L : List Loc) : Prop := ∃ (rr : Int32), ∃ (bo : Int32), ∃ (wo : Int64), ∃ (cw : List Value), v = some (.int rr) ∧ Fr n0 L ∧ Keep h0 h [sx, ca, ba, wa] ∧ Exa Z h sx sg1 ∧ Fld Z h sx sg1 "coder" "B" ZI ∧ Fld Z h sx sg1 "value" "[B" (.ref vx) ∧ Exa Z h ba sg2 ∧ Fld Z h ba sg2 "wordsInUse" "I" (.int bo) ∧ Fld Z h ba sg2 "words" "[J" (.ref wa) ∧ Arv Z h wa kw .long (1 : Int32) [(.long wo)] (.long (0 : Int64)) ∧ Arv Z h ca kc .int mo cw ZI ∧ ((¬ dx < lv ∧ bo = (0 : Int32) ∧ wo = (0 : Int64) ∧ cw = List.set cv 1 (.int dx)) ∨ (dx < lv ∧ bo = (1 : Int32) ∧ wo = (2 : Int64) ∧ cw = cv))
theorem rmAd6 (l : Launch) (Z : State) (a0 : Array Value) (hw : HW a0 Z) (G : Gs) (ST : StartF Z G) (ws : List Jvm.Cond) (ta pa : Addr) (kp : ClassId) (sl sf : Int32) (pv : List Value) (na : Addr) (kn : ClassId) (nv : List Value) (sx vx : Addr) (kb : ClassId) (cx : Int32) (q1 w1 : Addr) (kq : ClassId) (cq : Int32) (q2 w2 : Addr) (k2 : ClassId) (c2 s0 ix : Int32) (da ba : Addr) (mo : Int32) (wa : Addr) (kw : ClassId) (ea : Addr) (yx mx : Int32) (dy dx : Int32) (kd : ClassId) (dv : List Value) (it : Addr) (ii : Int32) (ca : Addr) (kc : ClassId) (cv : List Value) (lv : Int32) (h0 : Heap) (n0 : Nat) (X00 : Old Z n0 h0) (tE : Exa Z h0 ta sg0) (tP : Fld Z h0 ta sg0 sg8 sg5 (.ref pa)) (tS : Fld Z h0 ta sg0 "shift" "I" (.int sf)) (tV : Arv Z h0 pa kp (.object sg1) sl pv .null) (hsl : SLS sl sf) (tN : Fld Z h0 ta sg0 "numbers" "[I" (.ref na)) (nV : Arv Z h0 na kn .int sl nv ZI) (sE : Exa Z h0 sx sg1) (sC : Fld Z h0 sx sg1 "coder" "B" ZI) (sW : Fld Z h0 sx sg1 "value" "[B" (.ref vx)) (sA : Arv Z h0 vx kb .byte (1 : Int32) [(.int cx.toInt8.toInt32)] ZI) (sH : Fld Z h0 sx sg1 "hash" "I" ZI) (sZ : Fld Z h0 sx sg1 "hashIsZero" "Z" ZI) (sg : n0 ≤ sx) (hc : (¬ cx < 0 ∧ ¬ (255 : Int32) < cx)) (qE : Exa Z h0 q1 sg1) (qC : Fld Z h0 q1 sg1 "coder" "B" ZI) (qW : Fld Z h0 q1 sg1 "value" "[B" (.ref w1)) (qA : Arv Z h0 w1 kq .byte (1 : Int32) [(.int cq.toInt8.toInt32)] ZI) (rE : Exa Z h0 q2 sg1) (rC : Fld Z h0 q2 sg1 "coder" "B" ZI) (rW : Fld Z h0 q2 sg1 "value" "[B" (.ref w2)) (rA : Arv Z h0 w2 k2 .byte (1 : Int32) [(.int c2.toInt8.toInt32)] ZI) (nqs : q1 ≠ sx) (nrs : q2 ≠ sx) (hI : IXP cx sf sl s0 ix) (hq : pv.getD (s0).toNatClampNeg .null = .ref q1) (hr2 : pv.getD (ix).toNatClampNeg .null = .ref q2) (he : ¬ cq.toInt8.toInt32 = cx.toInt8.toInt32) (hf : c2.toInt8.toInt32 = cx.toInt8.toInt32) (hg2 : nv.getD (ix).toNatClampNeg ZI = .int (1 : Int32)) (tD : Fld Z h0 ta sg0 "days" "[[I" (.ref da)) (tM : Fld Z h0 ta sg0 "most" "I" (.int mo)) (tB : Fld Z h0 ta sg0 "outOfOrder" sg6 (.ref ba)) (bE : Exa Z h0 ba sg2) (bU : Fld Z h0 ba sg2 "wordsInUse" "I" ZI) (bW : Fld Z h0 ba sg2 "words" "[J" (.ref wa)) (bV : Arv Z h0 wa kw .long (1 : Int32) [(.long (0 : Int64))] (.long (0 : Int64))) (eE : Exa Z h0 ea sg3) (eY : Fld Z h0 ea sg3 "year" "I" (.int yx)) (eM : Fld Z h0 ea sg3 "month" "S" (.int mx)) (eD : Fld Z h0 ea sg3 "day" "S" (.int dy)) (hTD : TD yx mx dy dx) (dV : Arv Z h0 da kd (.array .int) (9 : Int32) dv .null) (iE : Exa Z h0 it sg4) (iF : Fld Z h0 it sg7 "ordinal" "I" (.int ii)) (hii : (¬ ii < 0 ∧ ii < (9 : Int32))) (hdr : DR dx) (hmo : Mo mo) (iO : it < Z.heap.size) (hdo : dv.getD ii.toNatClampNeg .null = .ref ca) (cV : Arv Z h0 ca kc .int mo cv ZI) (hlv : cv.getD 1 ZI = .int lv) (hcl : cv.length = 9) (gc : n0 ≤ ca) (nnc : na ≠ ca) (gb : n0 ≤ ba) (gw : n0 ≤ wa) :
  MF l Z ws mm39 prog_54_method_2_code 8 (some .boolean) (rk 4 0 0 56) #[(.ref ta), (.ref sx), (.ref ea), (.ref it)] h0 (QrmAd6 Z G ta pa kp sl sf pv na kn nv sx vx kb cx q1 w1 kq cq q2 w2 k2 c2 s0 ix da ba mo wa kw ea yx mx dy dx kd dv it ii ca kc cv lv h0 n0) := by
 refine MetFree.of_bodySF (plainFor_of_name pn_2) hisR ?_
 intro p e s m args below meth c s₁ Bd hml0 hP hK
 obtain ⟨rfl, hZ, hh⟩ := hP
 have hx := Bd.exec
 have B := Bd.bytes
 have hml : c.maxLocals = 8 := hml0
 have hown : s.vm.findClass sg0 = some m.cls := findClass_of_methodNamed Bd.named
 have X0 : Stand p l e (rk 4 0 0 56) s m #[(.ref ta), (.ref sx), (.ref ea), (.ref it)] below meth c s₁ [] 0 0 := Stand.of_body Bd
 have e0 : s₁.heap = h0 := by rw [← hh, Bd.state]; rfl
 have N0 := Fr.nil n0
 obtain ⟨TG, hTG, pre0⟩ := own_pre p e below s₁ (ef_rmAd0 m ta sx ea it )
 obtain ⟨cq10, q10, q10'⟩ := tE.cell
 obtain ⟨_, _, ⟨T11, L11, k11, n11⟩, -, X11, ⟨Lc11, hQ11, l11, y11, z11⟩, st11⟩ := X0.privateBack hx (y := mm10) hown (mvT hZ (w_178 hw)) (mvT hZ (w_179 hw)) (mvT hZ (own_selp (y := mm10) (w_102 hw) (w_180 hw) (w_179 hw) (by decide))) (Cond.privateMethod_at (mvP hZ (w_180 hw) (args := #[]))) (mvT hZ (w_181 hw)) (by decide) (backOf (W := 0) (rmN2b l Z a0 hw G ST [] ta pa _ sl sf _ na _ _ sx vx _ cx q1 w1 _ cq q2 w2 _ c2 s0 ix (1 : Int32) h0 n0 X00 tE tP tS tV hsl tN nV sE sC sW sA sH sZ sg hc qE qC qW qA rE rC rW rA nqs nrs hI hq hr2 he hf hg2) hZ (w_181 hw) (w_103 hw) (by decide) (by decide)) (g := (mkF m 2 #[xvr ta, xvr sx, xvr ea, xvr it, xun, xun, xun, xun] [xwr sx, xwr ta])) rfl (by rw [hml]; rfl) (Steps.refl _) (a := ta) (by rw [e0]; exact q10) q10' (argsL := [(.ref sx)]) (rest := []) (lenOf pd_8 rfl) rfl (Nat.le_of_eq rfl) (hb B d24_2) (fun _ _ => ⟨rfl, e0, (by decide : 0 + 0 ≤ _), (by decide : 0 + 0 ≤ _)⟩)
 dsimp only [Pt.U, Pt.locs, Pt.cells, Pt.slots] at X11 l11 y11 z11 st11 hQ11
 subst l11 y11 z11
 obtain ⟨hp11, e11⟩ : ∃ z, T11.heap = z := ⟨_, rfl⟩
 rw [e11] at hQ11
 obtain ⟨rfl, N11q, K11, p12, p13, p14⟩ := hQ11
 have N11 := Fr.app N0 N11q
 have f15 := (tE.keep K11)
 have f16 := (tB.keep K11 (ninS (Exa.ne f15 p12 (by decide)) nin0))
 obtain ⟨T17, X17, e17, st17⟩ := getF X11 hx hZ hown (host := "") (Or.inl (w_136 hw)) Via.refl e11 f16 (g := (mkF m 11 #[xvr ta, xvr sx, xvr ea, xvr it, xvi (1 : Int32), xvi (0 : Int32), xun, xun] [xwr ta])) rfl rfl (hb B d24_11)
 have f18 := (bE.keep K11)
 have f19 := (bU.keep K11 (ninS (Exa.ne f18 p12 (by decide)) nin0))
 have Ol20 : Old Z n0 hp11 := (X00.keep K11 (allS sg all0))
 obtain ⟨cq21, kq21, q21a, q21b, q21c⟩ := isOf hZ e17 f18
 obtain ⟨_, _, ⟨T22, L22, k22, n22⟩, -, X22, ⟨Lc22, hQ22, l22, y22, z22⟩, st22⟩ := X17.virtualBack hx (y := mm29) (z := mm29) hown (mvT hZ (w_206 hw)) (mvT hZ (w_207 hw)) (notFace_of_selects (args := #[]) (mvT hZ (w_209 hw))) (mvT hZ (w_209 hw)) (mvT hZ (w_208 hw)) (by decide) (backOf (W := 0) (rmA16 l Z a0 hw G ST [] ba hp11 n0 Ol20 f18 f19) hZ (w_210 hw) (w_116 hw) (by decide) (by decide)) q21a q21c (g := (mkF m 16 #[xvr ta, xvr sx, xvr ea, xvr it, xvi (1 : Int32), xvi (0 : Int32), xun, xun] [xwi (1 : Int32), xwr ba])) rfl (by rw [hml]; rfl) (Steps.refl _) (argsL := [(.int (1 : Int32))]) (rest := []) (lenOf pd_23 rfl) rfl (Nat.le_of_eq rfl) (hb B d24_16) (fun _ _ => ⟨rfl, e17, (by decide : 0 + 0 ≤ _), (by decide : 0 + 0 ≤ _)⟩)
 dsimp only [Pt.U, Pt.locs, Pt.cells, Pt.slots] at X22 l22 y22 z22 st22 hQ22
 subst l22 y22 z22
 obtain ⟨rfl, N22q, e22⟩ := hQ22
 have N22 := Fr.app N11 N22q
 have f23 := (tD.keep K11 (ninS (Exa.ne f15 p12 (by decide)) nin0))
 have f24 := (dV.keep K11 (ninS (Ne.symm (Exa.neArv sE dV (w_10 hw))) nin0))
 have f25 := (iE.keep K11)
 have f26 := (iF.keep K11 (ninS (Old.ne X00 iO sg) nin0))
 obtain ⟨cq27, q27, q27'⟩ := f15.cell
 obtain ⟨_, _, ⟨T28, L28, k28, n28⟩, -, X28, ⟨Lc28, hQ28, l28, y28, z28⟩, st28⟩ := X22.privateBack hx (y := mm13) hown (mvT hZ (w_217 hw)) (mvT hZ (w_218 hw)) (mvT hZ (own_selp (y := mm13) (w_102 hw) (w_219 hw) (w_218 hw) (by decide))) (Cond.privateMethod_at (mvP hZ (w_219 hw) (args := #[]))) (mvT hZ (w_220 hw)) (by decide) (backOf (W := 0) (rmCo l Z a0 hw G ST [] ta da _ _ it ii ca hp11 n0 Ol20 f15 f23 f24 f25 f26 hii hdo) hZ (w_220 hw) (w_103 hw) (by decide) (by decide)) (g := (mkF m 24 #[xvr ta, xvr sx, xvr ea, xvr it, xvi (1 : Int32), xvi (0 : Int32), xun, xun] [xwr it, xwr ta])) rfl (by rw [hml]; rfl) (Steps.refl _) (a := ta) (by rw [e22]; exact q27) q27' (argsL := [(.ref it)]) (rest := []) (lenOf pd_24 rfl) rfl (Nat.le_of_eq rfl) (hb B d24_24) (fun _ _ => ⟨rfl, e22, (by decide : 0 + 0 ≤ _), (by decide : 0 + 0 ≤ _)⟩)
 dsimp only [Pt.U, Pt.locs, Pt.cells, Pt.slots] at X28 l28 y28 z28 st28 hQ28
 subst l28 y28 z28
 obtain ⟨rfl, N28q, e28⟩ := hQ28
 have N28 := Fr.app N22 N28q
 have f29 := (eE.keep K11)
 have f30 := (eY.keep K11 (ninS (Exa.ne f29 p12 (by decide)) nin0))
 have f31 := (eM.keep K11 (ninS (Exa.ne f29 p12 (by decide)) nin0))
 have f32 := (eD.keep K11 (ninS (Exa.ne f29 p12 (by decide)) nin0))
 obtain ⟨cq33, kq33, q33a, q33b, q33c⟩ := isOf hZ e28 f29
 obtain ⟨_, _, ⟨T34, L34, k34, n34⟩, -, X34, ⟨Lc34, hQ34, l34, y34, z34⟩, st34⟩ := X28.virtualBack hx (y := mm19) (z := mm19) hown (mvT hZ (w_236 hw)) (mvT hZ (w_237 hw)) (notFace_of_selects (args := #[]) (mvT hZ (w_239 hw))) (mvT hZ (w_239 hw)) (mvT hZ (w_238 hw)) (by decide) (backOf (W := 0) (rmTE l Z a0 hw G ST [] ea yx mx dy dx hp11 n0 Ol20 f29 f30 f31 f32 hTD) hZ (w_240 hw) (w_39 hw) (by decide) (by decide)) q33a q33c (g := (mkF m 30 #[xvr ta, xvr sx, xvr ea, xvr it, xvi (1 : Int32), xvi (0 : Int32), xvr ca, xun] [xwr ea])) rfl (by rw [hml]; rfl) (Steps.refl _) (argsL := []) (rest := []) (lenOf pd_12 rfl) rfl (Nat.le_of_eq rfl) (hb B d24_30) (fun _ _ => ⟨rfl, e28, (by decide : 0 + 0 ≤ _), (by decide : 0 + 0 ≤ _)⟩)
 dsimp only [Pt.U, Pt.locs, Pt.cells, Pt.slots] at X34 l34 y34 z34 st34 hQ34
 subst l34 y34 z34
 obtain ⟨hp34, e34⟩ : ∃ z, T34.heap = z := ⟨_, rfl⟩
 rw [e34] at hQ34
 obtain ⟨rfl, N34q, K34⟩ := hQ34
 have N34 := Fr.app N28 N34q
 have Ol35 : Old Z n0 hp34 := (Ol20.keep K34 all0)
 obtain ⟨_, _, ⟨T36, L36, k36, n36⟩, -, X36, ⟨Lc36, hQ36, l36, y36, z36⟩, st36⟩ := Jvm.LawKit.callS X34 hx (y := mm20) hown (mvT hZ (w_248 hw)) (mvT hZ (w_249 hw)) (mvT hZ (w_140 hw)) (mvT hZ (w_250 hw)) (by decide) (backOf (W := 0) (rmTI l Z a0 hw G ST [] dx hp34 n0 Ol35 ) hZ (w_250 hw) (w_140 hw) (by decide) (by decide)) (g := (mkF m 33 #[xvr ta, xvr sx, xvr ea, xvr it, xvi (1 : Int32), xvi (0 : Int32), xvr ca, xun] [xwj (dx.toInt64)])) rfl (by rw [hml]; rfl) (argsL := [(.long (dx.toInt64))]) (rest := []) (lenOf pd_25 rfl) rfl (Nat.le_of_eq rfl) (hb B d24_33) (fun _ _ => ⟨rfl, e34, (by decide : 0 + 0 ≤ _), (by decide : 0 + 0 ≤ _)⟩)
 dsimp only [Pt.U, Pt.locs, Pt.cells, Pt.slots] at X36 l36 y36 z36 st36 hQ36
 subst l36 y36 z36
 obtain ⟨rfl, N36q, e36⟩ := hQ36
 have N36 := Fr.app N34 N36q
 have f37 := ((cV.keep K11 (ninS (Ne.symm (Exa.neArv sE cV (w_10 hw))) nin0)).keep K34 nin0)
 obtain ⟨cl38, Ar38, q38, S38, M38, H38, G38⟩ := id f37
 have in38 : ¬ ((1 : Int32) < 0 ∨ cl38.slots.size ≤ ((1 : Int32)).toNatClampNeg) := inb_of S38 ⟨by decide, (own_mo1 hmo)⟩
 have c39 : ∀ t, Sx p e below T36 m 45 #[xvr ta, xvr sx, xvr ea, xvr it, xvi (1 : Int32), xvi (0 : Int32), xvr ca, xvi dx] [xwi lv, xwi dx] t → TG t := fun t k => pre0 t (by
  refine y_aloadN X0 hx 1 (hb B d24_0) rfl rfl rfl <| y_aloadN X0 hx 2 (hb B d24_1) rfl rfl rfl ?_
  refine st11.trans ?_
  refine y_istore X11 hx 7 (hb B d24_5) (L' := #[xvr ta, xvr sx, xvr ea, xvr it, xvi (1 : Int32), xun, xun, xun]) rfl rfl <| y_iconst X11 hx (0 : Int32) 8 (hb B d24_7) rfl rfl <| y_istore X11 hx 10 (hb B d24_8) (L' := #[xvr ta, xvr sx, xvr ea, xvr it, xvi (1 : Int32), xvi (0 : Int32), xun, xun]) rfl rfl <| y_aloadN X11 hx 11 (hb B d24_10) rfl rfl rfl ?_
  refine st17 _ ?_
  refine y_iload X17 hx 16 (hb B d24_14) rfl rfl ?_
  refine st22.trans ?_
  refine y_ifNo X22 hx 22 (hb B d24_19) (XT.i0_ne_f (by decide)) rfl <| y_aloadN X22 hx 23 (hb B d24_22) rfl rfl rfl <| y_aloadN X22 hx 24 (hb B d24_23) rfl rfl rfl ?_
  refine st28.trans ?_
  refine y_astore X28 hx 29 (hb B d24_27) (L' := #[xvr ta, xvr sx, xvr ea, xvr it, xvi (1 : Int32), xvi (0 : Int32), xvr ca, xun]) rfl rfl rfl <| y_aloadN X28 hx 30 (hb B d24_29) rfl rfl rfl ?_
  refine st34.trans ?_
  refine st36 _ ?_
  refine y_istore X36 hx 38 (hb B d24_36) (L' := #[xvr ta, xvr sx, xvr ea, xvr it, xvi (1 : Int32), xvi (0 : Int32), xvr ca, xvi dx]) rfl rfl <| y_iload X36 hx 40 (hb B d24_38) rfl rfl <| y_aload X36 hx 42 (hb B d24_40) rfl rfl rfl <| y_iload X36 hx 44 (hb B d24_42) rfl rfl ?_
  refine X36.iaload hx (j := (1 : Int32)) (v := (.int lv)) (by rw [e36]; exact Ar38.1) (State.isArrayOf_alike hZ.alike Ar38.2.1) Ar38.2.2 in38 (Has.at H38 in38 hlv) (g := (mkF m 44 #[xvr ta, xvr sx, xvr ea, xvr it, xvi (1 : Int32), xvi (0 : Int32), xvr ca, xvi dx] [xwi (1 : Int32), xwr ca, xwi dx])) rfl rfl (hb B d24_44) _ ?_
  exact k)
 by_cases hk40 : dx < lv
 ·obtain ⟨cl41, Ar41, q41, S41, M41, H41, G41⟩ := id f37
  have in41 : ¬ ((1 : Int32) < 0 ∨ cl41.slots.size ≤ ((1 : Int32)).toNatClampNeg) := inb_of S41 ⟨by decide, (own_mo1 hmo)⟩
  have f42 := (f16.keep K34 nin0)
  obtain ⟨T43, X43, e43, st43⟩ := getF X36 hx hZ hown (host := "") (Or.inl (w_136 hw)) Via.refl e36 f42 (g := (mkF m 75 #[xvr ta, xvr sx, xvr ea, xvr it, xvi (1 : Int32), xvi (0 : Int32), xvr ca, xvi dx] [xwr ta])) rfl rfl (hb B d24_75)
  have f44 := (f18.keep K34)
  have f45 := (p12.keep K34)
  have f46 := ((bW.keep K11 (ninS (Exa.ne f44 f45 (by decide)) nin0)).keep K34 nin0)
  have f47 := (f19.keep K34 nin0)
  have f48 := ((bV.keep K11 (ninS (Ne.symm (Exa.neArv sE bV (w_10 hw))) nin0)).keep K34 nin0)
  obtain ⟨cq49, kq49, q49a, q49b, q49c⟩ := isOf hZ e43 f44
  obtain ⟨_, _, ⟨T50, L50, k50, n50⟩, -, X50, ⟨Lc50, hQ50, l50, y50, z50⟩, st50⟩ := X43.virtualBack hx (y := mm42) (z := mm42) hown (mvT hZ (w_261 hw)) (mvT hZ (w_262 hw)) (notFace_of_selects (args := #[]) (mvT hZ (w_264 hw))) (mvT hZ (w_264 hw)) (mvT hZ (w_263 hw)) (by decide) (backOf (W := 0) (rmA17 l Z a0 hw G ST [] ba wa _ hp34 n0 Ol35 f44 f46 f47 gb f48 gw (Ne.symm (Exa.neArv bE bV (w_115 hw)))) hZ (w_265 hw) (w_116 hw) (by decide) (by decide)) q49a q49c (g := (mkF m 80 #[xvr ta, xvr sx, xvr ea, xvr it, xvi (1 : Int32), xvi (0 : Int32), xvr ca, xvi dx] [xwi (1 : Int32), xwr ba])) rfl (by rw [hml]; rfl) (Steps.refl _) (argsL := [(.int (1 : Int32))]) (rest := []) (lenOf pd_18 rfl) rfl (Nat.le_of_eq rfl) (hb B d24_80) (fun _ _ => ⟨rfl, e43, (by decide : 0 + 0 ≤ _), (by decide : 0 + 0 ≤ _)⟩)
  dsimp only [Pt.U, Pt.locs, Pt.cells, Pt.slots] at X50 l50 y50 z50 st50 hQ50
  subst l50 y50 z50
  obtain ⟨hp50, e50⟩ : ∃ z, T50.heap = z := ⟨_, rfl⟩
  rw [e50] at hQ50
  obtain ⟨rfl, N50q, K50, p51, p52, p53, p54⟩ := hQ50
  have N50 := Fr.app N36 N50q
  have f55 := (f45.keep K50)
  have f56 := ((p13.keep K34 nin0).keep K50 (ninS (Exa.ne f55 p51 (by decide)) (ninS (Exa.neArv sE bV (w_10 hw)) nin0)))
  have f57 := ((p14.keep K34 nin0).keep K50 (ninS (Exa.ne f55 p51 (by decide)) (ninS (Exa.neArv sE bV (w_10 hw)) nin0)))
  have f58 := (f37.keep K50 (ninS (Ne.symm (Exa.neArv bE cV (w_115 hw))) (ninS (own_neV cV bV (by decide)) nin0)))
  obtain ⟨fs, hr, hrun, hended, hW, hsame⟩ := X50.leave (v := some (.int (1 : Int32))) (own_rv Bd.returns)
  refine ⟨_, _, hTG _ (c39 _ ?_), hrun, hended, _, _, rfl, ?_, ⟨_, rfl⟩, hW, hsame.mono (by decide) (by decide)⟩
  ·refine y_icmpYes X36 hx 58 (hb B d24_45) (XT.ii_le_t (own_asym hk40)) rfl rfl <| y_iload X36 hx 60 (hb B d24_58) rfl rfl <| y_aload X36 hx 62 (hb B d24_60) rfl rfl rfl <| y_iload X36 hx 64 (hb B d24_62) rfl rfl ?_
   refine X36.iaload hx (j := (1 : Int32)) (v := (.int lv)) (by rw [e36]; exact Ar41.1) (State.isArrayOf_alike hZ.alike Ar41.2.1) Ar41.2.2 in41 (Has.at H41 in41 hlv) (g := (mkF m 64 #[xvr ta, xvr sx, xvr ea, xvr it, xvi (1 : Int32), xvi (0 : Int32), xvr ca, xvi dx] [xwi (1 : Int32), xwr ca, xwi dx])) rfl rfl (hb B d24_64) _ ?_
   refine y_icmpYes X36 hx 74 (hb B d24_65) (XT.ii_ne_t (own_nel hk40)) rfl rfl <| y_aloadN X36 hx 75 (hb B d24_74) rfl rfl rfl ?_
   refine st43 _ ?_
   refine y_iload X43 hx 80 (hb B d24_78) rfl rfl ?_
   refine st50.trans ?_
   refine y_iload X50 hx 85 (hb B d24_83) rfl rfl <| y_ifNo X50 hx 88 (hb B d24_85) (XT.i0_ne_f (by decide)) rfl <| y_iconst X50 hx (1 : Int32) 89 (hb B d24_88) rfl rfl <| y_goto X50 hx 93 (hb B d24_89) rfl rfl ?_
   show Sx p e below T50 m 93 #[xvr ta, xvr sx, xvr ea, xvr it, xvi (1 : Int32), xvi (0 : Int32), xvr ca, xvi dx] [xwi (1 : Int32)] _
   exact retN X50 hx (t := .boolean) Bd.returns (by simp) (hb B d24_93) (hr)
  ·show QrmAd6 Z G ta pa kp sl sf pv na kn nv sx vx kb cx q1 w1 kq cq q2 w2 k2 c2 s0 ix da ba mo wa kw ea yx mx dy dx kd dv it ii ca kc cv lv h0 n0 _ T50.heap _
   rw [e50]
   exact ⟨(1 : Int32), (1 : Int32), (2 : Int64), cv, rfl, N50, ((((Keep.refl h0 [sx, ca, ba, wa]).trans K11 (allS (oi 0 rfl) all0)).trans K34 all0).trans K50 (allS (oi 2 rfl) (allS (oi 3 rfl) all0))), f55, f56, f57, p51, p53, p52, p54, f58, (Or.inr ⟨hk40, rfl, rfl, rfl⟩)⟩
 ·by_cases hc59 : lv < dx
  ·obtain ⟨cl60, Ar60, q60, S60, M60, H60, G60⟩ := id f37
   have in60 : ¬ ((1 : Int32) < 0 ∨ cl60.slots.size ≤ ((1 : Int32)).toNatClampNeg) := inb_of S60 ⟨by decide, (own_mo1 hmo)⟩
   obtain ⟨T61, h61, X61, e61, W61, st61⟩ := stI X36 hx hZ e36 Ar60 (j := (1 : Int32)) in60 (g := (mkF m 54 #[xvr ta, xvr sx, xvr ea, xvr it, xvi (1 : Int32), xvi (0 : Int32), xvr ca, xvi dx] [xwi dx, xwi (1 : Int32), xwr ca])) rfl rfl (hb B d24_54)
   have V61 : Arv Z h61 ca kc .int mo (List.set cv 1 (.int dx)) ZI := Arv.set Ar60 q60 S60 M60 H60 G60 rfl W61 1 rfl (own_l9 hcl (by decide))
   have N61 := Fr.snoc X61 N36 gc
   have f62 := ((p12.keep K34).wr W61)
   have f63 := ((p13.keep K34 nin0).other W61 (Or.inl (Exa.neArv sE cV (w_10 hw))))
   have f64 := ((p14.keep K34 nin0).other W61 (Or.inl (Exa.neArv sE cV (w_10 hw))))
   have f65 := ((f18.keep K34).wr W61)
   have f66 := ((f19.keep K34 nin0).other W61 (Or.inl (Exa.neArv bE cV (w_115 hw))))
   have f67 := (((bW.keep K11 (ninS (Exa.ne f65 f62 (by decide)) nin0)).keep K34 nin0).other W61 (Or.inl (Exa.neArv bE cV (w_115 hw))))
   have f68 := (((bV.keep K11 (ninS (Ne.symm (Exa.neArv sE bV (w_10 hw))) nin0)).keep K34 nin0).other W61 (own_neV bV cV (by decide)))
   obtain ⟨fs, hr, hrun, hended, hW, hsame⟩ := X61.leave (v := some (.int (1 : Int32))) (own_rv Bd.returns)
   refine ⟨_, _, hTG _ (c39 _ ?_), hrun, hended, _, _, rfl, ?_, ⟨_, rfl⟩, hW, hsame.mono (by decide) (by decide)⟩
   ·refine y_icmpNo X36 hx 48 (hb B d24_45) (XT.ii_le_f hc59) rfl <| y_aload X36 hx 50 (hb B d24_48) rfl rfl rfl <| y_iload X36 hx 52 (hb B d24_50) rfl rfl <| y_iload X36 hx 54 (hb B d24_52) rfl rfl ?_
    refine st61 _ ?_
    refine y_goto X61 hx 83 (hb B d24_55) rfl rfl <| y_iload X61 hx 85 (hb B d24_83) rfl rfl <| y_ifNo X61 hx 88 (hb B d24_85) (XT.i0_ne_f (by decide)) rfl <| y_iconst X61 hx (1 : Int32) 89 (hb B d24_88) rfl rfl <| y_goto X61 hx 93 (hb B d24_89) rfl rfl ?_
    show Sx p e below T61 m 93 #[xvr ta, xvr sx, xvr ea, xvr it, xvi (1 : Int32), xvi (0 : Int32), xvr ca, xvi dx] [xwi (1 : Int32)] _
    exact retN X61 hx (t := .boolean) Bd.returns (by simp) (hb B d24_93) (hr)
   ·show QrmAd6 Z G ta pa kp sl sf pv na kn nv sx vx kb cx q1 w1 kq cq q2 w2 k2 c2 s0 ix da ba mo wa kw ea yx mx dy dx kd dv it ii ca kc cv lv h0 n0 _ T61.heap _
    rw [e61]
    exact ⟨(1 : Int32), (0 : Int32), (0 : Int64), (List.set cv 1 (.int dx)), rfl, N61, ((((Keep.refl h0 [sx, ca, ba, wa]).trans K11 (allS (oi 0 rfl) all0)).trans K34 all0).wr W61 (oi 1 rfl)), f62, f63, f64, f65, f66, f67, f68, V61, (Or.inl ⟨hk40, rfl, rfl, rfl⟩)⟩
  ·obtain ⟨cl69, Ar69, q69, S69, M69, H69, G69⟩ := id f37
   have in69 : ¬ ((1 : Int32) < 0 ∨ cl69.slots.size ≤ ((1 : Int32)).toNatClampNeg) := inb_of S69 ⟨by decide, (own_mo1 hmo)⟩
   have Vs70 : Arv Z hp34 ca kc .int mo (List.set cv 1 (.int dx)) ZI := by rw [own_setsame (own_l9 hcl (by decide)) (hlv.trans (congrArg Value.int (own_tri hk40 hc59).symm))]; exact f37
   have f71 := (p12.keep K34)
   have f72 := (p13.keep K34 nin0)
   have f73 := (p14.keep K34 nin0)
   have f74 := (f18.keep K34)
   have f75 := (f19.keep K34 nin0)
   have f76 := ((bW.keep K11 (ninS (Exa.ne f74 f71 (by decide)) nin0)).keep K34 nin0)
   have f77 := ((bV.keep K11 (ninS (Ne.symm (Exa.neArv sE bV (w_10 hw))) nin0)).keep K34 nin0)
   obtain ⟨fs, hr, hrun, hended, hW, hsame⟩ := X36.leave (v := some ZI) (own_rv Bd.returns)
   refine ⟨_, _, hTG _ (c39 _ ?_), hrun, hended, _, _, rfl, ?_, ⟨_, rfl⟩, hW, hsame.mono (by decide) (by decide)⟩
   ·refine y_icmpYes X36 hx 58 (hb B d24_45) (XT.ii_le_t hc59) rfl rfl <| y_iload X36 hx 60 (hb B d24_58) rfl rfl <| y_aload X36 hx 62 (hb B d24_60) rfl rfl rfl <| y_iload X36 hx 64 (hb B d24_62) rfl rfl ?_
    refine X36.iaload hx (j := (1 : Int32)) (v := (.int lv)) (by rw [e36]; exact Ar69.1) (State.isArrayOf_alike hZ.alike Ar69.2.1) Ar69.2.2 in69 (Has.at H69 in69 hlv) (g := (mkF m 64 #[xvr ta, xvr sx, xvr ea, xvr it, xvi (1 : Int32), xvi (0 : Int32), xvr ca, xvi dx] [xwi (1 : Int32), xwr ca, xwi dx])) rfl rfl (hb B d24_64) _ ?_
    refine y_icmpNo X36 hx 68 (hb B d24_65) (XT.ii_ne_f (own_tri hk40 hc59)) rfl <| y_iconst X36 hx (1 : Int32) 69 (hb B d24_68) rfl rfl <| y_istore X36 hx 71 (hb B d24_69) (L' := #[xvr ta, xvr sx, xvr ea, xvr it, xvi (1 : Int32), xvi (1 : Int32), xvr ca, xvi dx]) rfl rfl <| y_goto X36 hx 83 (hb B d24_71) rfl rfl <| y_iload X36 hx 85 (hb B d24_83) rfl rfl <| y_ifYes X36 hx 92 (hb B d24_85) (XT.i0_ne_t (by decide)) rfl rfl <| y_iconst X36 hx (0 : Int32) 93 (hb B d24_92) rfl rfl ?_
    show Sx p e below T36 m 93 #[xvr ta, xvr sx, xvr ea, xvr it, xvi (1 : Int32), xvi (1 : Int32), xvr ca, xvi dx] [xwi (0 : Int32)] _
    exact retN X36 hx (t := .boolean) Bd.returns (by simp) (hb B d24_93) (hr)
   ·show QrmAd6 Z G ta pa kp sl sf pv na kn nv sx vx kb cx q1 w1 kq cq q2 w2 k2 c2 s0 ix da ba mo wa kw ea yx mx dy dx kd dv it ii ca kc cv lv h0 n0 _ T36.heap _
    rw [e36]
    exact ⟨(0 : Int32), (0 : Int32), (0 : Int64), (List.set cv 1 (.int dx)), rfl, N36, (((Keep.refl h0 [sx, ca, ba, wa]).trans K11 (allS (oi 0 rfl) all0)).trans K34 all0), f71, f72, f73, f74, f75, f76, f77, Vs70, (Or.inl ⟨hk40, rfl, rfl, rfl⟩)⟩
def QrmAd7 (Z : State) (G : Gs) (ta pa : Addr) (kp : ClassId) (sl sf : Int32) (pv : List Value) (na : Addr) (kn : ClassId) (nv : List Value) (sx vx : Addr) (kb : ClassId) (cx : Int32) (q1 w1 : Addr) (kq : ClassId) (cq : Int32) (q2 w2 : Addr) (k2 : ClassId) (c2 s0 ix : Int32) (da ba : Addr) (mo : Int32) (wa : Addr) (kw : ClassId) (ea : Addr) (yx mx : Int32) (dy dx : Int32) (kd : ClassId) (dv : List Value) (it : Addr) (ii : Int32) (h0 : Heap) (n0 : Nat) (v : Option Value) (h : Heap) (L : List Loc) : Prop := ∃ (co : Addr), ∃ (kc : ClassId), v = some (.int (1 : Int32)) ∧ Fr n0 L ∧ Keep h0 h [sx, da] ∧ Exa Z h sx sg1 ∧ Fld Z h sx sg1 "coder" "B" ZI ∧ Fld Z h sx sg1 "value" "[B" (.ref vx) ∧ h0.size ≤ co ∧ Arv Z h co kc .int mo [MI, (.int dx), MI, MI, MI, MI, MI, MI, MI] ZI ∧ Arv Z h da kd (.array .int) (9 : Int32) (List.set dv ii.toNatClampNeg (.ref co)) .null
theorem rmAd7 (l : Launch) (Z : State) (a0 : Array Value) (hw : HW a0 Z) (G : Gs) (ST : StartF Z G) (ws : List Jvm.Cond) (ta pa : Addr) (kp : ClassId) (sl sf : Int32) (pv : List Value) (na : Addr) (kn : ClassId) (nv : List Value) (sx vx : Addr) (kb : ClassId) (cx : Int32) (q1 w1 : Addr) (kq : ClassId) (cq : Int32) (q2 w2 : Addr) (k2 : ClassId) (c2 s0 ix : Int32) (da ba : Addr) (mo : Int32) (wa : Addr) (kw : ClassId) (ea : Addr) (yx mx : Int32) (dy dx : Int32) (kd : ClassId) (dv : List Value) (it : Addr) (ii : Int32) (h0 : Heap) (n0 : Nat) (X00 : Old Z n0 h0) (tE : Exa Z h0 ta sg0) (tP : Fld Z h0 ta sg0 sg8 sg5 (.ref pa)) (tS : Fld Z h0 ta sg0 "shift" "I" (.int sf)) (tV : Arv Z h0 pa kp (.object sg1) sl pv .null) (hsl : SLS sl sf) (tN : Fld Z h0 ta sg0 "numbers" "[I" (.ref na)) (nV : Arv Z h0 na kn .int sl nv ZI) (sE : Exa Z h0 sx sg1) (sC : Fld Z h0 sx sg1 "coder" "B" ZI) (sW : Fld Z h0 sx sg1 "value" "[B" (.ref vx)) (sA : Arv Z h0 vx kb .byte (1 : Int32) [(.int cx.toInt8.toInt32)] ZI) (sH : Fld Z h0 sx sg1 "hash" "I" ZI) (sZ : Fld Z h0 sx sg1 "hashIsZero" "Z" ZI) (sg : n0 ≤ sx) (hc : (¬ cx < 0 ∧ ¬ (255 : Int32) < cx)) (qE : Exa Z h0 q1 sg1) (qC : Fld Z h0 q1 sg1 "coder" "B" ZI) (qW : Fld Z h0 q1 sg1 "value" "[B" (.ref w1)) (qA : Arv Z h0 w1 kq .byte (1 : Int32) [(.int cq.toInt8.toInt32)] ZI) (rE : Exa Z h0 q2 sg1) (rC : Fld Z h0 q2 sg1 "coder" "B" ZI) (rW : Fld Z h0 q2 sg1 "value" "[B" (.ref w2)) (rA : Arv Z h0 w2 k2 .byte (1 : Int32) [(.int c2.toInt8.toInt32)] ZI) (nqs : q1 ≠ sx) (nrs : q2 ≠ sx) (hI : IXP cx sf sl s0 ix) (hq : pv.getD (s0).toNatClampNeg .null = .ref q1) (hr2 : pv.getD (ix).toNatClampNeg .null = .ref q2) (he : ¬ cq.toInt8.toInt32 = cx.toInt8.toInt32) (hf : c2.toInt8.toInt32 = cx.toInt8.toInt32) (hg2 : nv.getD (ix).toNatClampNeg ZI = .int (1 : Int32)) (tD : Fld Z h0 ta sg0 "days" "[[I" (.ref da)) (tM : Fld Z h0 ta sg0 "most" "I" (.int mo)) (tB : Fld Z h0 ta sg0 "outOfOrder" sg6 (.ref ba)) (bE : Exa Z h0 ba sg2) (bU : Fld Z h0 ba sg2 "wordsInUse" "I" ZI) (bW : Fld Z h0 ba sg2 "words" "[J" (.ref wa)) (bV : Arv Z h0 wa kw .long (1 : Int32) [(.long (0 : Int64))] (.long (0 : Int64))) (eE : Exa Z h0 ea sg3) (eY : Fld Z h0 ea sg3 "year" "I" (.int yx)) (eM : Fld Z h0 ea sg3 "month" "S" (.int mx)) (eD : Fld Z h0 ea sg3 "day" "S" (.int dy)) (hTD : TD yx mx dy dx) (dV : Arv Z h0 da kd (.array .int) (9 : Int32) dv .null) (iE : Exa Z h0 it sg4) (iF : Fld Z h0 it sg7 "ordinal" "I" (.int ii)) (hii : (¬ ii < 0 ∧ ii < (9 : Int32))) (hdr : DR dx) (hmo : Mo mo) (iO : it < Z.heap.size) (hdn : dv.getD ii.toNatClampNeg .null = .null) (hdl : dv.length = 9) (hOA : OvrA Z kd .int "[I") (gd : n0 ≤ da) :
  MF l Z ws mm39 prog_54_method_2_code 8 (some .boolean) (rk 4 1 9 56) #[(.ref ta), (.ref sx), (.ref ea), (.ref it)] h0 (QrmAd7 Z G ta pa kp sl sf pv na kn nv sx vx kb cx q1 w1 kq cq q2 w2 k2 c2 s0 ix da ba mo wa kw ea yx mx dy dx kd dv it ii h0 n0) := by
 refine MetFree.of_bodySF (plainFor_of_name pn_2) hisR ?_
 intro p e s m args below meth c s₁ Bd hml0 hP hK
 obtain ⟨rfl, hZ, hh⟩ := hP
 have hx := Bd.exec
 have B := Bd.bytes
 have hml : c.maxLocals = 8 := hml0
 have hown : s.vm.findClass sg0 = some m.cls := findClass_of_methodNamed Bd.named
 have X0 : Stand p l e (rk 4 1 9 56) s m #[(.ref ta), (.ref sx), (.ref ea), (.ref it)] below meth c s₁ [] 0 0 := Stand.of_body Bd
 have e0 : s₁.heap = h0 := by rw [← hh, Bd.state]; rfl
 have N0 := Fr.nil n0
 have Z0 := own_Z0 X00
 obtain ⟨TG, hTG, pre0⟩ := own_pre p e below s₁ (ef_rmAd0 m ta sx ea it )
 obtain ⟨cq10, q10, q10'⟩ := tE.cell
 obtain ⟨_, _, ⟨T11, L11, k11, n11⟩, -, X11, ⟨Lc11, hQ11, l11, y11, z11⟩, st11⟩ := X0.privateBack hx (y := mm10) hown (mvT hZ (w_178 hw)) (mvT hZ (w_179 hw)) (mvT hZ (own_selp (y := mm10) (w_102 hw) (w_180 hw) (w_179 hw) (by decide))) (Cond.privateMethod_at (mvP hZ (w_180 hw) (args := #[]))) (mvT hZ (w_181 hw)) (by decide) (backOf (W := 0) (rmN2b l Z a0 hw G ST [] ta pa _ sl sf _ na _ _ sx vx _ cx q1 w1 _ cq q2 w2 _ c2 s0 ix (1 : Int32) h0 n0 X00 tE tP tS tV hsl tN nV sE sC sW sA sH sZ sg hc qE qC qW qA rE rC rW rA nqs nrs hI hq hr2 he hf hg2) hZ (w_181 hw) (w_103 hw) (by decide) (by decide)) (g := (mkF m 2 #[xvr ta, xvr sx, xvr ea, xvr it, xun, xun, xun, xun] [xwr sx, xwr ta])) rfl (by rw [hml]; rfl) (Steps.refl _) (a := ta) (by rw [e0]; exact q10) q10' (argsL := [(.ref sx)]) (rest := []) (lenOf pd_8 rfl) rfl (Nat.le_of_eq rfl) (hb B d24_2) (fun _ _ => ⟨rfl, e0, (by decide : 0 + 0 ≤ _), (by decide : 0 + 0 ≤ _)⟩)
 dsimp only [Pt.U, Pt.locs, Pt.cells, Pt.slots] at X11 l11 y11 z11 st11 hQ11
 subst l11 y11 z11
 obtain ⟨hp11, e11⟩ : ∃ z, T11.heap = z := ⟨_, rfl⟩
 rw [e11] at hQ11
 obtain ⟨rfl, N11q, K11, p12, p13, p14⟩ := hQ11
 have N11 := Fr.app N0 N11q
 have f15 := (tE.keep K11)
 have f16 := (tB.keep K11 (ninS (Exa.ne f15 p12 (by decide)) nin0))
 obtain ⟨T17, X17, e17, st17⟩ := getF X11 hx hZ hown (host := "") (Or.inl (w_136 hw)) Via.refl e11 f16 (g := (mkF m 11 #[xvr ta, xvr sx, xvr ea, xvr it, xvi (1 : Int32), xvi (0 : Int32), xun, xun] [xwr ta])) rfl rfl (hb B d24_11)
 have f18 := (bE.keep K11)
 have f19 := (bU.keep K11 (ninS (Exa.ne f18 p12 (by decide)) nin0))
 have Ol20 : Old Z n0 hp11 := (X00.keep K11 (allS sg all0))
 obtain ⟨cq21, kq21, q21a, q21b, q21c⟩ := isOf hZ e17 f18
 obtain ⟨_, _, ⟨T22, L22, k22, n22⟩, -, X22, ⟨Lc22, hQ22, l22, y22, z22⟩, st22⟩ := X17.virtualBack hx (y := mm29) (z := mm29) hown (mvT hZ (w_206 hw)) (mvT hZ (w_207 hw)) (notFace_of_selects (args := #[]) (mvT hZ (w_209 hw))) (mvT hZ (w_209 hw)) (mvT hZ (w_208 hw)) (by decide) (backOf (W := 0) (rmA16 l Z a0 hw G ST [] ba hp11 n0 Ol20 f18 f19) hZ (w_210 hw) (w_116 hw) (by decide) (by decide)) q21a q21c (g := (mkF m 16 #[xvr ta, xvr sx, xvr ea, xvr it, xvi (1 : Int32), xvi (0 : Int32), xun, xun] [xwi (1 : Int32), xwr ba])) rfl (by rw [hml]; rfl) (Steps.refl _) (argsL := [(.int (1 : Int32))]) (rest := []) (lenOf pd_23 rfl) rfl (Nat.le_of_eq rfl) (hb B d24_16) (fun _ _ => ⟨rfl, e17, (by decide : 0 + 0 ≤ _), (by decide : 0 + 0 ≤ _)⟩)
 dsimp only [Pt.U, Pt.locs, Pt.cells, Pt.slots] at X22 l22 y22 z22 st22 hQ22
 subst l22 y22 z22
 obtain ⟨rfl, N22q, e22⟩ := hQ22
 have N22 := Fr.app N11 N22q
 have f23 := (tD.keep K11 (ninS (Exa.ne f15 p12 (by decide)) nin0))
 have f24 := (tM.keep K11 (ninS (Exa.ne f15 p12 (by decide)) nin0))
 have f25 := (dV.keep K11 (ninS (Ne.symm (Exa.neArv sE dV (w_10 hw))) nin0))
 have f26 := (iE.keep K11)
 have f27 := (iF.keep K11 (ninS (Old.ne X00 iO sg) nin0))
 obtain ⟨cq28, q28, q28'⟩ := f15.cell
 obtain ⟨_, _, ⟨T29, L29, k29, n29⟩, -, X29, ⟨Lc29, hQ29, l29, y29, z29⟩, st29⟩ := X22.privateBack hx (y := mm13) hown (mvT hZ (w_217 hw)) (mvT hZ (w_218 hw)) (mvT hZ (own_selp (y := mm13) (w_102 hw) (w_219 hw) (w_218 hw) (by decide))) (Cond.privateMethod_at (mvP hZ (w_219 hw) (args := #[]))) (mvT hZ (w_220 hw)) (by decide) (backOf (W := 0) (rmCn l Z a0 hw G ST [] ta da _ _ it ii mo hp11 n0 Ol20 f15 f23 f24 f25 f26 f27 hii hdn hdl hOA gd hmo) hZ (w_220 hw) (w_103 hw) (by decide) (by decide)) (g := (mkF m 24 #[xvr ta, xvr sx, xvr ea, xvr it, xvi (1 : Int32), xvi (0 : Int32), xun, xun] [xwr it, xwr ta])) rfl (by rw [hml]; rfl) (Steps.refl _) (a := ta) (by rw [e22]; exact q28) q28' (argsL := [(.ref it)]) (rest := []) (lenOf pd_24 rfl) rfl (Nat.le_of_eq rfl) (hb B d24_24) (fun _ _ => ⟨rfl, e22, (by decide : 0 + 1 ≤ _), (by decide : 0 + 9 ≤ _)⟩)
 dsimp only [Pt.U, Pt.locs, Pt.cells, Pt.slots] at X29 l29 y29 z29 st29 hQ29
 subst l29 y29 z29
 obtain ⟨hp29, e29⟩ : ∃ z, T29.heap = z := ⟨_, rfl⟩
 rw [e29] at hQ29
 obtain ⟨o30, o31, rfl, N29q, K29, p32, p33, p34⟩ := hQ29
 have N29 := Fr.app N22 N29q
 have f35 := ((eE.keep K11).keep K29)
 have f36 := (p12.keep K29)
 have f37 := ((eY.keep K11 (ninS (Exa.ne f35 f36 (by decide)) nin0)).keep K29 (ninS (Exa.neArv eE dV (w_89 hw)) nin0))
 have f38 := ((eM.keep K11 (ninS (Exa.ne f35 f36 (by decide)) nin0)).keep K29 (ninS (Exa.neArv eE dV (w_89 hw)) nin0))
 have f39 := ((eD.keep K11 (ninS (Exa.ne f35 f36 (by decide)) nin0)).keep K29 (ninS (Exa.neArv eE dV (w_89 hw)) nin0))
 have Ol40 : Old Z n0 hp29 := (Ol20.keep K29 (allS gd all0))
 obtain ⟨cq41, kq41, q41a, q41b, q41c⟩ := isOf hZ e29 f35
 obtain ⟨_, _, ⟨T42, L42, k42, n42⟩, -, X42, ⟨Lc42, hQ42, l42, y42, z42⟩, st42⟩ := X29.virtualBack hx (y := mm19) (z := mm19) hown (mvT hZ (w_236 hw)) (mvT hZ (w_237 hw)) (notFace_of_selects (args := #[]) (mvT hZ (w_239 hw))) (mvT hZ (w_239 hw)) (mvT hZ (w_238 hw)) (by decide) (backOf (W := 0) (rmTE l Z a0 hw G ST [] ea yx mx dy dx hp29 n0 Ol40 f35 f37 f38 f39 hTD) hZ (w_240 hw) (w_39 hw) (by decide) (by decide)) q41a q41c (g := (mkF m 30 #[xvr ta, xvr sx, xvr ea, xvr it, xvi (1 : Int32), xvi (0 : Int32), xvr o30, xun] [xwr ea])) rfl (by rw [hml]; rfl) (Steps.refl _) (argsL := []) (rest := []) (lenOf pd_12 rfl) rfl (Nat.le_of_eq rfl) (hb B d24_30) (fun _ _ => ⟨rfl, e29, (by decide : 1 + 0 ≤ _), (by decide : 9 + 0 ≤ _)⟩)
 dsimp only [Pt.U, Pt.locs, Pt.cells, Pt.slots] at X42 l42 y42 z42 st42 hQ42
 subst l42 y42 z42
 obtain ⟨hp42, e42⟩ : ∃ z, T42.heap = z := ⟨_, rfl⟩
 rw [e42] at hQ42
 obtain ⟨rfl, N42q, K42⟩ := hQ42
 have N42 := Fr.app N29 N42q
 have Ol43 : Old Z n0 hp42 := (Ol40.keep K42 all0)
 obtain ⟨_, _, ⟨T44, L44, k44, n44⟩, -, X44, ⟨Lc44, hQ44, l44, y44, z44⟩, st44⟩ := Jvm.LawKit.callS X42 hx (y := mm20) hown (mvT hZ (w_248 hw)) (mvT hZ (w_249 hw)) (mvT hZ (w_140 hw)) (mvT hZ (w_250 hw)) (by decide) (backOf (W := 0) (rmTI l Z a0 hw G ST [] dx hp42 n0 Ol43 ) hZ (w_250 hw) (w_140 hw) (by decide) (by decide)) (g := (mkF m 33 #[xvr ta, xvr sx, xvr ea, xvr it, xvi (1 : Int32), xvi (0 : Int32), xvr o30, xun] [xwj (dx.toInt64)])) rfl (by rw [hml]; rfl) (argsL := [(.long (dx.toInt64))]) (rest := []) (lenOf pd_25 rfl) rfl (Nat.le_of_eq rfl) (hb B d24_33) (fun _ _ => ⟨rfl, e42, (by decide : 1 + 0 ≤ _), (by decide : 9 + 0 ≤ _)⟩)
 dsimp only [Pt.U, Pt.locs, Pt.cells, Pt.slots] at X44 l44 y44 z44 st44 hQ44
 subst l44 y44 z44
 obtain ⟨rfl, N44q, e44⟩ := hQ44
 have N44 := Fr.app N42 N44q
 have f45 := (p33.keep K42 nin0)
 obtain ⟨cl46, Ar46, q46, S46, M46, H46, G46⟩ := id f45
 have in46 : ¬ ((1 : Int32) < 0 ∨ cl46.slots.size ≤ ((1 : Int32)).toNatClampNeg) := inb_of S46 ⟨by decide, (own_mo1 hmo)⟩
 obtain ⟨cl47, Ar47, q47, S47, M47, H47, G47⟩ := id f45
 have in47 : ¬ ((1 : Int32) < 0 ∨ cl47.slots.size ≤ ((1 : Int32)).toNatClampNeg) := inb_of S47 ⟨by decide, (own_mo1 hmo)⟩
 obtain ⟨T48, h48, X48, e48, W48, st48⟩ := stI X44 hx hZ e44 Ar47 (j := (1 : Int32)) in47 (g := (mkF m 54 #[xvr ta, xvr sx, xvr ea, xvr it, xvi (1 : Int32), xvi (0 : Int32), xvr o30, xvi dx] [xwi dx, xwi (1 : Int32), xwr o30])) rfl rfl (hb B d24_54)
 have V48 : Arv Z h48 o30 o31 .int mo [MI, (.int dx), MI, MI, MI, MI, MI, MI, MI] ZI := Arv.set Ar47 q47 S47 M47 H47 G47 rfl W48 1 rfl (Nat.le_of_ble_eq_true rfl)
 have N48 := Fr.snoc X48 N44 (ntr Z0 (ntr K11.1 p32))
 have f49 := ((f36.keep K42).wr W48)
 have f50 := (((p13.keep K29 (ninS (Exa.neArv sE dV (w_10 hw)) nin0)).keep K42 nin0).other W48 (Or.inl (onb sE.lt K11.1 p32)))
 have f51 := (((p14.keep K29 (ninS (Exa.neArv sE dV (w_10 hw)) nin0)).keep K42 nin0).other W48 (Or.inl (onb sE.lt K11.1 p32)))
 have f52 := ((p34.keep K42 nin0).other W48 (onb dV.lt K11.1 p32))
 obtain ⟨fs, hr, hrun, hended, hW, hsame⟩ := X48.leave (v := some (.int (1 : Int32))) (own_rv Bd.returns)
 refine ⟨_, _, hTG _ (pre0 _ ?_), hrun, hended, _, _, rfl, ?_, ⟨_, rfl⟩, hW, hsame.mono (by decide) (by decide)⟩
 ·refine y_aloadN X0 hx 1 (hb B d24_0) rfl rfl rfl <| y_aloadN X0 hx 2 (hb B d24_1) rfl rfl rfl ?_
  refine st11.trans ?_
  refine y_istore X11 hx 7 (hb B d24_5) (L' := #[xvr ta, xvr sx, xvr ea, xvr it, xvi (1 : Int32), xun, xun, xun]) rfl rfl <| y_iconst X11 hx (0 : Int32) 8 (hb B d24_7) rfl rfl <| y_istore X11 hx 10 (hb B d24_8) (L' := #[xvr ta, xvr sx, xvr ea, xvr it, xvi (1 : Int32), xvi (0 : Int32), xun, xun]) rfl rfl <| y_aloadN X11 hx 11 (hb B d24_10) rfl rfl rfl ?_
  refine st17 _ ?_
  refine y_iload X17 hx 16 (hb B d24_14) rfl rfl ?_
  refine st22.trans ?_
  refine y_ifNo X22 hx 22 (hb B d24_19) (XT.i0_ne_f (by decide)) rfl <| y_aloadN X22 hx 23 (hb B d24_22) rfl rfl rfl <| y_aloadN X22 hx 24 (hb B d24_23) rfl rfl rfl ?_
  refine st29.trans ?_
  refine y_astore X29 hx 29 (hb B d24_27) (L' := #[xvr ta, xvr sx, xvr ea, xvr it, xvi (1 : Int32), xvi (0 : Int32), xvr o30, xun]) rfl rfl rfl <| y_aloadN X29 hx 30 (hb B d24_29) rfl rfl rfl ?_
  refine st42.trans ?_
  refine st44 _ ?_
  refine y_istore X44 hx 38 (hb B d24_36) (L' := #[xvr ta, xvr sx, xvr ea, xvr it, xvi (1 : Int32), xvi (0 : Int32), xvr o30, xvi dx]) rfl rfl <| y_iload X44 hx 40 (hb B d24_38) rfl rfl <| y_aload X44 hx 42 (hb B d24_40) rfl rfl rfl <| y_iload X44 hx 44 (hb B d24_42) rfl rfl ?_
  refine X44.iaload hx (j := (1 : Int32)) (v := (.int (-2147483648 : Int32))) (by rw [e44]; exact Ar46.1) (State.isArrayOf_alike hZ.alike Ar46.2.1) Ar46.2.2 in46 (Has.at H46 in46 rfl) (g := (mkF m 44 #[xvr ta, xvr sx, xvr ea, xvr it, xvi (1 : Int32), xvi (0 : Int32), xvr o30, xvi dx] [xwi (1 : Int32), xwr o30, xwi dx])) rfl rfl (hb B d24_44) _ ?_
  refine y_icmpNo X44 hx 48 (hb B d24_45) (XT.ii_le_f (own_min hdr)) rfl <| y_aload X44 hx 50 (hb B d24_48) rfl rfl rfl <| y_iload X44 hx 52 (hb B d24_50) rfl rfl <| y_iload X44 hx 54 (hb B d24_52) rfl rfl ?_
  refine st48 _ ?_
  refine y_goto X48 hx 83 (hb B d24_55) rfl rfl <| y_iload X48 hx 85 (hb B d24_83) rfl rfl <| y_ifNo X48 hx 88 (hb B d24_85) (XT.i0_ne_f (by decide)) rfl <| y_iconst X48 hx (1 : Int32) 89 (hb B d24_88) rfl rfl <| y_goto X48 hx 93 (hb B d24_89) rfl rfl ?_
  show Sx p e below T48 m 93 #[xvr ta, xvr sx, xvr ea, xvr it, xvi (1 : Int32), xvi (0 : Int32), xvr o30, xvi dx] [xwi (1 : Int32)] _
  exact retN X48 hx (t := .boolean) Bd.returns (by simp) (hb B d24_93) (hr)
 ·show QrmAd7 Z G ta pa kp sl sf pv na kn nv sx vx kb cx q1 w1 kq cq q2 w2 k2 c2 s0 ix da ba mo wa kw ea yx mx dy dx kd dv it ii h0 n0 _ T48.heap _
  rw [e48]
  exact ⟨o30, o31, rfl, N48, (((((Keep.refl h0 [sx, da]).trans K11 (allS (oi 0 rfl) all0)).trans K29 (allS (oi 1 rfl) all0)).trans K42 all0).wr W48 (Or.inr (ntr K11.1 p32))), f49, f50, f51, (ntr K11.1 p32), V48, f52⟩
theorem ef_rm0 (m : MethodId) (x0 x1 : Int32) (x2 x3 x4 : Int32)  : entryFrame m #[(.int x0), (.int x1), (.int x2), (.int x3), (.int x4)] maxLocals = mkF m 0 #[.val (.int x0), .val (.int x1), .val (.int x2), .val (.int x3), .val (.int x4), .unset, .unset, .unset, .unset, .unset, .unset, .unset, .unset, .unset, .unset, .unset, .unset, .unset, .unset, .unset, .unset, .unset, .unset, .unset, .unset, .unset, .unset, .unset, .unset, .unset, .unset, .unset, .unset, .unset, .unset, .unset, .unset] [] := by first | (simp [entryFrame, mkF, argsToLocals, Value.category, maxLocals]; done) | rfl
theorem pd_20 : parseMethodDescriptor "(C)Ljava/lang/String;" = some ⟨[.char], some (.object "java/lang/String")⟩ := by decide +kernel
theorem pd_21 : parseMethodDescriptor "(I)Lcom/example/planwright/planwright/model/PayItem;" = some ⟨[.int], some (.object "com/example/planwright/planwright/model/PayItem")⟩ := by decide +kernel
theorem pd_22 : parseMethodDescriptor "(J)Ljava/time/LocalDate;" = some ⟨[.long], some (.object "java/time/LocalDate")⟩ := by decide +kernel
theorem pd_26 : parseMethodDescriptor "(Ljava/lang/String;Ljava/time/LocalDate;Lcom/example/planwright/planwright/model/PayItem;)Z" = some ⟨[(.object "java/lang/String"), (.object "java/time/LocalDate"), (.object "com/example/planwright/planwright/model/PayItem")], some .boolean⟩ := by decide +kernel
def Qrm0 (Z : State) (G : Gs) (p0 p1 : Int32) (p2 p3 p4 : Int32) (h0 : Heap) (n0 : Nat) (v : Option Value) (h : Heap) (L : List Loc) : Prop := v = some (.int (1 : Int32)) ∧ Fr n0 L ∧ Keep h0 h []
theorem rm0 (l : Launch) (Z : State) (a0 : Array Value) (hw : HW a0 Z) (G : Gs) (ST : StartF Z G) (ws : List Jvm.Cond) (p0 p1 : Int32) (p2 p3 p4 : Int32) (h0 : Heap) (n0 : Nat) (X00 : Old Z n0 h0) :
  MetFree l x (head1 (Jvm.Cond.code x code maxLocals ret :: ws) room_1) (fun a U => a = #[(.int p0), (.int p1), (.int p2), (.int p3), (.int p4)] ∧ Z.Warmed39 U.vm ∧ U.heap = h0) (fun _ _ _ _ _ => True) (fun _ U o U' => ∃ v L, o = .returned v ∧ Qrm0 Z G p0 p1 p2 p3 p4 h0 n0 v U'.heap L ∧ FrameEnd U o U' L 18 135) := by
 refine MetFree.of_bodySF (plainFor_of_name pn_10) hisR ?_
 intro p e s m args below meth c s₁ Bd hml0 hP hK
 obtain ⟨rfl, hZ, hh⟩ := hP
 have hx := Bd.exec
 have B := Bd.bytes
 have hml : c.maxLocals = 37 := hml0
 have hown : s.vm.findClass sg10 = some m.cls := findClass_of_methodNamed Bd.named
 have X0 : Stand p l e room_1 s m #[(.int p0), (.int p1), (.int p2), (.int p3), (.int p4)] below meth c s₁ [] 0 0 := Stand.of_body Bd
 have e0 : s₁.heap = h0 := by rw [← hh, Bd.state]; rfl
 have N0 := Fr.nil n0
 have Z0 := own_Z0 X00
 obtain ⟨TG, hTG, pre0⟩ := own_pre p e below s₁ (ef_rm0 m p0 p1 p2 p3 p4 )
 obtain ⟨ca, e_ca⟩ : ∃ z, z = (p0 &&& (255 : Int32)) := ⟨_, rfl⟩
 have hca : (¬ ca < 0 ∧ ¬ (255 : Int32) < ca) := by rw [e_ca]; exact own_c255 _
 obtain ⟨cb, e_cb⟩ : ∃ z, z = (((p0.toUInt32 >>> ((8 : Int32) &&& 31).toUInt32).toInt32) &&& (255 : Int32)) := ⟨_, rfl⟩
 have hcb : (¬ cb < 0 ∧ ¬ (255 : Int32) < cb) := by rw [e_cb]; exact own_c255 _
 have c10 : ∀ t, Sx p e below s₁ m 25 #[xvi p0, xvi p1, xvi p2, xvi p3, xvi p4, xvi ca, xvi cb, xun, xun, xun, xun, xun, xun, xun, xun, xun, xun, xun, xun, xun, xun, xun, xun, xun, xun, xun, xun, xun, xun, xun, xun, xun, xun, xun, xun, xun, xun] [xwi (((p0.toUInt32 >>> ((16 : Int32) &&& 31).toUInt32).toInt32) &&& (1 : Int32))] t → TG t := fun t k => pre0 t (by
  refine y_iloadN X0 hx 1 (hb B at_0) rfl rfl <| y_sipush X0 hx (255 : Int32) 4 (hb B at_1) rfl rfl <| y_iand X0 hx 5 (hb B at_4) rfl ?_
  refine XS.i2c X0.here hx rfl (hb B at_5) rfl ?_
  show Sx p e below s₁ m 6 #[xvi p0, xvi p1, xvi p2, xvi p3, xvi p4, xun, xun, xun, xun, xun, xun, xun, xun, xun, xun, xun, xun, xun, xun, xun, xun, xun, xun, xun, xun, xun, xun, xun, xun, xun, xun, xun, xun, xun, xun, xun, xun] [xwi ((p0 &&& (255 : Int32)).toUInt32.toUInt16.toUInt32.toInt32)] _
  rw [own_i2c p0]
  rw [← e_ca]
  refine y_istore X0 hx 8 (hb B at_6) (L' := #[xvi p0, xvi p1, xvi p2, xvi p3, xvi p4, xvi ca, xun, xun, xun, xun, xun, xun, xun, xun, xun, xun, xun, xun, xun, xun, xun, xun, xun, xun, xun, xun, xun, xun, xun, xun, xun, xun, xun, xun, xun, xun, xun]) rfl rfl <| y_iloadN X0 hx 9 (hb B at_8) rfl rfl <| y_bipush X0 hx (8 : Int32) 11 (hb B at_9) rfl rfl ?_
  refine XS.iushr X0.here hx rfl (hb B at_11) rfl ?_
  refine y_sipush X0 hx (255 : Int32) 15 (hb B at_12) rfl rfl <| y_iand X0 hx 16 (hb B at_15) rfl ?_
  refine XS.i2c X0.here hx rfl (hb B at_16) rfl ?_
  show Sx p e below s₁ m 17 #[xvi p0, xvi p1, xvi p2, xvi p3, xvi p4, xvi ca, xun, xun, xun, xun, xun, xun, xun, xun, xun, xun, xun, xun, xun, xun, xun, xun, xun, xun, xun, xun, xun, xun, xun, xun, xun, xun, xun, xun, xun, xun, xun] [xwi ((((p0.toUInt32 >>> ((8 : Int32) &&& 31).toUInt32).toInt32) &&& (255 : Int32)).toUInt32.toUInt16.toUInt32.toInt32)] _
  rw [own_i2c ((p0.toUInt32 >>> ((8 : Int32) &&& 31).toUInt32).toInt32)]
  rw [← e_cb]
  refine y_istore X0 hx 19 (hb B at_17) (L' := #[xvi p0, xvi p1, xvi p2, xvi p3, xvi p4, xvi ca, xvi cb, xun, xun, xun, xun, xun, xun, xun, xun, xun, xun, xun, xun, xun, xun, xun, xun, xun, xun, xun, xun, xun, xun, xun, xun, xun, xun, xun, xun, xun, xun]) rfl rfl <| y_iloadN X0 hx 20 (hb B at_19) rfl rfl <| y_bipush X0 hx (16 : Int32) 22 (hb B at_20) rfl rfl ?_
  refine XS.iushr X0.here hx rfl (hb B at_22) rfl ?_
  refine y_iconst X0 hx (1 : Int32) 24 (hb B at_23) rfl rfl <| y_iand X0 hx 25 (hb B at_24) rfl ?_
  exact k)
 have j11 : ∃ (T' : State) (h' : Heap) (locs' : List Loc) (cc0 : Int32), Stand p l e room_1 s m #[(.int p0), (.int p1), (.int p2), (.int p3), (.int p4)] below meth c T' locs' 0 0 ∧ T'.heap = h' ∧ Fr n0 locs' ∧ Keep h0 h' [] ∧ (cc0 = ca ∨ cc0 = cb) ∧ ∀ t, Sx p e below T' m 35 #[xvi p0, xvi p1, xvi p2, xvi p3, xvi p4, xvi ca, xvi cb, xun, xun, xun, xun, xun, xun, xun, xun, xun, xun, xun, xun, xun, xun, xun, xun, xun, xun, xun, xun, xun, xun, xun, xun, xun, xun, xun, xun, xun, xun] [xwi cc0] t → TG t := by
  by_cases hc12 : (((p0.toUInt32 >>> ((16 : Int32) &&& 31).toUInt32).toInt32) &&& (1 : Int32)) = (0 : Int32)
  ·refine ⟨s₁, h0, _, ca, own_wid X0 (by decide : 0 ≤ 0) (by decide : 0 ≤ 0), e0, N0, (Keep.refl h0 []), (Or.inl rfl), fun t k => c10 t ?_⟩
   refine y_ifYes X0 hx 33 (hb B at_25) (XT.i0_eq_t hc12) rfl rfl <| y_iload X0 hx 35 (hb B at_33) rfl rfl ?_
   exact k
  ·refine ⟨s₁, h0, _, cb, own_wid X0 (by decide : 0 ≤ 0) (by decide : 0 ≤ 0), e0, N0, (Keep.refl h0 []), (Or.inr rfl), fun t k => c10 t ?_⟩
   refine y_ifNo X0 hx 28 (hb B at_25) (XT.i0_eq_f hc12) rfl <| y_iload X0 hx 30 (hb B at_28) rfl rfl <| y_goto X0 hx 35 (hb B at_30) rfl rfl ?_
   exact k
 obtain ⟨T11, h11, locs11, o13, X11, e11, N11, K11, p14, c11⟩ := j11
 have hc0 := own_cor p14 hca hcb
 have hv0 := p14
 have c15 : ∀ t, Sx p e below T11 m 43 #[xvi p0, xvi p1, xvi p2, xvi p3, xvi p4, xvi ca, xvi cb, xvi o13, xun, xun, xun, xun, xun, xun, xun, xun, xun, xun, xun, xun, xun, xun, xun, xun, xun, xun, xun, xun, xun, xun, xun, xun, xun, xun, xun, xun, xun] [xwi (((p0.toUInt32 >>> ((17 : Int32) &&& 31).toUInt32).toInt32) &&& (1 : Int32))] t → TG t := fun t k => c11 t (by
  refine y_istore X11 hx 37 (hb B at_35) (L' := #[xvi p0, xvi p1, xvi p2, xvi p3, xvi p4, xvi ca, xvi cb, xvi o13, xun, xun, xun, xun, xun, xun, xun, xun, xun, xun, xun, xun, xun, xun, xun, xun, xun, xun, xun, xun, xun, xun, xun, xun, xun, xun, xun, xun, xun]) rfl rfl <| y_iloadN X11 hx 38 (hb B at_37) rfl rfl <| y_bipush X11 hx (17 : Int32) 40 (hb B at_38) rfl rfl ?_
  refine XS.iushr X11.here hx rfl (hb B at_40) rfl ?_
  refine y_iconst X11 hx (1 : Int32) 42 (hb B at_41) rfl rfl <| y_iand X11 hx 43 (hb B at_42) rfl ?_
  exact k)
 have j16 : ∃ (T' : State) (h' : Heap) (locs' : List Loc) (cc1 : Int32), Stand p l e room_1 s m #[(.int p0), (.int p1), (.int p2), (.int p3), (.int p4)] below meth c T' locs' 0 0 ∧ T'.heap = h' ∧ Fr n0 locs' ∧ Keep h11 h' [] ∧ (cc1 = ca ∨ cc1 = cb) ∧ ∀ t, Sx p e below T' m 53 #[xvi p0, xvi p1, xvi p2, xvi p3, xvi p4, xvi ca, xvi cb, xvi o13, xun, xun, xun, xun, xun, xun, xun, xun, xun, xun, xun, xun, xun, xun, xun, xun, xun, xun, xun, xun, xun, xun, xun, xun, xun, xun, xun, xun, xun] [xwi cc1] t → TG t := by
  by_cases hc17 : (((p0.toUInt32 >>> ((17 : Int32) &&& 31).toUInt32).toInt32) &&& (1 : Int32)) = (0 : Int32)
  ·refine ⟨T11, h11, _, ca, own_wid X11 (by decide : 0 ≤ 0) (by decide : 0 ≤ 0), e11, N11, (Keep.refl h11 []), (Or.inl rfl), fun t k => c15 t ?_⟩
   refine y_ifYes X11 hx 51 (hb B at_43) (XT.i0_eq_t hc17) rfl rfl <| y_iload X11 hx 53 (hb B at_51) rfl rfl ?_
   exact k
  ·refine ⟨T11, h11, _, cb, own_wid X11 (by decide : 0 ≤ 0) (by decide : 0 ≤ 0), e11, N11, (Keep.refl h11 []), (Or.inr rfl), fun t k => c15 t ?_⟩
   refine y_ifNo X11 hx 46 (hb B at_43) (XT.i0_eq_f hc17) rfl <| y_iload X11 hx 48 (hb B at_46) rfl rfl <| y_goto X11 hx 53 (hb B at_48) rfl rfl ?_
   exact k
 obtain ⟨T16, h16, locs16, o18, X16, e16, N16, K16, p19, c16⟩ := j16
 have hc1 := own_cor p19 hca hcb
 have hv1 := p19
 have c20 : ∀ t, Sx p e below T16 m 61 #[xvi p0, xvi p1, xvi p2, xvi p3, xvi p4, xvi ca, xvi cb, xvi o13, xvi o18, xun, xun, xun, xun, xun, xun, xun, xun, xun, xun, xun, xun, xun, xun, xun, xun, xun, xun, xun, xun, xun, xun, xun, xun, xun, xun, xun, xun] [xwi (((p0.toUInt32 >>> ((18 : Int32) &&& 31).toUInt32).toInt32) &&& (1 : Int32))] t → TG t := fun t k => c16 t (by
  refine y_istore X16 hx 55 (hb B at_53) (L' := #[xvi p0, xvi p1, xvi p2, xvi p3, xvi p4, xvi ca, xvi cb, xvi o13, xvi o18, xun, xun, xun, xun, xun, xun, xun, xun, xun, xun, xun, xun, xun, xun, xun, xun, xun, xun, xun, xun, xun, xun, xun, xun, xun, xun, xun, xun]) rfl rfl <| y_iloadN X16 hx 56 (hb B at_55) rfl rfl <| y_bipush X16 hx (18 : Int32) 58 (hb B at_56) rfl rfl ?_
  refine XS.iushr X16.here hx rfl (hb B at_58) rfl ?_
  refine y_iconst X16 hx (1 : Int32) 60 (hb B at_59) rfl rfl <| y_iand X16 hx 61 (hb B at_60) rfl ?_
  exact k)
 have j21 : ∃ (T' : State) (h' : Heap) (locs' : List Loc) (cc2 : Int32), Stand p l e room_1 s m #[(.int p0), (.int p1), (.int p2), (.int p3), (.int p4)] below meth c T' locs' 0 0 ∧ T'.heap = h' ∧ Fr n0 locs' ∧ Keep h16 h' [] ∧ (cc2 = ca ∨ cc2 = cb) ∧ ∀ t, Sx p e below T' m 71 #[xvi p0, xvi p1, xvi p2, xvi p3, xvi p4, xvi ca, xvi cb, xvi o13, xvi o18, xun, xun, xun, xun, xun, xun, xun, xun, xun, xun, xun, xun, xun, xun, xun, xun, xun, xun, xun, xun, xun, xun, xun, xun, xun, xun, xun, xun] [xwi cc2] t → TG t := by
  by_cases hc22 : (((p0.toUInt32 >>> ((18 : Int32) &&& 31).toUInt32).toInt32) &&& (1 : Int32)) = (0 : Int32)
  ·refine ⟨T16, h16, _, ca, own_wid X16 (by decide : 0 ≤ 0) (by decide : 0 ≤ 0), e16, N16, (Keep.refl h16 []), (Or.inl rfl), fun t k => c20 t ?_⟩
   refine y_ifYes X16 hx 69 (hb B at_61) (XT.i0_eq_t hc22) rfl rfl <| y_iload X16 hx 71 (hb B at_69) rfl rfl ?_
   exact k
  ·refine ⟨T16, h16, _, cb, own_wid X16 (by decide : 0 ≤ 0) (by decide : 0 ≤ 0), e16, N16, (Keep.refl h16 []), (Or.inr rfl), fun t k => c20 t ?_⟩
   refine y_ifNo X16 hx 64 (hb B at_61) (XT.i0_eq_f hc22) rfl <| y_iload X16 hx 66 (hb B at_64) rfl rfl <| y_goto X16 hx 71 (hb B at_66) rfl rfl ?_
   exact k
 obtain ⟨T21, h21, locs21, o23, X21, e21, N21, K21, p24, c21⟩ := j21
 have hc2 := own_cor p24 hca hcb
 have hv2 := p24
 have Ol25 : Old Z n0 h21 := (((X00.keep K11 all0).keep K16 all0).keep K21 all0)
 obtain ⟨_, _, ⟨T26, L26, k26, n26⟩, -, X26, ⟨Lc26, hQ26, l26, y26, z26⟩, st26⟩ := Jvm.LawKit.callS X21 hx (y := mm3) hown (mvT hZ (w_0 hw)) (mvT hZ (w_1 hw)) (mvT hZ (w_2 hw)) (mvT hZ (w_3 hw)) (by decide) (backOf (W := 0) (rmVO l Z a0 hw G ST [] o13 h21 n0 Ol25 hc0.2) hZ (w_3 hw) (w_2 hw) (by decide) (by decide)) (g := (mkF m 75 #[xvi p0, xvi p1, xvi p2, xvi p3, xvi p4, xvi ca, xvi cb, xvi o13, xvi o18, xvi o23, xun, xun, xun, xun, xun, xun, xun, xun, xun, xun, xun, xun, xun, xun, xun, xun, xun, xun, xun, xun, xun, xun, xun, xun, xun, xun, xun] [xwi o13])) rfl (by rw [hml]; rfl) (argsL := [(.int o13)]) (rest := []) (lenOf pd_20 rfl) rfl (Nat.le_of_eq rfl) (hb B at_75) (fun _ _ => ⟨rfl, e21, (by decide : 0 + 2 ≤ _), (by decide : 0 + 5 ≤ _)⟩)
 dsimp only [Pt.U, Pt.locs, Pt.cells, Pt.slots] at X26 l26 y26 z26 st26 hQ26
 subst l26 y26 z26
 obtain ⟨hp26, e26⟩ : ∃ z, T26.heap = z := ⟨_, rfl⟩
 rw [e26] at hQ26
 obtain ⟨o27, o28, o29, rfl, N26q, K26, p30, p31, p32, p33, p34, p35, p36, p37⟩ := hQ26
 have N26 := Fr.app N21 N26q
 have Ol38 : Old Z n0 hp26 := (Ol25.keep K26 all0)
 obtain ⟨_, _, ⟨T39, L39, k39, n39⟩, -, X39, ⟨Lc39, hQ39, l39, y39, z39⟩, st39⟩ := Jvm.LawKit.callS X26 hx (y := mm3) hown (mvT hZ (w_0 hw)) (mvT hZ (w_1 hw)) (mvT hZ (w_2 hw)) (mvT hZ (w_3 hw)) (by decide) (backOf (W := 0) (rmVO l Z a0 hw G ST [] o18 hp26 n0 Ol38 hc1.2) hZ (w_3 hw) (w_2 hw) (by decide) (by decide)) (g := (mkF m 82 #[xvi p0, xvi p1, xvi p2, xvi p3, xvi p4, xvi ca, xvi cb, xvi o13, xvi o18, xvi o23, xvr o27, xun, xun, xun, xun, xun, xun, xun, xun, xun, xun, xun, xun, xun, xun, xun, xun, xun, xun, xun, xun, xun, xun, xun, xun, xun, xun] [xwi o18])) rfl (by rw [hml]; rfl) (argsL := [(.int o18)]) (rest := []) (lenOf pd_20 rfl) rfl (Nat.le_of_eq rfl) (hb B at_82) (fun _ _ => ⟨rfl, e26, (by decide : 2 + 2 ≤ _), (by decide : 5 + 5 ≤ _)⟩)
 dsimp only [Pt.U, Pt.locs, Pt.cells, Pt.slots] at X39 l39 y39 z39 st39 hQ39
 subst l39 y39 z39
 obtain ⟨hp39, e39⟩ : ∃ z, T39.heap = z := ⟨_, rfl⟩
 rw [e39] at hQ39
 obtain ⟨o40, o41, o42, rfl, N39q, K39, p43, p44, p45, p46, p47, p48, p49, p50⟩ := hQ39
 have N39 := Fr.app N26 N39q
 have Ol51 : Old Z n0 hp39 := (Ol38.keep K39 all0)
 obtain ⟨_, _, ⟨T52, L52, k52, n52⟩, -, X52, ⟨Lc52, hQ52, l52, y52, z52⟩, st52⟩ := Jvm.LawKit.callS X39 hx (y := mm3) hown (mvT hZ (w_0 hw)) (mvT hZ (w_1 hw)) (mvT hZ (w_2 hw)) (mvT hZ (w_3 hw)) (by decide) (backOf (W := 0) (rmVO l Z a0 hw G ST [] o23 hp39 n0 Ol51 hc2.2) hZ (w_3 hw) (w_2 hw) (by decide) (by decide)) (g := (mkF m 89 #[xvi p0, xvi p1, xvi p2, xvi p3, xvi p4, xvi ca, xvi cb, xvi o13, xvi o18, xvi o23, xvr o27, xvr o40, xun, xun, xun, xun, xun, xun, xun, xun, xun, xun, xun, xun, xun, xun, xun, xun, xun, xun, xun, xun, xun, xun, xun, xun, xun] [xwi o23])) rfl (by rw [hml]; rfl) (argsL := [(.int o23)]) (rest := []) (lenOf pd_20 rfl) rfl (Nat.le_of_eq rfl) (hb B at_89) (fun _ _ => ⟨rfl, e39, (by decide : 4 + 2 ≤ _), (by decide : 10 + 5 ≤ _)⟩)
 dsimp only [Pt.U, Pt.locs, Pt.cells, Pt.slots] at X52 l52 y52 z52 st52 hQ52
 subst l52 y52 z52
 obtain ⟨hp52, e52⟩ : ∃ z, T52.heap = z := ⟨_, rfl⟩
 rw [e52] at hQ52
 obtain ⟨o53, o54, o55, rfl, N52q, K52, p56, p57, p58, p59, p60, p61, p62, p63⟩ := hQ52
 have N52 := Fr.app N39 N52q
 obtain ⟨ii0, e_ii0⟩ : ∃ z, z = ((p1 &&& (15 : Int32)) % (9 : Int32)) := ⟨_, rfl⟩
 have hi0 := own_rem9 e_ii0
 obtain ⟨ii1, e_ii1⟩ : ∃ z, z = ((((p1.toUInt32 >>> ((4 : Int32) &&& 31).toUInt32).toInt32) &&& (15 : Int32)) % (9 : Int32)) := ⟨_, rfl⟩
 have hi1 := own_rem9 e_ii1
 obtain ⟨ii2, e_ii2⟩ : ∃ z, z = ((((p1.toUInt32 >>> ((8 : Int32) &&& 31).toUInt32).toInt32) &&& (15 : Int32)) % (9 : Int32)) := ⟨_, rfl⟩
 have hi2 := own_rem9 e_ii2
 have Ol64 : Old Z n0 hp52 := (Ol51.keep K52 all0)
 obtain ⟨_, _, ⟨T65, L65, k65, n65⟩, -, X65, ⟨Lc65, hQ65, l65, y65, z65⟩, st65⟩ := Jvm.LawKit.callS X52 hx (y := mm32) hown (mvT hZ (w_26 hw)) (mvT hZ (w_27 hw)) (mvT hZ (w_28 hw)) (mvT hZ (w_29 hw)) (by decide) (backOf (W := 0) (rmIt l Z a0 hw G ST [] ii0 hp52 n0 Ol64 hi0) hZ (w_29 hw) (w_28 hw) (by decide) (by decide)) (g := (mkF m 128 #[xvi p0, xvi p1, xvi p2, xvi p3, xvi p4, xvi ca, xvi cb, xvi o13, xvi o18, xvi o23, xvr o27, xvr o40, xvr o53, xvi ii0, xvi ii1, xvi ii2, xun, xun, xun, xun, xun, xun, xun, xun, xun, xun, xun, xun, xun, xun, xun, xun, xun, xun, xun, xun, xun] [xwi ii0])) rfl (by rw [hml]; rfl) (argsL := [(.int ii0)]) (rest := []) (lenOf pd_21 rfl) rfl (Nat.le_of_eq rfl) (hb B at_128) (fun _ _ => ⟨rfl, e52, (by decide : 6 + 0 ≤ _), (by decide : 15 + 0 ≤ _)⟩)
 dsimp only [Pt.U, Pt.locs, Pt.cells, Pt.slots] at X65 l65 y65 z65 st65 hQ65
 subst l65 y65 z65
 obtain ⟨hp65, e65⟩ : ∃ z, T65.heap = z := ⟨_, rfl⟩
 rw [e65] at hQ65
 obtain ⟨o66, rfl, N65q, K65, p67, p68, p69⟩ := hQ65
 have N65 := Fr.app N52 N65q
 have Ol70 : Old Z n0 hp65 := (Ol64.keep K65 all0)
 obtain ⟨_, _, ⟨T71, L71, k71, n71⟩, -, X71, ⟨Lc71, hQ71, l71, y71, z71⟩, st71⟩ := Jvm.LawKit.callS X65 hx (y := mm32) hown (mvT hZ (w_26 hw)) (mvT hZ (w_27 hw)) (mvT hZ (w_28 hw)) (mvT hZ (w_29 hw)) (by decide) (backOf (W := 0) (rmIt l Z a0 hw G ST [] ii1 hp65 n0 Ol70 hi1) hZ (w_29 hw) (w_28 hw) (by decide) (by decide)) (g := (mkF m 135 #[xvi p0, xvi p1, xvi p2, xvi p3, xvi p4, xvi ca, xvi cb, xvi o13, xvi o18, xvi o23, xvr o27, xvr o40, xvr o53, xvi ii0, xvi ii1, xvi ii2, xvr o66, xun, xun, xun, xun, xun, xun, xun, xun, xun, xun, xun, xun, xun, xun, xun, xun, xun, xun, xun, xun] [xwi ii1])) rfl (by rw [hml]; rfl) (argsL := [(.int ii1)]) (rest := []) (lenOf pd_21 rfl) rfl (Nat.le_of_eq rfl) (hb B at_135) (fun _ _ => ⟨rfl, e65, (by decide : 6 + 0 ≤ _), (by decide : 15 + 0 ≤ _)⟩)
 dsimp only [Pt.U, Pt.locs, Pt.cells, Pt.slots] at X71 l71 y71 z71 st71 hQ71
 subst l71 y71 z71
 obtain ⟨hp71, e71⟩ : ∃ z, T71.heap = z := ⟨_, rfl⟩
 rw [e71] at hQ71
 obtain ⟨o72, rfl, N71q, K71, p73, p74, p75⟩ := hQ71
 have N71 := Fr.app N65 N71q
 have Ol76 : Old Z n0 hp71 := (Ol70.keep K71 all0)
 obtain ⟨_, _, ⟨T77, L77, k77, n77⟩, -, X77, ⟨Lc77, hQ77, l77, y77, z77⟩, st77⟩ := Jvm.LawKit.callS X71 hx (y := mm32) hown (mvT hZ (w_26 hw)) (mvT hZ (w_27 hw)) (mvT hZ (w_28 hw)) (mvT hZ (w_29 hw)) (by decide) (backOf (W := 0) (rmIt l Z a0 hw G ST [] ii2 hp71 n0 Ol76 hi2) hZ (w_29 hw) (w_28 hw) (by decide) (by decide)) (g := (mkF m 142 #[xvi p0, xvi p1, xvi p2, xvi p3, xvi p4, xvi ca, xvi cb, xvi o13, xvi o18, xvi o23, xvr o27, xvr o40, xvr o53, xvi ii0, xvi ii1, xvi ii2, xvr o66, xvr o72, xun, xun, xun, xun, xun, xun, xun, xun, xun, xun, xun, xun, xun, xun, xun, xun, xun, xun, xun] [xwi ii2])) rfl (by rw [hml]; rfl) (argsL := [(.int ii2)]) (rest := []) (lenOf pd_21 rfl) rfl (Nat.le_of_eq rfl) (hb B at_142) (fun _ _ => ⟨rfl, e71, (by decide : 6 + 0 ≤ _), (by decide : 15 + 0 ≤ _)⟩)
 dsimp only [Pt.U, Pt.locs, Pt.cells, Pt.slots] at X77 l77 y77 z77 st77 hQ77
 subst l77 y77 z77
 obtain ⟨hp77, e77⟩ : ∃ z, T77.heap = z := ⟨_, rfl⟩
 rw [e77] at hQ77
 obtain ⟨o78, rfl, N77q, K77, p79, p80, p81⟩ := hQ77
 have N77 := Fr.app N71 N77q
 obtain ⟨bb, e_bb⟩ : ∃ z, z = ((p3 &&& (2097151 : Int32)) - (1048576 : Int32)) := ⟨_, rfl⟩
 obtain ⟨dd0, e_dd0⟩ : ∃ z, z = (bb + (p2 &&& (7 : Int32))) := ⟨_, rfl⟩
 have hr0 := own_dr e_bb e_dd0
 obtain ⟨dd1, e_dd1⟩ : ∃ z, z = (bb + (((p2.toUInt32 >>> ((3 : Int32) &&& 31).toUInt32).toInt32) &&& (7 : Int32))) := ⟨_, rfl⟩
 have hr1 := own_dr e_bb e_dd1
 obtain ⟨dd2, e_dd2⟩ : ∃ z, z = (bb + (((p2.toUInt32 >>> ((6 : Int32) &&& 31).toUInt32).toInt32) &&& (7 : Int32))) := ⟨_, rfl⟩
 have hr2 := own_dr e_bb e_dd2
 have Ol82 : Old Z n0 hp77 := (Ol76.keep K77 all0)
 obtain ⟨_, _, ⟨T83, L83, k83, n83⟩, -, X83, ⟨Lc83, hQ83, l83, y83, z83⟩, st83⟩ := Jvm.LawKit.callS X77 hx (y := mm26) hown (mvT hZ (w_37 hw)) (mvT hZ (w_38 hw)) (mvT hZ (w_39 hw)) (mvT hZ (w_40 hw)) (by decide) (backOf (W := 0) (rmOE l Z a0 hw G ST [] dd0 hp77 n0 Ol82 hr0) hZ (w_40 hw) (w_39 hw) (by decide) (by decide)) (g := (mkF m 191 #[xvi p0, xvi p1, xvi p2, xvi p3, xvi p4, xvi ca, xvi cb, xvi o13, xvi o18, xvi o23, xvr o27, xvr o40, xvr o53, xvi ii0, xvi ii1, xvi ii2, xvr o66, xvr o72, xvr o78, xvi bb, xvi dd0, xvi dd1, xvi dd2, xun, xun, xun, xun, xun, xun, xun, xun, xun, xun, xun, xun, xun, xun] [xwj (dd0.toInt64)])) rfl (by rw [hml]; rfl) (argsL := [(.long (dd0.toInt64))]) (rest := []) (lenOf pd_22 rfl) rfl (Nat.le_of_eq rfl) (hb B at_191) (fun _ _ => ⟨rfl, e77, (by decide : 6 + 1 ≤ _), (by decide : 15 + 3 ≤ _)⟩)
 dsimp only [Pt.U, Pt.locs, Pt.cells, Pt.slots] at X83 l83 y83 z83 st83 hQ83
 subst l83 y83 z83
 obtain ⟨hp83, e83⟩ : ∃ z, T83.heap = z := ⟨_, rfl⟩
 rw [e83] at hQ83
 obtain ⟨o84, o85, o86, o87, rfl, N83q, K83, p88, p89, p90, p91, p92, p93⟩ := hQ83
 have N83 := Fr.app N77 N83q
 have Ol94 : Old Z n0 hp83 := (Ol82.keep K83 all0)
 obtain ⟨_, _, ⟨T95, L95, k95, n95⟩, -, X95, ⟨Lc95, hQ95, l95, y95, z95⟩, st95⟩ := Jvm.LawKit.callS X83 hx (y := mm26) hown (mvT hZ (w_37 hw)) (mvT hZ (w_38 hw)) (mvT hZ (w_39 hw)) (mvT hZ (w_40 hw)) (by decide) (backOf (W := 0) (rmOE l Z a0 hw G ST [] dd1 hp83 n0 Ol94 hr1) hZ (w_40 hw) (w_39 hw) (by decide) (by decide)) (g := (mkF m 199 #[xvi p0, xvi p1, xvi p2, xvi p3, xvi p4, xvi ca, xvi cb, xvi o13, xvi o18, xvi o23, xvr o27, xvr o40, xvr o53, xvi ii0, xvi ii1, xvi ii2, xvr o66, xvr o72, xvr o78, xvi bb, xvi dd0, xvi dd1, xvi dd2, xvr o84, xun, xun, xun, xun, xun, xun, xun, xun, xun, xun, xun, xun, xun] [xwj (dd1.toInt64)])) rfl (by rw [hml]; rfl) (argsL := [(.long (dd1.toInt64))]) (rest := []) (lenOf pd_22 rfl) rfl (Nat.le_of_eq rfl) (hb B at_199) (fun _ _ => ⟨rfl, e83, (by decide : 7 + 1 ≤ _), (by decide : 18 + 3 ≤ _)⟩)
 dsimp only [Pt.U, Pt.locs, Pt.cells, Pt.slots] at X95 l95 y95 z95 st95 hQ95
 subst l95 y95 z95
 obtain ⟨hp95, e95⟩ : ∃ z, T95.heap = z := ⟨_, rfl⟩
 rw [e95] at hQ95
 obtain ⟨o96, o97, o98, o99, rfl, N95q, K95, p0A, p0B, p0C, p0D, p0E, p0F⟩ := hQ95
 have N95 := Fr.app N83 N95q
 have Ol0G : Old Z n0 hp95 := (Ol94.keep K95 all0)
 obtain ⟨_, _, ⟨T0H, L0H, k0H, n0H⟩, -, X0H, ⟨Lc0H, hQ0H, l0H, y0H, z0H⟩, st0H⟩ := Jvm.LawKit.callS X95 hx (y := mm26) hown (mvT hZ (w_37 hw)) (mvT hZ (w_38 hw)) (mvT hZ (w_39 hw)) (mvT hZ (w_40 hw)) (by decide) (backOf (W := 0) (rmOE l Z a0 hw G ST [] dd2 hp95 n0 Ol0G hr2) hZ (w_40 hw) (w_39 hw) (by decide) (by decide)) (g := (mkF m 207 #[xvi p0, xvi p1, xvi p2, xvi p3, xvi p4, xvi ca, xvi cb, xvi o13, xvi o18, xvi o23, xvr o27, xvr o40, xvr o53, xvi ii0, xvi ii1, xvi ii2, xvr o66, xvr o72, xvr o78, xvi bb, xvi dd0, xvi dd1, xvi dd2, xvr o84, xvr o96, xun, xun, xun, xun, xun, xun, xun, xun, xun, xun, xun, xun] [xwj (dd2.toInt64)])) rfl (by rw [hml]; rfl) (argsL := [(.long (dd2.toInt64))]) (rest := []) (lenOf pd_22 rfl) rfl (Nat.le_of_eq rfl) (hb B at_207) (fun _ _ => ⟨rfl, e95, (by decide : 8 + 1 ≤ _), (by decide : 21 + 3 ≤ _)⟩)
 dsimp only [Pt.U, Pt.locs, Pt.cells, Pt.slots] at X0H l0H y0H z0H st0H hQ0H
 subst l0H y0H z0H
 obtain ⟨hp0H, e0H⟩ : ∃ z, T0H.heap = z := ⟨_, rfl⟩
 rw [e0H] at hQ0H
 obtain ⟨o0I, o0J, o0K, o0L, rfl, N0Hq, K0H, p0M, p0N, p0O, p0P, p0Q, p0R⟩ := hQ0H
 have N0H := Fr.app N95 N0Hq
 obtain ⟨T0S, h0S, X0S, e0S, E0S, A0S, D0S, -, st0S⟩ := newO X0H hx hZ hown (w_101 hw) (w_102 hw) (w_103 hw) e0H (g := (mkF m 212 #[xvi p0, xvi p1, xvi p2, xvi p3, xvi p4, xvi ca, xvi cb, xvi o13, xvi o18, xvi o23, xvr o27, xvr o40, xvr o53, xvi ii0, xvi ii1, xvi ii2, xvr o66, xvr o72, xvr o78, xvi bb, xvi dd0, xvi dd1, xvi dd2, xvr o84, xvr o96, xvr o0I, xun, xun, xun, xun, xun, xun, xun, xun, xun, xun, xun] [])) rfl (hb B at_212) (by decide) (by decide)
 obtain ⟨b0S, g0S⟩ : ∃ z, z = hp0H.size := ⟨_, rfl⟩
 rw [← g0S] at A0S D0S st0S
 have Fb0S_days : Fld Z h0S b0S sg0 "days" "[[I" .null := D0S (Or.inr (w_113 hw)) (ty := (.array (.array .int))) (by decide)
 have Fb0S_outOfOrder : Fld Z h0S b0S sg0 "outOfOrder" sg6 .null := D0S (Or.inr (w_137 hw)) (ty := (.object sg2)) (by decide)
 have Fb0S_participants : Fld Z h0S b0S sg0 sg8 sg5 .null := D0S (Or.inr (w_154 hw)) (ty := (.array (.object sg1))) (by decide)
 have Fb0S_numbers : Fld Z h0S b0S sg0 "numbers" "[I" .null := D0S (Or.inr (w_157 hw)) (ty := (.array .int)) (by decide)
 have Fb0S_shift : Fld Z h0S b0S sg0 "shift" "I" ZI := D0S (Or.inr (w_160 hw)) (ty := .int) (by decide)
 have Fb0S_most : Fld Z h0S b0S sg0 "most" "I" ZI := D0S (Or.inr (w_162 hw)) (ty := .int) (by decide)
 have Fb0S_count : Fld Z h0S b0S sg0 "count" "I" ZI := D0S (Or.inl (w_205 hw)) (ty := .int) (by decide)
 obtain ⟨mo, e_mo⟩ : ∃ z, z = ((2 : Int32) + (p4 &&& (7 : Int32))) := ⟨_, rfl⟩
 have hmo := own_mo8 e_mo
 have Ol0T : Old Z n0 h0S := ((Ol0G.keep K0H all0).ext E0S)
 obtain ⟨_, _, ⟨T0U, L0U, k0U, n0U⟩, -, X0U, ⟨Lc0U, hQ0U, l0U, y0U, z0U⟩, st0U⟩ := X0S.specialBack hx (y := mm38) rfl hown (mvT hZ (w_104 hw)) (mvT hZ (w_105 hw)) (mvT hZ (w_106 hw)) (by decide) (backOf (W := 1) (rmLP l Z a0 hw G ST [] b0S mo h0S n0 Ol0T A0S Fb0S_participants Fb0S_numbers Fb0S_shift Fb0S_days Fb0S_most Fb0S_outOfOrder Fb0S_count (ntr Z0 (ntr (ntr (ntr (ntr (ntr (ntr (ntr (ntr (ntr (ntr (ntr (ntr K11.1 K16.1) K21.1) K26.1) K39.1) K52.1) K65.1) K71.1) K77.1) K83.1) K95.1) K0H.1) (Nat.le_of_eq g0S.symm))) hmo) hZ (w_106 hw) (w_103 hw) (by decide) (by decide)) (g := (mkF m 223 #[xvi p0, xvi p1, xvi p2, xvi p3, xvi p4, xvi ca, xvi cb, xvi o13, xvi o18, xvi o23, xvr o27, xvr o40, xvr o53, xvi ii0, xvi ii1, xvi ii2, xvr o66, xvr o72, xvr o78, xvi bb, xvi dd0, xvi dd1, xvi dd2, xvr o84, xvr o96, xvr o0I, xun, xun, xun, xun, xun, xun, xun, xun, xun, xun, xun] [xwi mo, xwr b0S, xwr b0S])) rfl (by rw [hml]; rfl) (Steps.refl _) (a := b0S) (argsL := [(.int mo)]) (rest := [(.ref b0S)]) (lenOf pd_18 rfl) rfl (Nat.le_of_eq rfl) (hb B at_223) (fun _ _ => ⟨rfl, e0S, (by decide : 10 + 5 ≤ _), (by decide : 31 + 77 ≤ _)⟩)
 dsimp only [Pt.U, Pt.locs, Pt.cells, Pt.slots] at X0U l0U y0U z0U st0U hQ0U
 subst l0U y0U z0U
 obtain ⟨hp0U, e0U⟩ : ∃ z, T0U.heap = z := ⟨_, rfl⟩
 rw [e0U] at hQ0U
 obtain ⟨o0V, o0W, o0X, o0Y, o0Z, o1A, o1B, o1C, o1D, o1E, o1F, rfl, N0Uq, K0U, p1G, p1H, p1I, p1J, p1K, p1L, p1M, p1N, p1O, p1P, p1Q, p1R, p1S, p1T, p1U, p1V, p1W, p1X, p1Y, p1Z, p2A, p2B, p2C⟩ := hQ0U
 have N0U := Fr.app N0H N0Uq
 have hSLS := p2A
 have Ol2D : Old Z n0 hp0U := (Ol0T.keep K0U (allS (ntr Z0 (ntr (ntr (ntr (ntr (ntr (ntr (ntr (ntr (ntr (ntr (ntr (ntr K11.1 K16.1) K21.1) K26.1) K39.1) K52.1) K65.1) K71.1) K77.1) K83.1) K95.1) K0H.1) (Nat.le_of_eq g0S.symm))) all0))
 obtain ⟨cq2E, kq2E, q2Ea, q2Eb, q2Ec⟩ := isOf hZ e0U p1G
 obtain ⟨_, _, ⟨T2F, L2F, k2F, n2F⟩, -, X2F, ⟨Lc2F, hQ2F, l2F, y2F, z2F⟩, st2F⟩ := X0U.virtualBack hx (y := mm31) (z := mm31) hown (mvT hZ (w_163 hw)) (mvT hZ (w_164 hw)) (notFace_of_selects (args := #[]) (mvT hZ (w_166 hw))) (mvT hZ (w_166 hw)) (mvT hZ (w_165 hw)) (by decide) (backOf (W := 0) (rmAn0 l Z a0 hw G ST [] b0S o0Y hp0U n0 Ol2D p1G p1M p1R p1S) hZ (w_167 hw) (w_103 hw) (by decide) (by decide)) q2Ea q2Ec (g := (mkF m 230 (LQ0 p0 p1 p2 p3 p4 ca cb o13 o18 o23 o27 o40 o53 ii0 ii1 ii2 o66 o72 o78 bb dd0 dd1 dd2 o84 o96 o0I b0S xun xun xun xun xun xun xun xun xun xun) [xwr b0S])) rfl (by rw [hml]; rfl) (Steps.refl _) (argsL := []) (rest := []) (lenOf pd_3 rfl) rfl (Nat.le_of_eq rfl) (hb B at_230) (fun _ _ => ⟨rfl, e0U, (by decide : 15 + 0 ≤ _), (by decide : 108 + 0 ≤ _)⟩)
 dsimp only [Pt.U, Pt.locs, Pt.cells, Pt.slots] at X2F l2F y2F z2F st2F hQ2F
 subst l2F y2F z2F
 obtain ⟨rfl, N2Fq, e2F⟩ := hQ2F
 have N2F := Fr.app N0U N2Fq
 have f2G := ((((((((((p31.keep K39).keep K52).keep K65).keep K71).keep K77).keep K83).keep K95).keep K0H).ext E0S).keep K0U)
 have ne2H : o27 ≠ b0S := (onb p31.lt (ntr (ntr (ntr (ntr (ntr (ntr (ntr K39.1 K52.1) K65.1) K71.1) K77.1) K83.1) K95.1) K0H.1) (Nat.le_of_eq g0S.symm))
 have f2I := ((((((((((p32.keep K39 nin0).keep K52 nin0).keep K65 nin0).keep K71 nin0).keep K77 nin0).keep K83 nin0).keep K95 nin0).keep K0H nin0).ext E0S).keep K0U (ninS ne2H nin0))
 have f2J := ((((((((((p33.keep K39 nin0).keep K52 nin0).keep K65 nin0).keep K71 nin0).keep K77 nin0).keep K83 nin0).keep K95 nin0).keep K0H nin0).ext E0S).keep K0U (ninS ne2H nin0))
 have ne2K : o28 ≠ b0S := (onb p34.lt (ntr (ntr (ntr (ntr (ntr (ntr (ntr K39.1 K52.1) K65.1) K71.1) K77.1) K83.1) K95.1) K0H.1) (Nat.le_of_eq g0S.symm))
 have f2L := ((((((((((p34.keep K39 nin0).keep K52 nin0).keep K65 nin0).keep K71 nin0).keep K77 nin0).keep K83 nin0).keep K95 nin0).keep K0H nin0).ext E0S).keep K0U (ninS ne2K nin0))
 have f2M := ((((((((((p36.keep K39 nin0).keep K52 nin0).keep K65 nin0).keep K71 nin0).keep K77 nin0).keep K83 nin0).keep K95 nin0).keep K0H nin0).ext E0S).keep K0U (ninS ne2H nin0))
 have f2N := ((((((((((p37.keep K39 nin0).keep K52 nin0).keep K65 nin0).keep K71 nin0).keep K77 nin0).keep K83 nin0).keep K95 nin0).keep K0H nin0).ext E0S).keep K0U (ninS ne2H nin0))
 have f2O := ((((p89.keep K95).keep K0H).ext E0S).keep K0U)
 have ne2P : o84 ≠ b0S := (onb p89.lt (ntr K95.1 K0H.1) (Nat.le_of_eq g0S.symm))
 have f2Q := ((((p90.keep K95 nin0).keep K0H nin0).ext E0S).keep K0U (ninS ne2P nin0))
 have f2R := ((((p91.keep K95 nin0).keep K0H nin0).ext E0S).keep K0U (ninS ne2P nin0))
 have f2S := ((((p92.keep K95 nin0).keep K0H nin0).ext E0S).keep K0U (ninS ne2P nin0))
 have f2T := (((((((p67.keep K71).keep K77).keep K83).keep K95).keep K0H).ext E0S).keep K0U)
 have ne2U : o66 ≠ b0S := (onb p67.lt (ntr (ntr (ntr (ntr K71.1 K77.1) K83.1) K95.1) K0H.1) (Nat.le_of_eq g0S.symm))
 have f2V := (((((((p68.keep K71 nin0).keep K77 nin0).keep K83 nin0).keep K95 nin0).keep K0H nin0).ext E0S).keep K0U (ninS ne2U nin0))
 obtain ⟨cq2W, kq2W, q2Wa, q2Wb, q2Wc⟩ := isOf hZ e2F p1G
 obtain ⟨_, _, ⟨T2X, L2X, k2X, n2X⟩, -, X2X, ⟨Lc2X, hQ2X, l2X, y2X, z2X⟩, st2X⟩ := X2F.virtualBack hx (y := mm39) (z := mm39) hown (mvT hZ (w_173 hw)) (mvT hZ (w_174 hw)) (notFace_of_selects (args := #[]) (mvT hZ (w_176 hw))) (mvT hZ (w_176 hw)) (mvT hZ (w_175 hw)) (by decide) (backOf (W := 0) (rmAd0 l Z a0 hw G ST [] b0S o0V _ o1E o1F _ o0W _ _ o0X o0Y mo o27 o28 _ o13 o0Z _ o84 o85 o86 o87 dd0 _ _ o66 ii0 hp0U n0 Ol2D p1G p1H p1J p1O hSLS p1I p1P p1K p1L p1M f2G f2I f2J f2L f2M f2N (ntr Z0 (ntr (ntr (ntr K11.1 K16.1) K21.1) p30)) hc0 p1N (ntr Z0 (ntr (ntr (ntr (ntr (ntr (ntr (ntr (ntr (ntr (ntr (ntr (ntr K11.1 K16.1) K21.1) K26.1) K39.1) K52.1) K65.1) K71.1) K77.1) K83.1) K95.1) K0H.1) (Nat.le_of_eq g0S.symm))) (ntr Z0 (ntr (ntr (ntr (ntr (ntr (ntr (ntr (ntr (ntr (ntr (ntr (ntr (ntr K11.1 K16.1) K21.1) K26.1) K39.1) K52.1) K65.1) K71.1) K77.1) K83.1) K95.1) K0H.1) E0S.1) p1V)) (ntr Z0 (ntr (ntr (ntr (ntr (ntr (ntr (ntr (ntr (ntr (ntr (ntr (ntr (ntr K11.1 K16.1) K21.1) K26.1) K39.1) K52.1) K65.1) K71.1) K77.1) K83.1) K95.1) K0H.1) E0S.1) p1W)) p2B own_lrep own_lrep (own_rep _ _ _) p1R p1S p1T p1U f2O f2Q f2R f2S p93 p1Q f2T f2V hi0 hr0 hmo p69 (own_rep _ _ _) own_lrep p2C (ntr Z0 (ntr (ntr (ntr (ntr (ntr (ntr (ntr (ntr (ntr (ntr (ntr (ntr (ntr K11.1 K16.1) K21.1) K26.1) K39.1) K52.1) K65.1) K71.1) K77.1) K83.1) K95.1) K0H.1) E0S.1) p1X))) hZ (w_177 hw) (w_103 hw) (by decide) (by decide)) q2Wa q2Wc (g := (mkF m 243 (LQ0 p0 p1 p2 p3 p4 ca cb o13 o18 o23 o27 o40 o53 ii0 ii1 ii2 o66 o72 o78 bb dd0 dd1 dd2 o84 o96 o0I b0S (xvi (0 : Int32)) xun xun xun xun xun xun xun xun xun) [xwr o66, xwr o84, xwr o27, xwr b0S])) rfl (by rw [hml]; rfl) (Steps.refl _) (argsL := [(.ref o27), (.ref o84), (.ref o66)]) (rest := []) (lenOf pd_26 rfl) rfl (Nat.le_of_eq rfl) (hb B at_243) (fun _ _ => ⟨rfl, e2F, (by decide : 15 + 1 ≤ _), (by decide : 108 + 9 ≤ _)⟩)
 dsimp only [Pt.U, Pt.locs, Pt.cells, Pt.slots] at X2X l2X y2X z2X st2X hQ2X
 subst l2X y2X z2X
 obtain ⟨hp2X, e2X⟩ : ∃ z, T2X.heap = z := ⟨_, rfl⟩
 rw [e2X] at hQ2X
 obtain ⟨o2Y, o2Z, rfl, N2Xq, K2X, p3A, p3B, p3C, p3D, p3E, p3F, p3G, p3H, p3I, p3J, p3K, p3L, p3M, p3N, p3O, p3P⟩ := hQ2X
 have N2X := Fr.app N2F N2Xq
 have f3Q := (p1R.keep K2X)
 have ne3R : o0Y ≠ o27 := (Ne.symm (onb p31.lt (ntr (ntr (ntr (ntr (ntr (ntr (ntr (ntr K39.1 K52.1) K65.1) K71.1) K77.1) K83.1) K95.1) K0H.1) E0S.1) p1Y))
 have f3S := (p1S.keep K2X (ninS ne3R (ninS (Exa.neArv p1R p1O (w_115 hw)) (ninS (Exa.neArv p1R p1P (w_115 hw)) (ninS (Ne.symm (onb A0S.lt (Nat.le_refl _) p1Y)) (ninS (Exa.neArv p1R p1Q (w_115 hw)) nin0))))))
 have Ol3T : Old Z n0 hp2X := (Ol2D.keep K2X (allS (ntr Z0 (ntr (ntr (ntr K11.1 K16.1) K21.1) p30)) (allS (ntr Z0 (ntr (ntr (ntr (ntr (ntr (ntr (ntr (ntr (ntr (ntr (ntr (ntr (ntr K11.1 K16.1) K21.1) K26.1) K39.1) K52.1) K65.1) K71.1) K77.1) K83.1) K95.1) K0H.1) E0S.1) p1V)) (allS (ntr Z0 (ntr (ntr (ntr (ntr (ntr (ntr (ntr (ntr (ntr (ntr (ntr (ntr (ntr K11.1 K16.1) K21.1) K26.1) K39.1) K52.1) K65.1) K71.1) K77.1) K83.1) K95.1) K0H.1) E0S.1) p1W)) (allS (ntr Z0 (ntr (ntr (ntr (ntr (ntr (ntr (ntr (ntr (ntr (ntr (ntr (ntr K11.1 K16.1) K21.1) K26.1) K39.1) K52.1) K65.1) K71.1) K77.1) K83.1) K95.1) K0H.1) (Nat.le_of_eq g0S.symm))) (allS (ntr Z0 (ntr (ntr (ntr (ntr (ntr (ntr (ntr (ntr (ntr (ntr (ntr (ntr (ntr K11.1 K16.1) K21.1) K26.1) K39.1) K52.1) K65.1) K71.1) K77.1) K83.1) K95.1) K0H.1) E0S.1) p1X)) all0))))))
 obtain ⟨cq3U, kq3U, q3Ua, q3Ub, q3Uc⟩ := isOf hZ e2X p3D
 obtain ⟨_, _, ⟨T3V, L3V, k3V, n3V⟩, -, X3V, ⟨Lc3V, hQ3V, l3V, y3V, z3V⟩, st3V⟩ := X2X.virtualBack hx (y := mm31) (z := mm31) hown (mvT hZ (w_163 hw)) (mvT hZ (w_164 hw)) (notFace_of_selects (args := #[]) (mvT hZ (w_166 hw))) (mvT hZ (w_166 hw)) (mvT hZ (w_165 hw)) (by decide) (backOf (W := 0) (rmAn0 l Z a0 hw G ST [] b0S o0Y hp2X n0 Ol3T p3D p3J f3Q f3S) hZ (w_167 hw) (w_103 hw) (by decide) (by decide)) q3Ua q3Uc (g := (mkF m 249 (LQ0 p0 p1 p2 p3 p4 ca cb o13 o18 o23 o27 o40 o53 ii0 ii1 ii2 o66 o72 o78 bb dd0 dd1 dd2 o84 o96 o0I b0S (xvi (0 : Int32)) xun xun xun xun xun xun xun xun xun) [xwr b0S])) rfl (by rw [hml]; rfl) (Steps.refl _) (argsL := []) (rest := []) (lenOf pd_3 rfl) rfl (Nat.le_of_eq rfl) (hb B at_249) (fun _ _ => ⟨rfl, e2X, (by decide : 16 + 0 ≤ _), (by decide : 117 + 0 ≤ _)⟩)
 dsimp only [Pt.U, Pt.locs, Pt.cells, Pt.slots] at X3V l3V y3V z3V st3V hQ3V
 subst l3V y3V z3V
 obtain ⟨rfl, N3Vq, e3V⟩ := hQ3V
 have N3V := Fr.app N2X N3Vq
 have gq3W : n0 ≤ b0S := (ntr Z0 (ntr (ntr (ntr (ntr (ntr (ntr (ntr (ntr (ntr (ntr (ntr (ntr K11.1 K16.1) K21.1) K26.1) K39.1) K52.1) K65.1) K71.1) K77.1) K83.1) K95.1) K0H.1) (Nat.le_of_eq g0S.symm)))
 have gq3X : n0 ≤ o0V := (ntr Z0 (ntr (ntr (ntr (ntr (ntr (ntr (ntr (ntr (ntr (ntr (ntr (ntr (ntr K11.1 K16.1) K21.1) K26.1) K39.1) K52.1) K65.1) K71.1) K77.1) K83.1) K95.1) K0H.1) E0S.1) p1V))
 have gq3Y : n0 ≤ o0W := (ntr Z0 (ntr (ntr (ntr (ntr (ntr (ntr (ntr (ntr (ntr (ntr (ntr (ntr (ntr K11.1 K16.1) K21.1) K26.1) K39.1) K52.1) K65.1) K71.1) K77.1) K83.1) K95.1) K0H.1) E0S.1) p1W))
 have gq3Z : n0 ≤ o0X := (ntr Z0 (ntr (ntr (ntr (ntr (ntr (ntr (ntr (ntr (ntr (ntr (ntr (ntr (ntr K11.1 K16.1) K21.1) K26.1) K39.1) K52.1) K65.1) K71.1) K77.1) K83.1) K95.1) K0H.1) E0S.1) p1X))
 have gq4A : n0 ≤ o0Y := (ntr Z0 (ntr (ntr (ntr (ntr (ntr (ntr (ntr (ntr (ntr (ntr (ntr (ntr (ntr K11.1 K16.1) K21.1) K26.1) K39.1) K52.1) K65.1) K71.1) K77.1) K83.1) K95.1) K0H.1) E0S.1) p1Y))
 have gq4B : n0 ≤ o0Z := (ntr Z0 (ntr (ntr (ntr (ntr (ntr (ntr (ntr (ntr (ntr (ntr (ntr (ntr (ntr K11.1 K16.1) K21.1) K26.1) K39.1) K52.1) K65.1) K71.1) K77.1) K83.1) K95.1) K0H.1) E0S.1) p1Z))
 have gq4C : n0 ≤ o27 := (ntr Z0 (ntr (ntr (ntr K11.1 K16.1) K21.1) p30))
 have gq4D : n0 ≤ o40 := (ntr Z0 (ntr (ntr (ntr (ntr K11.1 K16.1) K21.1) K26.1) p43))
 have gq4E : n0 ≤ o53 := (ntr Z0 (ntr (ntr (ntr (ntr (ntr K11.1 K16.1) K21.1) K26.1) K39.1) p56))
 have gq4F : n0 ≤ o28 := (ntr Z0 (ntr (ntr (ntr K11.1 K16.1) K21.1) p35))
 have gq4G : n0 ≤ o41 := (ntr Z0 (ntr (ntr (ntr (ntr K11.1 K16.1) K21.1) K26.1) p48))
 have gq4H : n0 ≤ o54 := (ntr Z0 (ntr (ntr (ntr (ntr (ntr K11.1 K16.1) K21.1) K26.1) K39.1) p61))
 have gq4I : n0 ≤ o84 := (ntr Z0 (ntr (ntr (ntr (ntr (ntr (ntr (ntr (ntr (ntr K11.1 K16.1) K21.1) K26.1) K39.1) K52.1) K65.1) K71.1) K77.1) p88))
 have gq4J : n0 ≤ o96 := (ntr Z0 (ntr (ntr (ntr (ntr (ntr (ntr (ntr (ntr (ntr (ntr K11.1 K16.1) K21.1) K26.1) K39.1) K52.1) K65.1) K71.1) K77.1) K83.1) p0A))
 have gq4K : n0 ≤ o0I := (ntr Z0 (ntr (ntr (ntr (ntr (ntr (ntr (ntr (ntr (ntr (ntr (ntr K11.1 K16.1) K21.1) K26.1) K39.1) K52.1) K65.1) K71.1) K77.1) K83.1) K95.1) p0M))
 have gq4L : n0 ≤ o2Y := (ntr Z0 (ntr (ntr (ntr (ntr (ntr (ntr (ntr (ntr (ntr (ntr (ntr (ntr (ntr (ntr K11.1 K16.1) K21.1) K26.1) K39.1) K52.1) K65.1) K71.1) K77.1) K83.1) K95.1) K0H.1) E0S.1) K0U.1) p3N))
 have ne4M : o0V ≠ b0S := (Ne.symm (onb A0S.lt (Nat.le_refl _) p1V))
 have ne4N : o0W ≠ b0S := (Ne.symm (onb A0S.lt (Nat.le_refl _) p1W))
 have ne4O : o0W ≠ o0V := (own_neV p1P p1O (by decide))
 have ne4P : o0X ≠ b0S := (Ne.symm (onb A0S.lt (Nat.le_refl _) p1X))
 have ne4Q : o0X ≠ o0V := (own_neV p1Q p1O (by decide))
 have ne4R : o0X ≠ o0W := (own_neV p1Q p1P (by decide))
 have ne4S : o0Y ≠ b0S := (Ne.symm (onb A0S.lt (Nat.le_refl _) p1Y))
 have ne4T : o0Y ≠ o0V := (Exa.neArv p1R p1O (w_115 hw))
 have ne4U : o0Y ≠ o0W := (Exa.neArv p1R p1P (w_115 hw))
 have ne4V : o0Y ≠ o0X := (Exa.neArv p1R p1Q (w_115 hw))
 have ne4W : o0Z ≠ b0S := (Ne.symm (onb A0S.lt (Nat.le_refl _) p1Z))
 have ne4X : o0Z ≠ o0V := (own_neV p1U p1O (by decide))
 have ne4Y : o0Z ≠ o0W := (own_neV p1U p1P (by decide))
 have ne4Z : o0Z ≠ o0X := (own_neV p1U p1Q (by decide))
 have ne5A : o0Z ≠ o0Y := (Ne.symm (Exa.neArv p1R p1U (w_115 hw)))
 have ne5B : o27 ≠ o0V := (onb p31.lt (ntr (ntr (ntr (ntr (ntr (ntr (ntr (ntr K39.1 K52.1) K65.1) K71.1) K77.1) K83.1) K95.1) K0H.1) E0S.1) p1V)
 have ne5C : o27 ≠ o0W := (onb p31.lt (ntr (ntr (ntr (ntr (ntr (ntr (ntr (ntr K39.1 K52.1) K65.1) K71.1) K77.1) K83.1) K95.1) K0H.1) E0S.1) p1W)
 have ne5D : o27 ≠ o0X := (onb p31.lt (ntr (ntr (ntr (ntr (ntr (ntr (ntr (ntr K39.1 K52.1) K65.1) K71.1) K77.1) K83.1) K95.1) K0H.1) E0S.1) p1X)
 have ne5E : o27 ≠ o0Z := (onb p31.lt (ntr (ntr (ntr (ntr (ntr (ntr (ntr (ntr K39.1 K52.1) K65.1) K71.1) K77.1) K83.1) K95.1) K0H.1) E0S.1) p1Z)
 have ne5F : o40 ≠ b0S := (onb p44.lt (ntr (ntr (ntr (ntr (ntr (ntr K52.1 K65.1) K71.1) K77.1) K83.1) K95.1) K0H.1) (Nat.le_of_eq g0S.symm))
 have ne5G : o40 ≠ o0V := (onb p44.lt (ntr (ntr (ntr (ntr (ntr (ntr (ntr K52.1 K65.1) K71.1) K77.1) K83.1) K95.1) K0H.1) E0S.1) p1V)
 have ne5H : o40 ≠ o0W := (onb p44.lt (ntr (ntr (ntr (ntr (ntr (ntr (ntr K52.1 K65.1) K71.1) K77.1) K83.1) K95.1) K0H.1) E0S.1) p1W)
 have ne5I : o40 ≠ o0X := (onb p44.lt (ntr (ntr (ntr (ntr (ntr (ntr (ntr K52.1 K65.1) K71.1) K77.1) K83.1) K95.1) K0H.1) E0S.1) p1X)
 have ne5J : o40 ≠ o0Y := (onb p44.lt (ntr (ntr (ntr (ntr (ntr (ntr (ntr K52.1 K65.1) K71.1) K77.1) K83.1) K95.1) K0H.1) E0S.1) p1Y)
 have ne5K : o40 ≠ o0Z := (onb p44.lt (ntr (ntr (ntr (ntr (ntr (ntr (ntr K52.1 K65.1) K71.1) K77.1) K83.1) K95.1) K0H.1) E0S.1) p1Z)
 have ne5L : o40 ≠ o27 := (Ne.symm (onb p31.lt (Nat.le_refl _) p43))
 have ne5M : o53 ≠ b0S := (onb p57.lt (ntr (ntr (ntr (ntr (ntr K65.1 K71.1) K77.1) K83.1) K95.1) K0H.1) (Nat.le_of_eq g0S.symm))
 have ne5N : o53 ≠ o0V := (onb p57.lt (ntr (ntr (ntr (ntr (ntr (ntr K65.1 K71.1) K77.1) K83.1) K95.1) K0H.1) E0S.1) p1V)
 have ne5O : o53 ≠ o0W := (onb p57.lt (ntr (ntr (ntr (ntr (ntr (ntr K65.1 K71.1) K77.1) K83.1) K95.1) K0H.1) E0S.1) p1W)
 have ne5P : o53 ≠ o0X := (onb p57.lt (ntr (ntr (ntr (ntr (ntr (ntr K65.1 K71.1) K77.1) K83.1) K95.1) K0H.1) E0S.1) p1X)
 have ne5Q : o53 ≠ o0Y := (onb p57.lt (ntr (ntr (ntr (ntr (ntr (ntr K65.1 K71.1) K77.1) K83.1) K95.1) K0H.1) E0S.1) p1Y)
 have ne5R : o53 ≠ o0Z := (onb p57.lt (ntr (ntr (ntr (ntr (ntr (ntr K65.1 K71.1) K77.1) K83.1) K95.1) K0H.1) E0S.1) p1Z)
 have ne5S : o53 ≠ o27 := (Ne.symm (onb p31.lt K39.1 p56))
 have ne5T : o53 ≠ o40 := (Ne.symm (onb p44.lt (Nat.le_refl _) p56))
 have ne5U : o28 ≠ o0V := (onb p34.lt (ntr (ntr (ntr (ntr (ntr (ntr (ntr (ntr K39.1 K52.1) K65.1) K71.1) K77.1) K83.1) K95.1) K0H.1) E0S.1) p1V)
 have ne5V : o28 ≠ o0W := (onb p34.lt (ntr (ntr (ntr (ntr (ntr (ntr (ntr (ntr K39.1 K52.1) K65.1) K71.1) K77.1) K83.1) K95.1) K0H.1) E0S.1) p1W)
 have ne5W : o28 ≠ o0X := (onb p34.lt (ntr (ntr (ntr (ntr (ntr (ntr (ntr (ntr K39.1 K52.1) K65.1) K71.1) K77.1) K83.1) K95.1) K0H.1) E0S.1) p1X)
 have ne5X : o28 ≠ o0Y := (onb p34.lt (ntr (ntr (ntr (ntr (ntr (ntr (ntr (ntr K39.1 K52.1) K65.1) K71.1) K77.1) K83.1) K95.1) K0H.1) E0S.1) p1Y)
 have ne5Y : o28 ≠ o0Z := (onb p34.lt (ntr (ntr (ntr (ntr (ntr (ntr (ntr (ntr K39.1 K52.1) K65.1) K71.1) K77.1) K83.1) K95.1) K0H.1) E0S.1) p1Z)
 have ne5Z : o28 ≠ o40 := (onb p34.lt (Nat.le_refl _) p43)
 have ne6A : o28 ≠ o53 := (onb p34.lt K39.1 p56)
 have ne6B : o41 ≠ b0S := (onb p47.lt (ntr (ntr (ntr (ntr (ntr (ntr K52.1 K65.1) K71.1) K77.1) K83.1) K95.1) K0H.1) (Nat.le_of_eq g0S.symm))
 have ne6C : o41 ≠ o0V := (onb p47.lt (ntr (ntr (ntr (ntr (ntr (ntr (ntr K52.1 K65.1) K71.1) K77.1) K83.1) K95.1) K0H.1) E0S.1) p1V)
 have ne6D : o41 ≠ o0W := (onb p47.lt (ntr (ntr (ntr (ntr (ntr (ntr (ntr K52.1 K65.1) K71.1) K77.1) K83.1) K95.1) K0H.1) E0S.1) p1W)
 have ne6E : o41 ≠ o0X := (onb p47.lt (ntr (ntr (ntr (ntr (ntr (ntr (ntr K52.1 K65.1) K71.1) K77.1) K83.1) K95.1) K0H.1) E0S.1) p1X)
 have ne6F : o41 ≠ o0Y := (onb p47.lt (ntr (ntr (ntr (ntr (ntr (ntr (ntr K52.1 K65.1) K71.1) K77.1) K83.1) K95.1) K0H.1) E0S.1) p1Y)
 have ne6G : o41 ≠ o0Z := (onb p47.lt (ntr (ntr (ntr (ntr (ntr (ntr (ntr K52.1 K65.1) K71.1) K77.1) K83.1) K95.1) K0H.1) E0S.1) p1Z)
 have ne6H : o41 ≠ o40 := (Ne.symm (Exa.neArv p44 p47 (w_10 hw)))
 have ne6I : o41 ≠ o53 := (onb p47.lt (Nat.le_refl _) p56)
 have ne6J : o54 ≠ b0S := (onb p60.lt (ntr (ntr (ntr (ntr (ntr K65.1 K71.1) K77.1) K83.1) K95.1) K0H.1) (Nat.le_of_eq g0S.symm))
 have ne6K : o54 ≠ o0V := (onb p60.lt (ntr (ntr (ntr (ntr (ntr (ntr K65.1 K71.1) K77.1) K83.1) K95.1) K0H.1) E0S.1) p1V)
 have ne6L : o54 ≠ o0W := (onb p60.lt (ntr (ntr (ntr (ntr (ntr (ntr K65.1 K71.1) K77.1) K83.1) K95.1) K0H.1) E0S.1) p1W)
 have ne6M : o54 ≠ o0X := (onb p60.lt (ntr (ntr (ntr (ntr (ntr (ntr K65.1 K71.1) K77.1) K83.1) K95.1) K0H.1) E0S.1) p1X)
 have ne6N : o54 ≠ o0Y := (onb p60.lt (ntr (ntr (ntr (ntr (ntr (ntr K65.1 K71.1) K77.1) K83.1) K95.1) K0H.1) E0S.1) p1Y)
 have ne6O : o54 ≠ o0Z := (onb p60.lt (ntr (ntr (ntr (ntr (ntr (ntr K65.1 K71.1) K77.1) K83.1) K95.1) K0H.1) E0S.1) p1Z)
 have ne6P : o54 ≠ o40 := (Ne.symm (onb p44.lt (Nat.le_refl _) p61))
 have ne6Q : o54 ≠ o53 := (Ne.symm (Exa.neArv p57 p60 (w_10 hw)))
 have ne6R : o84 ≠ o0V := (onb p89.lt (ntr (ntr K95.1 K0H.1) E0S.1) p1V)
 have ne6S : o84 ≠ o0W := (onb p89.lt (ntr (ntr K95.1 K0H.1) E0S.1) p1W)
 have ne6T : o84 ≠ o0X := (onb p89.lt (ntr (ntr K95.1 K0H.1) E0S.1) p1X)
 have ne6U : o84 ≠ o0Y := (onb p89.lt (ntr (ntr K95.1 K0H.1) E0S.1) p1Y)
 have ne6V : o84 ≠ o0Z := (onb p89.lt (ntr (ntr K95.1 K0H.1) E0S.1) p1Z)
 have ne6W : o84 ≠ o40 := (Ne.symm (onb p44.lt (ntr (ntr (ntr K52.1 K65.1) K71.1) K77.1) p88))
 have ne6X : o84 ≠ o53 := (Ne.symm (onb p57.lt (ntr (ntr K65.1 K71.1) K77.1) p88))
 have ne6Y : o96 ≠ b0S := (onb p0B.lt K0H.1 (Nat.le_of_eq g0S.symm))
 have ne6Z : o96 ≠ o0V := (onb p0B.lt (ntr K0H.1 E0S.1) p1V)
 have ne7A : o96 ≠ o0W := (onb p0B.lt (ntr K0H.1 E0S.1) p1W)
 have ne7B : o96 ≠ o0X := (onb p0B.lt (ntr K0H.1 E0S.1) p1X)
 have ne7C : o96 ≠ o0Y := (onb p0B.lt (ntr K0H.1 E0S.1) p1Y)
 have ne7D : o96 ≠ o0Z := (onb p0B.lt (ntr K0H.1 E0S.1) p1Z)
 have ne7E : o96 ≠ o40 := (Ne.symm (onb p44.lt (ntr (ntr (ntr (ntr K52.1 K65.1) K71.1) K77.1) K83.1) p0A))
 have ne7F : o96 ≠ o53 := (Ne.symm (onb p57.lt (ntr (ntr (ntr K65.1 K71.1) K77.1) K83.1) p0A))
 have ne7G : o0I ≠ b0S := (onb p0N.lt (Nat.le_refl _) (Nat.le_of_eq g0S.symm))
 have ne7H : o0I ≠ o0V := (onb p0N.lt E0S.1 p1V)
 have ne7I : o0I ≠ o0W := (onb p0N.lt E0S.1 p1W)
 have ne7J : o0I ≠ o0X := (onb p0N.lt E0S.1 p1X)
 have ne7K : o0I ≠ o0Y := (onb p0N.lt E0S.1 p1Y)
 have ne7L : o0I ≠ o0Z := (onb p0N.lt E0S.1 p1Z)
 have ne7M : o0I ≠ o40 := (Ne.symm (onb p44.lt (ntr (ntr (ntr (ntr (ntr K52.1 K65.1) K71.1) K77.1) K83.1) K95.1) p0M))
 have ne7N : o0I ≠ o53 := (Ne.symm (onb p57.lt (ntr (ntr (ntr (ntr K65.1 K71.1) K77.1) K83.1) K95.1) p0M))
 have ne7O : o66 ≠ o0V := (onb p67.lt (ntr (ntr (ntr (ntr (ntr K71.1 K77.1) K83.1) K95.1) K0H.1) E0S.1) p1V)
 have ne7P : o66 ≠ o0W := (onb p67.lt (ntr (ntr (ntr (ntr (ntr K71.1 K77.1) K83.1) K95.1) K0H.1) E0S.1) p1W)
 have ne7Q : o66 ≠ o0X := (onb p67.lt (ntr (ntr (ntr (ntr (ntr K71.1 K77.1) K83.1) K95.1) K0H.1) E0S.1) p1X)
 have ne7R : o66 ≠ o0Y := (onb p67.lt (ntr (ntr (ntr (ntr (ntr K71.1 K77.1) K83.1) K95.1) K0H.1) E0S.1) p1Y)
 have ne7S : o66 ≠ o0Z := (onb p67.lt (ntr (ntr (ntr (ntr (ntr K71.1 K77.1) K83.1) K95.1) K0H.1) E0S.1) p1Z)
 have ne7T : o66 ≠ o40 := (Old.ne X00 p69 gq4D)
 have ne7U : o66 ≠ o53 := (Old.ne X00 p69 gq4E)
 have ne7V : o72 ≠ b0S := (onb p73.lt (ntr (ntr (ntr K77.1 K83.1) K95.1) K0H.1) (Nat.le_of_eq g0S.symm))
 have ne7W : o72 ≠ o0V := (onb p73.lt (ntr (ntr (ntr (ntr K77.1 K83.1) K95.1) K0H.1) E0S.1) p1V)
 have ne7X : o72 ≠ o0W := (onb p73.lt (ntr (ntr (ntr (ntr K77.1 K83.1) K95.1) K0H.1) E0S.1) p1W)
 have ne7Y : o72 ≠ o0X := (onb p73.lt (ntr (ntr (ntr (ntr K77.1 K83.1) K95.1) K0H.1) E0S.1) p1X)
 have ne7Z : o72 ≠ o0Y := (onb p73.lt (ntr (ntr (ntr (ntr K77.1 K83.1) K95.1) K0H.1) E0S.1) p1Y)
 have ne8A : o72 ≠ o0Z := (onb p73.lt (ntr (ntr (ntr (ntr K77.1 K83.1) K95.1) K0H.1) E0S.1) p1Z)
 have ne8B : o72 ≠ o40 := (Old.ne X00 p75 gq4D)
 have ne8C : o72 ≠ o53 := (Old.ne X00 p75 gq4E)
 have ne8D : o78 ≠ b0S := (onb p79.lt (ntr (ntr K83.1 K95.1) K0H.1) (Nat.le_of_eq g0S.symm))
 have ne8E : o78 ≠ o0V := (onb p79.lt (ntr (ntr (ntr K83.1 K95.1) K0H.1) E0S.1) p1V)
 have ne8F : o78 ≠ o0W := (onb p79.lt (ntr (ntr (ntr K83.1 K95.1) K0H.1) E0S.1) p1W)
 have ne8G : o78 ≠ o0X := (onb p79.lt (ntr (ntr (ntr K83.1 K95.1) K0H.1) E0S.1) p1X)
 have ne8H : o78 ≠ o0Y := (onb p79.lt (ntr (ntr (ntr K83.1 K95.1) K0H.1) E0S.1) p1Y)
 have ne8I : o78 ≠ o0Z := (onb p79.lt (ntr (ntr (ntr K83.1 K95.1) K0H.1) E0S.1) p1Z)
 have ne8J : o78 ≠ o40 := (Old.ne X00 p81 gq4D)
 have ne8K : o78 ≠ o53 := (Old.ne X00 p81 gq4E)
 have ne8L : o2Y ≠ b0S := (Ne.symm (onb A0S.lt K0U.1 p3N))
 have ne8M : o2Y ≠ o0V := (Ne.symm (onb p1O.lt (Nat.le_refl _) p3N))
 have ne8N : o2Y ≠ o0W := (Ne.symm (onb p1P.lt (Nat.le_refl _) p3N))
 have ne8O : o2Y ≠ o0X := (Ne.symm (onb p1Q.lt (Nat.le_refl _) p3N))
 have ne8P : o2Y ≠ o0Y := (Ne.symm (onb p1R.lt (Nat.le_refl _) p3N))
 have ne8Q : o2Y ≠ o0Z := (Ne.symm (onb p1U.lt (Nat.le_refl _) p3N))
 have ne8R : o2Y ≠ o27 := (Ne.symm (onb p31.lt (ntr (ntr (ntr (ntr (ntr (ntr (ntr (ntr (ntr K39.1 K52.1) K65.1) K71.1) K77.1) K83.1) K95.1) K0H.1) E0S.1) K0U.1) p3N))
 have ne8S : o2Y ≠ o40 := (Ne.symm (onb p44.lt (ntr (ntr (ntr (ntr (ntr (ntr (ntr (ntr K52.1 K65.1) K71.1) K77.1) K83.1) K95.1) K0H.1) E0S.1) K0U.1) p3N))
 have ne8T : o2Y ≠ o53 := (Ne.symm (onb p57.lt (ntr (ntr (ntr (ntr (ntr (ntr (ntr K65.1 K71.1) K77.1) K83.1) K95.1) K0H.1) E0S.1) K0U.1) p3N))
 have ne8U : o2Y ≠ o28 := (Ne.symm (onb p34.lt (ntr (ntr (ntr (ntr (ntr (ntr (ntr (ntr (ntr K39.1 K52.1) K65.1) K71.1) K77.1) K83.1) K95.1) K0H.1) E0S.1) K0U.1) p3N))
 have ne8V : o2Y ≠ o41 := (Ne.symm (onb p47.lt (ntr (ntr (ntr (ntr (ntr (ntr (ntr (ntr K52.1 K65.1) K71.1) K77.1) K83.1) K95.1) K0H.1) E0S.1) K0U.1) p3N))
 have ne8W : o2Y ≠ o54 := (Ne.symm (onb p60.lt (ntr (ntr (ntr (ntr (ntr (ntr (ntr K65.1 K71.1) K77.1) K83.1) K95.1) K0H.1) E0S.1) K0U.1) p3N))
 have ne8X : o2Y ≠ o84 := (Ne.symm (onb p89.lt (ntr (ntr (ntr K95.1 K0H.1) E0S.1) K0U.1) p3N))
 have ne8Y : o2Y ≠ o96 := (Ne.symm (onb p0B.lt (ntr (ntr K0H.1 E0S.1) K0U.1) p3N))
 have ne8Z : o2Y ≠ o0I := (Ne.symm (onb p0N.lt (ntr E0S.1 K0U.1) p3N))
 have ne9A : o2Y ≠ o66 := (Ne.symm (onb p67.lt (ntr (ntr (ntr (ntr (ntr (ntr K71.1 K77.1) K83.1) K95.1) K0H.1) E0S.1) K0U.1) p3N))
 have ne9B : o2Y ≠ o72 := (Ne.symm (onb p73.lt (ntr (ntr (ntr (ntr (ntr K77.1 K83.1) K95.1) K0H.1) E0S.1) K0U.1) p3N))
 have ne9C : o2Y ≠ o78 := (Ne.symm (onb p79.lt (ntr (ntr (ntr (ntr K83.1 K95.1) K0H.1) E0S.1) K0U.1) p3N))
 have f9D := ((((((((((p44.keep K52).keep K65).keep K71).keep K77).keep K83).keep K95).keep K0H).ext E0S).keep K0U).keep K2X)
 have f9E := (((((((((p57.keep K65).keep K71).keep K77).keep K83).keep K95).keep K0H).ext E0S).keep K0U).keep K2X)
 have f9F := (f2T.keep K2X)
 have f9G := (((((((p73.keep K77).keep K83).keep K95).keep K0H).ext E0S).keep K0U).keep K2X)
 have f9H := ((((((p79.keep K83).keep K95).keep K0H).ext E0S).keep K0U).keep K2X)
 have f9I := (f2O.keep K2X)
 have f9J := ((((p0B.keep K0H).ext E0S).keep K0U).keep K2X)
 have f9K := (((p0N.ext E0S).keep K0U).keep K2X)
 have f9L := ((((((((((p45.keep K52 nin0).keep K65 nin0).keep K71 nin0).keep K77 nin0).keep K83 nin0).keep K95 nin0).keep K0H nin0).ext E0S).keep K0U (ninS ne5F nin0)).keep K2X (ninS ne5L (ninS ne5G (ninS ne5H (ninS ne5F (ninS ne5I nin0))))))
 have f9M := ((((((((((p49.keep K52 nin0).keep K65 nin0).keep K71 nin0).keep K77 nin0).keep K83 nin0).keep K95 nin0).keep K0H nin0).ext E0S).keep K0U (ninS ne5F nin0)).keep K2X (ninS ne5L (ninS ne5G (ninS ne5H (ninS ne5F (ninS ne5I nin0))))))
 have f9N := ((((((((((p50.keep K52 nin0).keep K65 nin0).keep K71 nin0).keep K77 nin0).keep K83 nin0).keep K95 nin0).keep K0H nin0).ext E0S).keep K0U (ninS ne5F nin0)).keep K2X (ninS ne5L (ninS ne5G (ninS ne5H (ninS ne5F (ninS ne5I nin0))))))
 have f9O := ((((((((((p46.keep K52 nin0).keep K65 nin0).keep K71 nin0).keep K77 nin0).keep K83 nin0).keep K95 nin0).keep K0H nin0).ext E0S).keep K0U (ninS ne5F nin0)).keep K2X (ninS ne5L (ninS ne5G (ninS ne5H (ninS ne5F (ninS ne5I nin0))))))
 have f9P := (((((((((p58.keep K65 nin0).keep K71 nin0).keep K77 nin0).keep K83 nin0).keep K95 nin0).keep K0H nin0).ext E0S).keep K0U (ninS ne5M nin0)).keep K2X (ninS ne5S (ninS ne5N (ninS ne5O (ninS ne5M (ninS ne5P nin0))))))
 have f9Q := (((((((((p62.keep K65 nin0).keep K71 nin0).keep K77 nin0).keep K83 nin0).keep K95 nin0).keep K0H nin0).ext E0S).keep K0U (ninS ne5M nin0)).keep K2X (ninS ne5S (ninS ne5N (ninS ne5O (ninS ne5M (ninS ne5P nin0))))))
 have f9R := (((((((((p63.keep K65 nin0).keep K71 nin0).keep K77 nin0).keep K83 nin0).keep K95 nin0).keep K0H nin0).ext E0S).keep K0U (ninS ne5M nin0)).keep K2X (ninS ne5S (ninS ne5N (ninS ne5O (ninS ne5M (ninS ne5P nin0))))))
 have f9S := (((((((((p59.keep K65 nin0).keep K71 nin0).keep K77 nin0).keep K83 nin0).keep K95 nin0).keep K0H nin0).ext E0S).keep K0U (ninS ne5M nin0)).keep K2X (ninS ne5S (ninS ne5N (ninS ne5O (ninS ne5M (ninS ne5P nin0))))))
 have f9T := (f2V.keep K2X (ninS (Old.ne X00 p69 gq4C) (ninS ne7O (ninS ne7P (ninS ne2U (ninS ne7Q nin0))))))
 have f9U := (((((((p74.keep K77 nin0).keep K83 nin0).keep K95 nin0).keep K0H nin0).ext E0S).keep K0U (ninS ne7V nin0)).keep K2X (ninS (Old.ne X00 p75 gq4C) (ninS ne7W (ninS ne7X (ninS ne7V (ninS ne7Y nin0))))))
 have f9V := ((((((p80.keep K83 nin0).keep K95 nin0).keep K0H nin0).ext E0S).keep K0U (ninS ne8D nin0)).keep K2X (ninS (Old.ne X00 p81 gq4C) (ninS ne8E (ninS ne8F (ninS ne8D (ninS ne8G nin0))))))
 have ne9W : o84 ≠ o27 := (Ne.symm (onb p31.lt (ntr (ntr (ntr (ntr K39.1 K52.1) K65.1) K71.1) K77.1) p88))
 have f9X := (f2S.keep K2X (ninS ne9W (ninS ne6R (ninS ne6S (ninS ne2P (ninS ne6T nin0))))))
 have f9Y := (f2R.keep K2X (ninS ne9W (ninS ne6R (ninS ne6S (ninS ne2P (ninS ne6T nin0))))))
 have f9Z := (f2Q.keep K2X (ninS ne9W (ninS ne6R (ninS ne6S (ninS ne2P (ninS ne6T nin0))))))
 have ne10A : o96 ≠ o27 := (Ne.symm (onb p31.lt (ntr (ntr (ntr (ntr (ntr K39.1 K52.1) K65.1) K71.1) K77.1) K83.1) p0A))
 have f10B := ((((p0E.keep K0H nin0).ext E0S).keep K0U (ninS ne6Y nin0)).keep K2X (ninS ne10A (ninS ne6Z (ninS ne7A (ninS ne6Y (ninS ne7B nin0))))))
 have f10C := ((((p0D.keep K0H nin0).ext E0S).keep K0U (ninS ne6Y nin0)).keep K2X (ninS ne10A (ninS ne6Z (ninS ne7A (ninS ne6Y (ninS ne7B nin0))))))
 have f10D := ((((p0C.keep K0H nin0).ext E0S).keep K0U (ninS ne6Y nin0)).keep K2X (ninS ne10A (ninS ne6Z (ninS ne7A (ninS ne6Y (ninS ne7B nin0))))))
 have ne10E : o0I ≠ o27 := (Ne.symm (onb p31.lt (ntr (ntr (ntr (ntr (ntr (ntr K39.1 K52.1) K65.1) K71.1) K77.1) K83.1) K95.1) p0M))
 have f10F := (((p0Q.ext E0S).keep K0U (ninS ne7G nin0)).keep K2X (ninS ne10E (ninS ne7H (ninS ne7I (ninS ne7G (ninS ne7J nin0))))))
 have f10G := (((p0P.ext E0S).keep K0U (ninS ne7G nin0)).keep K2X (ninS ne10E (ninS ne7H (ninS ne7I (ninS ne7G (ninS ne7J nin0))))))
 have f10H := (((p0O.ext E0S).keep K0U (ninS ne7G nin0)).keep K2X (ninS ne10E (ninS ne7H (ninS ne7I (ninS ne7G (ninS ne7J nin0))))))
 have f10I := (p1T.keep K2X (ninS ne3R (ninS ne4T (ninS ne4U (ninS ne4S (ninS ne4V nin0))))))
 have f10J := (f2L.keep K2X (ninS (Ne.symm (Exa.neArv p31 p34 (w_10 hw))) (ninS ne5U (ninS ne5V (ninS ne2K (ninS ne5W nin0))))))
 have f10K := ((((((((((p47.keep K52 nin0).keep K65 nin0).keep K71 nin0).keep K77 nin0).keep K83 nin0).keep K95 nin0).keep K0H nin0).ext E0S).keep K0U (ninS ne6B nin0)).keep K2X (ninS (Ne.symm (onb p31.lt (Nat.le_refl _) p48)) (ninS ne6C (ninS ne6D (ninS ne6B (ninS ne6E nin0))))))
 have f10L := (((((((((p60.keep K65 nin0).keep K71 nin0).keep K77 nin0).keep K83 nin0).keep K95 nin0).keep K0H nin0).ext E0S).keep K0U (ninS ne6J nin0)).keep K2X (ninS (Ne.symm (onb p31.lt K39.1 p61)) (ninS ne6K (ninS ne6L (ninS ne6J (ninS ne6M nin0))))))
 have f10M := (p1U.keep K2X (ninS (Ne.symm ne5E) (ninS ne4X (ninS ne4Y (ninS ne4W (ninS ne4Z nin0))))))
 have c10N : ∀ t, Sx p e below T3V m 254 (LQ0 p0 p1 p2 p3 p4 ca cb o13 o18 o23 o27 o40 o53 ii0 ii1 ii2 o66 o72 o78 bb dd0 dd1 dd2 o84 o96 o0I b0S (xvi (0 : Int32)) (xvi (0 : Int32)) xun xun xun xun xun xun xun xun) [] t → TG t := fun t k => c21 t (by
  refine y_istore X21 hx 73 (hb B at_71) (L' := #[xvi p0, xvi p1, xvi p2, xvi p3, xvi p4, xvi ca, xvi cb, xvi o13, xvi o18, xvi o23, xun, xun, xun, xun, xun, xun, xun, xun, xun, xun, xun, xun, xun, xun, xun, xun, xun, xun, xun, xun, xun, xun, xun, xun, xun, xun, xun]) rfl rfl <| y_iload X21 hx 75 (hb B at_73) rfl rfl ?_
  refine st26 _ ?_
  refine y_astore X26 hx 80 (hb B at_78) (L' := #[xvi p0, xvi p1, xvi p2, xvi p3, xvi p4, xvi ca, xvi cb, xvi o13, xvi o18, xvi o23, xvr o27, xun, xun, xun, xun, xun, xun, xun, xun, xun, xun, xun, xun, xun, xun, xun, xun, xun, xun, xun, xun, xun, xun, xun, xun, xun, xun]) rfl rfl rfl <| y_iload X26 hx 82 (hb B at_80) rfl rfl ?_
  refine st39 _ ?_
  refine y_astore X39 hx 87 (hb B at_85) (L' := #[xvi p0, xvi p1, xvi p2, xvi p3, xvi p4, xvi ca, xvi cb, xvi o13, xvi o18, xvi o23, xvr o27, xvr o40, xun, xun, xun, xun, xun, xun, xun, xun, xun, xun, xun, xun, xun, xun, xun, xun, xun, xun, xun, xun, xun, xun, xun, xun, xun]) rfl rfl rfl <| y_iload X39 hx 89 (hb B at_87) rfl rfl ?_
  refine st52 _ ?_
  refine y_astore X52 hx 94 (hb B at_92) (L' := #[xvi p0, xvi p1, xvi p2, xvi p3, xvi p4, xvi ca, xvi cb, xvi o13, xvi o18, xvi o23, xvr o27, xvr o40, xvr o53, xun, xun, xun, xun, xun, xun, xun, xun, xun, xun, xun, xun, xun, xun, xun, xun, xun, xun, xun, xun, xun, xun, xun, xun]) rfl rfl rfl <| y_iloadN X52 hx 95 (hb B at_94) rfl rfl <| y_bipush X52 hx (15 : Int32) 97 (hb B at_95) rfl rfl <| y_iand X52 hx 98 (hb B at_97) rfl <| y_bipush X52 hx (9 : Int32) 100 (hb B at_98) rfl rfl ?_
  show Sx p e below T52 m 100 #[xvi p0, xvi p1, xvi p2, xvi p3, xvi p4, xvi ca, xvi cb, xvi o13, xvi o18, xvi o23, xvr o27, xvr o40, xvr o53, xun, xun, xun, xun, xun, xun, xun, xun, xun, xun, xun, xun, xun, xun, xun, xun, xun, xun, xun, xun, xun, xun, xun, xun] [xwi (9 : Int32), xwi (p1 &&& (15 : Int32))] _
  refine iremM X52 hx rfl (hb B at_100) rfl (by decide) ?_
  show Sx p e below T52 m 101 #[xvi p0, xvi p1, xvi p2, xvi p3, xvi p4, xvi ca, xvi cb, xvi o13, xvi o18, xvi o23, xvr o27, xvr o40, xvr o53, xun, xun, xun, xun, xun, xun, xun, xun, xun, xun, xun, xun, xun, xun, xun, xun, xun, xun, xun, xun, xun, xun, xun, xun] [xwi ((p1 &&& (15 : Int32)) % (9 : Int32))] _
  rw [← e_ii0]
  refine y_istore X52 hx 103 (hb B at_101) (L' := #[xvi p0, xvi p1, xvi p2, xvi p3, xvi p4, xvi ca, xvi cb, xvi o13, xvi o18, xvi o23, xvr o27, xvr o40, xvr o53, xvi ii0, xun, xun, xun, xun, xun, xun, xun, xun, xun, xun, xun, xun, xun, xun, xun, xun, xun, xun, xun, xun, xun, xun, xun]) rfl rfl <| y_iloadN X52 hx 104 (hb B at_103) rfl rfl <| y_iconst X52 hx (4 : Int32) 105 (hb B at_104) rfl rfl ?_
  refine XS.iushr X52.here hx rfl (hb B at_105) rfl ?_
  refine y_bipush X52 hx (15 : Int32) 108 (hb B at_106) rfl rfl <| y_iand X52 hx 109 (hb B at_108) rfl <| y_bipush X52 hx (9 : Int32) 111 (hb B at_109) rfl rfl ?_
  show Sx p e below T52 m 111 #[xvi p0, xvi p1, xvi p2, xvi p3, xvi p4, xvi ca, xvi cb, xvi o13, xvi o18, xvi o23, xvr o27, xvr o40, xvr o53, xvi ii0, xun, xun, xun, xun, xun, xun, xun, xun, xun, xun, xun, xun, xun, xun, xun, xun, xun, xun, xun, xun, xun, xun, xun] [xwi (9 : Int32), xwi (((p1.toUInt32 >>> ((4 : Int32) &&& 31).toUInt32).toInt32) &&& (15 : Int32))] _
  refine iremM X52 hx rfl (hb B at_111) rfl (by decide) ?_
  show Sx p e below T52 m 112 #[xvi p0, xvi p1, xvi p2, xvi p3, xvi p4, xvi ca, xvi cb, xvi o13, xvi o18, xvi o23, xvr o27, xvr o40, xvr o53, xvi ii0, xun, xun, xun, xun, xun, xun, xun, xun, xun, xun, xun, xun, xun, xun, xun, xun, xun, xun, xun, xun, xun, xun, xun] [xwi ((((p1.toUInt32 >>> ((4 : Int32) &&& 31).toUInt32).toInt32) &&& (15 : Int32)) % (9 : Int32))] _
  rw [← e_ii1]
  refine y_istore X52 hx 114 (hb B at_112) (L' := #[xvi p0, xvi p1, xvi p2, xvi p3, xvi p4, xvi ca, xvi cb, xvi o13, xvi o18, xvi o23, xvr o27, xvr o40, xvr o53, xvi ii0, xvi ii1, xun, xun, xun, xun, xun, xun, xun, xun, xun, xun, xun, xun, xun, xun, xun, xun, xun, xun, xun, xun, xun, xun]) rfl rfl <| y_iloadN X52 hx 115 (hb B at_114) rfl rfl <| y_bipush X52 hx (8 : Int32) 117 (hb B at_115) rfl rfl ?_
  refine XS.iushr X52.here hx rfl (hb B at_117) rfl ?_
  refine y_bipush X52 hx (15 : Int32) 120 (hb B at_118) rfl rfl <| y_iand X52 hx 121 (hb B at_120) rfl <| y_bipush X52 hx (9 : Int32) 123 (hb B at_121) rfl rfl ?_
  show Sx p e below T52 m 123 #[xvi p0, xvi p1, xvi p2, xvi p3, xvi p4, xvi ca, xvi cb, xvi o13, xvi o18, xvi o23, xvr o27, xvr o40, xvr o53, xvi ii0, xvi ii1, xun, xun, xun, xun, xun, xun, xun, xun, xun, xun, xun, xun, xun, xun, xun, xun, xun, xun, xun, xun, xun, xun] [xwi (9 : Int32), xwi (((p1.toUInt32 >>> ((8 : Int32) &&& 31).toUInt32).toInt32) &&& (15 : Int32))] _
  refine iremM X52 hx rfl (hb B at_123) rfl (by decide) ?_
  show Sx p e below T52 m 124 #[xvi p0, xvi p1, xvi p2, xvi p3, xvi p4, xvi ca, xvi cb, xvi o13, xvi o18, xvi o23, xvr o27, xvr o40, xvr o53, xvi ii0, xvi ii1, xun, xun, xun, xun, xun, xun, xun, xun, xun, xun, xun, xun, xun, xun, xun, xun, xun, xun, xun, xun, xun, xun] [xwi ((((p1.toUInt32 >>> ((8 : Int32) &&& 31).toUInt32).toInt32) &&& (15 : Int32)) % (9 : Int32))] _
  rw [← e_ii2]
  refine y_istore X52 hx 126 (hb B at_124) (L' := #[xvi p0, xvi p1, xvi p2, xvi p3, xvi p4, xvi ca, xvi cb, xvi o13, xvi o18, xvi o23, xvr o27, xvr o40, xvr o53, xvi ii0, xvi ii1, xvi ii2, xun, xun, xun, xun, xun, xun, xun, xun, xun, xun, xun, xun, xun, xun, xun, xun, xun, xun, xun, xun, xun]) rfl rfl <| y_iload X52 hx 128 (hb B at_126) rfl rfl ?_
  refine st65 _ ?_
  refine y_astore X65 hx 133 (hb B at_131) (L' := #[xvi p0, xvi p1, xvi p2, xvi p3, xvi p4, xvi ca, xvi cb, xvi o13, xvi o18, xvi o23, xvr o27, xvr o40, xvr o53, xvi ii0, xvi ii1, xvi ii2, xvr o66, xun, xun, xun, xun, xun, xun, xun, xun, xun, xun, xun, xun, xun, xun, xun, xun, xun, xun, xun, xun]) rfl rfl rfl <| y_iload X65 hx 135 (hb B at_133) rfl rfl ?_
  refine st71 _ ?_
  refine y_astore X71 hx 140 (hb B at_138) (L' := #[xvi p0, xvi p1, xvi p2, xvi p3, xvi p4, xvi ca, xvi cb, xvi o13, xvi o18, xvi o23, xvr o27, xvr o40, xvr o53, xvi ii0, xvi ii1, xvi ii2, xvr o66, xvr o72, xun, xun, xun, xun, xun, xun, xun, xun, xun, xun, xun, xun, xun, xun, xun, xun, xun, xun, xun]) rfl rfl rfl <| y_iload X71 hx 142 (hb B at_140) rfl rfl ?_
  refine st77 _ ?_
  refine y_astore X77 hx 147 (hb B at_145) (L' := #[xvi p0, xvi p1, xvi p2, xvi p3, xvi p4, xvi ca, xvi cb, xvi o13, xvi o18, xvi o23, xvr o27, xvr o40, xvr o53, xvi ii0, xvi ii1, xvi ii2, xvr o66, xvr o72, xvr o78, xun, xun, xun, xun, xun, xun, xun, xun, xun, xun, xun, xun, xun, xun, xun, xun, xun, xun]) rfl rfl rfl <| y_iloadN X77 hx 148 (hb B at_147) rfl rfl ?_
  show Sx p e below T77 m 148 #[xvi p0, xvi p1, xvi p2, xvi p3, xvi p4, xvi ca, xvi cb, xvi o13, xvi o18, xvi o23, xvr o27, xvr o40, xvr o53, xvi ii0, xvi ii1, xvi ii2, xvr o66, xvr o72, xvr o78, xun, xun, xun, xun, xun, xun, xun, xun, xun, xun, xun, xun, xun, xun, xun, xun, xun, xun] [xwi p3] _
  refine X77.ldcInt hx hown (mvT hZ (w_35 hw)) (g := (mkF m 148 #[xvi p0, xvi p1, xvi p2, xvi p3, xvi p4, xvi ca, xvi cb, xvi o13, xvi o18, xvi o23, xvr o27, xvr o40, xvr o53, xvi ii0, xvi ii1, xvi ii2, xvr o66, xvr o72, xvr o78, xun, xun, xun, xun, xun, xun, xun, xun, xun, xun, xun, xun, xun, xun, xun, xun, xun, xun] [xwi p3])) rfl (hb B at_148) _ ?_
  refine y_iand X77 hx 151 (hb B at_150) rfl ?_
  show Sx p e below T77 m 151 #[xvi p0, xvi p1, xvi p2, xvi p3, xvi p4, xvi ca, xvi cb, xvi o13, xvi o18, xvi o23, xvr o27, xvr o40, xvr o53, xvi ii0, xvi ii1, xvi ii2, xvr o66, xvr o72, xvr o78, xun, xun, xun, xun, xun, xun, xun, xun, xun, xun, xun, xun, xun, xun, xun, xun, xun, xun] [xwi (p3 &&& (2097151 : Int32))] _
  refine X77.ldcInt hx hown (mvT hZ (w_36 hw)) (g := (mkF m 151 #[xvi p0, xvi p1, xvi p2, xvi p3, xvi p4, xvi ca, xvi cb, xvi o13, xvi o18, xvi o23, xvr o27, xvr o40, xvr o53, xvi ii0, xvi ii1, xvi ii2, xvr o66, xvr o72, xvr o78, xun, xun, xun, xun, xun, xun, xun, xun, xun, xun, xun, xun, xun, xun, xun, xun, xun, xun] [xwi (p3 &&& (2097151 : Int32))])) rfl (hb B at_151) _ ?_
  refine y_isub X77 hx 154 (hb B at_153) rfl ?_
  show Sx p e below T77 m 154 #[xvi p0, xvi p1, xvi p2, xvi p3, xvi p4, xvi ca, xvi cb, xvi o13, xvi o18, xvi o23, xvr o27, xvr o40, xvr o53, xvi ii0, xvi ii1, xvi ii2, xvr o66, xvr o72, xvr o78, xun, xun, xun, xun, xun, xun, xun, xun, xun, xun, xun, xun, xun, xun, xun, xun, xun, xun] [xwi ((p3 &&& (2097151 : Int32)) - (1048576 : Int32))] _
  rw [← e_bb]
  refine y_istore X77 hx 156 (hb B at_154) (L' := #[xvi p0, xvi p1, xvi p2, xvi p3, xvi p4, xvi ca, xvi cb, xvi o13, xvi o18, xvi o23, xvr o27, xvr o40, xvr o53, xvi ii0, xvi ii1, xvi ii2, xvr o66, xvr o72, xvr o78, xvi bb, xun, xun, xun, xun, xun, xun, xun, xun, xun, xun, xun, xun, xun, xun, xun, xun, xun]) rfl rfl <| y_iload X77 hx 158 (hb B at_156) rfl rfl <| y_iloadN X77 hx 159 (hb B at_158) rfl rfl <| y_bipush X77 hx (7 : Int32) 161 (hb B at_159) rfl rfl <| y_iand X77 hx 162 (hb B at_161) rfl <| y_iadd X77 hx 163 (hb B at_162) rfl ?_
  rw [← e_dd0]
  refine y_istore X77 hx 165 (hb B at_163) (L' := #[xvi p0, xvi p1, xvi p2, xvi p3, xvi p4, xvi ca, xvi cb, xvi o13, xvi o18, xvi o23, xvr o27, xvr o40, xvr o53, xvi ii0, xvi ii1, xvi ii2, xvr o66, xvr o72, xvr o78, xvi bb, xvi dd0, xun, xun, xun, xun, xun, xun, xun, xun, xun, xun, xun, xun, xun, xun, xun, xun]) rfl rfl <| y_iload X77 hx 167 (hb B at_165) rfl rfl <| y_iloadN X77 hx 168 (hb B at_167) rfl rfl <| y_iconst X77 hx (3 : Int32) 169 (hb B at_168) rfl rfl ?_
  refine XS.iushr X77.here hx rfl (hb B at_169) rfl ?_
  refine y_bipush X77 hx (7 : Int32) 172 (hb B at_170) rfl rfl <| y_iand X77 hx 173 (hb B at_172) rfl <| y_iadd X77 hx 174 (hb B at_173) rfl ?_
  show Sx p e below T77 m 174 #[xvi p0, xvi p1, xvi p2, xvi p3, xvi p4, xvi ca, xvi cb, xvi o13, xvi o18, xvi o23, xvr o27, xvr o40, xvr o53, xvi ii0, xvi ii1, xvi ii2, xvr o66, xvr o72, xvr o78, xvi bb, xvi dd0, xun, xun, xun, xun, xun, xun, xun, xun, xun, xun, xun, xun, xun, xun, xun, xun] [xwi (bb + (((p2.toUInt32 >>> ((3 : Int32) &&& 31).toUInt32).toInt32) &&& (7 : Int32)))] _
  rw [← e_dd1]
  refine y_istore X77 hx 176 (hb B at_174) (L' := #[xvi p0, xvi p1, xvi p2, xvi p3, xvi p4, xvi ca, xvi cb, xvi o13, xvi o18, xvi o23, xvr o27, xvr o40, xvr o53, xvi ii0, xvi ii1, xvi ii2, xvr o66, xvr o72, xvr o78, xvi bb, xvi dd0, xvi dd1, xun, xun, xun, xun, xun, xun, xun, xun, xun, xun, xun, xun, xun, xun, xun]) rfl rfl <| y_iload X77 hx 178 (hb B at_176) rfl rfl <| y_iloadN X77 hx 179 (hb B at_178) rfl rfl <| y_bipush X77 hx (6 : Int32) 181 (hb B at_179) rfl rfl ?_
  refine XS.iushr X77.here hx rfl (hb B at_181) rfl ?_
  refine y_bipush X77 hx (7 : Int32) 184 (hb B at_182) rfl rfl <| y_iand X77 hx 185 (hb B at_184) rfl <| y_iadd X77 hx 186 (hb B at_185) rfl ?_
  show Sx p e below T77 m 186 #[xvi p0, xvi p1, xvi p2, xvi p3, xvi p4, xvi ca, xvi cb, xvi o13, xvi o18, xvi o23, xvr o27, xvr o40, xvr o53, xvi ii0, xvi ii1, xvi ii2, xvr o66, xvr o72, xvr o78, xvi bb, xvi dd0, xvi dd1, xun, xun, xun, xun, xun, xun, xun, xun, xun, xun, xun, xun, xun, xun, xun] [xwi (bb + (((p2.toUInt32 >>> ((6 : Int32) &&& 31).toUInt32).toInt32) &&& (7 : Int32)))] _
  rw [← e_dd2]
  refine y_istore X77 hx 188 (hb B at_186) (L' := #[xvi p0, xvi p1, xvi p2, xvi p3, xvi p4, xvi ca, xvi cb, xvi o13, xvi o18, xvi o23, xvr o27, xvr o40, xvr o53, xvi ii0, xvi ii1, xvi ii2, xvr o66, xvr o72, xvr o78, xvi bb, xvi dd0, xvi dd1, xvi dd2, xun, xun, xun, xun, xun, xun, xun, xun, xun, xun, xun, xun, xun, xun]) rfl rfl <| y_iload X77 hx 190 (hb B at_188) rfl rfl <| y_i2l X77 hx 191 (hb B at_190) rfl ?_
  refine st83 _ ?_
  refine y_astore X83 hx 196 (hb B at_194) (L' := #[xvi p0, xvi p1, xvi p2, xvi p3, xvi p4, xvi ca, xvi cb, xvi o13, xvi o18, xvi o23, xvr o27, xvr o40, xvr o53, xvi ii0, xvi ii1, xvi ii2, xvr o66, xvr o72, xvr o78, xvi bb, xvi dd0, xvi dd1, xvi dd2, xvr o84, xun, xun, xun, xun, xun, xun, xun, xun, xun, xun, xun, xun, xun]) rfl rfl rfl <| y_iload X83 hx 198 (hb B at_196) rfl rfl <| y_i2l X83 hx 199 (hb B at_198) rfl ?_
  refine st95 _ ?_
  refine y_astore X95 hx 204 (hb B at_202) (L' := #[xvi p0, xvi p1, xvi p2, xvi p3, xvi p4, xvi ca, xvi cb, xvi o13, xvi o18, xvi o23, xvr o27, xvr o40, xvr o53, xvi ii0, xvi ii1, xvi ii2, xvr o66, xvr o72, xvr o78, xvi bb, xvi dd0, xvi dd1, xvi dd2, xvr o84, xvr o96, xun, xun, xun, xun, xun, xun, xun, xun, xun, xun, xun, xun]) rfl rfl rfl <| y_iload X95 hx 206 (hb B at_204) rfl rfl <| y_i2l X95 hx 207 (hb B at_206) rfl ?_
  refine st0H _ ?_
  refine y_astore X0H hx 212 (hb B at_210) (L' := #[xvi p0, xvi p1, xvi p2, xvi p3, xvi p4, xvi ca, xvi cb, xvi o13, xvi o18, xvi o23, xvr o27, xvr o40, xvr o53, xvi ii0, xvi ii1, xvi ii2, xvr o66, xvr o72, xvr o78, xvi bb, xvi dd0, xvi dd1, xvi dd2, xvr o84, xvr o96, xvr o0I, xun, xun, xun, xun, xun, xun, xun, xun, xun, xun, xun]) rfl rfl rfl ?_
  refine st0S _ ?_
  refine y_dup X0S hx 216 (hb B at_215) rfl rfl <| y_iconst X0S hx (2 : Int32) 217 (hb B at_216) rfl rfl <| y_iload X0S hx 219 (hb B at_217) rfl rfl <| y_bipush X0S hx (7 : Int32) 221 (hb B at_219) rfl rfl <| y_iand X0S hx 222 (hb B at_221) rfl <| y_iadd X0S hx 223 (hb B at_222) rfl ?_
  show Sx p e below T0S m 223 #[xvi p0, xvi p1, xvi p2, xvi p3, xvi p4, xvi ca, xvi cb, xvi o13, xvi o18, xvi o23, xvr o27, xvr o40, xvr o53, xvi ii0, xvi ii1, xvi ii2, xvr o66, xvr o72, xvr o78, xvi bb, xvi dd0, xvi dd1, xvi dd2, xvr o84, xvr o96, xvr o0I, xun, xun, xun, xun, xun, xun, xun, xun, xun, xun, xun] [xwi ((2 : Int32) + (p4 &&& (7 : Int32))), xwr b0S, xwr b0S] _
  rw [← e_mo]
  refine st0U.trans ?_
  refine y_astore X0U hx 228 (hb B at_226) (L' := (LQ0 p0 p1 p2 p3 p4 ca cb o13 o18 o23 o27 o40 o53 ii0 ii1 ii2 o66 o72 o78 bb dd0 dd1 dd2 o84 o96 o0I b0S xun xun xun xun xun xun xun xun xun xun)) rfl rfl rfl <| y_aload X0U hx 230 (hb B at_228) rfl rfl rfl ?_
  refine st2F.trans ?_
  refine y_istore X2F hx 235 (hb B at_233) (L' := (LQ0 p0 p1 p2 p3 p4 ca cb o13 o18 o23 o27 o40 o53 ii0 ii1 ii2 o66 o72 o78 bb dd0 dd1 dd2 o84 o96 o0I b0S (xvi (0 : Int32)) xun xun xun xun xun xun xun xun xun)) rfl rfl <| y_aload X2F hx 237 (hb B at_235) rfl rfl rfl <| y_aload X2F hx 239 (hb B at_237) rfl rfl rfl <| y_aload X2F hx 241 (hb B at_239) rfl rfl rfl <| y_aload X2F hx 243 (hb B at_241) rfl rfl rfl ?_
  refine st2X.trans ?_
  refine y_pop X2X hx 247 (hb B at_246) rfl rfl <| y_aload X2X hx 249 (hb B at_247) rfl rfl rfl ?_
  refine st3V.trans ?_
  refine y_istore X3V hx 254 (hb B at_252) (L' := (LQ0 p0 p1 p2 p3 p4 ca cb o13 o18 o23 o27 o40 o53 ii0 ii1 ii2 o66 o72 o78 bb dd0 dd1 dd2 o84 o96 o0I b0S (xvi (0 : Int32)) (xvi (0 : Int32)) xun xun xun xun xun xun xun xun)) rfl rfl ?_
  exact k)
 have j10O : ∃ (T' : State) (h' : Heap) (locs' : List Loc) (r2x : Int32) (rrx : Int32) (r3x : Int32), Stand p l e room_1 s m #[(.int p0), (.int p1), (.int p2), (.int p3), (.int p4)] below meth c T' locs' 18 135 ∧ T'.heap = h' ∧ Fr n0 locs' ∧ Keep hp2X h' [b0S, o0V, o0W, o0X, o0Y, o0Z, o40, o53, o2Y] ∧ Exa Z h' b0S sg0 ∧ Fld Z h' b0S sg0 "outOfOrder" sg6 (.ref o0Y) ∧ Exa Z h' o0Y sg2 ∧ Fld Z h' o0Y sg2 "wordsInUse" "I" (.int r3x) ∧ R23 r2x r3x o13.toInt o18.toInt o23.toInt ii0.toInt ii1.toInt ii2.toInt dd0.toInt dd1.toInt dd2.toInt ∧ ∀ t, Sx p e below T' m 284 (LQ0 p0 p1 p2 p3 p4 ca cb o13 o18 o23 o27 o40 o53 ii0 ii1 ii2 o66 o72 o78 bb dd0 dd1 dd2 o84 o96 o0I b0S (xvi (0 : Int32)) (xvi (0 : Int32)) (xvi r2x) xun xun xun xun xun xun xun) [xwi rrx] t → TG t := by
  have c10P : ∀ t, Sx p e below T3V m 262 (LQ0 p0 p1 p2 p3 p4 ca cb o13 o18 o23 o27 o40 o53 ii0 ii1 ii2 o66 o72 o78 bb dd0 dd1 dd2 o84 o96 o0I b0S (xvi (0 : Int32)) (xvi (0 : Int32)) xun xun xun xun xun xun xun xun) [xwr o72, xwr o96, xwr o40, xwr b0S] t → TG t := fun t k => c10N t (by
   refine y_aload X3V hx 256 (hb B at_254) rfl rfl rfl <| y_aload X3V hx 258 (hb B at_256) rfl rfl rfl <| y_aload X3V hx 260 (hb B at_258) rfl rfl rfl <| y_aload X3V hx 262 (hb B at_260) rfl rfl rfl ?_
   exact k)
  by_cases hk10Q : o18 = o13
  ·by_cases hk10R : ii1 = ii0
   ·obtain ⟨cq10S, kq10S, q10Sa, q10Sb, q10Sc⟩ := isOf hZ e3V p3D
    obtain ⟨_, _, ⟨T10T, L10T, k10T, n10T⟩, -, X10T, ⟨Lc10T, hQ10T, l10T, y10T, z10T⟩, st10T⟩ := X3V.virtualBack hx (y := mm39) (z := mm39) hown (mvT hZ (w_173 hw)) (mvT hZ (w_174 hw)) (notFace_of_selects (args := #[]) (mvT hZ (w_176 hw))) (mvT hZ (w_176 hw)) (mvT hZ (w_175 hw)) (by decide) (backOf (W := 0) (rmAd1 l Z a0 hw G ST [] b0S o0V _ o1E o1F _ o0W _ _ o40 o41 _ o18 o27 o28 _ o13 o0X o0Y mo o0Z _ o96 o97 o98 o99 dd1 _ _ o72 ii1 o2Y _ _ dd0 hp2X n0 Ol3T p3D p3E p3F p3L hSLS p3G p3M f9D f9L f9O f10K f9M f9N gq4D hc1 p3A p3B p3C f10J (Ne.symm ne5L) (own_tab0 hk10Q (own_gs (own_lt32 hSLS own_lrep (own_hs hSLS o13)))) (own_be hk10Q) (own_tab0 hk10Q (own_gs (own_lt32 hSLS own_lrep (own_hs hSLS o13)))) p3H p3I p3J f3Q f3S f10I f10M f9J f10D f10C f10B p0F p3P f9G f9U hi1 hr1 hmo p75 (own_dt hk10R (own_gs (own_i9 hi0 own_lrep))) p3O rfl rfl gq4L (Ne.symm ne8N) gq4A gq4B) hZ (w_177 hw) (w_103 hw) (by decide) (by decide)) q10Sa q10Sc (g := (mkF m 262 (LQ0 p0 p1 p2 p3 p4 ca cb o13 o18 o23 o27 o40 o53 ii0 ii1 ii2 o66 o72 o78 bb dd0 dd1 dd2 o84 o96 o0I b0S (xvi (0 : Int32)) (xvi (0 : Int32)) xun xun xun xun xun xun xun xun) [xwr o72, xwr o96, xwr o40, xwr b0S])) rfl (by rw [hml]; rfl) (Steps.refl _) (argsL := [(.ref o40), (.ref o96), (.ref o72)]) (rest := []) (lenOf pd_26 rfl) rfl (Nat.le_of_eq rfl) (hb B at_262) (fun _ _ => ⟨rfl, e3V, (by decide : 16 + 0 ≤ _), (by decide : 117 + 0 ≤ _)⟩)
    dsimp only [Pt.U, Pt.locs, Pt.cells, Pt.slots] at X10T l10T y10T z10T st10T hQ10T
    subst l10T y10T z10T
    obtain ⟨hp10T, e10T⟩ : ∃ z, T10T.heap = z := ⟨_, rfl⟩
    rw [e10T] at hQ10T
    obtain ⟨o10U, o10V, o10W, o10X, rfl, N10Tq, K10T, p10Y, p10Z, p11A, p11B, p11C, p11D, p11E, p11F, p11G⟩ := hQ10T
    have N10T := Fr.app N3V N10Tq
    have c11H : ∀ t, Sx p e below T10T m 265 (LQ0 p0 p1 p2 p3 p4 ca cb o13 o18 o23 o27 o40 o53 ii0 ii1 ii2 o66 o72 o78 bb dd0 dd1 dd2 o84 o96 o0I b0S (xvi (0 : Int32)) (xvi (0 : Int32)) xun xun xun xun xun xun xun xun) [xwi o10U] t → TG t := fun t k => c10P t (by
     refine st10T.trans ?_
     exact k)
    rcases p11G with ⟨hk11I, rfl, rfl, rfl⟩ | ⟨hk11I, rfl, rfl, rfl⟩
    ·have f11J := (p3D.keep K10T)
     have f11K := (p3J.keep K10T (ninS (Ne.symm ne5F) (ninS (Ne.symm ne8L) (ninS (Ne.symm ne4S) (ninS (Ne.symm ne4W) nin0)))))
     have Ol11L : Old Z n0 hp10T := (Ol3T.keep K10T (allS gq4D (allS gq4L (allS gq4A (allS gq4B all0)))))
     obtain ⟨cq11M, kq11M, q11Ma, q11Mb, q11Mc⟩ := isOf hZ e10T f11J
     obtain ⟨_, _, ⟨T11N, L11N, k11N, n11N⟩, -, X11N, ⟨Lc11N, hQ11N, l11N, y11N, z11N⟩, st11N⟩ := X10T.virtualBack hx (y := mm31) (z := mm31) hown (mvT hZ (w_163 hw)) (mvT hZ (w_164 hw)) (notFace_of_selects (args := #[]) (mvT hZ (w_166 hw))) (mvT hZ (w_166 hw)) (mvT hZ (w_165 hw)) (by decide) (backOf (W := 0) (rmAn0 l Z a0 hw G ST [] b0S o0Y hp10T n0 Ol11L f11J f11K p11B p11C) hZ (w_167 hw) (w_103 hw) (by decide) (by decide)) q11Ma q11Mc (g := (mkF m 268 (LQ0 p0 p1 p2 p3 p4 ca cb o13 o18 o23 o27 o40 o53 ii0 ii1 ii2 o66 o72 o78 bb dd0 dd1 dd2 o84 o96 o0I b0S (xvi (0 : Int32)) (xvi (0 : Int32)) xun xun xun xun xun xun xun xun) [xwr b0S])) rfl (by rw [hml]; rfl) (Steps.refl _) (argsL := []) (rest := []) (lenOf pd_3 rfl) rfl (Nat.le_of_eq rfl) (hb B at_268) (fun _ _ => ⟨rfl, e10T, (by decide : 16 + 0 ≤ _), (by decide : 117 + 0 ≤ _)⟩)
     dsimp only [Pt.U, Pt.locs, Pt.cells, Pt.slots] at X11N l11N y11N z11N st11N hQ11N
     subst l11N y11N z11N
     obtain ⟨rfl, N11Nq, e11N⟩ := hQ11N
     have N11N := Fr.app N10T N11Nq
     have f11O := (p3A.keep K10T)
     have f11P := (f9E.keep K10T)
     have f11Q := (f9F.keep K10T)
     have f11R := (f9G.keep K10T)
     have f11S := (f9H.keep K10T)
     have f11T := (f9I.keep K10T)
     have f11U := (f9J.keep K10T)
     have f11V := (f9K.keep K10T)
     have f11W := (p3K.keep K10T (ninS (Ne.symm ne5F) (ninS (Ne.symm ne8L) (ninS (Ne.symm ne4S) (ninS (Ne.symm ne4W) nin0)))))
     have f11X := (p3H.keep K10T (ninS (Ne.symm ne5F) (ninS (Ne.symm ne8L) (ninS (Ne.symm ne4S) (ninS (Ne.symm ne4W) nin0)))))
     have f11Y := (p3I.keep K10T (ninS (Ne.symm ne5F) (ninS (Ne.symm ne8L) (ninS (Ne.symm ne4S) (ninS (Ne.symm ne4W) nin0)))))
     have f11Z := (p3G.keep K10T (ninS (Ne.symm ne5F) (ninS (Ne.symm ne8L) (ninS (Ne.symm ne4S) (ninS (Ne.symm ne4W) nin0)))))
     have f12A := (p3E.keep K10T (ninS (Ne.symm ne5F) (ninS (Ne.symm ne8L) (ninS (Ne.symm ne4S) (ninS (Ne.symm ne4W) nin0)))))
     have f12B := (p3F.keep K10T (ninS (Ne.symm ne5F) (ninS (Ne.symm ne8L) (ninS (Ne.symm ne4S) (ninS (Ne.symm ne4W) nin0)))))
     have f12C := (p3B.keep K10T (ninS (Ne.symm ne5L) (ninS (Ne.symm ne8R) (ninS (Ne.symm ne3R) (ninS ne5E nin0)))))
     have f12D := (p3C.keep K10T (ninS (Ne.symm ne5L) (ninS (Ne.symm ne8R) (ninS (Ne.symm ne3R) (ninS ne5E nin0)))))
     have f12E := (f9P.keep K10T (ninS ne5T (ninS (Ne.symm ne8T) (ninS ne5Q (ninS ne5R nin0)))))
     have f12F := (f9Q.keep K10T (ninS ne5T (ninS (Ne.symm ne8T) (ninS ne5Q (ninS ne5R nin0)))))
     have f12G := (f9R.keep K10T (ninS ne5T (ninS (Ne.symm ne8T) (ninS ne5Q (ninS ne5R nin0)))))
     have f12H := (f9S.keep K10T (ninS ne5T (ninS (Ne.symm ne8T) (ninS ne5Q (ninS ne5R nin0)))))
     have f12I := (f9T.keep K10T (ninS ne7T (ninS (Ne.symm ne9A) (ninS ne7R (ninS ne7S nin0)))))
     have f12J := (f9U.keep K10T (ninS ne8B (ninS (Ne.symm ne9B) (ninS ne7Z (ninS ne8A nin0)))))
     have f12K := (f9V.keep K10T (ninS ne8J (ninS (Ne.symm ne9C) (ninS ne8H (ninS ne8I nin0)))))
     have f12L := (f9X.keep K10T (ninS ne6W (ninS (Ne.symm ne8X) (ninS ne6U (ninS ne6V nin0)))))
     have f12M := (f9Y.keep K10T (ninS ne6W (ninS (Ne.symm ne8X) (ninS ne6U (ninS ne6V nin0)))))
     have f12N := (f9Z.keep K10T (ninS ne6W (ninS (Ne.symm ne8X) (ninS ne6U (ninS ne6V nin0)))))
     have f12O := (f10B.keep K10T (ninS ne7E (ninS (Ne.symm ne8Y) (ninS ne7C (ninS ne7D nin0)))))
     have f12P := (f10C.keep K10T (ninS ne7E (ninS (Ne.symm ne8Y) (ninS ne7C (ninS ne7D nin0)))))
     have f12Q := (f10D.keep K10T (ninS ne7E (ninS (Ne.symm ne8Y) (ninS ne7C (ninS ne7D nin0)))))
     have f12R := (f10F.keep K10T (ninS ne7M (ninS (Ne.symm ne8Z) (ninS ne7K (ninS ne7L nin0)))))
     have f12S := (f10G.keep K10T (ninS ne7M (ninS (Ne.symm ne8Z) (ninS ne7K (ninS ne7L nin0)))))
     have f12T := (f10H.keep K10T (ninS ne7M (ninS (Ne.symm ne8Z) (ninS ne7K (ninS ne7L nin0)))))
     have f12U := (f10J.keep K10T (ninS ne5Z (ninS (Ne.symm ne8U) (ninS ne5X (ninS ne5Y nin0)))))
     have f12V := (f10K.keep K10T (ninS ne6H (ninS (Ne.symm ne8V) (ninS ne6F (ninS ne6G nin0)))))
     have f12W := (f10L.keep K10T (ninS ne6P (ninS (Ne.symm ne8W) (ninS ne6N (ninS ne6O nin0)))))
     have f12X := (p3L.keep K10T (ninS (Ne.symm ne5G) (ninS (Ne.symm ne8M) (ninS (Ne.symm ne4T) (ninS (Ne.symm ne4X) nin0)))))
     have f12Y := (p3M.keep K10T (ninS (Ne.symm ne5H) (ninS (Ne.symm ne8N) (ninS (Ne.symm ne4U) (ninS (Ne.symm ne4Y) nin0)))))
     have f12Z := (p3P.keep K10T (ninS (Ne.symm ne5I) (ninS (Ne.symm ne8O) (ninS (Ne.symm ne4V) (ninS (Ne.symm ne4Z) nin0)))))
     have KK13A : Keep hp2X hp10T [b0S, o0V, o0W, o0X, o0Y, o0Z, o40, o53, o2Y] := ((Keep.refl hp2X [b0S, o0V, o0W, o0X, o0Y, o0Z, o40, o53, o2Y]).trans K10T (allS (oi 6 rfl) (allS (oi 8 rfl) (allS (oi 4 rfl) (allS (oi 5 rfl) all0)))))
     have c13B : ∀ t, Sx p e below T11N m 281 (LQ0 p0 p1 p2 p3 p4 ca cb o13 o18 o23 o27 o40 o53 ii0 ii1 ii2 o66 o72 o78 bb dd0 dd1 dd2 o84 o96 o0I b0S (xvi (0 : Int32)) (xvi (0 : Int32)) (xvi (0 : Int32)) xun xun xun xun xun xun xun) [xwr o78, xwr o0I, xwr o53, xwr b0S] t → TG t := fun t k => c11H t (by
      refine y_pop X10T hx 266 (hb B at_265) rfl rfl <| y_aload X10T hx 268 (hb B at_266) rfl rfl rfl ?_
      refine st11N.trans ?_
      refine y_istore X11N hx 273 (hb B at_271) (L' := (LQ0 p0 p1 p2 p3 p4 ca cb o13 o18 o23 o27 o40 o53 ii0 ii1 ii2 o66 o72 o78 bb dd0 dd1 dd2 o84 o96 o0I b0S (xvi (0 : Int32)) (xvi (0 : Int32)) (xvi (0 : Int32)) xun xun xun xun xun xun xun)) rfl rfl <| y_aload X11N hx 275 (hb B at_273) rfl rfl rfl <| y_aload X11N hx 277 (hb B at_275) rfl rfl rfl <| y_aload X11N hx 279 (hb B at_277) rfl rfl rfl <| y_aload X11N hx 281 (hb B at_279) rfl rfl rfl ?_
      exact k)
     by_cases hk13C : o23 = o13
     ·by_cases hk13D : ii2 = ii0
      ·obtain ⟨cq13E, kq13E, q13Ea, q13Eb, q13Ec⟩ := isOf hZ e11N f11J
       obtain ⟨_, _, ⟨T13F, L13F, k13F, n13F⟩, -, X13F, ⟨Lc13F, hQ13F, l13F, y13F, z13F⟩, st13F⟩ := X11N.virtualBack hx (y := mm39) (z := mm39) hown (mvT hZ (w_173 hw)) (mvT hZ (w_174 hw)) (notFace_of_selects (args := #[]) (mvT hZ (w_176 hw))) (mvT hZ (w_176 hw)) (mvT hZ (w_175 hw)) (by decide) (backOf (W := 0) (rmAd1 l Z a0 hw G ST [] b0S o0V _ o1E o1F _ o0W _ _ o53 o54 _ o23 o27 o28 _ o13 o0X o0Y mo o0Z _ o0I o0J o0K o0L dd2 _ _ o78 ii2 o2Y _ _ dd1 hp10T n0 Ol11L f11J f12A f12B f12X hSLS f11Z f12Y f11P f12E f12H f12W f12F f12G gq4E hc2 f11O f12C f12D f12U (Ne.symm ne5S) (own_tab0 hk13C (own_gs (own_lt32 hSLS own_lrep (own_hs hSLS o13)))) (own_be hk13C) (own_tab0 hk13C (own_gs (own_lt32 hSLS own_lrep (own_hs hSLS o13)))) f11X f11Y f11K p11B p11C p11D p11E f11V f12T f12S f12R p0R f12Z f11S f12K hi2 hr2 hmo p81 (own_dt hk13D (own_gs (own_i9 hi0 own_lrep))) p11F rfl rfl gq4L (Ne.symm ne8N) gq4A gq4B) hZ (w_177 hw) (w_103 hw) (by decide) (by decide)) q13Ea q13Ec (g := (mkF m 281 (LQ0 p0 p1 p2 p3 p4 ca cb o13 o18 o23 o27 o40 o53 ii0 ii1 ii2 o66 o72 o78 bb dd0 dd1 dd2 o84 o96 o0I b0S (xvi (0 : Int32)) (xvi (0 : Int32)) (xvi (0 : Int32)) xun xun xun xun xun xun xun) [xwr o78, xwr o0I, xwr o53, xwr b0S])) rfl (by rw [hml]; rfl) (Steps.refl _) (argsL := [(.ref o53), (.ref o0I), (.ref o78)]) (rest := []) (lenOf pd_26 rfl) rfl (Nat.le_of_eq rfl) (hb B at_281) (fun _ _ => ⟨rfl, e11N, (by decide : 16 + 0 ≤ _), (by decide : 117 + 0 ≤ _)⟩)
       dsimp only [Pt.U, Pt.locs, Pt.cells, Pt.slots] at X13F l13F y13F z13F st13F hQ13F
       subst l13F y13F z13F
       obtain ⟨hp13F, e13F⟩ : ∃ z, T13F.heap = z := ⟨_, rfl⟩
       rw [e13F] at hQ13F
       obtain ⟨o13G, o13H, o13I, o13J, rfl, N13Fq, K13F, p13K, p13L, p13M, p13N, p13O, p13P, p13Q, p13R, p13S⟩ := hQ13F
       have N13F := Fr.app N11N N13Fq
       have f13T := (f11J.keep K13F)
       have f13U := (f11K.keep K13F (ninS (Ne.symm ne5M) (ninS (Ne.symm ne8L) (ninS (Ne.symm ne4S) (ninS (Ne.symm ne4W) nin0)))))
       refine ⟨T13F, hp13F, _, (0 : Int32), o13G, o13H, own_wid X13F (by decide : 16 ≤ 18) (by decide : 117 ≤ 135), e13F, N13F, (KK13A.trans K13F (allS (oi 7 rfl) (allS (oi 8 rfl) (allS (oi 4 rfl) (allS (oi 5 rfl) all0))))), f13T, f13U, p13N, p13O, ⟨Or.inr ⟨rfl, by have q0 := own_eq hk10Q; have q1 := own_eq hk10R; have q2 := own_nlt hk11I; have q3 := own_eq hk13C; have q4 := own_eq hk13D; omega⟩, p13S.elim (fun hq => Or.inr ⟨hq.2.1, by have q0 := own_eq hk10Q; have q1 := own_eq hk10R; have q2 := own_nlt hk11I; have q3 := own_eq hk13C; have q4 := own_eq hk13D; have q := own_nlt hq.1; omega⟩) (fun hq => Or.inl ⟨hq.2.1, by have q0 := own_eq hk10Q; have q1 := own_eq hk10R; have q2 := own_nlt hk11I; have q3 := own_eq hk13C; have q4 := own_eq hk13D; have q := own_lt hq.1; omega⟩)⟩, fun t k => c13B t ?_⟩
       refine st13F.trans ?_
       exact k
      ·obtain ⟨cq13V, kq13V, q13Va, q13Vb, q13Vc⟩ := isOf hZ e11N f11J
       obtain ⟨_, _, ⟨T13W, L13W, k13W, n13W⟩, -, X13W, ⟨Lc13W, hQ13W, l13W, y13W, z13W⟩, st13W⟩ := X11N.virtualBack hx (y := mm39) (z := mm39) hown (mvT hZ (w_173 hw)) (mvT hZ (w_174 hw)) (notFace_of_selects (args := #[]) (mvT hZ (w_176 hw))) (mvT hZ (w_176 hw)) (mvT hZ (w_175 hw)) (by decide) (backOf (W := 0) (rmAd2 l Z a0 hw G ST [] b0S o0V _ o1E o1F _ o0W _ _ o53 o54 _ o23 o27 o28 _ o13 o0X o0Y mo o0Z _ o0I o0J o0K o0L dd2 _ _ o78 ii2 hp10T n0 Ol11L f11J f12A f12B f12X hSLS f11Z f12Y f11P f12E f12H f12W f12F f12G gq4E hc2 f11O f12C f12D f12U (Ne.symm ne5S) (own_tab0 hk13C (own_gs (own_lt32 hSLS own_lrep (own_hs hSLS o13)))) (own_be hk13C) (own_tab0 hk13C (own_gs (own_lt32 hSLS own_lrep (own_hs hSLS o13)))) f11X f11Y f11K p11B p11C p11D p11E f11V f12T f12S f12R p0R f12Z f11S f12K hi2 hr2 hmo p81 (own_gso (own_rep _ _ _) (own_ine hi0 hi2 (fun q => hk13D q.symm))) (by simp) p2C gq3Z) hZ (w_177 hw) (w_103 hw) (by decide) (by decide)) q13Va q13Vc (g := (mkF m 281 (LQ0 p0 p1 p2 p3 p4 ca cb o13 o18 o23 o27 o40 o53 ii0 ii1 ii2 o66 o72 o78 bb dd0 dd1 dd2 o84 o96 o0I b0S (xvi (0 : Int32)) (xvi (0 : Int32)) (xvi (0 : Int32)) xun xun xun xun xun xun xun) [xwr o78, xwr o0I, xwr o53, xwr b0S])) rfl (by rw [hml]; rfl) (Steps.refl _) (argsL := [(.ref o53), (.ref o0I), (.ref o78)]) (rest := []) (lenOf pd_26 rfl) rfl (Nat.le_of_eq rfl) (hb B at_281) (fun _ _ => ⟨rfl, e11N, (by decide : 16 + 1 ≤ _), (by decide : 117 + 9 ≤ _)⟩)
       dsimp only [Pt.U, Pt.locs, Pt.cells, Pt.slots] at X13W l13W y13W z13W st13W hQ13W
       subst l13W y13W z13W
       obtain ⟨hp13W, e13W⟩ : ∃ z, T13W.heap = z := ⟨_, rfl⟩
       rw [e13W] at hQ13W
       obtain ⟨o13X, o13Y, rfl, N13Wq, K13W, p13Z, p14A, p14B, p14C, p14D, p14E⟩ := hQ13W
       have N13W := Fr.app N11N N13Wq
       have f14F := (f11J.keep K13W)
       have f14G := (f11K.keep K13W (ninS (Ne.symm ne5M) (ninS (Ne.symm ne4P) nin0)))
       have f14H := (p11B.keep K13W)
       have f14I := (p11C.keep K13W (ninS (Ne.symm ne5Q) (ninS ne4V nin0)))
       refine ⟨T13W, hp13W, _, (0 : Int32), (1 : Int32), (0 : Int32), own_wid X13W (by decide : 17 ≤ 18) (by decide : 126 ≤ 135), e13W, N13W, (KK13A.trans K13W (allS (oi 7 rfl) (allS (oi 3 rfl) all0))), f14F, f14G, f14H, f14I, ⟨Or.inr ⟨rfl, by have q0 := own_eq hk10Q; have q1 := own_eq hk10R; have q2 := own_nlt hk11I; have q3 := own_eq hk13C; have q4 := own_neq hk13D; omega⟩, Or.inr ⟨rfl, by have q0 := own_eq hk10Q; have q1 := own_eq hk10R; have q2 := own_nlt hk11I; have q3 := own_eq hk13C; have q4 := own_neq hk13D; omega⟩⟩, fun t k => c13B t ?_⟩
       refine st13W.trans ?_
       exact k
     ·by_cases hk14J : ii2 = ii0
      ·obtain ⟨cq14K, kq14K, q14Ka, q14Kb, q14Kc⟩ := isOf hZ e11N f11J
       obtain ⟨_, _, ⟨T14L, L14L, k14L, n14L⟩, -, X14L, ⟨Lc14L, hQ14L, l14L, y14L, z14L⟩, st14L⟩ := X11N.virtualBack hx (y := mm39) (z := mm39) hown (mvT hZ (w_173 hw)) (mvT hZ (w_174 hw)) (notFace_of_selects (args := #[]) (mvT hZ (w_176 hw))) (mvT hZ (w_176 hw)) (mvT hZ (w_175 hw)) (by decide) (backOf (W := 0) (rmAd3 l Z a0 hw G ST [] b0S o0V _ o1E o1F _ o0W _ _ o0X o0Y mo o53 o54 _ o23 o27 o28 _ o13 (hs o13 o1F) o0Z _ (0 : Int32) (0 : Int64) o0I o0J o0K o0L dd2 _ _ o78 ii2 o2Y _ _ (-2147483648 : Int32) hp10T n0 Ol11L f11J f12A f12B f12X hSLS f11Z f12Y f11X f11Y f11K f11P f12E f12H f12W f12F f12G gq4E hc2 f11O f12C f12D f12U f11W gq3W gq3X gq3Y p2B (by simp) (by simp) (Ne.symm ne5S) (own_T1 (own_lt32 hSLS own_lrep (own_hs hSLS o13))) (own_bn hc0 hc2 (fun q => hk13C q.symm)) (own_hs hSLS o13) p11B p11C p11D p11E (Or.inl ⟨rfl, rfl⟩) f11V f12T f12S f12R p0R f12Z f11S f12K hi2 hr2 hmo p81 (own_dt hk14J (own_gs (own_i9 hi0 own_lrep))) p11F rfl rfl gq4L (Ne.symm ne8N) (own_nmin _)) hZ (w_177 hw) (w_103 hw) (by decide) (by decide)) q14Ka q14Kc (g := (mkF m 281 (LQ0 p0 p1 p2 p3 p4 ca cb o13 o18 o23 o27 o40 o53 ii0 ii1 ii2 o66 o72 o78 bb dd0 dd1 dd2 o84 o96 o0I b0S (xvi (0 : Int32)) (xvi (0 : Int32)) (xvi (0 : Int32)) xun xun xun xun xun xun xun) [xwr o78, xwr o0I, xwr o53, xwr b0S])) rfl (by rw [hml]; rfl) (Steps.refl _) (argsL := [(.ref o53), (.ref o0I), (.ref o78)]) (rest := []) (lenOf pd_26 rfl) rfl (Nat.le_of_eq rfl) (hb B at_281) (fun _ _ => ⟨rfl, e11N, (by decide : 16 + 0 ≤ _), (by decide : 117 + 0 ≤ _)⟩)
       dsimp only [Pt.U, Pt.locs, Pt.cells, Pt.slots] at X14L l14L y14L z14L st14L hQ14L
       subst l14L y14L z14L
       obtain ⟨hp14L, e14L⟩ : ∃ z, T14L.heap = z := ⟨_, rfl⟩
       rw [e14L] at hQ14L
       obtain ⟨o14M, o14N, rfl, N14Lq, K14L, p14O, p14P, p14Q, p14R, p14S, p14T, p14U, p14V, p14W, p14X, p14Y, p14Z, p15A, p15B, p15C⟩ := hQ14L
       have N14L := Fr.app N11N N14Lq
       have f15D := (p11B.keep K14L)
       have f15E := (p11C.keep K14L (ninS (Ne.symm ne5Q) (ninS ne4T (ninS ne4U (ninS ne4S (ninS (Ne.symm ne8P) nin0))))))
       refine ⟨T14L, hp14L, _, (0 : Int32), o14N, (0 : Int32), own_wid X14L (by decide : 16 ≤ 18) (by decide : 117 ≤ 135), e14L, N14L, (KK13A.trans K14L (allS (oi 7 rfl) (allS (oi 1 rfl) (allS (oi 2 rfl) (allS (oi 0 rfl) (allS (oi 8 rfl) all0)))))), p14R, p14X, f15D, f15E, ⟨Or.inr ⟨rfl, by have q0 := own_eq hk10Q; have q1 := own_eq hk10R; have q2 := own_nlt hk11I; have q3 := own_neq hk13C; have q4 := own_eq hk14J; omega⟩, Or.inr ⟨rfl, by have q0 := own_eq hk10Q; have q1 := own_eq hk10R; have q2 := own_nlt hk11I; have q3 := own_neq hk13C; have q4 := own_eq hk14J; omega⟩⟩, fun t k => c13B t ?_⟩
       refine st14L.trans ?_
       exact k
      ·obtain ⟨cq15F, kq15F, q15Fa, q15Fb, q15Fc⟩ := isOf hZ e11N f11J
       obtain ⟨_, _, ⟨T15G, L15G, k15G, n15G⟩, -, X15G, ⟨Lc15G, hQ15G, l15G, y15G, z15G⟩, st15G⟩ := X11N.virtualBack hx (y := mm39) (z := mm39) hown (mvT hZ (w_173 hw)) (mvT hZ (w_174 hw)) (notFace_of_selects (args := #[]) (mvT hZ (w_176 hw))) (mvT hZ (w_176 hw)) (mvT hZ (w_175 hw)) (by decide) (backOf (W := 0) (rmAd4 l Z a0 hw G ST [] b0S o0V _ o1E o1F _ o0W _ _ o0X o0Y mo o53 o54 _ o23 o27 o28 _ o13 (hs o13 o1F) o0Z _ (0 : Int32) (0 : Int64) o0I o0J o0K o0L dd2 _ _ o78 ii2 hp10T n0 Ol11L f11J f12A f12B f12X hSLS f11Z f12Y f11X f11Y f11K f11P f12E f12H f12W f12F f12G gq4E hc2 f11O f12C f12D f12U f11W gq3W gq3X gq3Y p2B (by simp) (by simp) (Ne.symm ne5S) (own_T1 (own_lt32 hSLS own_lrep (own_hs hSLS o13))) (own_bn hc0 hc2 (fun q => hk13C q.symm)) (own_hs hSLS o13) p11B p11C p11D p11E (Or.inl ⟨rfl, rfl⟩) f11V f12T f12S f12R p0R f12Z f11S f12K hi2 hr2 hmo p81 (own_gso (own_rep _ _ _) (own_ine hi0 hi2 (fun q => hk14J q.symm))) (by simp) p2C gq3Z) hZ (w_177 hw) (w_103 hw) (by decide) (by decide)) q15Fa q15Fc (g := (mkF m 281 (LQ0 p0 p1 p2 p3 p4 ca cb o13 o18 o23 o27 o40 o53 ii0 ii1 ii2 o66 o72 o78 bb dd0 dd1 dd2 o84 o96 o0I b0S (xvi (0 : Int32)) (xvi (0 : Int32)) (xvi (0 : Int32)) xun xun xun xun xun xun xun) [xwr o78, xwr o0I, xwr o53, xwr b0S])) rfl (by rw [hml]; rfl) (Steps.refl _) (argsL := [(.ref o53), (.ref o0I), (.ref o78)]) (rest := []) (lenOf pd_26 rfl) rfl (Nat.le_of_eq rfl) (hb B at_281) (fun _ _ => ⟨rfl, e11N, (by decide : 16 + 1 ≤ _), (by decide : 117 + 9 ≤ _)⟩)
       dsimp only [Pt.U, Pt.locs, Pt.cells, Pt.slots] at X15G l15G y15G z15G st15G hQ15G
       subst l15G y15G z15G
       obtain ⟨hp15G, e15G⟩ : ∃ z, T15G.heap = z := ⟨_, rfl⟩
       rw [e15G] at hQ15G
       obtain ⟨o15H, o15I, o15J, rfl, N15Gq, K15G, p15K, p15L, p15M, p15N, p15O, p15P, p15Q, p15R, p15S, p15T, p15U, p15V, p15W, p15X, p15Y, p15Z, p16A⟩ := hQ15G
       have N15G := Fr.app N11N N15Gq
       have f16B := (p11B.keep K15G)
       have f16C := (p11C.keep K15G (ninS (Ne.symm ne5Q) (ninS ne4T (ninS ne4U (ninS ne4S (ninS ne4V nin0))))))
       refine ⟨T15G, hp15G, _, (0 : Int32), (1 : Int32), (0 : Int32), own_wid X15G (by decide : 17 ≤ 18) (by decide : 126 ≤ 135), e15G, N15G, (KK13A.trans K15G (allS (oi 7 rfl) (allS (oi 1 rfl) (allS (oi 2 rfl) (allS (oi 0 rfl) (allS (oi 3 rfl) all0)))))), p15N, p15T, f16B, f16C, ⟨Or.inr ⟨rfl, by have q0 := own_eq hk10Q; have q1 := own_eq hk10R; have q2 := own_nlt hk11I; have q3 := own_neq hk13C; have q4 := own_neq hk14J; omega⟩, Or.inr ⟨rfl, by have q0 := own_eq hk10Q; have q1 := own_eq hk10R; have q2 := own_nlt hk11I; have q3 := own_neq hk13C; have q4 := own_neq hk14J; omega⟩⟩, fun t k => c13B t ?_⟩
       refine st15G.trans ?_
       exact k
    ·have f16D := (p3D.keep K10T)
     have f16E := (p3J.keep K10T (ninS (Ne.symm ne5F) (ninS (Ne.symm ne8L) (ninS (Ne.symm ne4S) (ninS (Ne.symm ne4W) nin0)))))
     have Ol16F : Old Z n0 hp10T := (Ol3T.keep K10T (allS gq4D (allS gq4L (allS gq4A (allS gq4B all0)))))
     obtain ⟨cq16G, kq16G, q16Ga, q16Gb, q16Gc⟩ := isOf hZ e10T f16D
     obtain ⟨_, _, ⟨T16H, L16H, k16H, n16H⟩, -, X16H, ⟨Lc16H, hQ16H, l16H, y16H, z16H⟩, st16H⟩ := X10T.virtualBack hx (y := mm31) (z := mm31) hown (mvT hZ (w_163 hw)) (mvT hZ (w_164 hw)) (notFace_of_selects (args := #[]) (mvT hZ (w_166 hw))) (mvT hZ (w_166 hw)) (mvT hZ (w_165 hw)) (by decide) (backOf (W := 0) (rmAn1 l Z a0 hw G ST [] b0S o0Y hp10T n0 Ol16F f16D f16E p11B p11C) hZ (w_167 hw) (w_103 hw) (by decide) (by decide)) q16Ga q16Gc (g := (mkF m 268 (LQ0 p0 p1 p2 p3 p4 ca cb o13 o18 o23 o27 o40 o53 ii0 ii1 ii2 o66 o72 o78 bb dd0 dd1 dd2 o84 o96 o0I b0S (xvi (0 : Int32)) (xvi (0 : Int32)) xun xun xun xun xun xun xun xun) [xwr b0S])) rfl (by rw [hml]; rfl) (Steps.refl _) (argsL := []) (rest := []) (lenOf pd_3 rfl) rfl (Nat.le_of_eq rfl) (hb B at_268) (fun _ _ => ⟨rfl, e10T, (by decide : 16 + 0 ≤ _), (by decide : 117 + 0 ≤ _)⟩)
     dsimp only [Pt.U, Pt.locs, Pt.cells, Pt.slots] at X16H l16H y16H z16H st16H hQ16H
     subst l16H y16H z16H
     obtain ⟨rfl, N16Hq, e16H⟩ := hQ16H
     have N16H := Fr.app N10T N16Hq
     have f16I := (p3A.keep K10T)
     have f16J := (f9E.keep K10T)
     have f16K := (f9F.keep K10T)
     have f16L := (f9G.keep K10T)
     have f16M := (f9H.keep K10T)
     have f16N := (f9I.keep K10T)
     have f16O := (f9J.keep K10T)
     have f16P := (f9K.keep K10T)
     have f16Q := (p3K.keep K10T (ninS (Ne.symm ne5F) (ninS (Ne.symm ne8L) (ninS (Ne.symm ne4S) (ninS (Ne.symm ne4W) nin0)))))
     have f16R := (p3H.keep K10T (ninS (Ne.symm ne5F) (ninS (Ne.symm ne8L) (ninS (Ne.symm ne4S) (ninS (Ne.symm ne4W) nin0)))))
     have f16S := (p3I.keep K10T (ninS (Ne.symm ne5F) (ninS (Ne.symm ne8L) (ninS (Ne.symm ne4S) (ninS (Ne.symm ne4W) nin0)))))
     have f16T := (p3G.keep K10T (ninS (Ne.symm ne5F) (ninS (Ne.symm ne8L) (ninS (Ne.symm ne4S) (ninS (Ne.symm ne4W) nin0)))))
     have f16U := (p3E.keep K10T (ninS (Ne.symm ne5F) (ninS (Ne.symm ne8L) (ninS (Ne.symm ne4S) (ninS (Ne.symm ne4W) nin0)))))
     have f16V := (p3F.keep K10T (ninS (Ne.symm ne5F) (ninS (Ne.symm ne8L) (ninS (Ne.symm ne4S) (ninS (Ne.symm ne4W) nin0)))))
     have f16W := (p3B.keep K10T (ninS (Ne.symm ne5L) (ninS (Ne.symm ne8R) (ninS (Ne.symm ne3R) (ninS ne5E nin0)))))
     have f16X := (p3C.keep K10T (ninS (Ne.symm ne5L) (ninS (Ne.symm ne8R) (ninS (Ne.symm ne3R) (ninS ne5E nin0)))))
     have f16Y := (f9P.keep K10T (ninS ne5T (ninS (Ne.symm ne8T) (ninS ne5Q (ninS ne5R nin0)))))
     have f16Z := (f9Q.keep K10T (ninS ne5T (ninS (Ne.symm ne8T) (ninS ne5Q (ninS ne5R nin0)))))
     have f17A := (f9R.keep K10T (ninS ne5T (ninS (Ne.symm ne8T) (ninS ne5Q (ninS ne5R nin0)))))
     have f17B := (f9S.keep K10T (ninS ne5T (ninS (Ne.symm ne8T) (ninS ne5Q (ninS ne5R nin0)))))
     have f17C := (f9T.keep K10T (ninS ne7T (ninS (Ne.symm ne9A) (ninS ne7R (ninS ne7S nin0)))))
     have f17D := (f9U.keep K10T (ninS ne8B (ninS (Ne.symm ne9B) (ninS ne7Z (ninS ne8A nin0)))))
     have f17E := (f9V.keep K10T (ninS ne8J (ninS (Ne.symm ne9C) (ninS ne8H (ninS ne8I nin0)))))
     have f17F := (f9X.keep K10T (ninS ne6W (ninS (Ne.symm ne8X) (ninS ne6U (ninS ne6V nin0)))))
     have f17G := (f9Y.keep K10T (ninS ne6W (ninS (Ne.symm ne8X) (ninS ne6U (ninS ne6V nin0)))))
     have f17H := (f9Z.keep K10T (ninS ne6W (ninS (Ne.symm ne8X) (ninS ne6U (ninS ne6V nin0)))))
     have f17I := (f10B.keep K10T (ninS ne7E (ninS (Ne.symm ne8Y) (ninS ne7C (ninS ne7D nin0)))))
     have f17J := (f10C.keep K10T (ninS ne7E (ninS (Ne.symm ne8Y) (ninS ne7C (ninS ne7D nin0)))))
     have f17K := (f10D.keep K10T (ninS ne7E (ninS (Ne.symm ne8Y) (ninS ne7C (ninS ne7D nin0)))))
     have f17L := (f10F.keep K10T (ninS ne7M (ninS (Ne.symm ne8Z) (ninS ne7K (ninS ne7L nin0)))))
     have f17M := (f10G.keep K10T (ninS ne7M (ninS (Ne.symm ne8Z) (ninS ne7K (ninS ne7L nin0)))))
     have f17N := (f10H.keep K10T (ninS ne7M (ninS (Ne.symm ne8Z) (ninS ne7K (ninS ne7L nin0)))))
     have f17O := (f10J.keep K10T (ninS ne5Z (ninS (Ne.symm ne8U) (ninS ne5X (ninS ne5Y nin0)))))
     have f17P := (f10K.keep K10T (ninS ne6H (ninS (Ne.symm ne8V) (ninS ne6F (ninS ne6G nin0)))))
     have f17Q := (f10L.keep K10T (ninS ne6P (ninS (Ne.symm ne8W) (ninS ne6N (ninS ne6O nin0)))))
     have f17R := (p3L.keep K10T (ninS (Ne.symm ne5G) (ninS (Ne.symm ne8M) (ninS (Ne.symm ne4T) (ninS (Ne.symm ne4X) nin0)))))
     have f17S := (p3M.keep K10T (ninS (Ne.symm ne5H) (ninS (Ne.symm ne8N) (ninS (Ne.symm ne4U) (ninS (Ne.symm ne4Y) nin0)))))
     have f17T := (p3P.keep K10T (ninS (Ne.symm ne5I) (ninS (Ne.symm ne8O) (ninS (Ne.symm ne4V) (ninS (Ne.symm ne4Z) nin0)))))
     have KK17U : Keep hp2X hp10T [b0S, o0V, o0W, o0X, o0Y, o0Z, o40, o53, o2Y] := ((Keep.refl hp2X [b0S, o0V, o0W, o0X, o0Y, o0Z, o40, o53, o2Y]).trans K10T (allS (oi 6 rfl) (allS (oi 8 rfl) (allS (oi 4 rfl) (allS (oi 5 rfl) all0)))))
     have c17V : ∀ t, Sx p e below T16H m 281 (LQ0 p0 p1 p2 p3 p4 ca cb o13 o18 o23 o27 o40 o53 ii0 ii1 ii2 o66 o72 o78 bb dd0 dd1 dd2 o84 o96 o0I b0S (xvi (0 : Int32)) (xvi (0 : Int32)) (xvi (1 : Int32)) xun xun xun xun xun xun xun) [xwr o78, xwr o0I, xwr o53, xwr b0S] t → TG t := fun t k => c11H t (by
      refine y_pop X10T hx 266 (hb B at_265) rfl rfl <| y_aload X10T hx 268 (hb B at_266) rfl rfl rfl ?_
      refine st16H.trans ?_
      refine y_istore X16H hx 273 (hb B at_271) (L' := (LQ0 p0 p1 p2 p3 p4 ca cb o13 o18 o23 o27 o40 o53 ii0 ii1 ii2 o66 o72 o78 bb dd0 dd1 dd2 o84 o96 o0I b0S (xvi (0 : Int32)) (xvi (0 : Int32)) (xvi (1 : Int32)) xun xun xun xun xun xun xun)) rfl rfl <| y_aload X16H hx 275 (hb B at_273) rfl rfl rfl <| y_aload X16H hx 277 (hb B at_275) rfl rfl rfl <| y_aload X16H hx 279 (hb B at_277) rfl rfl rfl <| y_aload X16H hx 281 (hb B at_279) rfl rfl rfl ?_
      exact k)
     by_cases hk17W : o23 = o13
     ·obtain ⟨cq17X, kq17X, q17Xa, q17Xb, q17Xc⟩ := isOf hZ e16H f16D
      obtain ⟨_, _, ⟨T17Y, L17Y, k17Y, n17Y⟩, -, X17Y, ⟨Lc17Y, hQ17Y, l17Y, y17Y, z17Y⟩, st17Y⟩ := X16H.virtualBack hx (y := mm39) (z := mm39) hown (mvT hZ (w_173 hw)) (mvT hZ (w_174 hw)) (notFace_of_selects (args := #[]) (mvT hZ (w_176 hw))) (mvT hZ (w_176 hw)) (mvT hZ (w_175 hw)) (by decide) (backOf (W := 0) (rmAd5 l Z a0 hw G ST [] b0S o0V _ o1E o1F _ o0W _ _ o53 o54 _ o23 o27 o28 _ o13 o0X o0Y mo o0Z _ o0I o78 hp10T n0 Ol16F f16D f16U f16V f17R hSLS f16T f17S f16J f16Y f17B f17Q f16Z f17A gq4E hc2 f16I f16W f16X f17O (Ne.symm ne5S) (own_tab0 hk17W (own_gs (own_lt32 hSLS own_lrep (own_hs hSLS o13)))) (own_be hk17W) (own_tab0 hk17W (own_gs (own_lt32 hSLS own_lrep (own_hs hSLS o13)))) f16R f16S f16E p11B p11C p11D p11E) hZ (w_177 hw) (w_103 hw) (by decide) (by decide)) q17Xa q17Xc (g := (mkF m 281 (LQ0 p0 p1 p2 p3 p4 ca cb o13 o18 o23 o27 o40 o53 ii0 ii1 ii2 o66 o72 o78 bb dd0 dd1 dd2 o84 o96 o0I b0S (xvi (0 : Int32)) (xvi (0 : Int32)) (xvi (1 : Int32)) xun xun xun xun xun xun xun) [xwr o78, xwr o0I, xwr o53, xwr b0S])) rfl (by rw [hml]; rfl) (Steps.refl _) (argsL := [(.ref o53), (.ref o0I), (.ref o78)]) (rest := []) (lenOf pd_26 rfl) rfl (Nat.le_of_eq rfl) (hb B at_281) (fun _ _ => ⟨rfl, e16H, (by decide : 16 + 0 ≤ _), (by decide : 117 + 0 ≤ _)⟩)
      dsimp only [Pt.U, Pt.locs, Pt.cells, Pt.slots] at X17Y l17Y y17Y z17Y st17Y hQ17Y
      subst l17Y y17Y z17Y
      obtain ⟨hp17Y, e17Y⟩ : ∃ z, T17Y.heap = z := ⟨_, rfl⟩
      rw [e17Y] at hQ17Y
      obtain ⟨rfl, N17Yq, K17Y, p17Z, p18A, p18B⟩ := hQ17Y
      have N17Y := Fr.app N16H N17Yq
      have f18C := (f16D.keep K17Y)
      have f18D := (f16E.keep K17Y (ninS (Ne.symm ne5M) nin0))
      have f18E := (p11B.keep K17Y)
      have f18F := (p11C.keep K17Y (ninS (Ne.symm ne5Q) nin0))
      refine ⟨T17Y, hp17Y, _, (1 : Int32), (1 : Int32), (1 : Int32), own_wid X17Y (by decide : 16 ≤ 18) (by decide : 117 ≤ 135), e17Y, N17Y, (KK17U.trans K17Y (allS (oi 7 rfl) all0)), f18C, f18D, f18E, f18F, ⟨Or.inl ⟨rfl, by have q0 := own_eq hk10Q; have q1 := own_eq hk10R; have q2 := own_lt hk11I; have q3 := own_eq hk17W; omega⟩, Or.inl ⟨rfl, by have q0 := own_eq hk10Q; have q1 := own_eq hk10R; have q2 := own_lt hk11I; have q3 := own_eq hk17W; omega⟩⟩, fun t k => c17V t ?_⟩
      refine st17Y.trans ?_
      exact k
     ·by_cases hk18G : ii2 = ii0
      ·obtain ⟨cq18H, kq18H, q18Ha, q18Hb, q18Hc⟩ := isOf hZ e16H f16D
       obtain ⟨_, _, ⟨T18I, L18I, k18I, n18I⟩, -, X18I, ⟨Lc18I, hQ18I, l18I, y18I, z18I⟩, st18I⟩ := X16H.virtualBack hx (y := mm39) (z := mm39) hown (mvT hZ (w_173 hw)) (mvT hZ (w_174 hw)) (notFace_of_selects (args := #[]) (mvT hZ (w_176 hw))) (mvT hZ (w_176 hw)) (mvT hZ (w_175 hw)) (by decide) (backOf (W := 0) (rmAd3 l Z a0 hw G ST [] b0S o0V _ o1E o1F _ o0W _ _ o0X o0Y mo o53 o54 _ o23 o27 o28 _ o13 (hs o13 o1F) o0Z _ (1 : Int32) (1 : Int64) o0I o0J o0K o0L dd2 _ _ o78 ii2 o2Y _ _ (-2147483648 : Int32) hp10T n0 Ol16F f16D f16U f16V f17R hSLS f16T f17S f16R f16S f16E f16J f16Y f17B f17Q f16Z f17A gq4E hc2 f16I f16W f16X f17O f16Q gq3W gq3X gq3Y p2B (by simp) (by simp) (Ne.symm ne5S) (own_T1 (own_lt32 hSLS own_lrep (own_hs hSLS o13))) (own_bn hc0 hc2 (fun q => hk17W q.symm)) (own_hs hSLS o13) p11B p11C p11D p11E (Or.inr ⟨rfl, rfl⟩) f16P f17N f17M f17L p0R f17T f16M f17E hi2 hr2 hmo p81 (own_dt hk18G (own_gs (own_i9 hi0 own_lrep))) p11F rfl rfl gq4L (Ne.symm ne8N) (own_nmin _)) hZ (w_177 hw) (w_103 hw) (by decide) (by decide)) q18Ha q18Hc (g := (mkF m 281 (LQ0 p0 p1 p2 p3 p4 ca cb o13 o18 o23 o27 o40 o53 ii0 ii1 ii2 o66 o72 o78 bb dd0 dd1 dd2 o84 o96 o0I b0S (xvi (0 : Int32)) (xvi (0 : Int32)) (xvi (1 : Int32)) xun xun xun xun xun xun xun) [xwr o78, xwr o0I, xwr o53, xwr b0S])) rfl (by rw [hml]; rfl) (Steps.refl _) (argsL := [(.ref o53), (.ref o0I), (.ref o78)]) (rest := []) (lenOf pd_26 rfl) rfl (Nat.le_of_eq rfl) (hb B at_281) (fun _ _ => ⟨rfl, e16H, (by decide : 16 + 0 ≤ _), (by decide : 117 + 0 ≤ _)⟩)
       dsimp only [Pt.U, Pt.locs, Pt.cells, Pt.slots] at X18I l18I y18I z18I st18I hQ18I
       subst l18I y18I z18I
       obtain ⟨hp18I, e18I⟩ : ∃ z, T18I.heap = z := ⟨_, rfl⟩
       rw [e18I] at hQ18I
       obtain ⟨o18J, o18K, rfl, N18Iq, K18I, p18L, p18M, p18N, p18O, p18P, p18Q, p18R, p18S, p18T, p18U, p18V, p18W, p18X, p18Y, p18Z⟩ := hQ18I
       have N18I := Fr.app N16H N18Iq
       have f19A := (p11B.keep K18I)
       have f19B := (p11C.keep K18I (ninS (Ne.symm ne5Q) (ninS ne4T (ninS ne4U (ninS ne4S (ninS (Ne.symm ne8P) nin0))))))
       refine ⟨T18I, hp18I, _, (1 : Int32), o18K, (1 : Int32), own_wid X18I (by decide : 16 ≤ 18) (by decide : 117 ≤ 135), e18I, N18I, (KK17U.trans K18I (allS (oi 7 rfl) (allS (oi 1 rfl) (allS (oi 2 rfl) (allS (oi 0 rfl) (allS (oi 8 rfl) all0)))))), p18O, p18U, f19A, f19B, ⟨Or.inl ⟨rfl, by have q0 := own_eq hk10Q; have q1 := own_eq hk10R; have q2 := own_lt hk11I; have q3 := own_neq hk17W; have q4 := own_eq hk18G; omega⟩, Or.inl ⟨rfl, by have q0 := own_eq hk10Q; have q1 := own_eq hk10R; have q2 := own_lt hk11I; have q3 := own_neq hk17W; have q4 := own_eq hk18G; omega⟩⟩, fun t k => c17V t ?_⟩
       refine st18I.trans ?_
       exact k
      ·obtain ⟨cq19C, kq19C, q19Ca, q19Cb, q19Cc⟩ := isOf hZ e16H f16D
       obtain ⟨_, _, ⟨T19D, L19D, k19D, n19D⟩, -, X19D, ⟨Lc19D, hQ19D, l19D, y19D, z19D⟩, st19D⟩ := X16H.virtualBack hx (y := mm39) (z := mm39) hown (mvT hZ (w_173 hw)) (mvT hZ (w_174 hw)) (notFace_of_selects (args := #[]) (mvT hZ (w_176 hw))) (mvT hZ (w_176 hw)) (mvT hZ (w_175 hw)) (by decide) (backOf (W := 0) (rmAd4 l Z a0 hw G ST [] b0S o0V _ o1E o1F _ o0W _ _ o0X o0Y mo o53 o54 _ o23 o27 o28 _ o13 (hs o13 o1F) o0Z _ (1 : Int32) (1 : Int64) o0I o0J o0K o0L dd2 _ _ o78 ii2 hp10T n0 Ol16F f16D f16U f16V f17R hSLS f16T f17S f16R f16S f16E f16J f16Y f17B f17Q f16Z f17A gq4E hc2 f16I f16W f16X f17O f16Q gq3W gq3X gq3Y p2B (by simp) (by simp) (Ne.symm ne5S) (own_T1 (own_lt32 hSLS own_lrep (own_hs hSLS o13))) (own_bn hc0 hc2 (fun q => hk17W q.symm)) (own_hs hSLS o13) p11B p11C p11D p11E (Or.inr ⟨rfl, rfl⟩) f16P f17N f17M f17L p0R f17T f16M f17E hi2 hr2 hmo p81 (own_gso (own_rep _ _ _) (own_ine hi0 hi2 (fun q => hk18G q.symm))) (by simp) p2C gq3Z) hZ (w_177 hw) (w_103 hw) (by decide) (by decide)) q19Ca q19Cc (g := (mkF m 281 (LQ0 p0 p1 p2 p3 p4 ca cb o13 o18 o23 o27 o40 o53 ii0 ii1 ii2 o66 o72 o78 bb dd0 dd1 dd2 o84 o96 o0I b0S (xvi (0 : Int32)) (xvi (0 : Int32)) (xvi (1 : Int32)) xun xun xun xun xun xun xun) [xwr o78, xwr o0I, xwr o53, xwr b0S])) rfl (by rw [hml]; rfl) (Steps.refl _) (argsL := [(.ref o53), (.ref o0I), (.ref o78)]) (rest := []) (lenOf pd_26 rfl) rfl (Nat.le_of_eq rfl) (hb B at_281) (fun _ _ => ⟨rfl, e16H, (by decide : 16 + 1 ≤ _), (by decide : 117 + 9 ≤ _)⟩)
       dsimp only [Pt.U, Pt.locs, Pt.cells, Pt.slots] at X19D l19D y19D z19D st19D hQ19D
       subst l19D y19D z19D
       obtain ⟨hp19D, e19D⟩ : ∃ z, T19D.heap = z := ⟨_, rfl⟩
       rw [e19D] at hQ19D
       obtain ⟨o19E, o19F, o19G, rfl, N19Dq, K19D, p19H, p19I, p19J, p19K, p19L, p19M, p19N, p19O, p19P, p19Q, p19R, p19S, p19T, p19U, p19V, p19W, p19X⟩ := hQ19D
       have N19D := Fr.app N16H N19Dq
       have f19Y := (p11B.keep K19D)
       have f19Z := (p11C.keep K19D (ninS (Ne.symm ne5Q) (ninS ne4T (ninS ne4U (ninS ne4S (ninS ne4V nin0))))))
       refine ⟨T19D, hp19D, _, (1 : Int32), (1 : Int32), (1 : Int32), own_wid X19D (by decide : 17 ≤ 18) (by decide : 126 ≤ 135), e19D, N19D, (KK17U.trans K19D (allS (oi 7 rfl) (allS (oi 1 rfl) (allS (oi 2 rfl) (allS (oi 0 rfl) (allS (oi 3 rfl) all0)))))), p19K, p19Q, f19Y, f19Z, ⟨Or.inl ⟨rfl, by have q0 := own_eq hk10Q; have q1 := own_eq hk10R; have q2 := own_lt hk11I; have q3 := own_neq hk17W; have q4 := own_neq hk18G; omega⟩, Or.inl ⟨rfl, by have q0 := own_eq hk10Q; have q1 := own_eq hk10R; have q2 := own_lt hk11I; have q3 := own_neq hk17W; have q4 := own_neq hk18G; omega⟩⟩, fun t k => c17V t ?_⟩
       refine st19D.trans ?_
       exact k
   ·obtain ⟨cq20A, kq20A, q20Aa, q20Ab, q20Ac⟩ := isOf hZ e3V p3D
    obtain ⟨_, _, ⟨T20B, L20B, k20B, n20B⟩, -, X20B, ⟨Lc20B, hQ20B, l20B, y20B, z20B⟩, st20B⟩ := X3V.virtualBack hx (y := mm39) (z := mm39) hown (mvT hZ (w_173 hw)) (mvT hZ (w_174 hw)) (notFace_of_selects (args := #[]) (mvT hZ (w_176 hw))) (mvT hZ (w_176 hw)) (mvT hZ (w_175 hw)) (by decide) (backOf (W := 0) (rmAd2 l Z a0 hw G ST [] b0S o0V _ o1E o1F _ o0W _ _ o40 o41 _ o18 o27 o28 _ o13 o0X o0Y mo o0Z _ o96 o97 o98 o99 dd1 _ _ o72 ii1 hp2X n0 Ol3T p3D p3E p3F p3L hSLS p3G p3M f9D f9L f9O f10K f9M f9N gq4D hc1 p3A p3B p3C f10J (Ne.symm ne5L) (own_tab0 hk10Q (own_gs (own_lt32 hSLS own_lrep (own_hs hSLS o13)))) (own_be hk10Q) (own_tab0 hk10Q (own_gs (own_lt32 hSLS own_lrep (own_hs hSLS o13)))) p3H p3I p3J f3Q f3S f10I f10M f9J f10D f10C f10B p0F p3P f9G f9U hi1 hr1 hmo p75 (own_gso (own_rep _ _ _) (own_ine hi0 hi1 (fun q => hk10R q.symm))) (by simp) p2C gq3Z) hZ (w_177 hw) (w_103 hw) (by decide) (by decide)) q20Aa q20Ac (g := (mkF m 262 (LQ0 p0 p1 p2 p3 p4 ca cb o13 o18 o23 o27 o40 o53 ii0 ii1 ii2 o66 o72 o78 bb dd0 dd1 dd2 o84 o96 o0I b0S (xvi (0 : Int32)) (xvi (0 : Int32)) xun xun xun xun xun xun xun xun) [xwr o72, xwr o96, xwr o40, xwr b0S])) rfl (by rw [hml]; rfl) (Steps.refl _) (argsL := [(.ref o40), (.ref o96), (.ref o72)]) (rest := []) (lenOf pd_26 rfl) rfl (Nat.le_of_eq rfl) (hb B at_262) (fun _ _ => ⟨rfl, e3V, (by decide : 16 + 1 ≤ _), (by decide : 117 + 9 ≤ _)⟩)
    dsimp only [Pt.U, Pt.locs, Pt.cells, Pt.slots] at X20B l20B y20B z20B st20B hQ20B
    subst l20B y20B z20B
    obtain ⟨hp20B, e20B⟩ : ∃ z, T20B.heap = z := ⟨_, rfl⟩
    rw [e20B] at hQ20B
    obtain ⟨o20C, o20D, rfl, N20Bq, K20B, p20E, p20F, p20G, p20H, p20I, p20J⟩ := hQ20B
    have N20B := Fr.app N3V N20Bq
    have f20K := (p3D.keep K20B)
    have f20L := (p3J.keep K20B (ninS (Ne.symm ne5F) (ninS (Ne.symm ne4P) nin0)))
    have f20M := (f3Q.keep K20B)
    have f20N := (f3S.keep K20B (ninS (Ne.symm ne5J) (ninS ne4V nin0)))
    have Ol20O : Old Z n0 hp20B := (Ol3T.keep K20B (allS gq4D (allS gq3Z all0)))
    obtain ⟨cq20P, kq20P, q20Pa, q20Pb, q20Pc⟩ := isOf hZ e20B f20K
    obtain ⟨_, _, ⟨T20Q, L20Q, k20Q, n20Q⟩, -, X20Q, ⟨Lc20Q, hQ20Q, l20Q, y20Q, z20Q⟩, st20Q⟩ := X20B.virtualBack hx (y := mm31) (z := mm31) hown (mvT hZ (w_163 hw)) (mvT hZ (w_164 hw)) (notFace_of_selects (args := #[]) (mvT hZ (w_166 hw))) (mvT hZ (w_166 hw)) (mvT hZ (w_165 hw)) (by decide) (backOf (W := 0) (rmAn0 l Z a0 hw G ST [] b0S o0Y hp20B n0 Ol20O f20K f20L f20M f20N) hZ (w_167 hw) (w_103 hw) (by decide) (by decide)) q20Pa q20Pc (g := (mkF m 268 (LQ0 p0 p1 p2 p3 p4 ca cb o13 o18 o23 o27 o40 o53 ii0 ii1 ii2 o66 o72 o78 bb dd0 dd1 dd2 o84 o96 o0I b0S (xvi (0 : Int32)) (xvi (0 : Int32)) xun xun xun xun xun xun xun xun) [xwr b0S])) rfl (by rw [hml]; rfl) (Steps.refl _) (argsL := []) (rest := []) (lenOf pd_3 rfl) rfl (Nat.le_of_eq rfl) (hb B at_268) (fun _ _ => ⟨rfl, e20B, (by decide : 17 + 0 ≤ _), (by decide : 126 + 0 ≤ _)⟩)
    dsimp only [Pt.U, Pt.locs, Pt.cells, Pt.slots] at X20Q l20Q y20Q z20Q st20Q hQ20Q
    subst l20Q y20Q z20Q
    obtain ⟨rfl, N20Qq, e20Q⟩ := hQ20Q
    have N20Q := Fr.app N20B N20Qq
    have gq20R : n0 ≤ o20C := (ntr Z0 (ntr (ntr (ntr (ntr (ntr (ntr (ntr (ntr (ntr (ntr (ntr (ntr (ntr (ntr (ntr K11.1 K16.1) K21.1) K26.1) K39.1) K52.1) K65.1) K71.1) K77.1) K83.1) K95.1) K0H.1) E0S.1) K0U.1) K2X.1) p20H))
    have ne20S : o20C ≠ b0S := (Ne.symm (onb A0S.lt (ntr K0U.1 K2X.1) p20H))
    have ne20T : o20C ≠ o0V := (Ne.symm (onb p1O.lt K2X.1 p20H))
    have ne20U : o20C ≠ o0W := (Ne.symm (onb p1P.lt K2X.1 p20H))
    have ne20V : o20C ≠ o0X := (Ne.symm (onb p1Q.lt K2X.1 p20H))
    have ne20W : o20C ≠ o0Y := (Ne.symm (onb p1R.lt K2X.1 p20H))
    have ne20X : o20C ≠ o0Z := (Ne.symm (onb p1U.lt K2X.1 p20H))
    have ne20Y : o20C ≠ o27 := (Ne.symm (onb p31.lt (ntr (ntr (ntr (ntr (ntr (ntr (ntr (ntr (ntr (ntr K39.1 K52.1) K65.1) K71.1) K77.1) K83.1) K95.1) K0H.1) E0S.1) K0U.1) K2X.1) p20H))
    have ne20Z : o20C ≠ o40 := (Ne.symm (onb p44.lt (ntr (ntr (ntr (ntr (ntr (ntr (ntr (ntr (ntr K52.1 K65.1) K71.1) K77.1) K83.1) K95.1) K0H.1) E0S.1) K0U.1) K2X.1) p20H))
    have ne21A : o20C ≠ o53 := (Ne.symm (onb p57.lt (ntr (ntr (ntr (ntr (ntr (ntr (ntr (ntr K65.1 K71.1) K77.1) K83.1) K95.1) K0H.1) E0S.1) K0U.1) K2X.1) p20H))
    have ne21B : o20C ≠ o28 := (Ne.symm (onb p34.lt (ntr (ntr (ntr (ntr (ntr (ntr (ntr (ntr (ntr (ntr K39.1 K52.1) K65.1) K71.1) K77.1) K83.1) K95.1) K0H.1) E0S.1) K0U.1) K2X.1) p20H))
    have ne21C : o20C ≠ o41 := (Ne.symm (onb p47.lt (ntr (ntr (ntr (ntr (ntr (ntr (ntr (ntr (ntr K52.1 K65.1) K71.1) K77.1) K83.1) K95.1) K0H.1) E0S.1) K0U.1) K2X.1) p20H))
    have ne21D : o20C ≠ o54 := (Ne.symm (onb p60.lt (ntr (ntr (ntr (ntr (ntr (ntr (ntr (ntr K65.1 K71.1) K77.1) K83.1) K95.1) K0H.1) E0S.1) K0U.1) K2X.1) p20H))
    have ne21E : o20C ≠ o84 := (Ne.symm (onb p89.lt (ntr (ntr (ntr (ntr K95.1 K0H.1) E0S.1) K0U.1) K2X.1) p20H))
    have ne21F : o20C ≠ o96 := (Ne.symm (onb p0B.lt (ntr (ntr (ntr K0H.1 E0S.1) K0U.1) K2X.1) p20H))
    have ne21G : o20C ≠ o0I := (Ne.symm (onb p0N.lt (ntr (ntr E0S.1 K0U.1) K2X.1) p20H))
    have ne21H : o20C ≠ o66 := (Ne.symm (onb p67.lt (ntr (ntr (ntr (ntr (ntr (ntr (ntr K71.1 K77.1) K83.1) K95.1) K0H.1) E0S.1) K0U.1) K2X.1) p20H))
    have ne21I : o20C ≠ o72 := (Ne.symm (onb p73.lt (ntr (ntr (ntr (ntr (ntr (ntr K77.1 K83.1) K95.1) K0H.1) E0S.1) K0U.1) K2X.1) p20H))
    have ne21J : o20C ≠ o78 := (Ne.symm (onb p79.lt (ntr (ntr (ntr (ntr (ntr K83.1 K95.1) K0H.1) E0S.1) K0U.1) K2X.1) p20H))
    have ne21K : o20C ≠ o2Y := (Ne.symm (onb p3O.lt (Nat.le_refl _) p20H))
    have f21L := (p3A.keep K20B)
    have f21M := (f9E.keep K20B)
    have f21N := (f9F.keep K20B)
    have f21O := (f9G.keep K20B)
    have f21P := (f9H.keep K20B)
    have f21Q := (f9I.keep K20B)
    have f21R := (f9J.keep K20B)
    have f21S := (f9K.keep K20B)
    have f21T := (p3K.keep K20B (ninS (Ne.symm ne5F) (ninS (Ne.symm ne4P) nin0)))
    have f21U := (p3H.keep K20B (ninS (Ne.symm ne5F) (ninS (Ne.symm ne4P) nin0)))
    have f21V := (p3I.keep K20B (ninS (Ne.symm ne5F) (ninS (Ne.symm ne4P) nin0)))
    have f21W := (p3G.keep K20B (ninS (Ne.symm ne5F) (ninS (Ne.symm ne4P) nin0)))
    have f21X := (p3E.keep K20B (ninS (Ne.symm ne5F) (ninS (Ne.symm ne4P) nin0)))
    have f21Y := (p3F.keep K20B (ninS (Ne.symm ne5F) (ninS (Ne.symm ne4P) nin0)))
    have f21Z := (p3B.keep K20B (ninS (Ne.symm ne5L) (ninS ne5D nin0)))
    have f22A := (p3C.keep K20B (ninS (Ne.symm ne5L) (ninS ne5D nin0)))
    have f22B := (f9P.keep K20B (ninS ne5T (ninS ne5P nin0)))
    have f22C := (f9Q.keep K20B (ninS ne5T (ninS ne5P nin0)))
    have f22D := (f9R.keep K20B (ninS ne5T (ninS ne5P nin0)))
    have f22E := (f9S.keep K20B (ninS ne5T (ninS ne5P nin0)))
    have f22F := (f9T.keep K20B (ninS ne7T (ninS ne7Q nin0)))
    have f22G := (f9U.keep K20B (ninS ne8B (ninS ne7Y nin0)))
    have f22H := (f9V.keep K20B (ninS ne8J (ninS ne8G nin0)))
    have f22I := (f9X.keep K20B (ninS ne6W (ninS ne6T nin0)))
    have f22J := (f9Y.keep K20B (ninS ne6W (ninS ne6T nin0)))
    have f22K := (f9Z.keep K20B (ninS ne6W (ninS ne6T nin0)))
    have f22L := (f10B.keep K20B (ninS ne7E (ninS ne7B nin0)))
    have f22M := (f10C.keep K20B (ninS ne7E (ninS ne7B nin0)))
    have f22N := (f10D.keep K20B (ninS ne7E (ninS ne7B nin0)))
    have f22O := (f10F.keep K20B (ninS ne7M (ninS ne7J nin0)))
    have f22P := (f10G.keep K20B (ninS ne7M (ninS ne7J nin0)))
    have f22Q := (f10H.keep K20B (ninS ne7M (ninS ne7J nin0)))
    have f22R := (f10I.keep K20B (ninS (Ne.symm ne5J) (ninS ne4V nin0)))
    have f22S := (f10J.keep K20B (ninS ne5Z (ninS ne5W nin0)))
    have f22T := (f10K.keep K20B (ninS ne6H (ninS ne6E nin0)))
    have f22U := (f10L.keep K20B (ninS ne6P (ninS ne6M nin0)))
    have f22V := (p3L.keep K20B (ninS (Ne.symm ne5G) (ninS (Ne.symm ne4Q) nin0)))
    have f22W := (p3M.keep K20B (ninS (Ne.symm ne5H) (ninS (Ne.symm ne4R) nin0)))
    have f22X := (f10M.keep K20B (ninS (Ne.symm ne5K) (ninS ne4Z nin0)))
    have f22Y := (p3O.keep K20B (ninS ne8S (ninS ne8O nin0)))
    have KK22Z : Keep hp2X hp20B [b0S, o0V, o0W, o0X, o0Y, o0Z, o40, o53, o2Y] := ((Keep.refl hp2X [b0S, o0V, o0W, o0X, o0Y, o0Z, o40, o53, o2Y]).trans K20B (allS (oi 6 rfl) (allS (oi 3 rfl) all0)))
    have c23A : ∀ t, Sx p e below T20Q m 281 (LQ0 p0 p1 p2 p3 p4 ca cb o13 o18 o23 o27 o40 o53 ii0 ii1 ii2 o66 o72 o78 bb dd0 dd1 dd2 o84 o96 o0I b0S (xvi (0 : Int32)) (xvi (0 : Int32)) (xvi (0 : Int32)) xun xun xun xun xun xun xun) [xwr o78, xwr o0I, xwr o53, xwr b0S] t → TG t := fun t k => c10P t (by
     refine st20B.trans ?_
     refine y_pop X20B hx 266 (hb B at_265) rfl rfl <| y_aload X20B hx 268 (hb B at_266) rfl rfl rfl ?_
     refine st20Q.trans ?_
     refine y_istore X20Q hx 273 (hb B at_271) (L' := (LQ0 p0 p1 p2 p3 p4 ca cb o13 o18 o23 o27 o40 o53 ii0 ii1 ii2 o66 o72 o78 bb dd0 dd1 dd2 o84 o96 o0I b0S (xvi (0 : Int32)) (xvi (0 : Int32)) (xvi (0 : Int32)) xun xun xun xun xun xun xun)) rfl rfl <| y_aload X20Q hx 275 (hb B at_273) rfl rfl rfl <| y_aload X20Q hx 277 (hb B at_275) rfl rfl rfl <| y_aload X20Q hx 279 (hb B at_277) rfl rfl rfl <| y_aload X20Q hx 281 (hb B at_279) rfl rfl rfl ?_
     exact k)
    by_cases hk23B : o23 = o13
    ·by_cases hk23C : ii2 = ii0
     ·obtain ⟨cq23D, kq23D, q23Da, q23Db, q23Dc⟩ := isOf hZ e20Q f20K
      obtain ⟨_, _, ⟨T23E, L23E, k23E, n23E⟩, -, X23E, ⟨Lc23E, hQ23E, l23E, y23E, z23E⟩, st23E⟩ := X20Q.virtualBack hx (y := mm39) (z := mm39) hown (mvT hZ (w_173 hw)) (mvT hZ (w_174 hw)) (notFace_of_selects (args := #[]) (mvT hZ (w_176 hw))) (mvT hZ (w_176 hw)) (mvT hZ (w_175 hw)) (by decide) (backOf (W := 0) (rmAd1 l Z a0 hw G ST [] b0S o0V _ o1E o1F _ o0W _ _ o53 o54 _ o23 o27 o28 _ o13 o0X o0Y mo o0Z _ o0I o0J o0K o0L dd2 _ _ o78 ii2 o2Y _ _ dd0 hp20B n0 Ol20O f20K f21X f21Y f22V hSLS f21W f22W f21M f22B f22E f22U f22C f22D gq4E hc2 f21L f21Z f22A f22S (Ne.symm ne5S) (own_tab0 hk23B (own_gs (own_lt32 hSLS own_lrep (own_hs hSLS o13)))) (own_be hk23B) (own_tab0 hk23B (own_gs (own_lt32 hSLS own_lrep (own_hs hSLS o13)))) f21U f21V f20L f20M f20N f22R f22X f21S f22Q f22P f22O p0R p20J f21P f22H hi2 hr2 hmo p81 (own_dt hk23C (own_gso (own_gs (own_i9 hi0 own_lrep)) (own_ine hi1 hi0 hk10R))) f22Y rfl rfl gq4L (Ne.symm ne8N) gq4A gq4B) hZ (w_177 hw) (w_103 hw) (by decide) (by decide)) q23Da q23Dc (g := (mkF m 281 (LQ0 p0 p1 p2 p3 p4 ca cb o13 o18 o23 o27 o40 o53 ii0 ii1 ii2 o66 o72 o78 bb dd0 dd1 dd2 o84 o96 o0I b0S (xvi (0 : Int32)) (xvi (0 : Int32)) (xvi (0 : Int32)) xun xun xun xun xun xun xun) [xwr o78, xwr o0I, xwr o53, xwr b0S])) rfl (by rw [hml]; rfl) (Steps.refl _) (argsL := [(.ref o53), (.ref o0I), (.ref o78)]) (rest := []) (lenOf pd_26 rfl) rfl (Nat.le_of_eq rfl) (hb B at_281) (fun _ _ => ⟨rfl, e20Q, (by decide : 17 + 0 ≤ _), (by decide : 126 + 0 ≤ _)⟩)
      dsimp only [Pt.U, Pt.locs, Pt.cells, Pt.slots] at X23E l23E y23E z23E st23E hQ23E
      subst l23E y23E z23E
      obtain ⟨hp23E, e23E⟩ : ∃ z, T23E.heap = z := ⟨_, rfl⟩
      rw [e23E] at hQ23E
      obtain ⟨o23F, o23G, o23H, o23I, rfl, N23Eq, K23E, p23J, p23K, p23L, p23M, p23N, p23O, p23P, p23Q, p23R⟩ := hQ23E
      have N23E := Fr.app N20Q N23Eq
      have f23S := (f20K.keep K23E)
      have f23T := (f20L.keep K23E (ninS (Ne.symm ne5M) (ninS (Ne.symm ne8L) (ninS (Ne.symm ne4S) (ninS (Ne.symm ne4W) nin0)))))
      refine ⟨T23E, hp23E, _, (0 : Int32), o23F, o23G, own_wid X23E (by decide : 17 ≤ 18) (by decide : 126 ≤ 135), e23E, N23E, (KK22Z.trans K23E (allS (oi 7 rfl) (allS (oi 8 rfl) (allS (oi 4 rfl) (allS (oi 5 rfl) all0))))), f23S, f23T, p23M, p23N, ⟨Or.inr ⟨rfl, by have q0 := own_eq hk10Q; have q1 := own_neq hk10R; have q2 := own_eq hk23B; have q3 := own_eq hk23C; omega⟩, p23R.elim (fun hq => Or.inr ⟨hq.2.1, by have q0 := own_eq hk10Q; have q1 := own_neq hk10R; have q2 := own_eq hk23B; have q3 := own_eq hk23C; have q := own_nlt hq.1; omega⟩) (fun hq => Or.inl ⟨hq.2.1, by have q0 := own_eq hk10Q; have q1 := own_neq hk10R; have q2 := own_eq hk23B; have q3 := own_eq hk23C; have q := own_lt hq.1; omega⟩)⟩, fun t k => c23A t ?_⟩
      refine st23E.trans ?_
      exact k
     ·by_cases hk23U : ii2 = ii1
      ·obtain ⟨cq23V, kq23V, q23Va, q23Vb, q23Vc⟩ := isOf hZ e20Q f20K
       obtain ⟨_, _, ⟨T23W, L23W, k23W, n23W⟩, -, X23W, ⟨Lc23W, hQ23W, l23W, y23W, z23W⟩, st23W⟩ := X20Q.virtualBack hx (y := mm39) (z := mm39) hown (mvT hZ (w_173 hw)) (mvT hZ (w_174 hw)) (notFace_of_selects (args := #[]) (mvT hZ (w_176 hw))) (mvT hZ (w_176 hw)) (mvT hZ (w_175 hw)) (by decide) (backOf (W := 0) (rmAd1 l Z a0 hw G ST [] b0S o0V _ o1E o1F _ o0W _ _ o53 o54 _ o23 o27 o28 _ o13 o0X o0Y mo o0Z _ o0I o0J o0K o0L dd2 _ _ o78 ii2 o20C _ _ dd1 hp20B n0 Ol20O f20K f21X f21Y f22V hSLS f21W f22W f21M f22B f22E f22U f22C f22D gq4E hc2 f21L f21Z f22A f22S (Ne.symm ne5S) (own_tab0 hk23B (own_gs (own_lt32 hSLS own_lrep (own_hs hSLS o13)))) (own_be hk23B) (own_tab0 hk23B (own_gs (own_lt32 hSLS own_lrep (own_hs hSLS o13)))) f21U f21V f20L f20M f20N f22R f22X f21S f22Q f22P f22O p0R p20J f21P f22H hi2 hr2 hmo p81 (own_dt hk23U (own_gs (own_i9 hi1 (by simp)))) p20I rfl rfl gq20R (Ne.symm ne20U) gq4A gq4B) hZ (w_177 hw) (w_103 hw) (by decide) (by decide)) q23Va q23Vc (g := (mkF m 281 (LQ0 p0 p1 p2 p3 p4 ca cb o13 o18 o23 o27 o40 o53 ii0 ii1 ii2 o66 o72 o78 bb dd0 dd1 dd2 o84 o96 o0I b0S (xvi (0 : Int32)) (xvi (0 : Int32)) (xvi (0 : Int32)) xun xun xun xun xun xun xun) [xwr o78, xwr o0I, xwr o53, xwr b0S])) rfl (by rw [hml]; rfl) (Steps.refl _) (argsL := [(.ref o53), (.ref o0I), (.ref o78)]) (rest := []) (lenOf pd_26 rfl) rfl (Nat.le_of_eq rfl) (hb B at_281) (fun _ _ => ⟨rfl, e20Q, (by decide : 17 + 0 ≤ _), (by decide : 126 + 0 ≤ _)⟩)
       dsimp only [Pt.U, Pt.locs, Pt.cells, Pt.slots] at X23W l23W y23W z23W st23W hQ23W
       subst l23W y23W z23W
       obtain ⟨hp23W, e23W⟩ : ∃ z, T23W.heap = z := ⟨_, rfl⟩
       rw [e23W] at hQ23W
       obtain ⟨o23X, o23Y, o23Z, o24A, rfl, N23Wq, K23W, p24B, p24C, p24D, p24E, p24F, p24G, p24H, p24I, p24J⟩ := hQ23W
       have N23W := Fr.app N20Q N23Wq
       have f24K := (f20K.keep K23W)
       have f24L := (f20L.keep K23W (ninS (Ne.symm ne5M) (ninS (Ne.symm ne20S) (ninS (Ne.symm ne4S) (ninS (Ne.symm ne4W) nin0)))))
       refine ⟨T23W, hp23W, _, (0 : Int32), o23X, o23Y, own_wid X23W (by decide : 17 ≤ 18) (by decide : 126 ≤ 135), e23W, N23W, (KK22Z.trans K23W (allS (oi 7 rfl) (allS (Or.inr (ntr (Nat.le_refl _) p20H)) (allS (oi 4 rfl) (allS (oi 5 rfl) all0))))), f24K, f24L, p24E, p24F, ⟨Or.inr ⟨rfl, by have q0 := own_eq hk10Q; have q1 := own_neq hk10R; have q2 := own_eq hk23B; have q3 := own_neq hk23C; have q4 := own_eq hk23U; omega⟩, p24J.elim (fun hq => Or.inr ⟨hq.2.1, by have q0 := own_eq hk10Q; have q1 := own_neq hk10R; have q2 := own_eq hk23B; have q3 := own_neq hk23C; have q4 := own_eq hk23U; have q := own_nlt hq.1; omega⟩) (fun hq => Or.inl ⟨hq.2.1, by have q0 := own_eq hk10Q; have q1 := own_neq hk10R; have q2 := own_eq hk23B; have q3 := own_neq hk23C; have q4 := own_eq hk23U; have q := own_lt hq.1; omega⟩)⟩, fun t k => c23A t ?_⟩
       refine st23W.trans ?_
       exact k
      ·obtain ⟨cq24M, kq24M, q24Ma, q24Mb, q24Mc⟩ := isOf hZ e20Q f20K
       obtain ⟨_, _, ⟨T24N, L24N, k24N, n24N⟩, -, X24N, ⟨Lc24N, hQ24N, l24N, y24N, z24N⟩, st24N⟩ := X20Q.virtualBack hx (y := mm39) (z := mm39) hown (mvT hZ (w_173 hw)) (mvT hZ (w_174 hw)) (notFace_of_selects (args := #[]) (mvT hZ (w_176 hw))) (mvT hZ (w_176 hw)) (mvT hZ (w_175 hw)) (by decide) (backOf (W := 0) (rmAd2 l Z a0 hw G ST [] b0S o0V _ o1E o1F _ o0W _ _ o53 o54 _ o23 o27 o28 _ o13 o0X o0Y mo o0Z _ o0I o0J o0K o0L dd2 _ _ o78 ii2 hp20B n0 Ol20O f20K f21X f21Y f22V hSLS f21W f22W f21M f22B f22E f22U f22C f22D gq4E hc2 f21L f21Z f22A f22S (Ne.symm ne5S) (own_tab0 hk23B (own_gs (own_lt32 hSLS own_lrep (own_hs hSLS o13)))) (own_be hk23B) (own_tab0 hk23B (own_gs (own_lt32 hSLS own_lrep (own_hs hSLS o13)))) f21U f21V f20L f20M f20N f22R f22X f21S f22Q f22P f22O p0R p20J f21P f22H hi2 hr2 hmo p81 (own_gso (own_gso (own_rep _ _ _) (own_ine hi0 hi2 (fun q => hk23C q.symm))) (own_ine hi1 hi2 (fun q => hk23U q.symm))) (by simp) p2C gq3Z) hZ (w_177 hw) (w_103 hw) (by decide) (by decide)) q24Ma q24Mc (g := (mkF m 281 (LQ0 p0 p1 p2 p3 p4 ca cb o13 o18 o23 o27 o40 o53 ii0 ii1 ii2 o66 o72 o78 bb dd0 dd1 dd2 o84 o96 o0I b0S (xvi (0 : Int32)) (xvi (0 : Int32)) (xvi (0 : Int32)) xun xun xun xun xun xun xun) [xwr o78, xwr o0I, xwr o53, xwr b0S])) rfl (by rw [hml]; rfl) (Steps.refl _) (argsL := [(.ref o53), (.ref o0I), (.ref o78)]) (rest := []) (lenOf pd_26 rfl) rfl (Nat.le_of_eq rfl) (hb B at_281) (fun _ _ => ⟨rfl, e20Q, (by decide : 17 + 1 ≤ _), (by decide : 126 + 9 ≤ _)⟩)
       dsimp only [Pt.U, Pt.locs, Pt.cells, Pt.slots] at X24N l24N y24N z24N st24N hQ24N
       subst l24N y24N z24N
       obtain ⟨hp24N, e24N⟩ : ∃ z, T24N.heap = z := ⟨_, rfl⟩
       rw [e24N] at hQ24N
       obtain ⟨o24O, o24P, rfl, N24Nq, K24N, p24Q, p24R, p24S, p24T, p24U, p24V⟩ := hQ24N
       have N24N := Fr.app N20Q N24Nq
       have f24W := (f20K.keep K24N)
       have f24X := (f20L.keep K24N (ninS (Ne.symm ne5M) (ninS (Ne.symm ne4P) nin0)))
       have f24Y := (f20M.keep K24N)
       have f24Z := (f20N.keep K24N (ninS (Ne.symm ne5Q) (ninS ne4V nin0)))
       refine ⟨T24N, hp24N, _, (0 : Int32), (1 : Int32), (0 : Int32), own_wid X24N (by decide : 18 ≤ 18) (by decide : 135 ≤ 135), e24N, N24N, (KK22Z.trans K24N (allS (oi 7 rfl) (allS (oi 3 rfl) all0))), f24W, f24X, f24Y, f24Z, ⟨Or.inr ⟨rfl, by have q0 := own_eq hk10Q; have q1 := own_neq hk10R; have q2 := own_eq hk23B; have q3 := own_neq hk23C; have q4 := own_neq hk23U; omega⟩, Or.inr ⟨rfl, by have q0 := own_eq hk10Q; have q1 := own_neq hk10R; have q2 := own_eq hk23B; have q3 := own_neq hk23C; have q4 := own_neq hk23U; omega⟩⟩, fun t k => c23A t ?_⟩
       refine st24N.trans ?_
       exact k
    ·by_cases hk25A : ii2 = ii0
     ·obtain ⟨cq25B, kq25B, q25Ba, q25Bb, q25Bc⟩ := isOf hZ e20Q f20K
      obtain ⟨_, _, ⟨T25C, L25C, k25C, n25C⟩, -, X25C, ⟨Lc25C, hQ25C, l25C, y25C, z25C⟩, st25C⟩ := X20Q.virtualBack hx (y := mm39) (z := mm39) hown (mvT hZ (w_173 hw)) (mvT hZ (w_174 hw)) (notFace_of_selects (args := #[]) (mvT hZ (w_176 hw))) (mvT hZ (w_176 hw)) (mvT hZ (w_175 hw)) (by decide) (backOf (W := 0) (rmAd3 l Z a0 hw G ST [] b0S o0V _ o1E o1F _ o0W _ _ o0X o0Y mo o53 o54 _ o23 o27 o28 _ o13 (hs o13 o1F) o0Z _ (0 : Int32) (0 : Int64) o0I o0J o0K o0L dd2 _ _ o78 ii2 o2Y _ _ (-2147483648 : Int32) hp20B n0 Ol20O f20K f21X f21Y f22V hSLS f21W f22W f21U f21V f20L f21M f22B f22E f22U f22C f22D gq4E hc2 f21L f21Z f22A f22S f21T gq3W gq3X gq3Y p2B (by simp) (by simp) (Ne.symm ne5S) (own_T1 (own_lt32 hSLS own_lrep (own_hs hSLS o13))) (own_bn hc0 hc2 (fun q => hk23B q.symm)) (own_hs hSLS o13) f20M f20N f22R f22X (Or.inl ⟨rfl, rfl⟩) f21S f22Q f22P f22O p0R p20J f21P f22H hi2 hr2 hmo p81 (own_dt hk25A (own_gso (own_gs (own_i9 hi0 own_lrep)) (own_ine hi1 hi0 hk10R))) f22Y rfl rfl gq4L (Ne.symm ne8N) (own_nmin _)) hZ (w_177 hw) (w_103 hw) (by decide) (by decide)) q25Ba q25Bc (g := (mkF m 281 (LQ0 p0 p1 p2 p3 p4 ca cb o13 o18 o23 o27 o40 o53 ii0 ii1 ii2 o66 o72 o78 bb dd0 dd1 dd2 o84 o96 o0I b0S (xvi (0 : Int32)) (xvi (0 : Int32)) (xvi (0 : Int32)) xun xun xun xun xun xun xun) [xwr o78, xwr o0I, xwr o53, xwr b0S])) rfl (by rw [hml]; rfl) (Steps.refl _) (argsL := [(.ref o53), (.ref o0I), (.ref o78)]) (rest := []) (lenOf pd_26 rfl) rfl (Nat.le_of_eq rfl) (hb B at_281) (fun _ _ => ⟨rfl, e20Q, (by decide : 17 + 0 ≤ _), (by decide : 126 + 0 ≤ _)⟩)
      dsimp only [Pt.U, Pt.locs, Pt.cells, Pt.slots] at X25C l25C y25C z25C st25C hQ25C
      subst l25C y25C z25C
      obtain ⟨hp25C, e25C⟩ : ∃ z, T25C.heap = z := ⟨_, rfl⟩
      rw [e25C] at hQ25C
      obtain ⟨o25D, o25E, rfl, N25Cq, K25C, p25F, p25G, p25H, p25I, p25J, p25K, p25L, p25M, p25N, p25O, p25P, p25Q, p25R, p25S, p25T⟩ := hQ25C
      have N25C := Fr.app N20Q N25Cq
      have f25U := (f20M.keep K25C)
      have f25V := (f20N.keep K25C (ninS (Ne.symm ne5Q) (ninS ne4T (ninS ne4U (ninS ne4S (ninS (Ne.symm ne8P) nin0))))))
      refine ⟨T25C, hp25C, _, (0 : Int32), o25E, (0 : Int32), own_wid X25C (by decide : 17 ≤ 18) (by decide : 126 ≤ 135), e25C, N25C, (KK22Z.trans K25C (allS (oi 7 rfl) (allS (oi 1 rfl) (allS (oi 2 rfl) (allS (oi 0 rfl) (allS (oi 8 rfl) all0)))))), p25I, p25O, f25U, f25V, ⟨Or.inr ⟨rfl, by have q0 := own_eq hk10Q; have q1 := own_neq hk10R; have q2 := own_neq hk23B; have q3 := own_eq hk25A; omega⟩, Or.inr ⟨rfl, by have q0 := own_eq hk10Q; have q1 := own_neq hk10R; have q2 := own_neq hk23B; have q3 := own_eq hk25A; omega⟩⟩, fun t k => c23A t ?_⟩
      refine st25C.trans ?_
      exact k
     ·by_cases hk25W : ii2 = ii1
      ·obtain ⟨cq25X, kq25X, q25Xa, q25Xb, q25Xc⟩ := isOf hZ e20Q f20K
       obtain ⟨_, _, ⟨T25Y, L25Y, k25Y, n25Y⟩, -, X25Y, ⟨Lc25Y, hQ25Y, l25Y, y25Y, z25Y⟩, st25Y⟩ := X20Q.virtualBack hx (y := mm39) (z := mm39) hown (mvT hZ (w_173 hw)) (mvT hZ (w_174 hw)) (notFace_of_selects (args := #[]) (mvT hZ (w_176 hw))) (mvT hZ (w_176 hw)) (mvT hZ (w_175 hw)) (by decide) (backOf (W := 0) (rmAd3 l Z a0 hw G ST [] b0S o0V _ o1E o1F _ o0W _ _ o0X o0Y mo o53 o54 _ o23 o27 o28 _ o13 (hs o13 o1F) o0Z _ (0 : Int32) (0 : Int64) o0I o0J o0K o0L dd2 _ _ o78 ii2 o20C _ _ (-2147483648 : Int32) hp20B n0 Ol20O f20K f21X f21Y f22V hSLS f21W f22W f21U f21V f20L f21M f22B f22E f22U f22C f22D gq4E hc2 f21L f21Z f22A f22S f21T gq3W gq3X gq3Y p2B (by simp) (by simp) (Ne.symm ne5S) (own_T1 (own_lt32 hSLS own_lrep (own_hs hSLS o13))) (own_bn hc0 hc2 (fun q => hk23B q.symm)) (own_hs hSLS o13) f20M f20N f22R f22X (Or.inl ⟨rfl, rfl⟩) f21S f22Q f22P f22O p0R p20J f21P f22H hi2 hr2 hmo p81 (own_dt hk25W (own_gs (own_i9 hi1 (by simp)))) p20I rfl rfl gq20R (Ne.symm ne20U) (own_nmin _)) hZ (w_177 hw) (w_103 hw) (by decide) (by decide)) q25Xa q25Xc (g := (mkF m 281 (LQ0 p0 p1 p2 p3 p4 ca cb o13 o18 o23 o27 o40 o53 ii0 ii1 ii2 o66 o72 o78 bb dd0 dd1 dd2 o84 o96 o0I b0S (xvi (0 : Int32)) (xvi (0 : Int32)) (xvi (0 : Int32)) xun xun xun xun xun xun xun) [xwr o78, xwr o0I, xwr o53, xwr b0S])) rfl (by rw [hml]; rfl) (Steps.refl _) (argsL := [(.ref o53), (.ref o0I), (.ref o78)]) (rest := []) (lenOf pd_26 rfl) rfl (Nat.le_of_eq rfl) (hb B at_281) (fun _ _ => ⟨rfl, e20Q, (by decide : 17 + 0 ≤ _), (by decide : 126 + 0 ≤ _)⟩)
       dsimp only [Pt.U, Pt.locs, Pt.cells, Pt.slots] at X25Y l25Y y25Y z25Y st25Y hQ25Y
       subst l25Y y25Y z25Y
       obtain ⟨hp25Y, e25Y⟩ : ∃ z, T25Y.heap = z := ⟨_, rfl⟩
       rw [e25Y] at hQ25Y
       obtain ⟨o25Z, o26A, rfl, N25Yq, K25Y, p26B, p26C, p26D, p26E, p26F, p26G, p26H, p26I, p26J, p26K, p26L, p26M, p26N, p26O, p26P⟩ := hQ25Y
       have N25Y := Fr.app N20Q N25Yq
       have f26Q := (f20M.keep K25Y)
       have f26R := (f20N.keep K25Y (ninS (Ne.symm ne5Q) (ninS ne4T (ninS ne4U (ninS ne4S (ninS (Ne.symm ne20W) nin0))))))
       refine ⟨T25Y, hp25Y, _, (0 : Int32), o26A, (0 : Int32), own_wid X25Y (by decide : 17 ≤ 18) (by decide : 126 ≤ 135), e25Y, N25Y, (KK22Z.trans K25Y (allS (oi 7 rfl) (allS (oi 1 rfl) (allS (oi 2 rfl) (allS (oi 0 rfl) (allS (Or.inr (ntr (Nat.le_refl _) p20H)) all0)))))), p26E, p26K, f26Q, f26R, ⟨Or.inr ⟨rfl, by have q0 := own_eq hk10Q; have q1 := own_neq hk10R; have q2 := own_neq hk23B; have q3 := own_neq hk25A; have q4 := own_eq hk25W; omega⟩, Or.inr ⟨rfl, by have q0 := own_eq hk10Q; have q1 := own_neq hk10R; have q2 := own_neq hk23B; have q3 := own_neq hk25A; have q4 := own_eq hk25W; omega⟩⟩, fun t k => c23A t ?_⟩
       refine st25Y.trans ?_
       exact k
      ·obtain ⟨cq26S, kq26S, q26Sa, q26Sb, q26Sc⟩ := isOf hZ e20Q f20K
       obtain ⟨_, _, ⟨T26T, L26T, k26T, n26T⟩, -, X26T, ⟨Lc26T, hQ26T, l26T, y26T, z26T⟩, st26T⟩ := X20Q.virtualBack hx (y := mm39) (z := mm39) hown (mvT hZ (w_173 hw)) (mvT hZ (w_174 hw)) (notFace_of_selects (args := #[]) (mvT hZ (w_176 hw))) (mvT hZ (w_176 hw)) (mvT hZ (w_175 hw)) (by decide) (backOf (W := 0) (rmAd4 l Z a0 hw G ST [] b0S o0V _ o1E o1F _ o0W _ _ o0X o0Y mo o53 o54 _ o23 o27 o28 _ o13 (hs o13 o1F) o0Z _ (0 : Int32) (0 : Int64) o0I o0J o0K o0L dd2 _ _ o78 ii2 hp20B n0 Ol20O f20K f21X f21Y f22V hSLS f21W f22W f21U f21V f20L f21M f22B f22E f22U f22C f22D gq4E hc2 f21L f21Z f22A f22S f21T gq3W gq3X gq3Y p2B (by simp) (by simp) (Ne.symm ne5S) (own_T1 (own_lt32 hSLS own_lrep (own_hs hSLS o13))) (own_bn hc0 hc2 (fun q => hk23B q.symm)) (own_hs hSLS o13) f20M f20N f22R f22X (Or.inl ⟨rfl, rfl⟩) f21S f22Q f22P f22O p0R p20J f21P f22H hi2 hr2 hmo p81 (own_gso (own_gso (own_rep _ _ _) (own_ine hi0 hi2 (fun q => hk25A q.symm))) (own_ine hi1 hi2 (fun q => hk25W q.symm))) (by simp) p2C gq3Z) hZ (w_177 hw) (w_103 hw) (by decide) (by decide)) q26Sa q26Sc (g := (mkF m 281 (LQ0 p0 p1 p2 p3 p4 ca cb o13 o18 o23 o27 o40 o53 ii0 ii1 ii2 o66 o72 o78 bb dd0 dd1 dd2 o84 o96 o0I b0S (xvi (0 : Int32)) (xvi (0 : Int32)) (xvi (0 : Int32)) xun xun xun xun xun xun xun) [xwr o78, xwr o0I, xwr o53, xwr b0S])) rfl (by rw [hml]; rfl) (Steps.refl _) (argsL := [(.ref o53), (.ref o0I), (.ref o78)]) (rest := []) (lenOf pd_26 rfl) rfl (Nat.le_of_eq rfl) (hb B at_281) (fun _ _ => ⟨rfl, e20Q, (by decide : 17 + 1 ≤ _), (by decide : 126 + 9 ≤ _)⟩)
       dsimp only [Pt.U, Pt.locs, Pt.cells, Pt.slots] at X26T l26T y26T z26T st26T hQ26T
       subst l26T y26T z26T
       obtain ⟨hp26T, e26T⟩ : ∃ z, T26T.heap = z := ⟨_, rfl⟩
       rw [e26T] at hQ26T
       obtain ⟨o26U, o26V, o26W, rfl, N26Tq, K26T, p26X, p26Y, p26Z, p27A, p27B, p27C, p27D, p27E, p27F, p27G, p27H, p27I, p27J, p27K, p27L, p27M, p27N⟩ := hQ26T
       have N26T := Fr.app N20Q N26Tq
       have f27O := (f20M.keep K26T)
       have f27P := (f20N.keep K26T (ninS (Ne.symm ne5Q) (ninS ne4T (ninS ne4U (ninS ne4S (ninS ne4V nin0))))))
       refine ⟨T26T, hp26T, _, (0 : Int32), (1 : Int32), (0 : Int32), own_wid X26T (by decide : 18 ≤ 18) (by decide : 135 ≤ 135), e26T, N26T, (KK22Z.trans K26T (allS (oi 7 rfl) (allS (oi 1 rfl) (allS (oi 2 rfl) (allS (oi 0 rfl) (allS (oi 3 rfl) all0)))))), p27A, p27G, f27O, f27P, ⟨Or.inr ⟨rfl, by have q0 := own_eq hk10Q; have q1 := own_neq hk10R; have q2 := own_neq hk23B; have q3 := own_neq hk25A; have q4 := own_neq hk25W; omega⟩, Or.inr ⟨rfl, by have q0 := own_eq hk10Q; have q1 := own_neq hk10R; have q2 := own_neq hk23B; have q3 := own_neq hk25A; have q4 := own_neq hk25W; omega⟩⟩, fun t k => c23A t ?_⟩
       refine st26T.trans ?_
       exact k
  ·by_cases hk27Q : ii1 = ii0
   ·obtain ⟨cq27R, kq27R, q27Ra, q27Rb, q27Rc⟩ := isOf hZ e3V p3D
    obtain ⟨_, _, ⟨T27S, L27S, k27S, n27S⟩, -, X27S, ⟨Lc27S, hQ27S, l27S, y27S, z27S⟩, st27S⟩ := X3V.virtualBack hx (y := mm39) (z := mm39) hown (mvT hZ (w_173 hw)) (mvT hZ (w_174 hw)) (notFace_of_selects (args := #[]) (mvT hZ (w_176 hw))) (mvT hZ (w_176 hw)) (mvT hZ (w_175 hw)) (by decide) (backOf (W := 0) (rmAd3 l Z a0 hw G ST [] b0S o0V _ o1E o1F _ o0W _ _ o0X o0Y mo o40 o41 _ o18 o27 o28 _ o13 (hs o13 o1F) o0Z _ (0 : Int32) (0 : Int64) o96 o97 o98 o99 dd1 _ _ o72 ii1 o2Y _ _ (-2147483648 : Int32) hp2X n0 Ol3T p3D p3E p3F p3L hSLS p3G p3M p3H p3I p3J f9D f9L f9O f10K f9M f9N gq4D hc1 p3A p3B p3C f10J p3K gq3W gq3X gq3Y p2B (by simp) (by simp) (Ne.symm ne5L) (own_T1 (own_lt32 hSLS own_lrep (own_hs hSLS o13))) (own_bn hc0 hc1 (fun q => hk10Q q.symm)) (own_hs hSLS o13) f3Q f3S f10I f10M (Or.inl ⟨rfl, rfl⟩) f9J f10D f10C f10B p0F p3P f9G f9U hi1 hr1 hmo p75 (own_dt hk27Q (own_gs (own_i9 hi0 own_lrep))) p3O rfl rfl gq4L (Ne.symm ne8N) (own_nmin _)) hZ (w_177 hw) (w_103 hw) (by decide) (by decide)) q27Ra q27Rc (g := (mkF m 262 (LQ0 p0 p1 p2 p3 p4 ca cb o13 o18 o23 o27 o40 o53 ii0 ii1 ii2 o66 o72 o78 bb dd0 dd1 dd2 o84 o96 o0I b0S (xvi (0 : Int32)) (xvi (0 : Int32)) xun xun xun xun xun xun xun xun) [xwr o72, xwr o96, xwr o40, xwr b0S])) rfl (by rw [hml]; rfl) (Steps.refl _) (argsL := [(.ref o40), (.ref o96), (.ref o72)]) (rest := []) (lenOf pd_26 rfl) rfl (Nat.le_of_eq rfl) (hb B at_262) (fun _ _ => ⟨rfl, e3V, (by decide : 16 + 0 ≤ _), (by decide : 117 + 0 ≤ _)⟩)
    dsimp only [Pt.U, Pt.locs, Pt.cells, Pt.slots] at X27S l27S y27S z27S st27S hQ27S
    subst l27S y27S z27S
    obtain ⟨hp27S, e27S⟩ : ∃ z, T27S.heap = z := ⟨_, rfl⟩
    rw [e27S] at hQ27S
    obtain ⟨o27T, o27U, rfl, N27Sq, K27S, p27V, p27W, p27X, p27Y, p27Z, p28A, p28B, p28C, p28D, p28E, p28F, p28G, p28H, p28I, p28J⟩ := hQ27S
    have N27S := Fr.app N3V N27Sq
    have f28K := (f3Q.keep K27S)
    have f28L := (f3S.keep K27S (ninS (Ne.symm ne5J) (ninS ne4T (ninS ne4U (ninS ne4S (ninS (Ne.symm ne8P) nin0))))))
    have Ol28M : Old Z n0 hp27S := (Ol3T.keep K27S (allS gq4D (allS gq3X (allS gq3Y (allS gq3W (allS gq4L all0))))))
    obtain ⟨cq28N, kq28N, q28Na, q28Nb, q28Nc⟩ := isOf hZ e27S p27Y
    obtain ⟨_, _, ⟨T28O, L28O, k28O, n28O⟩, -, X28O, ⟨Lc28O, hQ28O, l28O, y28O, z28O⟩, st28O⟩ := X27S.virtualBack hx (y := mm31) (z := mm31) hown (mvT hZ (w_163 hw)) (mvT hZ (w_164 hw)) (notFace_of_selects (args := #[]) (mvT hZ (w_166 hw))) (mvT hZ (w_166 hw)) (mvT hZ (w_165 hw)) (by decide) (backOf (W := 0) (rmAn0 l Z a0 hw G ST [] b0S o0Y hp27S n0 Ol28M p27Y p28E f28K f28L) hZ (w_167 hw) (w_103 hw) (by decide) (by decide)) q28Na q28Nc (g := (mkF m 268 (LQ0 p0 p1 p2 p3 p4 ca cb o13 o18 o23 o27 o40 o53 ii0 ii1 ii2 o66 o72 o78 bb dd0 dd1 dd2 o84 o96 o0I b0S (xvi (0 : Int32)) (xvi (0 : Int32)) xun xun xun xun xun xun xun xun) [xwr b0S])) rfl (by rw [hml]; rfl) (Steps.refl _) (argsL := []) (rest := []) (lenOf pd_3 rfl) rfl (Nat.le_of_eq rfl) (hb B at_268) (fun _ _ => ⟨rfl, e27S, (by decide : 16 + 0 ≤ _), (by decide : 117 + 0 ≤ _)⟩)
    dsimp only [Pt.U, Pt.locs, Pt.cells, Pt.slots] at X28O l28O y28O z28O st28O hQ28O
    subst l28O y28O z28O
    obtain ⟨rfl, N28Oq, e28O⟩ := hQ28O
    have N28O := Fr.app N27S N28Oq
    have f28P := (p3A.keep K27S)
    have f28Q := (f9E.keep K27S)
    have f28R := (f9F.keep K27S)
    have f28S := (f9G.keep K27S)
    have f28T := (f9H.keep K27S)
    have f28U := (f9I.keep K27S)
    have f28V := (f9J.keep K27S)
    have f28W := (f9K.keep K27S)
    have f28X := (p3B.keep K27S (ninS (Ne.symm ne5L) (ninS ne5B (ninS ne5C (ninS ne2H (ninS (Ne.symm ne8R) nin0))))))
    have f28Y := (p3C.keep K27S (ninS (Ne.symm ne5L) (ninS ne5B (ninS ne5C (ninS ne2H (ninS (Ne.symm ne8R) nin0))))))
    have f28Z := (f9P.keep K27S (ninS ne5T (ninS ne5N (ninS ne5O (ninS ne5M (ninS (Ne.symm ne8T) nin0))))))
    have f29A := (f9Q.keep K27S (ninS ne5T (ninS ne5N (ninS ne5O (ninS ne5M (ninS (Ne.symm ne8T) nin0))))))
    have f29B := (f9R.keep K27S (ninS ne5T (ninS ne5N (ninS ne5O (ninS ne5M (ninS (Ne.symm ne8T) nin0))))))
    have f29C := (f9S.keep K27S (ninS ne5T (ninS ne5N (ninS ne5O (ninS ne5M (ninS (Ne.symm ne8T) nin0))))))
    have f29D := (f9T.keep K27S (ninS ne7T (ninS ne7O (ninS ne7P (ninS ne2U (ninS (Ne.symm ne9A) nin0))))))
    have f29E := (f9U.keep K27S (ninS ne8B (ninS ne7W (ninS ne7X (ninS ne7V (ninS (Ne.symm ne9B) nin0))))))
    have f29F := (f9V.keep K27S (ninS ne8J (ninS ne8E (ninS ne8F (ninS ne8D (ninS (Ne.symm ne9C) nin0))))))
    have f29G := (f9X.keep K27S (ninS ne6W (ninS ne6R (ninS ne6S (ninS ne2P (ninS (Ne.symm ne8X) nin0))))))
    have f29H := (f9Y.keep K27S (ninS ne6W (ninS ne6R (ninS ne6S (ninS ne2P (ninS (Ne.symm ne8X) nin0))))))
    have f29I := (f9Z.keep K27S (ninS ne6W (ninS ne6R (ninS ne6S (ninS ne2P (ninS (Ne.symm ne8X) nin0))))))
    have f29J := (f10B.keep K27S (ninS ne7E (ninS ne6Z (ninS ne7A (ninS ne6Y (ninS (Ne.symm ne8Y) nin0))))))
    have f29K := (f10C.keep K27S (ninS ne7E (ninS ne6Z (ninS ne7A (ninS ne6Y (ninS (Ne.symm ne8Y) nin0))))))
    have f29L := (f10D.keep K27S (ninS ne7E (ninS ne6Z (ninS ne7A (ninS ne6Y (ninS (Ne.symm ne8Y) nin0))))))
    have f29M := (f10F.keep K27S (ninS ne7M (ninS ne7H (ninS ne7I (ninS ne7G (ninS (Ne.symm ne8Z) nin0))))))
    have f29N := (f10G.keep K27S (ninS ne7M (ninS ne7H (ninS ne7I (ninS ne7G (ninS (Ne.symm ne8Z) nin0))))))
    have f29O := (f10H.keep K27S (ninS ne7M (ninS ne7H (ninS ne7I (ninS ne7G (ninS (Ne.symm ne8Z) nin0))))))
    have f29P := (f10I.keep K27S (ninS (Ne.symm ne5J) (ninS ne4T (ninS ne4U (ninS ne4S (ninS (Ne.symm ne8P) nin0))))))
    have f29Q := (f10J.keep K27S (ninS ne5Z (ninS ne5U (ninS ne5V (ninS ne2K (ninS (Ne.symm ne8U) nin0))))))
    have f29R := (f10K.keep K27S (ninS ne6H (ninS ne6C (ninS ne6D (ninS ne6B (ninS (Ne.symm ne8V) nin0))))))
    have f29S := (f10L.keep K27S (ninS ne6P (ninS ne6K (ninS ne6L (ninS ne6J (ninS (Ne.symm ne8W) nin0))))))
    have f29T := (p3P.keep K27S (ninS (Ne.symm ne5I) (ninS ne4Q (ninS ne4R (ninS ne4P (ninS (Ne.symm ne8O) nin0))))))
    have f29U := (f10M.keep K27S (ninS (Ne.symm ne5K) (ninS ne4X (ninS ne4Y (ninS ne4W (ninS (Ne.symm ne8Q) nin0))))))
    have KK29V : Keep hp2X hp27S [b0S, o0V, o0W, o0X, o0Y, o0Z, o40, o53, o2Y] := ((Keep.refl hp2X [b0S, o0V, o0W, o0X, o0Y, o0Z, o40, o53, o2Y]).trans K27S (allS (oi 6 rfl) (allS (oi 1 rfl) (allS (oi 2 rfl) (allS (oi 0 rfl) (allS (oi 8 rfl) all0))))))
    have c29W : ∀ t, Sx p e below T28O m 281 (LQ0 p0 p1 p2 p3 p4 ca cb o13 o18 o23 o27 o40 o53 ii0 ii1 ii2 o66 o72 o78 bb dd0 dd1 dd2 o84 o96 o0I b0S (xvi (0 : Int32)) (xvi (0 : Int32)) (xvi (0 : Int32)) xun xun xun xun xun xun xun) [xwr o78, xwr o0I, xwr o53, xwr b0S] t → TG t := fun t k => c10P t (by
     refine st27S.trans ?_
     refine y_pop X27S hx 266 (hb B at_265) rfl rfl <| y_aload X27S hx 268 (hb B at_266) rfl rfl rfl ?_
     refine st28O.trans ?_
     refine y_istore X28O hx 273 (hb B at_271) (L' := (LQ0 p0 p1 p2 p3 p4 ca cb o13 o18 o23 o27 o40 o53 ii0 ii1 ii2 o66 o72 o78 bb dd0 dd1 dd2 o84 o96 o0I b0S (xvi (0 : Int32)) (xvi (0 : Int32)) (xvi (0 : Int32)) xun xun xun xun xun xun xun)) rfl rfl <| y_aload X28O hx 275 (hb B at_273) rfl rfl rfl <| y_aload X28O hx 277 (hb B at_275) rfl rfl rfl <| y_aload X28O hx 279 (hb B at_277) rfl rfl rfl <| y_aload X28O hx 281 (hb B at_279) rfl rfl rfl ?_
     exact k)
    by_cases hk29X : o23 = o13
    ·by_cases hk29Y : ii2 = ii0
     ·obtain ⟨cq29Z, kq29Z, q29Za, q29Zb, q29Zc⟩ := isOf hZ e28O p27Y
      obtain ⟨_, _, ⟨T30A, L30A, k30A, n30A⟩, -, X30A, ⟨Lc30A, hQ30A, l30A, y30A, z30A⟩, st30A⟩ := X28O.virtualBack hx (y := mm39) (z := mm39) hown (mvT hZ (w_173 hw)) (mvT hZ (w_174 hw)) (notFace_of_selects (args := #[]) (mvT hZ (w_176 hw))) (mvT hZ (w_176 hw)) (mvT hZ (w_175 hw)) (by decide) (backOf (W := 0) (rmAd1 l Z a0 hw G ST [] b0S o0V _ o1E o1F _ o0W _ _ o53 o54 _ o23 o27 o28 _ o13 o0X o0Y mo o0Z _ o0I o0J o0K o0L dd2 _ _ o78 ii2 o2Y _ _ dd0 hp27S n0 Ol28M p27Y p27Z p28A p28G hSLS p28B p28H f28Q f28Z f29C f29S f29A f29B gq4E hc2 f28P f28X f28Y f29Q (Ne.symm ne5S) (own_tab0 hk29X (own_gso (own_gs (own_lt32 hSLS own_lrep (own_hs hSLS o13))) (own_ixne hSLS p28I))) (own_be hk29X) (own_tab0 hk29X (own_gso (own_gs (own_lt32 hSLS own_lrep (own_hs hSLS o13))) (own_ixne hSLS p28I))) p28C p28D p28E f28K f28L f29P f29U f28W f29O f29N f29M p0R f29T f28T f29F hi2 hr2 hmo p81 (own_dt hk29Y (own_gs (own_i9 hi0 own_lrep))) p28J rfl rfl gq4L (Ne.symm ne8N) gq4A gq4B) hZ (w_177 hw) (w_103 hw) (by decide) (by decide)) q29Za q29Zc (g := (mkF m 281 (LQ0 p0 p1 p2 p3 p4 ca cb o13 o18 o23 o27 o40 o53 ii0 ii1 ii2 o66 o72 o78 bb dd0 dd1 dd2 o84 o96 o0I b0S (xvi (0 : Int32)) (xvi (0 : Int32)) (xvi (0 : Int32)) xun xun xun xun xun xun xun) [xwr o78, xwr o0I, xwr o53, xwr b0S])) rfl (by rw [hml]; rfl) (Steps.refl _) (argsL := [(.ref o53), (.ref o0I), (.ref o78)]) (rest := []) (lenOf pd_26 rfl) rfl (Nat.le_of_eq rfl) (hb B at_281) (fun _ _ => ⟨rfl, e28O, (by decide : 16 + 0 ≤ _), (by decide : 117 + 0 ≤ _)⟩)
      dsimp only [Pt.U, Pt.locs, Pt.cells, Pt.slots] at X30A l30A y30A z30A st30A hQ30A
      subst l30A y30A z30A
      obtain ⟨hp30A, e30A⟩ : ∃ z, T30A.heap = z := ⟨_, rfl⟩
      rw [e30A] at hQ30A
      obtain ⟨o30B, o30C, o30D, o30E, rfl, N30Aq, K30A, p30F, p30G, p30H, p30I, p30J, p30K, p30L, p30M, p30N⟩ := hQ30A
      have N30A := Fr.app N28O N30Aq
      have f30O := (p27Y.keep K30A)
      have f30P := (p28E.keep K30A (ninS (Ne.symm ne5M) (ninS (Ne.symm ne8L) (ninS (Ne.symm ne4S) (ninS (Ne.symm ne4W) nin0)))))
      refine ⟨T30A, hp30A, _, (0 : Int32), o30B, o30C, own_wid X30A (by decide : 16 ≤ 18) (by decide : 117 ≤ 135), e30A, N30A, (KK29V.trans K30A (allS (oi 7 rfl) (allS (oi 8 rfl) (allS (oi 4 rfl) (allS (oi 5 rfl) all0))))), f30O, f30P, p30I, p30J, ⟨Or.inr ⟨rfl, by have q0 := own_neq hk10Q; have q1 := own_eq hk27Q; have q2 := own_eq hk29X; have q3 := own_eq hk29Y; omega⟩, p30N.elim (fun hq => Or.inr ⟨hq.2.1, by have q0 := own_neq hk10Q; have q1 := own_eq hk27Q; have q2 := own_eq hk29X; have q3 := own_eq hk29Y; have q := own_nlt hq.1; omega⟩) (fun hq => Or.inl ⟨hq.2.1, by have q0 := own_neq hk10Q; have q1 := own_eq hk27Q; have q2 := own_eq hk29X; have q3 := own_eq hk29Y; have q := own_lt hq.1; omega⟩)⟩, fun t k => c29W t ?_⟩
      refine st30A.trans ?_
      exact k
     ·obtain ⟨cq30Q, kq30Q, q30Qa, q30Qb, q30Qc⟩ := isOf hZ e28O p27Y
      obtain ⟨_, _, ⟨T30R, L30R, k30R, n30R⟩, -, X30R, ⟨Lc30R, hQ30R, l30R, y30R, z30R⟩, st30R⟩ := X28O.virtualBack hx (y := mm39) (z := mm39) hown (mvT hZ (w_173 hw)) (mvT hZ (w_174 hw)) (notFace_of_selects (args := #[]) (mvT hZ (w_176 hw))) (mvT hZ (w_176 hw)) (mvT hZ (w_175 hw)) (by decide) (backOf (W := 0) (rmAd2 l Z a0 hw G ST [] b0S o0V _ o1E o1F _ o0W _ _ o53 o54 _ o23 o27 o28 _ o13 o0X o0Y mo o0Z _ o0I o0J o0K o0L dd2 _ _ o78 ii2 hp27S n0 Ol28M p27Y p27Z p28A p28G hSLS p28B p28H f28Q f28Z f29C f29S f29A f29B gq4E hc2 f28P f28X f28Y f29Q (Ne.symm ne5S) (own_tab0 hk29X (own_gso (own_gs (own_lt32 hSLS own_lrep (own_hs hSLS o13))) (own_ixne hSLS p28I))) (own_be hk29X) (own_tab0 hk29X (own_gso (own_gs (own_lt32 hSLS own_lrep (own_hs hSLS o13))) (own_ixne hSLS p28I))) p28C p28D p28E f28K f28L f29P f29U f28W f29O f29N f29M p0R f29T f28T f29F hi2 hr2 hmo p81 (own_gso (own_rep _ _ _) (own_ine hi0 hi2 (fun q => hk29Y q.symm))) (by simp) p2C gq3Z) hZ (w_177 hw) (w_103 hw) (by decide) (by decide)) q30Qa q30Qc (g := (mkF m 281 (LQ0 p0 p1 p2 p3 p4 ca cb o13 o18 o23 o27 o40 o53 ii0 ii1 ii2 o66 o72 o78 bb dd0 dd1 dd2 o84 o96 o0I b0S (xvi (0 : Int32)) (xvi (0 : Int32)) (xvi (0 : Int32)) xun xun xun xun xun xun xun) [xwr o78, xwr o0I, xwr o53, xwr b0S])) rfl (by rw [hml]; rfl) (Steps.refl _) (argsL := [(.ref o53), (.ref o0I), (.ref o78)]) (rest := []) (lenOf pd_26 rfl) rfl (Nat.le_of_eq rfl) (hb B at_281) (fun _ _ => ⟨rfl, e28O, (by decide : 16 + 1 ≤ _), (by decide : 117 + 9 ≤ _)⟩)
      dsimp only [Pt.U, Pt.locs, Pt.cells, Pt.slots] at X30R l30R y30R z30R st30R hQ30R
      subst l30R y30R z30R
      obtain ⟨hp30R, e30R⟩ : ∃ z, T30R.heap = z := ⟨_, rfl⟩
      rw [e30R] at hQ30R
      obtain ⟨o30S, o30T, rfl, N30Rq, K30R, p30U, p30V, p30W, p30X, p30Y, p30Z⟩ := hQ30R
      have N30R := Fr.app N28O N30Rq
      have f31A := (p27Y.keep K30R)
      have f31B := (p28E.keep K30R (ninS (Ne.symm ne5M) (ninS (Ne.symm ne4P) nin0)))
      have f31C := (f28K.keep K30R)
      have f31D := (f28L.keep K30R (ninS (Ne.symm ne5Q) (ninS ne4V nin0)))
      refine ⟨T30R, hp30R, _, (0 : Int32), (1 : Int32), (0 : Int32), own_wid X30R (by decide : 17 ≤ 18) (by decide : 126 ≤ 135), e30R, N30R, (KK29V.trans K30R (allS (oi 7 rfl) (allS (oi 3 rfl) all0))), f31A, f31B, f31C, f31D, ⟨Or.inr ⟨rfl, by have q0 := own_neq hk10Q; have q1 := own_eq hk27Q; have q2 := own_eq hk29X; have q3 := own_neq hk29Y; omega⟩, Or.inr ⟨rfl, by have q0 := own_neq hk10Q; have q1 := own_eq hk27Q; have q2 := own_eq hk29X; have q3 := own_neq hk29Y; omega⟩⟩, fun t k => c29W t ?_⟩
      refine st30R.trans ?_
      exact k
    ·have hq31E : o23 = o18 := own_third hv0 hv1 hv2 hk10Q hk29X
     by_cases hk31F : ii2 = ii0
     ·obtain ⟨cq31G, kq31G, q31Ga, q31Gb, q31Gc⟩ := isOf hZ e28O p27Y
      obtain ⟨_, _, ⟨T31H, L31H, k31H, n31H⟩, -, X31H, ⟨Lc31H, hQ31H, l31H, y31H, z31H⟩, st31H⟩ := X28O.virtualBack hx (y := mm39) (z := mm39) hown (mvT hZ (w_173 hw)) (mvT hZ (w_174 hw)) (notFace_of_selects (args := #[]) (mvT hZ (w_176 hw))) (mvT hZ (w_176 hw)) (mvT hZ (w_175 hw)) (by decide) (backOf (W := 0) (rmAd6 l Z a0 hw G ST [] b0S o0V _ o1E o1F _ o0W _ _ o53 o54 _ o23 o27 o28 _ o13 o40 o41 _ o18 (hs o13 o1F) o27T o0X o0Y mo o0Z _ o0I o0J o0K o0L dd2 _ _ o78 ii2 o2Y _ _ dd1 hp27S n0 Ol28M p27Y p27Z p28A p28G hSLS p28B p28H f28Q f28Z f29C f29S f29A f29B gq4E hc2 f28P f28X f28Y f29Q p27V p27W p27X f29R (Ne.symm ne5S) (Ne.symm ne5T) (own_ixc hq31E p28I) ((own_gso (own_gs (own_lt32 hSLS own_lrep (own_hs hSLS o13))) (own_ixne hSLS p28I))) ((own_gs (own_lt32 hSLS (by simp) (own_ixin hSLS p28I)))) (own_bn hc0 hc2 (fun q => hk29X q.symm)) (own_be hq31E) ((own_gs (own_lt32 hSLS (by simp) (own_ixin hSLS p28I)))) p28C p28D p28E f28K f28L f29P f29U f28W f29O f29N f29M p0R f29T f28T f29F hi2 hr2 hmo p81 (own_dt hk31F (own_gs (own_i9 hi0 own_lrep))) p28J rfl rfl gq4L (Ne.symm ne8N) gq4A gq4B) hZ (w_177 hw) (w_103 hw) (by decide) (by decide)) q31Ga q31Gc (g := (mkF m 281 (LQ0 p0 p1 p2 p3 p4 ca cb o13 o18 o23 o27 o40 o53 ii0 ii1 ii2 o66 o72 o78 bb dd0 dd1 dd2 o84 o96 o0I b0S (xvi (0 : Int32)) (xvi (0 : Int32)) (xvi (0 : Int32)) xun xun xun xun xun xun xun) [xwr o78, xwr o0I, xwr o53, xwr b0S])) rfl (by rw [hml]; rfl) (Steps.refl _) (argsL := [(.ref o53), (.ref o0I), (.ref o78)]) (rest := []) (lenOf pd_26 rfl) rfl (Nat.le_of_eq rfl) (hb B at_281) (fun _ _ => ⟨rfl, e28O, (by decide : 16 + 0 ≤ _), (by decide : 117 + 0 ≤ _)⟩)
      dsimp only [Pt.U, Pt.locs, Pt.cells, Pt.slots] at X31H l31H y31H z31H st31H hQ31H
      subst l31H y31H z31H
      obtain ⟨hp31H, e31H⟩ : ∃ z, T31H.heap = z := ⟨_, rfl⟩
      rw [e31H] at hQ31H
      obtain ⟨o31I, o31J, o31K, o31L, rfl, N31Hq, K31H, p31M, p31N, p31O, p31P, p31Q, p31R, p31S, p31T, p31U⟩ := hQ31H
      have N31H := Fr.app N28O N31Hq
      have f31V := (p27Y.keep K31H)
      have f31W := (p28E.keep K31H (ninS (Ne.symm ne5M) (ninS (Ne.symm ne8L) (ninS (Ne.symm ne4S) (ninS (Ne.symm ne4W) nin0)))))
      refine ⟨T31H, hp31H, _, (0 : Int32), o31I, o31J, own_wid X31H (by decide : 16 ≤ 18) (by decide : 117 ≤ 135), e31H, N31H, (KK29V.trans K31H (allS (oi 7 rfl) (allS (oi 8 rfl) (allS (oi 4 rfl) (allS (oi 5 rfl) all0))))), f31V, f31W, p31P, p31Q, ⟨Or.inr ⟨rfl, by have q0 := own_neq hk10Q; have q1 := own_eq hk27Q; have q2 := own_neq hk29X; have q3 := own_eq hq31E; have q4 := own_eq hk31F; omega⟩, p31U.elim (fun hq => Or.inr ⟨hq.2.1, by have q0 := own_neq hk10Q; have q1 := own_eq hk27Q; have q2 := own_neq hk29X; have q3 := own_eq hq31E; have q4 := own_eq hk31F; have q := own_nlt hq.1; omega⟩) (fun hq => Or.inl ⟨hq.2.1, by have q0 := own_neq hk10Q; have q1 := own_eq hk27Q; have q2 := own_neq hk29X; have q3 := own_eq hq31E; have q4 := own_eq hk31F; have q := own_lt hq.1; omega⟩)⟩, fun t k => c29W t ?_⟩
      refine st31H.trans ?_
      exact k
     ·obtain ⟨cq31X, kq31X, q31Xa, q31Xb, q31Xc⟩ := isOf hZ e28O p27Y
      obtain ⟨_, _, ⟨T31Y, L31Y, k31Y, n31Y⟩, -, X31Y, ⟨Lc31Y, hQ31Y, l31Y, y31Y, z31Y⟩, st31Y⟩ := X28O.virtualBack hx (y := mm39) (z := mm39) hown (mvT hZ (w_173 hw)) (mvT hZ (w_174 hw)) (notFace_of_selects (args := #[]) (mvT hZ (w_176 hw))) (mvT hZ (w_176 hw)) (mvT hZ (w_175 hw)) (by decide) (backOf (W := 0) (rmAd7 l Z a0 hw G ST [] b0S o0V _ o1E o1F _ o0W _ _ o53 o54 _ o23 o27 o28 _ o13 o40 o41 _ o18 (hs o13 o1F) o27T o0X o0Y mo o0Z _ o0I o0J o0K o0L dd2 _ _ o78 ii2 hp27S n0 Ol28M p27Y p27Z p28A p28G hSLS p28B p28H f28Q f28Z f29C f29S f29A f29B gq4E hc2 f28P f28X f28Y f29Q p27V p27W p27X f29R (Ne.symm ne5S) (Ne.symm ne5T) (own_ixc hq31E p28I) ((own_gso (own_gs (own_lt32 hSLS own_lrep (own_hs hSLS o13))) (own_ixne hSLS p28I))) ((own_gs (own_lt32 hSLS (by simp) (own_ixin hSLS p28I)))) (own_bn hc0 hc2 (fun q => hk29X q.symm)) (own_be hq31E) ((own_gs (own_lt32 hSLS (by simp) (own_ixin hSLS p28I)))) p28C p28D p28E f28K f28L f29P f29U f28W f29O f29N f29M p0R f29T f28T f29F hi2 hr2 hmo p81 (own_gso (own_rep _ _ _) (own_ine hi0 hi2 (fun q => hk31F q.symm))) (by simp) p2C gq3Z) hZ (w_177 hw) (w_103 hw) (by decide) (by decide)) q31Xa q31Xc (g := (mkF m 281 (LQ0 p0 p1 p2 p3 p4 ca cb o13 o18 o23 o27 o40 o53 ii0 ii1 ii2 o66 o72 o78 bb dd0 dd1 dd2 o84 o96 o0I b0S (xvi (0 : Int32)) (xvi (0 : Int32)) (xvi (0 : Int32)) xun xun xun xun xun xun xun) [xwr o78, xwr o0I, xwr o53, xwr b0S])) rfl (by rw [hml]; rfl) (Steps.refl _) (argsL := [(.ref o53), (.ref o0I), (.ref o78)]) (rest := []) (lenOf pd_26 rfl) rfl (Nat.le_of_eq rfl) (hb B at_281) (fun _ _ => ⟨rfl, e28O, (by decide : 16 + 1 ≤ _), (by decide : 117 + 9 ≤ _)⟩)
      dsimp only [Pt.U, Pt.locs, Pt.cells, Pt.slots] at X31Y l31Y y31Y z31Y st31Y hQ31Y
      subst l31Y y31Y z31Y
      obtain ⟨hp31Y, e31Y⟩ : ∃ z, T31Y.heap = z := ⟨_, rfl⟩
      rw [e31Y] at hQ31Y
      obtain ⟨o31Z, o32A, rfl, N31Yq, K31Y, p32B, p32C, p32D, p32E, p32F, p32G⟩ := hQ31Y
      have N31Y := Fr.app N28O N31Yq
      have f32H := (p27Y.keep K31Y)
      have f32I := (p28E.keep K31Y (ninS (Ne.symm ne5M) (ninS (Ne.symm ne4P) nin0)))
      have f32J := (f28K.keep K31Y)
      have f32K := (f28L.keep K31Y (ninS (Ne.symm ne5Q) (ninS ne4V nin0)))
      refine ⟨T31Y, hp31Y, _, (0 : Int32), (1 : Int32), (0 : Int32), own_wid X31Y (by decide : 17 ≤ 18) (by decide : 126 ≤ 135), e31Y, N31Y, (KK29V.trans K31Y (allS (oi 7 rfl) (allS (oi 3 rfl) all0))), f32H, f32I, f32J, f32K, ⟨Or.inr ⟨rfl, by have q0 := own_neq hk10Q; have q1 := own_eq hk27Q; have q2 := own_neq hk29X; have q3 := own_eq hq31E; have q4 := own_neq hk31F; omega⟩, Or.inr ⟨rfl, by have q0 := own_neq hk10Q; have q1 := own_eq hk27Q; have q2 := own_neq hk29X; have q3 := own_eq hq31E; have q4 := own_neq hk31F; omega⟩⟩, fun t k => c29W t ?_⟩
      refine st31Y.trans ?_
      exact k
   ·obtain ⟨cq32L, kq32L, q32La, q32Lb, q32Lc⟩ := isOf hZ e3V p3D
    obtain ⟨_, _, ⟨T32M, L32M, k32M, n32M⟩, -, X32M, ⟨Lc32M, hQ32M, l32M, y32M, z32M⟩, st32M⟩ := X3V.virtualBack hx (y := mm39) (z := mm39) hown (mvT hZ (w_173 hw)) (mvT hZ (w_174 hw)) (notFace_of_selects (args := #[]) (mvT hZ (w_176 hw))) (mvT hZ (w_176 hw)) (mvT hZ (w_175 hw)) (by decide) (backOf (W := 0) (rmAd4 l Z a0 hw G ST [] b0S o0V _ o1E o1F _ o0W _ _ o0X o0Y mo o40 o41 _ o18 o27 o28 _ o13 (hs o13 o1F) o0Z _ (0 : Int32) (0 : Int64) o96 o97 o98 o99 dd1 _ _ o72 ii1 hp2X n0 Ol3T p3D p3E p3F p3L hSLS p3G p3M p3H p3I p3J f9D f9L f9O f10K f9M f9N gq4D hc1 p3A p3B p3C f10J p3K gq3W gq3X gq3Y p2B (by simp) (by simp) (Ne.symm ne5L) (own_T1 (own_lt32 hSLS own_lrep (own_hs hSLS o13))) (own_bn hc0 hc1 (fun q => hk10Q q.symm)) (own_hs hSLS o13) f3Q f3S f10I f10M (Or.inl ⟨rfl, rfl⟩) f9J f10D f10C f10B p0F p3P f9G f9U hi1 hr1 hmo p75 (own_gso (own_rep _ _ _) (own_ine hi0 hi1 (fun q => hk27Q q.symm))) (by simp) p2C gq3Z) hZ (w_177 hw) (w_103 hw) (by decide) (by decide)) q32La q32Lc (g := (mkF m 262 (LQ0 p0 p1 p2 p3 p4 ca cb o13 o18 o23 o27 o40 o53 ii0 ii1 ii2 o66 o72 o78 bb dd0 dd1 dd2 o84 o96 o0I b0S (xvi (0 : Int32)) (xvi (0 : Int32)) xun xun xun xun xun xun xun xun) [xwr o72, xwr o96, xwr o40, xwr b0S])) rfl (by rw [hml]; rfl) (Steps.refl _) (argsL := [(.ref o40), (.ref o96), (.ref o72)]) (rest := []) (lenOf pd_26 rfl) rfl (Nat.le_of_eq rfl) (hb B at_262) (fun _ _ => ⟨rfl, e3V, (by decide : 16 + 1 ≤ _), (by decide : 117 + 9 ≤ _)⟩)
    dsimp only [Pt.U, Pt.locs, Pt.cells, Pt.slots] at X32M l32M y32M z32M st32M hQ32M
    subst l32M y32M z32M
    obtain ⟨hp32M, e32M⟩ : ∃ z, T32M.heap = z := ⟨_, rfl⟩
    rw [e32M] at hQ32M
    obtain ⟨o32N, o32O, o32P, rfl, N32Mq, K32M, p32Q, p32R, p32S, p32T, p32U, p32V, p32W, p32X, p32Y, p32Z, p33A, p33B, p33C, p33D, p33E, p33F, p33G⟩ := hQ32M
    have N32M := Fr.app N3V N32Mq
    have f33H := (f3Q.keep K32M)
    have f33I := (f3S.keep K32M (ninS (Ne.symm ne5J) (ninS ne4T (ninS ne4U (ninS ne4S (ninS ne4V nin0))))))
    have Ol33J : Old Z n0 hp32M := (Ol3T.keep K32M (allS gq4D (allS gq3X (allS gq3Y (allS gq3W (allS gq3Z all0))))))
    obtain ⟨cq33K, kq33K, q33Ka, q33Kb, q33Kc⟩ := isOf hZ e32M p32T
    obtain ⟨_, _, ⟨T33L, L33L, k33L, n33L⟩, -, X33L, ⟨Lc33L, hQ33L, l33L, y33L, z33L⟩, st33L⟩ := X32M.virtualBack hx (y := mm31) (z := mm31) hown (mvT hZ (w_163 hw)) (mvT hZ (w_164 hw)) (notFace_of_selects (args := #[]) (mvT hZ (w_166 hw))) (mvT hZ (w_166 hw)) (mvT hZ (w_165 hw)) (by decide) (backOf (W := 0) (rmAn0 l Z a0 hw G ST [] b0S o0Y hp32M n0 Ol33J p32T p32Z f33H f33I) hZ (w_167 hw) (w_103 hw) (by decide) (by decide)) q33Ka q33Kc (g := (mkF m 268 (LQ0 p0 p1 p2 p3 p4 ca cb o13 o18 o23 o27 o40 o53 ii0 ii1 ii2 o66 o72 o78 bb dd0 dd1 dd2 o84 o96 o0I b0S (xvi (0 : Int32)) (xvi (0 : Int32)) xun xun xun xun xun xun xun xun) [xwr b0S])) rfl (by rw [hml]; rfl) (Steps.refl _) (argsL := []) (rest := []) (lenOf pd_3 rfl) rfl (Nat.le_of_eq rfl) (hb B at_268) (fun _ _ => ⟨rfl, e32M, (by decide : 17 + 0 ≤ _), (by decide : 126 + 0 ≤ _)⟩)
    dsimp only [Pt.U, Pt.locs, Pt.cells, Pt.slots] at X33L l33L y33L z33L st33L hQ33L
    subst l33L y33L z33L
    obtain ⟨rfl, N33Lq, e33L⟩ := hQ33L
    have N33L := Fr.app N32M N33Lq
    have gq33M : n0 ≤ o32O := (ntr Z0 (ntr (ntr (ntr (ntr (ntr (ntr (ntr (ntr (ntr (ntr (ntr (ntr (ntr (ntr (ntr K11.1 K16.1) K21.1) K26.1) K39.1) K52.1) K65.1) K71.1) K77.1) K83.1) K95.1) K0H.1) E0S.1) K0U.1) K2X.1) p33E))
    have ne33N : o32O ≠ b0S := (Ne.symm (onb A0S.lt (ntr K0U.1 K2X.1) p33E))
    have ne33O : o32O ≠ o0V := (Ne.symm (onb p1O.lt K2X.1 p33E))
    have ne33P : o32O ≠ o0W := (Ne.symm (onb p1P.lt K2X.1 p33E))
    have ne33Q : o32O ≠ o0X := (Ne.symm (onb p1Q.lt K2X.1 p33E))
    have ne33R : o32O ≠ o0Y := (Ne.symm (onb p1R.lt K2X.1 p33E))
    have ne33S : o32O ≠ o0Z := (Ne.symm (onb p1U.lt K2X.1 p33E))
    have ne33T : o32O ≠ o27 := (Ne.symm (onb p31.lt (ntr (ntr (ntr (ntr (ntr (ntr (ntr (ntr (ntr (ntr K39.1 K52.1) K65.1) K71.1) K77.1) K83.1) K95.1) K0H.1) E0S.1) K0U.1) K2X.1) p33E))
    have ne33U : o32O ≠ o40 := (Ne.symm (onb p44.lt (ntr (ntr (ntr (ntr (ntr (ntr (ntr (ntr (ntr K52.1 K65.1) K71.1) K77.1) K83.1) K95.1) K0H.1) E0S.1) K0U.1) K2X.1) p33E))
    have ne33V : o32O ≠ o53 := (Ne.symm (onb p57.lt (ntr (ntr (ntr (ntr (ntr (ntr (ntr (ntr K65.1 K71.1) K77.1) K83.1) K95.1) K0H.1) E0S.1) K0U.1) K2X.1) p33E))
    have ne33W : o32O ≠ o28 := (Ne.symm (onb p34.lt (ntr (ntr (ntr (ntr (ntr (ntr (ntr (ntr (ntr (ntr K39.1 K52.1) K65.1) K71.1) K77.1) K83.1) K95.1) K0H.1) E0S.1) K0U.1) K2X.1) p33E))
    have ne33X : o32O ≠ o41 := (Ne.symm (onb p47.lt (ntr (ntr (ntr (ntr (ntr (ntr (ntr (ntr (ntr K52.1 K65.1) K71.1) K77.1) K83.1) K95.1) K0H.1) E0S.1) K0U.1) K2X.1) p33E))
    have ne33Y : o32O ≠ o54 := (Ne.symm (onb p60.lt (ntr (ntr (ntr (ntr (ntr (ntr (ntr (ntr K65.1 K71.1) K77.1) K83.1) K95.1) K0H.1) E0S.1) K0U.1) K2X.1) p33E))
    have ne33Z : o32O ≠ o84 := (Ne.symm (onb p89.lt (ntr (ntr (ntr (ntr K95.1 K0H.1) E0S.1) K0U.1) K2X.1) p33E))
    have ne34A : o32O ≠ o96 := (Ne.symm (onb p0B.lt (ntr (ntr (ntr K0H.1 E0S.1) K0U.1) K2X.1) p33E))
    have ne34B : o32O ≠ o0I := (Ne.symm (onb p0N.lt (ntr (ntr E0S.1 K0U.1) K2X.1) p33E))
    have ne34C : o32O ≠ o66 := (Ne.symm (onb p67.lt (ntr (ntr (ntr (ntr (ntr (ntr (ntr K71.1 K77.1) K83.1) K95.1) K0H.1) E0S.1) K0U.1) K2X.1) p33E))
    have ne34D : o32O ≠ o72 := (Ne.symm (onb p73.lt (ntr (ntr (ntr (ntr (ntr (ntr K77.1 K83.1) K95.1) K0H.1) E0S.1) K0U.1) K2X.1) p33E))
    have ne34E : o32O ≠ o78 := (Ne.symm (onb p79.lt (ntr (ntr (ntr (ntr (ntr K83.1 K95.1) K0H.1) E0S.1) K0U.1) K2X.1) p33E))
    have ne34F : o32O ≠ o2Y := (Ne.symm (onb p3O.lt (Nat.le_refl _) p33E))
    have f34G := (p3A.keep K32M)
    have f34H := (f9E.keep K32M)
    have f34I := (f9F.keep K32M)
    have f34J := (f9G.keep K32M)
    have f34K := (f9H.keep K32M)
    have f34L := (f9I.keep K32M)
    have f34M := (f9J.keep K32M)
    have f34N := (f9K.keep K32M)
    have f34O := (p3B.keep K32M (ninS (Ne.symm ne5L) (ninS ne5B (ninS ne5C (ninS ne2H (ninS ne5D nin0))))))
    have f34P := (p3C.keep K32M (ninS (Ne.symm ne5L) (ninS ne5B (ninS ne5C (ninS ne2H (ninS ne5D nin0))))))
    have f34Q := (f9P.keep K32M (ninS ne5T (ninS ne5N (ninS ne5O (ninS ne5M (ninS ne5P nin0))))))
    have f34R := (f9Q.keep K32M (ninS ne5T (ninS ne5N (ninS ne5O (ninS ne5M (ninS ne5P nin0))))))
    have f34S := (f9R.keep K32M (ninS ne5T (ninS ne5N (ninS ne5O (ninS ne5M (ninS ne5P nin0))))))
    have f34T := (f9S.keep K32M (ninS ne5T (ninS ne5N (ninS ne5O (ninS ne5M (ninS ne5P nin0))))))
    have f34U := (f9T.keep K32M (ninS ne7T (ninS ne7O (ninS ne7P (ninS ne2U (ninS ne7Q nin0))))))
    have f34V := (f9U.keep K32M (ninS ne8B (ninS ne7W (ninS ne7X (ninS ne7V (ninS ne7Y nin0))))))
    have f34W := (f9V.keep K32M (ninS ne8J (ninS ne8E (ninS ne8F (ninS ne8D (ninS ne8G nin0))))))
    have f34X := (f9X.keep K32M (ninS ne6W (ninS ne6R (ninS ne6S (ninS ne2P (ninS ne6T nin0))))))
    have f34Y := (f9Y.keep K32M (ninS ne6W (ninS ne6R (ninS ne6S (ninS ne2P (ninS ne6T nin0))))))
    have f34Z := (f9Z.keep K32M (ninS ne6W (ninS ne6R (ninS ne6S (ninS ne2P (ninS ne6T nin0))))))
    have f35A := (f10B.keep K32M (ninS ne7E (ninS ne6Z (ninS ne7A (ninS ne6Y (ninS ne7B nin0))))))
    have f35B := (f10C.keep K32M (ninS ne7E (ninS ne6Z (ninS ne7A (ninS ne6Y (ninS ne7B nin0))))))
    have f35C := (f10D.keep K32M (ninS ne7E (ninS ne6Z (ninS ne7A (ninS ne6Y (ninS ne7B nin0))))))
    have f35D := (f10F.keep K32M (ninS ne7M (ninS ne7H (ninS ne7I (ninS ne7G (ninS ne7J nin0))))))
    have f35E := (f10G.keep K32M (ninS ne7M (ninS ne7H (ninS ne7I (ninS ne7G (ninS ne7J nin0))))))
    have f35F := (f10H.keep K32M (ninS ne7M (ninS ne7H (ninS ne7I (ninS ne7G (ninS ne7J nin0))))))
    have f35G := (f10I.keep K32M (ninS (Ne.symm ne5J) (ninS ne4T (ninS ne4U (ninS ne4S (ninS ne4V nin0))))))
    have f35H := (f10J.keep K32M (ninS ne5Z (ninS ne5U (ninS ne5V (ninS ne2K (ninS ne5W nin0))))))
    have f35I := (f10K.keep K32M (ninS ne6H (ninS ne6C (ninS ne6D (ninS ne6B (ninS ne6E nin0))))))
    have f35J := (f10L.keep K32M (ninS ne6P (ninS ne6K (ninS ne6L (ninS ne6J (ninS ne6M nin0))))))
    have f35K := (f10M.keep K32M (ninS (Ne.symm ne5K) (ninS ne4X (ninS ne4Y (ninS ne4W (ninS ne4Z nin0))))))
    have f35L := (p3O.keep K32M (ninS ne8S (ninS ne8M (ninS ne8N (ninS ne8L (ninS ne8O nin0))))))
    have KK35M : Keep hp2X hp32M [b0S, o0V, o0W, o0X, o0Y, o0Z, o40, o53, o2Y] := ((Keep.refl hp2X [b0S, o0V, o0W, o0X, o0Y, o0Z, o40, o53, o2Y]).trans K32M (allS (oi 6 rfl) (allS (oi 1 rfl) (allS (oi 2 rfl) (allS (oi 0 rfl) (allS (oi 3 rfl) all0))))))
    have c35N : ∀ t, Sx p e below T33L m 281 (LQ0 p0 p1 p2 p3 p4 ca cb o13 o18 o23 o27 o40 o53 ii0 ii1 ii2 o66 o72 o78 bb dd0 dd1 dd2 o84 o96 o0I b0S (xvi (0 : Int32)) (xvi (0 : Int32)) (xvi (0 : Int32)) xun xun xun xun xun xun xun) [xwr o78, xwr o0I, xwr o53, xwr b0S] t → TG t := fun t k => c10P t (by
     refine st32M.trans ?_
     refine y_pop X32M hx 266 (hb B at_265) rfl rfl <| y_aload X32M hx 268 (hb B at_266) rfl rfl rfl ?_
     refine st33L.trans ?_
     refine y_istore X33L hx 273 (hb B at_271) (L' := (LQ0 p0 p1 p2 p3 p4 ca cb o13 o18 o23 o27 o40 o53 ii0 ii1 ii2 o66 o72 o78 bb dd0 dd1 dd2 o84 o96 o0I b0S (xvi (0 : Int32)) (xvi (0 : Int32)) (xvi (0 : Int32)) xun xun xun xun xun xun xun)) rfl rfl <| y_aload X33L hx 275 (hb B at_273) rfl rfl rfl <| y_aload X33L hx 277 (hb B at_275) rfl rfl rfl <| y_aload X33L hx 279 (hb B at_277) rfl rfl rfl <| y_aload X33L hx 281 (hb B at_279) rfl rfl rfl ?_
     exact k)
    by_cases hk35O : o23 = o13
    ·by_cases hk35P : ii2 = ii0
     ·obtain ⟨cq35Q, kq35Q, q35Qa, q35Qb, q35Qc⟩ := isOf hZ e33L p32T
      obtain ⟨_, _, ⟨T35R, L35R, k35R, n35R⟩, -, X35R, ⟨Lc35R, hQ35R, l35R, y35R, z35R⟩, st35R⟩ := X33L.virtualBack hx (y := mm39) (z := mm39) hown (mvT hZ (w_173 hw)) (mvT hZ (w_174 hw)) (notFace_of_selects (args := #[]) (mvT hZ (w_176 hw))) (mvT hZ (w_176 hw)) (mvT hZ (w_175 hw)) (by decide) (backOf (W := 0) (rmAd1 l Z a0 hw G ST [] b0S o0V _ o1E o1F _ o0W _ _ o53 o54 _ o23 o27 o28 _ o13 o0X o0Y mo o0Z _ o0I o0J o0K o0L dd2 _ _ o78 ii2 o2Y _ _ dd0 hp32M n0 Ol33J p32T p32U p32V p33B hSLS p32W p33C f34H f34Q f34T f35J f34R f34S gq4E hc2 f34G f34O f34P f35H (Ne.symm ne5S) (own_tab0 hk35O (own_gso (own_gs (own_lt32 hSLS own_lrep (own_hs hSLS o13))) (own_ixne hSLS p33D))) (own_be hk35O) (own_tab0 hk35O (own_gso (own_gs (own_lt32 hSLS own_lrep (own_hs hSLS o13))) (own_ixne hSLS p33D))) p32X p32Y p32Z f33H f33I f35G f35K f34N f35F f35E f35D p0R p33G f34K f34W hi2 hr2 hmo p81 (own_dt hk35P (own_gso (own_gs (own_i9 hi0 own_lrep)) (own_ine hi1 hi0 hk27Q))) f35L rfl rfl gq4L (Ne.symm ne8N) gq4A gq4B) hZ (w_177 hw) (w_103 hw) (by decide) (by decide)) q35Qa q35Qc (g := (mkF m 281 (LQ0 p0 p1 p2 p3 p4 ca cb o13 o18 o23 o27 o40 o53 ii0 ii1 ii2 o66 o72 o78 bb dd0 dd1 dd2 o84 o96 o0I b0S (xvi (0 : Int32)) (xvi (0 : Int32)) (xvi (0 : Int32)) xun xun xun xun xun xun xun) [xwr o78, xwr o0I, xwr o53, xwr b0S])) rfl (by rw [hml]; rfl) (Steps.refl _) (argsL := [(.ref o53), (.ref o0I), (.ref o78)]) (rest := []) (lenOf pd_26 rfl) rfl (Nat.le_of_eq rfl) (hb B at_281) (fun _ _ => ⟨rfl, e33L, (by decide : 17 + 0 ≤ _), (by decide : 126 + 0 ≤ _)⟩)
      dsimp only [Pt.U, Pt.locs, Pt.cells, Pt.slots] at X35R l35R y35R z35R st35R hQ35R
      subst l35R y35R z35R
      obtain ⟨hp35R, e35R⟩ : ∃ z, T35R.heap = z := ⟨_, rfl⟩
      rw [e35R] at hQ35R
      obtain ⟨o35S, o35T, o35U, o35V, rfl, N35Rq, K35R, p35W, p35X, p35Y, p35Z, p36A, p36B, p36C, p36D, p36E⟩ := hQ35R
      have N35R := Fr.app N33L N35Rq
      have f36F := (p32T.keep K35R)
      have f36G := (p32Z.keep K35R (ninS (Ne.symm ne5M) (ninS (Ne.symm ne8L) (ninS (Ne.symm ne4S) (ninS (Ne.symm ne4W) nin0)))))
      refine ⟨T35R, hp35R, _, (0 : Int32), o35S, o35T, own_wid X35R (by decide : 17 ≤ 18) (by decide : 126 ≤ 135), e35R, N35R, (KK35M.trans K35R (allS (oi 7 rfl) (allS (oi 8 rfl) (allS (oi 4 rfl) (allS (oi 5 rfl) all0))))), f36F, f36G, p35Z, p36A, ⟨Or.inr ⟨rfl, by have q0 := own_neq hk10Q; have q1 := own_neq hk27Q; have q2 := own_eq hk35O; have q3 := own_eq hk35P; omega⟩, p36E.elim (fun hq => Or.inr ⟨hq.2.1, by have q0 := own_neq hk10Q; have q1 := own_neq hk27Q; have q2 := own_eq hk35O; have q3 := own_eq hk35P; have q := own_nlt hq.1; omega⟩) (fun hq => Or.inl ⟨hq.2.1, by have q0 := own_neq hk10Q; have q1 := own_neq hk27Q; have q2 := own_eq hk35O; have q3 := own_eq hk35P; have q := own_lt hq.1; omega⟩)⟩, fun t k => c35N t ?_⟩
      refine st35R.trans ?_
      exact k
     ·by_cases hk36H : ii2 = ii1
      ·obtain ⟨cq36I, kq36I, q36Ia, q36Ib, q36Ic⟩ := isOf hZ e33L p32T
       obtain ⟨_, _, ⟨T36J, L36J, k36J, n36J⟩, -, X36J, ⟨Lc36J, hQ36J, l36J, y36J, z36J⟩, st36J⟩ := X33L.virtualBack hx (y := mm39) (z := mm39) hown (mvT hZ (w_173 hw)) (mvT hZ (w_174 hw)) (notFace_of_selects (args := #[]) (mvT hZ (w_176 hw))) (mvT hZ (w_176 hw)) (mvT hZ (w_175 hw)) (by decide) (backOf (W := 0) (rmAd1 l Z a0 hw G ST [] b0S o0V _ o1E o1F _ o0W _ _ o53 o54 _ o23 o27 o28 _ o13 o0X o0Y mo o0Z _ o0I o0J o0K o0L dd2 _ _ o78 ii2 o32O _ _ (-2147483648 : Int32) hp32M n0 Ol33J p32T p32U p32V p33B hSLS p32W p33C f34H f34Q f34T f35J f34R f34S gq4E hc2 f34G f34O f34P f35H (Ne.symm ne5S) (own_tab0 hk35O (own_gso (own_gs (own_lt32 hSLS own_lrep (own_hs hSLS o13))) (own_ixne hSLS p33D))) (own_be hk35O) (own_tab0 hk35O (own_gso (own_gs (own_lt32 hSLS own_lrep (own_hs hSLS o13))) (own_ixne hSLS p33D))) p32X p32Y p32Z f33H f33I f35G f35K f34N f35F f35E f35D p0R p33G f34K f34W hi2 hr2 hmo p81 (own_dt hk36H (own_gs (own_i9 hi1 (by simp)))) p33F rfl rfl gq33M (Ne.symm ne33P) gq4A gq4B) hZ (w_177 hw) (w_103 hw) (by decide) (by decide)) q36Ia q36Ic (g := (mkF m 281 (LQ0 p0 p1 p2 p3 p4 ca cb o13 o18 o23 o27 o40 o53 ii0 ii1 ii2 o66 o72 o78 bb dd0 dd1 dd2 o84 o96 o0I b0S (xvi (0 : Int32)) (xvi (0 : Int32)) (xvi (0 : Int32)) xun xun xun xun xun xun xun) [xwr o78, xwr o0I, xwr o53, xwr b0S])) rfl (by rw [hml]; rfl) (Steps.refl _) (argsL := [(.ref o53), (.ref o0I), (.ref o78)]) (rest := []) (lenOf pd_26 rfl) rfl (Nat.le_of_eq rfl) (hb B at_281) (fun _ _ => ⟨rfl, e33L, (by decide : 17 + 0 ≤ _), (by decide : 126 + 0 ≤ _)⟩)
       dsimp only [Pt.U, Pt.locs, Pt.cells, Pt.slots] at X36J l36J y36J z36J st36J hQ36J
       subst l36J y36J z36J
       obtain ⟨hp36J, e36J⟩ : ∃ z, T36J.heap = z := ⟨_, rfl⟩
       rw [e36J] at hQ36J
       obtain ⟨o36K, o36L, o36M, o36N, rfl, N36Jq, K36J, p36O, p36P, p36Q, p36R, p36S, p36T, p36U, p36V, p36W⟩ := hQ36J
       have N36J := Fr.app N33L N36Jq
       have f36X := (p32T.keep K36J)
       have f36Y := (p32Z.keep K36J (ninS (Ne.symm ne5M) (ninS (Ne.symm ne33N) (ninS (Ne.symm ne4S) (ninS (Ne.symm ne4W) nin0)))))
       refine ⟨T36J, hp36J, _, (0 : Int32), o36K, o36L, own_wid X36J (by decide : 17 ≤ 18) (by decide : 126 ≤ 135), e36J, N36J, (KK35M.trans K36J (allS (oi 7 rfl) (allS (Or.inr (ntr (Nat.le_refl _) p33E)) (allS (oi 4 rfl) (allS (oi 5 rfl) all0))))), f36X, f36Y, p36R, p36S, ⟨Or.inr ⟨rfl, by have q0 := own_neq hk10Q; have q1 := own_neq hk27Q; have q2 := own_eq hk35O; have q3 := own_neq hk35P; have q4 := own_eq hk36H; omega⟩, p36W.elim (fun hq => Or.inr ⟨hq.2.1, by have q0 := own_neq hk10Q; have q1 := own_neq hk27Q; have q2 := own_eq hk35O; have q3 := own_neq hk35P; have q4 := own_eq hk36H; omega⟩) (fun hq => absurd hq.1 (own_nmin _))⟩, fun t k => c35N t ?_⟩
       refine st36J.trans ?_
       exact k
      ·obtain ⟨cq36Z, kq36Z, q36Za, q36Zb, q36Zc⟩ := isOf hZ e33L p32T
       obtain ⟨_, _, ⟨T37A, L37A, k37A, n37A⟩, -, X37A, ⟨Lc37A, hQ37A, l37A, y37A, z37A⟩, st37A⟩ := X33L.virtualBack hx (y := mm39) (z := mm39) hown (mvT hZ (w_173 hw)) (mvT hZ (w_174 hw)) (notFace_of_selects (args := #[]) (mvT hZ (w_176 hw))) (mvT hZ (w_176 hw)) (mvT hZ (w_175 hw)) (by decide) (backOf (W := 0) (rmAd2 l Z a0 hw G ST [] b0S o0V _ o1E o1F _ o0W _ _ o53 o54 _ o23 o27 o28 _ o13 o0X o0Y mo o0Z _ o0I o0J o0K o0L dd2 _ _ o78 ii2 hp32M n0 Ol33J p32T p32U p32V p33B hSLS p32W p33C f34H f34Q f34T f35J f34R f34S gq4E hc2 f34G f34O f34P f35H (Ne.symm ne5S) (own_tab0 hk35O (own_gso (own_gs (own_lt32 hSLS own_lrep (own_hs hSLS o13))) (own_ixne hSLS p33D))) (own_be hk35O) (own_tab0 hk35O (own_gso (own_gs (own_lt32 hSLS own_lrep (own_hs hSLS o13))) (own_ixne hSLS p33D))) p32X p32Y p32Z f33H f33I f35G f35K f34N f35F f35E f35D p0R p33G f34K f34W hi2 hr2 hmo p81 (own_gso (own_gso (own_rep _ _ _) (own_ine hi0 hi2 (fun q => hk35P q.symm))) (own_ine hi1 hi2 (fun q => hk36H q.symm))) (by simp) p2C gq3Z) hZ (w_177 hw) (w_103 hw) (by decide) (by decide)) q36Za q36Zc (g := (mkF m 281 (LQ0 p0 p1 p2 p3 p4 ca cb o13 o18 o23 o27 o40 o53 ii0 ii1 ii2 o66 o72 o78 bb dd0 dd1 dd2 o84 o96 o0I b0S (xvi (0 : Int32)) (xvi (0 : Int32)) (xvi (0 : Int32)) xun xun xun xun xun xun xun) [xwr o78, xwr o0I, xwr o53, xwr b0S])) rfl (by rw [hml]; rfl) (Steps.refl _) (argsL := [(.ref o53), (.ref o0I), (.ref o78)]) (rest := []) (lenOf pd_26 rfl) rfl (Nat.le_of_eq rfl) (hb B at_281) (fun _ _ => ⟨rfl, e33L, (by decide : 17 + 1 ≤ _), (by decide : 126 + 9 ≤ _)⟩)
       dsimp only [Pt.U, Pt.locs, Pt.cells, Pt.slots] at X37A l37A y37A z37A st37A hQ37A
       subst l37A y37A z37A
       obtain ⟨hp37A, e37A⟩ : ∃ z, T37A.heap = z := ⟨_, rfl⟩
       rw [e37A] at hQ37A
       obtain ⟨o37B, o37C, rfl, N37Aq, K37A, p37D, p37E, p37F, p37G, p37H, p37I⟩ := hQ37A
       have N37A := Fr.app N33L N37Aq
       have f37J := (p32T.keep K37A)
       have f37K := (p32Z.keep K37A (ninS (Ne.symm ne5M) (ninS (Ne.symm ne4P) nin0)))
       have f37L := (f33H.keep K37A)
       have f37M := (f33I.keep K37A (ninS (Ne.symm ne5Q) (ninS ne4V nin0)))
       refine ⟨T37A, hp37A, _, (0 : Int32), (1 : Int32), (0 : Int32), own_wid X37A (by decide : 18 ≤ 18) (by decide : 135 ≤ 135), e37A, N37A, (KK35M.trans K37A (allS (oi 7 rfl) (allS (oi 3 rfl) all0))), f37J, f37K, f37L, f37M, ⟨Or.inr ⟨rfl, by have q0 := own_neq hk10Q; have q1 := own_neq hk27Q; have q2 := own_eq hk35O; have q3 := own_neq hk35P; have q4 := own_neq hk36H; omega⟩, Or.inr ⟨rfl, by have q0 := own_neq hk10Q; have q1 := own_neq hk27Q; have q2 := own_eq hk35O; have q3 := own_neq hk35P; have q4 := own_neq hk36H; omega⟩⟩, fun t k => c35N t ?_⟩
       refine st37A.trans ?_
       exact k
    ·have hq37N : o23 = o18 := own_third hv0 hv1 hv2 hk10Q hk35O
     by_cases hk37O : ii2 = ii0
     ·obtain ⟨cq37P, kq37P, q37Pa, q37Pb, q37Pc⟩ := isOf hZ e33L p32T
      obtain ⟨_, _, ⟨T37Q, L37Q, k37Q, n37Q⟩, -, X37Q, ⟨Lc37Q, hQ37Q, l37Q, y37Q, z37Q⟩, st37Q⟩ := X33L.virtualBack hx (y := mm39) (z := mm39) hown (mvT hZ (w_173 hw)) (mvT hZ (w_174 hw)) (notFace_of_selects (args := #[]) (mvT hZ (w_176 hw))) (mvT hZ (w_176 hw)) (mvT hZ (w_175 hw)) (by decide) (backOf (W := 0) (rmAd6 l Z a0 hw G ST [] b0S o0V _ o1E o1F _ o0W _ _ o53 o54 _ o23 o27 o28 _ o13 o40 o41 _ o18 (hs o13 o1F) o32N o0X o0Y mo o0Z _ o0I o0J o0K o0L dd2 _ _ o78 ii2 o2Y _ _ (-2147483648 : Int32) hp32M n0 Ol33J p32T p32U p32V p33B hSLS p32W p33C f34H f34Q f34T f35J f34R f34S gq4E hc2 f34G f34O f34P f35H p32Q p32R p32S f35I (Ne.symm ne5S) (Ne.symm ne5T) (own_ixc hq37N p33D) ((own_gso (own_gs (own_lt32 hSLS own_lrep (own_hs hSLS o13))) (own_ixne hSLS p33D))) ((own_gs (own_lt32 hSLS (by simp) (own_ixin hSLS p33D)))) (own_bn hc0 hc2 (fun q => hk35O q.symm)) (own_be hq37N) ((own_gs (own_lt32 hSLS (by simp) (own_ixin hSLS p33D)))) p32X p32Y p32Z f33H f33I f35G f35K f34N f35F f35E f35D p0R p33G f34K f34W hi2 hr2 hmo p81 (own_dt hk37O (own_gso (own_gs (own_i9 hi0 own_lrep)) (own_ine hi1 hi0 hk27Q))) f35L rfl rfl gq4L (Ne.symm ne8N) gq4A gq4B) hZ (w_177 hw) (w_103 hw) (by decide) (by decide)) q37Pa q37Pc (g := (mkF m 281 (LQ0 p0 p1 p2 p3 p4 ca cb o13 o18 o23 o27 o40 o53 ii0 ii1 ii2 o66 o72 o78 bb dd0 dd1 dd2 o84 o96 o0I b0S (xvi (0 : Int32)) (xvi (0 : Int32)) (xvi (0 : Int32)) xun xun xun xun xun xun xun) [xwr o78, xwr o0I, xwr o53, xwr b0S])) rfl (by rw [hml]; rfl) (Steps.refl _) (argsL := [(.ref o53), (.ref o0I), (.ref o78)]) (rest := []) (lenOf pd_26 rfl) rfl (Nat.le_of_eq rfl) (hb B at_281) (fun _ _ => ⟨rfl, e33L, (by decide : 17 + 0 ≤ _), (by decide : 126 + 0 ≤ _)⟩)
      dsimp only [Pt.U, Pt.locs, Pt.cells, Pt.slots] at X37Q l37Q y37Q z37Q st37Q hQ37Q
      subst l37Q y37Q z37Q
      obtain ⟨hp37Q, e37Q⟩ : ∃ z, T37Q.heap = z := ⟨_, rfl⟩
      rw [e37Q] at hQ37Q
      obtain ⟨o37R, o37S, o37T, o37U, rfl, N37Qq, K37Q, p37V, p37W, p37X, p37Y, p37Z, p38A, p38B, p38C, p38D⟩ := hQ37Q
      have N37Q := Fr.app N33L N37Qq
      have f38E := (p32T.keep K37Q)
      have f38F := (p32Z.keep K37Q (ninS (Ne.symm ne5M) (ninS (Ne.symm ne8L) (ninS (Ne.symm ne4S) (ninS (Ne.symm ne4W) nin0)))))
      refine ⟨T37Q, hp37Q, _, (0 : Int32), o37R, o37S, own_wid X37Q (by decide : 17 ≤ 18) (by decide : 126 ≤ 135), e37Q, N37Q, (KK35M.trans K37Q (allS (oi 7 rfl) (allS (oi 8 rfl) (allS (oi 4 rfl) (allS (oi 5 rfl) all0))))), f38E, f38F, p37Y, p37Z, ⟨Or.inr ⟨rfl, by have q0 := own_neq hk10Q; have q1 := own_neq hk27Q; have q2 := own_neq hk35O; have q3 := own_eq hq37N; have q4 := own_eq hk37O; omega⟩, p38D.elim (fun hq => Or.inr ⟨hq.2.1, by have q0 := own_neq hk10Q; have q1 := own_neq hk27Q; have q2 := own_neq hk35O; have q3 := own_eq hq37N; have q4 := own_eq hk37O; omega⟩) (fun hq => absurd hq.1 (own_nmin _))⟩, fun t k => c35N t ?_⟩
      refine st37Q.trans ?_
      exact k
     ·by_cases hk38G : ii2 = ii1
      ·obtain ⟨cq38H, kq38H, q38Ha, q38Hb, q38Hc⟩ := isOf hZ e33L p32T
       obtain ⟨_, _, ⟨T38I, L38I, k38I, n38I⟩, -, X38I, ⟨Lc38I, hQ38I, l38I, y38I, z38I⟩, st38I⟩ := X33L.virtualBack hx (y := mm39) (z := mm39) hown (mvT hZ (w_173 hw)) (mvT hZ (w_174 hw)) (notFace_of_selects (args := #[]) (mvT hZ (w_176 hw))) (mvT hZ (w_176 hw)) (mvT hZ (w_175 hw)) (by decide) (backOf (W := 0) (rmAd6 l Z a0 hw G ST [] b0S o0V _ o1E o1F _ o0W _ _ o53 o54 _ o23 o27 o28 _ o13 o40 o41 _ o18 (hs o13 o1F) o32N o0X o0Y mo o0Z _ o0I o0J o0K o0L dd2 _ _ o78 ii2 o32O _ _ dd1 hp32M n0 Ol33J p32T p32U p32V p33B hSLS p32W p33C f34H f34Q f34T f35J f34R f34S gq4E hc2 f34G f34O f34P f35H p32Q p32R p32S f35I (Ne.symm ne5S) (Ne.symm ne5T) (own_ixc hq37N p33D) ((own_gso (own_gs (own_lt32 hSLS own_lrep (own_hs hSLS o13))) (own_ixne hSLS p33D))) ((own_gs (own_lt32 hSLS (by simp) (own_ixin hSLS p33D)))) (own_bn hc0 hc2 (fun q => hk35O q.symm)) (own_be hq37N) ((own_gs (own_lt32 hSLS (by simp) (own_ixin hSLS p33D)))) p32X p32Y p32Z f33H f33I f35G f35K f34N f35F f35E f35D p0R p33G f34K f34W hi2 hr2 hmo p81 (own_dt hk38G (own_gs (own_i9 hi1 (by simp)))) p33F rfl rfl gq33M (Ne.symm ne33P) gq4A gq4B) hZ (w_177 hw) (w_103 hw) (by decide) (by decide)) q38Ha q38Hc (g := (mkF m 281 (LQ0 p0 p1 p2 p3 p4 ca cb o13 o18 o23 o27 o40 o53 ii0 ii1 ii2 o66 o72 o78 bb dd0 dd1 dd2 o84 o96 o0I b0S (xvi (0 : Int32)) (xvi (0 : Int32)) (xvi (0 : Int32)) xun xun xun xun xun xun xun) [xwr o78, xwr o0I, xwr o53, xwr b0S])) rfl (by rw [hml]; rfl) (Steps.refl _) (argsL := [(.ref o53), (.ref o0I), (.ref o78)]) (rest := []) (lenOf pd_26 rfl) rfl (Nat.le_of_eq rfl) (hb B at_281) (fun _ _ => ⟨rfl, e33L, (by decide : 17 + 0 ≤ _), (by decide : 126 + 0 ≤ _)⟩)
       dsimp only [Pt.U, Pt.locs, Pt.cells, Pt.slots] at X38I l38I y38I z38I st38I hQ38I
       subst l38I y38I z38I
       obtain ⟨hp38I, e38I⟩ : ∃ z, T38I.heap = z := ⟨_, rfl⟩
       rw [e38I] at hQ38I
       obtain ⟨o38J, o38K, o38L, o38M, rfl, N38Iq, K38I, p38N, p38O, p38P, p38Q, p38R, p38S, p38T, p38U, p38V⟩ := hQ38I
       have N38I := Fr.app N33L N38Iq
       have f38W := (p32T.keep K38I)
       have f38X := (p32Z.keep K38I (ninS (Ne.symm ne5M) (ninS (Ne.symm ne33N) (ninS (Ne.symm ne4S) (ninS (Ne.symm ne4W) nin0)))))
       refine ⟨T38I, hp38I, _, (0 : Int32), o38J, o38K, own_wid X38I (by decide : 17 ≤ 18) (by decide : 126 ≤ 135), e38I, N38I, (KK35M.trans K38I (allS (oi 7 rfl) (allS (Or.inr (ntr (Nat.le_refl _) p33E)) (allS (oi 4 rfl) (allS (oi 5 rfl) all0))))), f38W, f38X, p38Q, p38R, ⟨Or.inr ⟨rfl, by have q0 := own_neq hk10Q; have q1 := own_neq hk27Q; have q2 := own_neq hk35O; have q3 := own_eq hq37N; have q4 := own_neq hk37O; have q5 := own_eq hk38G; omega⟩, p38V.elim (fun hq => Or.inr ⟨hq.2.1, by have q0 := own_neq hk10Q; have q1 := own_neq hk27Q; have q2 := own_neq hk35O; have q3 := own_eq hq37N; have q4 := own_neq hk37O; have q5 := own_eq hk38G; have q := own_nlt hq.1; omega⟩) (fun hq => Or.inl ⟨hq.2.1, by have q0 := own_neq hk10Q; have q1 := own_neq hk27Q; have q2 := own_neq hk35O; have q3 := own_eq hq37N; have q4 := own_neq hk37O; have q5 := own_eq hk38G; have q := own_lt hq.1; omega⟩)⟩, fun t k => c35N t ?_⟩
       refine st38I.trans ?_
       exact k
      ·obtain ⟨cq38Y, kq38Y, q38Ya, q38Yb, q38Yc⟩ := isOf hZ e33L p32T
       obtain ⟨_, _, ⟨T38Z, L38Z, k38Z, n38Z⟩, -, X38Z, ⟨Lc38Z, hQ38Z, l38Z, y38Z, z38Z⟩, st38Z⟩ := X33L.virtualBack hx (y := mm39) (z := mm39) hown (mvT hZ (w_173 hw)) (mvT hZ (w_174 hw)) (notFace_of_selects (args := #[]) (mvT hZ (w_176 hw))) (mvT hZ (w_176 hw)) (mvT hZ (w_175 hw)) (by decide) (backOf (W := 0) (rmAd7 l Z a0 hw G ST [] b0S o0V _ o1E o1F _ o0W _ _ o53 o54 _ o23 o27 o28 _ o13 o40 o41 _ o18 (hs o13 o1F) o32N o0X o0Y mo o0Z _ o0I o0J o0K o0L dd2 _ _ o78 ii2 hp32M n0 Ol33J p32T p32U p32V p33B hSLS p32W p33C f34H f34Q f34T f35J f34R f34S gq4E hc2 f34G f34O f34P f35H p32Q p32R p32S f35I (Ne.symm ne5S) (Ne.symm ne5T) (own_ixc hq37N p33D) ((own_gso (own_gs (own_lt32 hSLS own_lrep (own_hs hSLS o13))) (own_ixne hSLS p33D))) ((own_gs (own_lt32 hSLS (by simp) (own_ixin hSLS p33D)))) (own_bn hc0 hc2 (fun q => hk35O q.symm)) (own_be hq37N) ((own_gs (own_lt32 hSLS (by simp) (own_ixin hSLS p33D)))) p32X p32Y p32Z f33H f33I f35G f35K f34N f35F f35E f35D p0R p33G f34K f34W hi2 hr2 hmo p81 (own_gso (own_gso (own_rep _ _ _) (own_ine hi0 hi2 (fun q => hk37O q.symm))) (own_ine hi1 hi2 (fun q => hk38G q.symm))) (by simp) p2C gq3Z) hZ (w_177 hw) (w_103 hw) (by decide) (by decide)) q38Ya q38Yc (g := (mkF m 281 (LQ0 p0 p1 p2 p3 p4 ca cb o13 o18 o23 o27 o40 o53 ii0 ii1 ii2 o66 o72 o78 bb dd0 dd1 dd2 o84 o96 o0I b0S (xvi (0 : Int32)) (xvi (0 : Int32)) (xvi (0 : Int32)) xun xun xun xun xun xun xun) [xwr o78, xwr o0I, xwr o53, xwr b0S])) rfl (by rw [hml]; rfl) (Steps.refl _) (argsL := [(.ref o53), (.ref o0I), (.ref o78)]) (rest := []) (lenOf pd_26 rfl) rfl (Nat.le_of_eq rfl) (hb B at_281) (fun _ _ => ⟨rfl, e33L, (by decide : 17 + 1 ≤ _), (by decide : 126 + 9 ≤ _)⟩)
       dsimp only [Pt.U, Pt.locs, Pt.cells, Pt.slots] at X38Z l38Z y38Z z38Z st38Z hQ38Z
       subst l38Z y38Z z38Z
       obtain ⟨hp38Z, e38Z⟩ : ∃ z, T38Z.heap = z := ⟨_, rfl⟩
       rw [e38Z] at hQ38Z
       obtain ⟨o39A, o39B, rfl, N38Zq, K38Z, p39C, p39D, p39E, p39F, p39G, p39H⟩ := hQ38Z
       have N38Z := Fr.app N33L N38Zq
       have f39I := (p32T.keep K38Z)
       have f39J := (p32Z.keep K38Z (ninS (Ne.symm ne5M) (ninS (Ne.symm ne4P) nin0)))
       have f39K := (f33H.keep K38Z)
       have f39L := (f33I.keep K38Z (ninS (Ne.symm ne5Q) (ninS ne4V nin0)))
       refine ⟨T38Z, hp38Z, _, (0 : Int32), (1 : Int32), (0 : Int32), own_wid X38Z (by decide : 18 ≤ 18) (by decide : 135 ≤ 135), e38Z, N38Z, (KK35M.trans K38Z (allS (oi 7 rfl) (allS (oi 3 rfl) all0))), f39I, f39J, f39K, f39L, ⟨Or.inr ⟨rfl, by have q0 := own_neq hk10Q; have q1 := own_neq hk27Q; have q2 := own_neq hk35O; have q3 := own_eq hq37N; have q4 := own_neq hk37O; have q5 := own_neq hk38G; omega⟩, Or.inr ⟨rfl, by have q0 := own_neq hk10Q; have q1 := own_neq hk27Q; have q2 := own_neq hk35O; have q3 := own_eq hq37N; have q4 := own_neq hk37O; have q5 := own_neq hk38G; omega⟩⟩, fun t k => c35N t ?_⟩
       refine st38Z.trans ?_
       exact k
 obtain ⟨T10O, h10O, locs10O, o39M, o39N, o39O, X10O, e10O, N10O, K10O, p39P, p39Q, p39R, p39S, p39T, c10O⟩ := j10O
 have KK39U : Keep h0 h10O [] := (((((((((((((((((Keep.refl h0 []).trans K11 all0).trans K16 all0).trans K21 all0).trans K26 all0).trans K39 all0).trans K52 all0).trans K65 all0).trans K71 all0).trans K77 all0).trans K83 all0).trans K95 all0).trans K0H all0).ext E0S).trans K0U (allS (Or.inr (ntr (ntr (ntr (ntr (ntr (ntr (ntr (ntr (ntr (ntr (ntr (ntr K11.1 K16.1) K21.1) K26.1) K39.1) K52.1) K65.1) K71.1) K77.1) K83.1) K95.1) K0H.1) (Nat.le_of_eq g0S.symm))) all0)).trans K2X (allS (Or.inr (ntr (ntr (ntr K11.1 K16.1) K21.1) p30)) (allS (Or.inr (ntr (ntr (ntr (ntr (ntr (ntr (ntr (ntr (ntr (ntr (ntr (ntr (ntr K11.1 K16.1) K21.1) K26.1) K39.1) K52.1) K65.1) K71.1) K77.1) K83.1) K95.1) K0H.1) E0S.1) p1V)) (allS (Or.inr (ntr (ntr (ntr (ntr (ntr (ntr (ntr (ntr (ntr (ntr (ntr (ntr (ntr K11.1 K16.1) K21.1) K26.1) K39.1) K52.1) K65.1) K71.1) K77.1) K83.1) K95.1) K0H.1) E0S.1) p1W)) (allS (Or.inr (ntr (ntr (ntr (ntr (ntr (ntr (ntr (ntr (ntr (ntr (ntr (ntr K11.1 K16.1) K21.1) K26.1) K39.1) K52.1) K65.1) K71.1) K77.1) K83.1) K95.1) K0H.1) (Nat.le_of_eq g0S.symm))) (allS (Or.inr (ntr (ntr (ntr (ntr (ntr (ntr (ntr (ntr (ntr (ntr (ntr (ntr (ntr K11.1 K16.1) K21.1) K26.1) K39.1) K52.1) K65.1) K71.1) K77.1) K83.1) K95.1) K0H.1) E0S.1) p1X)) all0)))))).trans K10O (allS (Or.inr (ntr (ntr (ntr (ntr (ntr (ntr (ntr (ntr (ntr (ntr (ntr (ntr K11.1 K16.1) K21.1) K26.1) K39.1) K52.1) K65.1) K71.1) K77.1) K83.1) K95.1) K0H.1) (Nat.le_of_eq g0S.symm))) (allS (Or.inr (ntr (ntr (ntr (ntr (ntr (ntr (ntr (ntr (ntr (ntr (ntr (ntr (ntr K11.1 K16.1) K21.1) K26.1) K39.1) K52.1) K65.1) K71.1) K77.1) K83.1) K95.1) K0H.1) E0S.1) p1V)) (allS (Or.inr (ntr (ntr (ntr (ntr (ntr (ntr (ntr (ntr (ntr (ntr (ntr (ntr (ntr K11.1 K16.1) K21.1) K26.1) K39.1) K52.1) K65.1) K71.1) K77.1) K83.1) K95.1) K0H.1) E0S.1) p1W)) (allS (Or.inr (ntr (ntr (ntr (ntr (ntr (ntr (ntr (ntr (ntr (ntr (ntr (ntr (ntr K11.1 K16.1) K21.1) K26.1) K39.1) K52.1) K65.1) K71.1) K77.1) K83.1) K95.1) K0H.1) E0S.1) p1X)) (allS (Or.inr (ntr (ntr (ntr (ntr (ntr (ntr (ntr (ntr (ntr (ntr (ntr (ntr (ntr K11.1 K16.1) K21.1) K26.1) K39.1) K52.1) K65.1) K71.1) K77.1) K83.1) K95.1) K0H.1) E0S.1) p1Y)) (allS (Or.inr (ntr (ntr (ntr (ntr (ntr (ntr (ntr (ntr (ntr (ntr (ntr (ntr (ntr K11.1 K16.1) K21.1) K26.1) K39.1) K52.1) K65.1) K71.1) K77.1) K83.1) K95.1) K0H.1) E0S.1) p1Z)) (allS (Or.inr (ntr (ntr (ntr (ntr K11.1 K16.1) K21.1) K26.1) p43)) (allS (Or.inr (ntr (ntr (ntr (ntr (ntr K11.1 K16.1) K21.1) K26.1) K39.1) p56)) (allS (Or.inr (ntr (ntr (ntr (ntr (ntr (ntr (ntr (ntr (ntr (ntr (ntr (ntr (ntr (ntr K11.1 K16.1) K21.1) K26.1) K39.1) K52.1) K65.1) K71.1) K77.1) K83.1) K95.1) K0H.1) E0S.1) K0U.1) p3N)) all0))))))))))
 have hR := p39T
 have Ol39V : Old Z n0 h10O := (Ol3T.keep K10O (allS gq3W (allS gq3X (allS gq3Y (allS gq3Z (allS gq4A (allS gq4B (allS gq4D (allS gq4E (allS gq4L all0))))))))))
 obtain ⟨cq39W, kq39W, q39Wa, q39Wb, q39Wc⟩ := isOf hZ e10O p39P
 obtain ⟨_, _, ⟨T39X, L39X, k39X, n39X⟩, -, X39X, ⟨Lc39X, hQ39X, l39X, y39X, z39X⟩, st39X⟩ := X10O.virtualBack hx (y := mm31) (z := mm31) hown (mvT hZ (w_163 hw)) (mvT hZ (w_164 hw)) (notFace_of_selects (args := #[]) (mvT hZ (w_166 hw))) (mvT hZ (w_166 hw)) (mvT hZ (w_165 hw)) (by decide) (backOf (W := 0) (rmAnG l Z a0 hw G ST [] b0S o0Y o39O h10O n0 Ol39V p39P p39Q p39R p39S (own_r3 hR)) hZ (w_167 hw) (w_103 hw) (by decide) (by decide)) q39Wa q39Wc (g := (mkF m 287 (LQ0 p0 p1 p2 p3 p4 ca cb o13 o18 o23 o27 o40 o53 ii0 ii1 ii2 o66 o72 o78 bb dd0 dd1 dd2 o84 o96 o0I b0S (xvi (0 : Int32)) (xvi (0 : Int32)) (xvi o39M) xun xun xun xun xun xun xun) [xwr b0S])) rfl (by rw [hml]; rfl) (Steps.refl _) (argsL := []) (rest := []) (lenOf pd_3 rfl) rfl (Nat.le_of_eq rfl) (hb B at_287) (fun _ _ => ⟨rfl, e10O, (by decide : 18 + 0 ≤ _), (by decide : 135 + 0 ≤ _)⟩)
 dsimp only [Pt.U, Pt.locs, Pt.cells, Pt.slots] at X39X l39X y39X z39X st39X hQ39X
 subst l39X y39X z39X
 obtain ⟨rfl, N39Xq, e39X⟩ := hQ39X
 have N39X := Fr.app N10O N39Xq
 have c39Y : ∀ t, Sx p e below T39X m 292 (LQ0 p0 p1 p2 p3 p4 ca cb o13 o18 o23 o27 o40 o53 ii0 ii1 ii2 o66 o72 o78 bb dd0 dd1 dd2 o84 o96 o0I b0S (xvi (0 : Int32)) (xvi (0 : Int32)) (xvi o39M) (xvi o39O) xun xun xun xun xun xun) [] t → TG t := fun t k => c10O t (by
  refine y_pop X10O hx 285 (hb B at_284) rfl rfl <| y_aload X10O hx 287 (hb B at_285) rfl rfl rfl ?_
  refine st39X.trans ?_
  refine y_istore X39X hx 292 (hb B at_290) (L' := (LQ0 p0 p1 p2 p3 p4 ca cb o13 o18 o23 o27 o40 o53 ii0 ii1 ii2 o66 o72 o78 bb dd0 dd1 dd2 o84 o96 o0I b0S (xvi (0 : Int32)) (xvi (0 : Int32)) (xvi o39M) (xvi o39O) xun xun xun xun xun xun)) rfl rfl ?_
  exact k)
 have j39Z : ∃ (T' : State) (h' : Heap) (locs' : List Loc) (bs0 : Int32), Stand p l e room_1 s m #[(.int p0), (.int p1), (.int p2), (.int p3), (.int p4)] below meth c T' locs' 18 135 ∧ T'.heap = h' ∧ Fr n0 locs' ∧ Keep h10O h' [] ∧ Bo bs0 (o13.toInt = o18.toInt ∧ ii0.toInt = ii1.toInt) ∧ ∀ t, Sx p e below T' m 311 (LQ0 p0 p1 p2 p3 p4 ca cb o13 o18 o23 o27 o40 o53 ii0 ii1 ii2 o66 o72 o78 bb dd0 dd1 dd2 o84 o96 o0I b0S (xvi (0 : Int32)) (xvi (0 : Int32)) (xvi o39M) (xvi o39O) xun xun xun xun xun xun) [xwi bs0] t → TG t := by
  have c40A : ∀ t, Sx p e below T39X m 296 (LQ0 p0 p1 p2 p3 p4 ca cb o13 o18 o23 o27 o40 o53 ii0 ii1 ii2 o66 o72 o78 bb dd0 dd1 dd2 o84 o96 o0I b0S (xvi (0 : Int32)) (xvi (0 : Int32)) (xvi o39M) (xvi o39O) xun xun xun xun xun xun) [xwi o18, xwi o13] t → TG t := fun t k => c39Y t (by
   refine y_iload X39X hx 294 (hb B at_292) rfl rfl <| y_iload X39X hx 296 (hb B at_294) rfl rfl ?_
   exact k)
  by_cases hc40B : o13 = o18
  ·have c40C : ∀ t, Sx p e below T39X m 303 (LQ0 p0 p1 p2 p3 p4 ca cb o13 o18 o23 o27 o40 o53 ii0 ii1 ii2 o66 o72 o78 bb dd0 dd1 dd2 o84 o96 o0I b0S (xvi (0 : Int32)) (xvi (0 : Int32)) (xvi o39M) (xvi o39O) xun xun xun xun xun xun) [xwi ii1, xwi ii0] t → TG t := fun t k => c40A t (by
    refine y_icmpNo X39X hx 299 (hb B at_296) (XT.ii_ne_f hc40B) rfl <| y_iload X39X hx 301 (hb B at_299) rfl rfl <| y_iload X39X hx 303 (hb B at_301) rfl rfl ?_
    exact k)
   by_cases hc40D : ii0 = ii1
   ·refine ⟨T39X, h10O, _, (1 : Int32), own_wid X39X (by decide : 18 ≤ 18) (by decide : 135 ≤ 135), e39X, N39X, (Keep.refl h10O []), (Or.inl ⟨rfl, own_eq hc40B, own_eq hc40D⟩), fun t k => c40C t ?_⟩
    refine y_icmpNo X39X hx 306 (hb B at_303) (XT.ii_ne_f hc40D) rfl <| y_iconst X39X hx (1 : Int32) 307 (hb B at_306) rfl rfl <| y_goto X39X hx 311 (hb B at_307) rfl rfl ?_
    exact k
   ·refine ⟨T39X, h10O, _, (0 : Int32), own_wid X39X (by decide : 18 ≤ 18) (by decide : 135 ≤ 135), e39X, N39X, (Keep.refl h10O []), (Or.inr ⟨rfl, fun q => own_neq hc40D q.2⟩), fun t k => c40C t ?_⟩
    refine y_icmpYes X39X hx 310 (hb B at_303) (XT.ii_ne_t hc40D) rfl rfl <| y_iconst X39X hx (0 : Int32) 311 (hb B at_310) rfl rfl ?_
    exact k
  ·refine ⟨T39X, h10O, _, (0 : Int32), own_wid X39X (by decide : 18 ≤ 18) (by decide : 135 ≤ 135), e39X, N39X, (Keep.refl h10O []), (Or.inr ⟨rfl, fun q => own_neq hc40B q.1⟩), fun t k => c40A t ?_⟩
   refine y_icmpYes X39X hx 310 (hb B at_296) (XT.ii_ne_t hc40B) rfl rfl <| y_iconst X39X hx (0 : Int32) 311 (hb B at_310) rfl rfl ?_
   exact k
 obtain ⟨T39Z, h39Z, locs39Z, o40E, X39Z, e39Z, N39Z, K39Z, p40F, c39Z⟩ := j39Z
 have c40G : ∀ t, Sx p e below T39Z m 313 (LQ0 p0 p1 p2 p3 p4 ca cb o13 o18 o23 o27 o40 o53 ii0 ii1 ii2 o66 o72 o78 bb dd0 dd1 dd2 o84 o96 o0I b0S (xvi (0 : Int32)) (xvi (0 : Int32)) (xvi o39M) (xvi o39O) (xvi o40E) xun xun xun xun xun) [] t → TG t := fun t k => c39Z t (by
  refine y_istore X39Z hx 313 (hb B at_311) (L' := (LQ0 p0 p1 p2 p3 p4 ca cb o13 o18 o23 o27 o40 o53 ii0 ii1 ii2 o66 o72 o78 bb dd0 dd1 dd2 o84 o96 o0I b0S (xvi (0 : Int32)) (xvi (0 : Int32)) (xvi o39M) (xvi o39O) (xvi o40E) xun xun xun xun xun)) rfl rfl ?_
  exact k)
 have j40H : ∃ (T' : State) (h' : Heap) (locs' : List Loc) (bs1 : Int32), Stand p l e room_1 s m #[(.int p0), (.int p1), (.int p2), (.int p3), (.int p4)] below meth c T' locs' 18 135 ∧ T'.heap = h' ∧ Fr n0 locs' ∧ Keep h39Z h' [] ∧ Bo bs1 (o13.toInt = o23.toInt ∧ ii0.toInt = ii2.toInt) ∧ ∀ t, Sx p e below T' m 332 (LQ0 p0 p1 p2 p3 p4 ca cb o13 o18 o23 o27 o40 o53 ii0 ii1 ii2 o66 o72 o78 bb dd0 dd1 dd2 o84 o96 o0I b0S (xvi (0 : Int32)) (xvi (0 : Int32)) (xvi o39M) (xvi o39O) (xvi o40E) xun xun xun xun xun) [xwi bs1] t → TG t := by
  have c40I : ∀ t, Sx p e below T39Z m 317 (LQ0 p0 p1 p2 p3 p4 ca cb o13 o18 o23 o27 o40 o53 ii0 ii1 ii2 o66 o72 o78 bb dd0 dd1 dd2 o84 o96 o0I b0S (xvi (0 : Int32)) (xvi (0 : Int32)) (xvi o39M) (xvi o39O) (xvi o40E) xun xun xun xun xun) [xwi o23, xwi o13] t → TG t := fun t k => c40G t (by
   refine y_iload X39Z hx 315 (hb B at_313) rfl rfl <| y_iload X39Z hx 317 (hb B at_315) rfl rfl ?_
   exact k)
  by_cases hc40J : o13 = o23
  ·have c40K : ∀ t, Sx p e below T39Z m 324 (LQ0 p0 p1 p2 p3 p4 ca cb o13 o18 o23 o27 o40 o53 ii0 ii1 ii2 o66 o72 o78 bb dd0 dd1 dd2 o84 o96 o0I b0S (xvi (0 : Int32)) (xvi (0 : Int32)) (xvi o39M) (xvi o39O) (xvi o40E) xun xun xun xun xun) [xwi ii2, xwi ii0] t → TG t := fun t k => c40I t (by
    refine y_icmpNo X39Z hx 320 (hb B at_317) (XT.ii_ne_f hc40J) rfl <| y_iload X39Z hx 322 (hb B at_320) rfl rfl <| y_iload X39Z hx 324 (hb B at_322) rfl rfl ?_
    exact k)
   by_cases hc40L : ii0 = ii2
   ·refine ⟨T39Z, h39Z, _, (1 : Int32), own_wid X39Z (by decide : 18 ≤ 18) (by decide : 135 ≤ 135), e39Z, N39Z, (Keep.refl h39Z []), (Or.inl ⟨rfl, own_eq hc40J, own_eq hc40L⟩), fun t k => c40K t ?_⟩
    refine y_icmpNo X39Z hx 327 (hb B at_324) (XT.ii_ne_f hc40L) rfl <| y_iconst X39Z hx (1 : Int32) 328 (hb B at_327) rfl rfl <| y_goto X39Z hx 332 (hb B at_328) rfl rfl ?_
    exact k
   ·refine ⟨T39Z, h39Z, _, (0 : Int32), own_wid X39Z (by decide : 18 ≤ 18) (by decide : 135 ≤ 135), e39Z, N39Z, (Keep.refl h39Z []), (Or.inr ⟨rfl, fun q => own_neq hc40L q.2⟩), fun t k => c40K t ?_⟩
    refine y_icmpYes X39Z hx 331 (hb B at_324) (XT.ii_ne_t hc40L) rfl rfl <| y_iconst X39Z hx (0 : Int32) 332 (hb B at_331) rfl rfl ?_
    exact k
  ·refine ⟨T39Z, h39Z, _, (0 : Int32), own_wid X39Z (by decide : 18 ≤ 18) (by decide : 135 ≤ 135), e39Z, N39Z, (Keep.refl h39Z []), (Or.inr ⟨rfl, fun q => own_neq hc40J q.1⟩), fun t k => c40I t ?_⟩
   refine y_icmpYes X39Z hx 331 (hb B at_317) (XT.ii_ne_t hc40J) rfl rfl <| y_iconst X39Z hx (0 : Int32) 332 (hb B at_331) rfl rfl ?_
   exact k
 obtain ⟨T40H, h40H, locs40H, o40M, X40H, e40H, N40H, K40H, p40N, c40H⟩ := j40H
 have c40O : ∀ t, Sx p e below T40H m 334 (LQ0 p0 p1 p2 p3 p4 ca cb o13 o18 o23 o27 o40 o53 ii0 ii1 ii2 o66 o72 o78 bb dd0 dd1 dd2 o84 o96 o0I b0S (xvi (0 : Int32)) (xvi (0 : Int32)) (xvi o39M) (xvi o39O) (xvi o40E) (xvi o40M) xun xun xun xun) [] t → TG t := fun t k => c40H t (by
  refine y_istore X40H hx 334 (hb B at_332) (L' := (LQ0 p0 p1 p2 p3 p4 ca cb o13 o18 o23 o27 o40 o53 ii0 ii1 ii2 o66 o72 o78 bb dd0 dd1 dd2 o84 o96 o0I b0S (xvi (0 : Int32)) (xvi (0 : Int32)) (xvi o39M) (xvi o39O) (xvi o40E) (xvi o40M) xun xun xun xun)) rfl rfl ?_
  exact k)
 have j40P : ∃ (T' : State) (h' : Heap) (locs' : List Loc) (bs2 : Int32), Stand p l e room_1 s m #[(.int p0), (.int p1), (.int p2), (.int p3), (.int p4)] below meth c T' locs' 18 135 ∧ T'.heap = h' ∧ Fr n0 locs' ∧ Keep h40H h' [] ∧ Bo bs2 (o18.toInt = o23.toInt ∧ ii1.toInt = ii2.toInt) ∧ ∀ t, Sx p e below T' m 353 (LQ0 p0 p1 p2 p3 p4 ca cb o13 o18 o23 o27 o40 o53 ii0 ii1 ii2 o66 o72 o78 bb dd0 dd1 dd2 o84 o96 o0I b0S (xvi (0 : Int32)) (xvi (0 : Int32)) (xvi o39M) (xvi o39O) (xvi o40E) (xvi o40M) xun xun xun xun) [xwi bs2] t → TG t := by
  have c40Q : ∀ t, Sx p e below T40H m 338 (LQ0 p0 p1 p2 p3 p4 ca cb o13 o18 o23 o27 o40 o53 ii0 ii1 ii2 o66 o72 o78 bb dd0 dd1 dd2 o84 o96 o0I b0S (xvi (0 : Int32)) (xvi (0 : Int32)) (xvi o39M) (xvi o39O) (xvi o40E) (xvi o40M) xun xun xun xun) [xwi o23, xwi o18] t → TG t := fun t k => c40O t (by
   refine y_iload X40H hx 336 (hb B at_334) rfl rfl <| y_iload X40H hx 338 (hb B at_336) rfl rfl ?_
   exact k)
  by_cases hc40R : o18 = o23
  ·have c40S : ∀ t, Sx p e below T40H m 345 (LQ0 p0 p1 p2 p3 p4 ca cb o13 o18 o23 o27 o40 o53 ii0 ii1 ii2 o66 o72 o78 bb dd0 dd1 dd2 o84 o96 o0I b0S (xvi (0 : Int32)) (xvi (0 : Int32)) (xvi o39M) (xvi o39O) (xvi o40E) (xvi o40M) xun xun xun xun) [xwi ii2, xwi ii1] t → TG t := fun t k => c40Q t (by
    refine y_icmpNo X40H hx 341 (hb B at_338) (XT.ii_ne_f hc40R) rfl <| y_iload X40H hx 343 (hb B at_341) rfl rfl <| y_iload X40H hx 345 (hb B at_343) rfl rfl ?_
    exact k)
   by_cases hc40T : ii1 = ii2
   ·refine ⟨T40H, h40H, _, (1 : Int32), own_wid X40H (by decide : 18 ≤ 18) (by decide : 135 ≤ 135), e40H, N40H, (Keep.refl h40H []), (Or.inl ⟨rfl, own_eq hc40R, own_eq hc40T⟩), fun t k => c40S t ?_⟩
    refine y_icmpNo X40H hx 348 (hb B at_345) (XT.ii_ne_f hc40T) rfl <| y_iconst X40H hx (1 : Int32) 349 (hb B at_348) rfl rfl <| y_goto X40H hx 353 (hb B at_349) rfl rfl ?_
    exact k
   ·refine ⟨T40H, h40H, _, (0 : Int32), own_wid X40H (by decide : 18 ≤ 18) (by decide : 135 ≤ 135), e40H, N40H, (Keep.refl h40H []), (Or.inr ⟨rfl, fun q => own_neq hc40T q.2⟩), fun t k => c40S t ?_⟩
    refine y_icmpYes X40H hx 352 (hb B at_345) (XT.ii_ne_t hc40T) rfl rfl <| y_iconst X40H hx (0 : Int32) 353 (hb B at_352) rfl rfl ?_
    exact k
  ·refine ⟨T40H, h40H, _, (0 : Int32), own_wid X40H (by decide : 18 ≤ 18) (by decide : 135 ≤ 135), e40H, N40H, (Keep.refl h40H []), (Or.inr ⟨rfl, fun q => own_neq hc40R q.1⟩), fun t k => c40Q t ?_⟩
   refine y_icmpYes X40H hx 352 (hb B at_338) (XT.ii_ne_t hc40R) rfl rfl <| y_iconst X40H hx (0 : Int32) 353 (hb B at_352) rfl rfl ?_
   exact k
 obtain ⟨T40P, h40P, locs40P, o40U, X40P, e40P, N40P, K40P, p40V, c40P⟩ := j40P
 have c40W : ∀ t, Sx p e below T40P m 355 (LQ0 p0 p1 p2 p3 p4 ca cb o13 o18 o23 o27 o40 o53 ii0 ii1 ii2 o66 o72 o78 bb dd0 dd1 dd2 o84 o96 o0I b0S (xvi (0 : Int32)) (xvi (0 : Int32)) (xvi o39M) (xvi o39O) (xvi o40E) (xvi o40M) (xvi o40U) xun xun xun) [] t → TG t := fun t k => c40P t (by
  refine y_istore X40P hx 355 (hb B at_353) (L' := (LQ0 p0 p1 p2 p3 p4 ca cb o13 o18 o23 o27 o40 o53 ii0 ii1 ii2 o66 o72 o78 bb dd0 dd1 dd2 o84 o96 o0I b0S (xvi (0 : Int32)) (xvi (0 : Int32)) (xvi o39M) (xvi o39O) (xvi o40E) (xvi o40M) (xvi o40U) xun xun xun)) rfl rfl ?_
  exact k)
 have j40X : ∃ (T' : State) (h' : Heap) (locs' : List Loc) (bx0 : Int32), Stand p l e room_1 s m #[(.int p0), (.int p1), (.int p2), (.int p3), (.int p4)] below meth c T' locs' 18 135 ∧ T'.heap = h' ∧ Fr n0 locs' ∧ Keep h40P h' [] ∧ Bo bx0 ((o13.toInt = o18.toInt ∧ ii0.toInt = ii1.toInt) ∧ dd1.toInt < dd0.toInt) ∧ ∀ t, Sx p e below T' m 372 (LQ0 p0 p1 p2 p3 p4 ca cb o13 o18 o23 o27 o40 o53 ii0 ii1 ii2 o66 o72 o78 bb dd0 dd1 dd2 o84 o96 o0I b0S (xvi (0 : Int32)) (xvi (0 : Int32)) (xvi o39M) (xvi o39O) (xvi o40E) (xvi o40M) (xvi o40U) xun xun xun) [xwi bx0] t → TG t := by
  have c40Y : ∀ t, Sx p e below T40P m 357 (LQ0 p0 p1 p2 p3 p4 ca cb o13 o18 o23 o27 o40 o53 ii0 ii1 ii2 o66 o72 o78 bb dd0 dd1 dd2 o84 o96 o0I b0S (xvi (0 : Int32)) (xvi (0 : Int32)) (xvi o39M) (xvi o39O) (xvi o40E) (xvi o40M) (xvi o40U) xun xun xun) [xwi o40E] t → TG t := fun t k => c40W t (by
   refine y_iload X40P hx 357 (hb B at_355) rfl rfl ?_
   exact k)
  by_cases hc40Z : o40E = (0 : Int32)
  ·refine ⟨T40P, h40P, _, (0 : Int32), own_wid X40P (by decide : 18 ≤ 18) (by decide : 135 ≤ 135), e40P, N40P, (Keep.refl h40P []), (Or.inr ⟨rfl, fun q => (own_bo0 p40F hc40Z) q.1⟩), fun t k => c40Y t ?_⟩
   refine y_ifYes X40P hx 371 (hb B at_357) (XT.i0_eq_t hc40Z) rfl rfl <| y_iconst X40P hx (0 : Int32) 372 (hb B at_371) rfl rfl ?_
   exact k
  ·have c41A : ∀ t, Sx p e below T40P m 364 (LQ0 p0 p1 p2 p3 p4 ca cb o13 o18 o23 o27 o40 o53 ii0 ii1 ii2 o66 o72 o78 bb dd0 dd1 dd2 o84 o96 o0I b0S (xvi (0 : Int32)) (xvi (0 : Int32)) (xvi o39M) (xvi o39O) (xvi o40E) (xvi o40M) (xvi o40U) xun xun xun) [xwi dd1, xwi dd0] t → TG t := fun t k => c40Y t (by
    refine y_ifNo X40P hx 360 (hb B at_357) (XT.i0_eq_f hc40Z) rfl <| y_iload X40P hx 362 (hb B at_360) rfl rfl <| y_iload X40P hx 364 (hb B at_362) rfl rfl ?_
    exact k)
   by_cases hc41B : dd1 < dd0
   ·refine ⟨T40P, h40P, _, (1 : Int32), own_wid X40P (by decide : 18 ≤ 18) (by decide : 135 ≤ 135), e40P, N40P, (Keep.refl h40P []), (Or.inl ⟨rfl, own_bo1 p40F hc40Z, own_lt hc41B⟩), fun t k => c41A t ?_⟩
    refine y_icmpNo X40P hx 367 (hb B at_364) (XT.ii_le_f hc41B) rfl <| y_iconst X40P hx (1 : Int32) 368 (hb B at_367) rfl rfl <| y_goto X40P hx 372 (hb B at_368) rfl rfl ?_
    exact k
   ·refine ⟨T40P, h40P, _, (0 : Int32), own_wid X40P (by decide : 18 ≤ 18) (by decide : 135 ≤ 135), e40P, N40P, (Keep.refl h40P []), (Or.inr ⟨rfl, fun q => own_nlt hc41B q.2⟩), fun t k => c41A t ?_⟩
    refine y_icmpYes X40P hx 371 (hb B at_364) (XT.ii_le_t hc41B) rfl rfl <| y_iconst X40P hx (0 : Int32) 372 (hb B at_371) rfl rfl ?_
    exact k
 obtain ⟨T40X, h40X, locs40X, o41C, X40X, e40X, N40X, K40X, p41D, c40X⟩ := j40X
 have c41E : ∀ t, Sx p e below T40X m 374 (LQ0 p0 p1 p2 p3 p4 ca cb o13 o18 o23 o27 o40 o53 ii0 ii1 ii2 o66 o72 o78 bb dd0 dd1 dd2 o84 o96 o0I b0S (xvi (0 : Int32)) (xvi (0 : Int32)) (xvi o39M) (xvi o39O) (xvi o40E) (xvi o40M) (xvi o40U) (xvi o41C) xun xun) [] t → TG t := fun t k => c40X t (by
  refine y_istore X40X hx 374 (hb B at_372) (L' := (LQ0 p0 p1 p2 p3 p4 ca cb o13 o18 o23 o27 o40 o53 ii0 ii1 ii2 o66 o72 o78 bb dd0 dd1 dd2 o84 o96 o0I b0S (xvi (0 : Int32)) (xvi (0 : Int32)) (xvi o39M) (xvi o39O) (xvi o40E) (xvi o40M) (xvi o40U) (xvi o41C) xun xun)) rfl rfl ?_
  exact k)
 have j41F : ∃ (T' : State) (h' : Heap) (locs' : List Loc) (bx1 : Int32), Stand p l e room_1 s m #[(.int p0), (.int p1), (.int p2), (.int p3), (.int p4)] below meth c T' locs' 18 135 ∧ T'.heap = h' ∧ Fr n0 locs' ∧ Keep h40X h' [] ∧ Bo bx1 ((o13.toInt = o23.toInt ∧ ii0.toInt = ii2.toInt) ∧ dd2.toInt < dd0.toInt) ∧ ∀ t, Sx p e below T' m 391 (LQ0 p0 p1 p2 p3 p4 ca cb o13 o18 o23 o27 o40 o53 ii0 ii1 ii2 o66 o72 o78 bb dd0 dd1 dd2 o84 o96 o0I b0S (xvi (0 : Int32)) (xvi (0 : Int32)) (xvi o39M) (xvi o39O) (xvi o40E) (xvi o40M) (xvi o40U) (xvi o41C) xun xun) [xwi bx1] t → TG t := by
  have c41G : ∀ t, Sx p e below T40X m 376 (LQ0 p0 p1 p2 p3 p4 ca cb o13 o18 o23 o27 o40 o53 ii0 ii1 ii2 o66 o72 o78 bb dd0 dd1 dd2 o84 o96 o0I b0S (xvi (0 : Int32)) (xvi (0 : Int32)) (xvi o39M) (xvi o39O) (xvi o40E) (xvi o40M) (xvi o40U) (xvi o41C) xun xun) [xwi o40M] t → TG t := fun t k => c41E t (by
   refine y_iload X40X hx 376 (hb B at_374) rfl rfl ?_
   exact k)
  by_cases hc41H : o40M = (0 : Int32)
  ·refine ⟨T40X, h40X, _, (0 : Int32), own_wid X40X (by decide : 18 ≤ 18) (by decide : 135 ≤ 135), e40X, N40X, (Keep.refl h40X []), (Or.inr ⟨rfl, fun q => (own_bo0 p40N hc41H) q.1⟩), fun t k => c41G t ?_⟩
   refine y_ifYes X40X hx 390 (hb B at_376) (XT.i0_eq_t hc41H) rfl rfl <| y_iconst X40X hx (0 : Int32) 391 (hb B at_390) rfl rfl ?_
   exact k
  ·have c41I : ∀ t, Sx p e below T40X m 383 (LQ0 p0 p1 p2 p3 p4 ca cb o13 o18 o23 o27 o40 o53 ii0 ii1 ii2 o66 o72 o78 bb dd0 dd1 dd2 o84 o96 o0I b0S (xvi (0 : Int32)) (xvi (0 : Int32)) (xvi o39M) (xvi o39O) (xvi o40E) (xvi o40M) (xvi o40U) (xvi o41C) xun xun) [xwi dd2, xwi dd0] t → TG t := fun t k => c41G t (by
    refine y_ifNo X40X hx 379 (hb B at_376) (XT.i0_eq_f hc41H) rfl <| y_iload X40X hx 381 (hb B at_379) rfl rfl <| y_iload X40X hx 383 (hb B at_381) rfl rfl ?_
    exact k)
   by_cases hc41J : dd2 < dd0
   ·refine ⟨T40X, h40X, _, (1 : Int32), own_wid X40X (by decide : 18 ≤ 18) (by decide : 135 ≤ 135), e40X, N40X, (Keep.refl h40X []), (Or.inl ⟨rfl, own_bo1 p40N hc41H, own_lt hc41J⟩), fun t k => c41I t ?_⟩
    refine y_icmpNo X40X hx 386 (hb B at_383) (XT.ii_le_f hc41J) rfl <| y_iconst X40X hx (1 : Int32) 387 (hb B at_386) rfl rfl <| y_goto X40X hx 391 (hb B at_387) rfl rfl ?_
    exact k
   ·refine ⟨T40X, h40X, _, (0 : Int32), own_wid X40X (by decide : 18 ≤ 18) (by decide : 135 ≤ 135), e40X, N40X, (Keep.refl h40X []), (Or.inr ⟨rfl, fun q => own_nlt hc41J q.2⟩), fun t k => c41I t ?_⟩
    refine y_icmpYes X40X hx 390 (hb B at_383) (XT.ii_le_t hc41J) rfl rfl <| y_iconst X40X hx (0 : Int32) 391 (hb B at_390) rfl rfl ?_
    exact k
 obtain ⟨T41F, h41F, locs41F, o41K, X41F, e41F, N41F, K41F, p41L, c41F⟩ := j41F
 have c41M : ∀ t, Sx p e below T41F m 393 (LQ0 p0 p1 p2 p3 p4 ca cb o13 o18 o23 o27 o40 o53 ii0 ii1 ii2 o66 o72 o78 bb dd0 dd1 dd2 o84 o96 o0I b0S (xvi (0 : Int32)) (xvi (0 : Int32)) (xvi o39M) (xvi o39O) (xvi o40E) (xvi o40M) (xvi o40U) (xvi o41C) (xvi o41K) xun) [] t → TG t := fun t k => c41F t (by
  refine y_istore X41F hx 393 (hb B at_391) (L' := (LQ0 p0 p1 p2 p3 p4 ca cb o13 o18 o23 o27 o40 o53 ii0 ii1 ii2 o66 o72 o78 bb dd0 dd1 dd2 o84 o96 o0I b0S (xvi (0 : Int32)) (xvi (0 : Int32)) (xvi o39M) (xvi o39O) (xvi o40E) (xvi o40M) (xvi o40U) (xvi o41C) (xvi o41K) xun)) rfl rfl ?_
  exact k)
 have j41N : ∃ (T' : State) (h' : Heap) (locs' : List Loc) (bx2 : Int32), Stand p l e room_1 s m #[(.int p0), (.int p1), (.int p2), (.int p3), (.int p4)] below meth c T' locs' 18 135 ∧ T'.heap = h' ∧ Fr n0 locs' ∧ Keep h41F h' [] ∧ Bo bx2 ((o18.toInt = o23.toInt ∧ ii1.toInt = ii2.toInt) ∧ dd2.toInt < dd1.toInt) ∧ ∀ t, Sx p e below T' m 410 (LQ0 p0 p1 p2 p3 p4 ca cb o13 o18 o23 o27 o40 o53 ii0 ii1 ii2 o66 o72 o78 bb dd0 dd1 dd2 o84 o96 o0I b0S (xvi (0 : Int32)) (xvi (0 : Int32)) (xvi o39M) (xvi o39O) (xvi o40E) (xvi o40M) (xvi o40U) (xvi o41C) (xvi o41K) xun) [xwi bx2] t → TG t := by
  have c41O : ∀ t, Sx p e below T41F m 395 (LQ0 p0 p1 p2 p3 p4 ca cb o13 o18 o23 o27 o40 o53 ii0 ii1 ii2 o66 o72 o78 bb dd0 dd1 dd2 o84 o96 o0I b0S (xvi (0 : Int32)) (xvi (0 : Int32)) (xvi o39M) (xvi o39O) (xvi o40E) (xvi o40M) (xvi o40U) (xvi o41C) (xvi o41K) xun) [xwi o40U] t → TG t := fun t k => c41M t (by
   refine y_iload X41F hx 395 (hb B at_393) rfl rfl ?_
   exact k)
  by_cases hc41P : o40U = (0 : Int32)
  ·refine ⟨T41F, h41F, _, (0 : Int32), own_wid X41F (by decide : 18 ≤ 18) (by decide : 135 ≤ 135), e41F, N41F, (Keep.refl h41F []), (Or.inr ⟨rfl, fun q => (own_bo0 p40V hc41P) q.1⟩), fun t k => c41O t ?_⟩
   refine y_ifYes X41F hx 409 (hb B at_395) (XT.i0_eq_t hc41P) rfl rfl <| y_iconst X41F hx (0 : Int32) 410 (hb B at_409) rfl rfl ?_
   exact k
  ·have c41Q : ∀ t, Sx p e below T41F m 402 (LQ0 p0 p1 p2 p3 p4 ca cb o13 o18 o23 o27 o40 o53 ii0 ii1 ii2 o66 o72 o78 bb dd0 dd1 dd2 o84 o96 o0I b0S (xvi (0 : Int32)) (xvi (0 : Int32)) (xvi o39M) (xvi o39O) (xvi o40E) (xvi o40M) (xvi o40U) (xvi o41C) (xvi o41K) xun) [xwi dd2, xwi dd1] t → TG t := fun t k => c41O t (by
    refine y_ifNo X41F hx 398 (hb B at_395) (XT.i0_eq_f hc41P) rfl <| y_iload X41F hx 400 (hb B at_398) rfl rfl <| y_iload X41F hx 402 (hb B at_400) rfl rfl ?_
    exact k)
   by_cases hc41R : dd2 < dd1
   ·refine ⟨T41F, h41F, _, (1 : Int32), own_wid X41F (by decide : 18 ≤ 18) (by decide : 135 ≤ 135), e41F, N41F, (Keep.refl h41F []), (Or.inl ⟨rfl, own_bo1 p40V hc41P, own_lt hc41R⟩), fun t k => c41Q t ?_⟩
    refine y_icmpNo X41F hx 405 (hb B at_402) (XT.ii_le_f hc41R) rfl <| y_iconst X41F hx (1 : Int32) 406 (hb B at_405) rfl rfl <| y_goto X41F hx 410 (hb B at_406) rfl rfl ?_
    exact k
   ·refine ⟨T41F, h41F, _, (0 : Int32), own_wid X41F (by decide : 18 ≤ 18) (by decide : 135 ≤ 135), e41F, N41F, (Keep.refl h41F []), (Or.inr ⟨rfl, fun q => own_nlt hc41R q.2⟩), fun t k => c41Q t ?_⟩
    refine y_icmpYes X41F hx 409 (hb B at_402) (XT.ii_le_t hc41R) rfl rfl <| y_iconst X41F hx (0 : Int32) 410 (hb B at_409) rfl rfl ?_
    exact k
 obtain ⟨T41N, h41N, locs41N, o41S, X41N, e41N, N41N, K41N, p41T, c41N⟩ := j41N
 have hF := own_fin hR p41D p41L p41T
 have c41U : ∀ t, Sx p e below T41N m 433 (LQ0 p0 p1 p2 p3 p4 ca cb o13 o18 o23 o27 o40 o53 ii0 ii1 ii2 o66 o72 o78 bb dd0 dd1 dd2 o84 o96 o0I b0S (xvi (0 : Int32)) (xvi (0 : Int32)) (xvi o39M) (xvi o39O) (xvi o40E) (xvi o40M) (xvi o40U) (xvi o41C) (xvi o41K) (xvi o41S)) [xwi o41C, xwi o39O] t → TG t := fun t k => c41N t (by
  refine y_istore X41N hx 412 (hb B at_410) (L' := (LQ0 p0 p1 p2 p3 p4 ca cb o13 o18 o23 o27 o40 o53 ii0 ii1 ii2 o66 o72 o78 bb dd0 dd1 dd2 o84 o96 o0I b0S (xvi (0 : Int32)) (xvi (0 : Int32)) (xvi o39M) (xvi o39O) (xvi o40E) (xvi o40M) (xvi o40U) (xvi o41C) (xvi o41K) (xvi o41S))) rfl rfl <| y_iload X41N hx 414 (hb B at_412) rfl rfl <| y_ifNo X41N hx 417 (hb B at_414) (XT.i0_ne_f (by decide)) rfl <| y_iload X41N hx 419 (hb B at_417) rfl rfl <| y_ifNo X41N hx 422 (hb B at_419) (XT.i0_ne_f (by decide)) rfl <| y_iload X41N hx 424 (hb B at_422) rfl rfl <| y_iload X41N hx 426 (hb B at_424) rfl rfl <| y_icmpNo X41N hx 429 (hb B at_426) (XT.ii_ne_f hF.1) rfl <| y_iload X41N hx 431 (hb B at_429) rfl rfl <| y_iload X41N hx 433 (hb B at_431) rfl rfl ?_
  exact k)
 by_cases hc41V : o41C = (0 : Int32)
 ·have c41W : ∀ t, Sx p e below T41N m 438 (LQ0 p0 p1 p2 p3 p4 ca cb o13 o18 o23 o27 o40 o53 ii0 ii1 ii2 o66 o72 o78 bb dd0 dd1 dd2 o84 o96 o0I b0S (xvi (0 : Int32)) (xvi (0 : Int32)) (xvi o39M) (xvi o39O) (xvi o40E) (xvi o40M) (xvi o40U) (xvi o41C) (xvi o41K) (xvi o41S)) [xwi o41K, xwi o39O] t → TG t := fun t k => c41U t (by
   refine y_ifNo X41N hx 436 (hb B at_433) (XT.i0_ne_f hc41V) rfl <| y_iload X41N hx 438 (hb B at_436) rfl rfl ?_
   exact k)
  by_cases hc41X : o41K = (0 : Int32)
  ·have c41Y : ∀ t, Sx p e below T41N m 443 (LQ0 p0 p1 p2 p3 p4 ca cb o13 o18 o23 o27 o40 o53 ii0 ii1 ii2 o66 o72 o78 bb dd0 dd1 dd2 o84 o96 o0I b0S (xvi (0 : Int32)) (xvi (0 : Int32)) (xvi o39M) (xvi o39O) (xvi o40E) (xvi o40M) (xvi o40U) (xvi o41C) (xvi o41K) (xvi o41S)) [xwi o41S, xwi o39O] t → TG t := fun t k => c41W t (by
    refine y_ifNo X41N hx 441 (hb B at_438) (XT.i0_ne_f hc41X) rfl <| y_iload X41N hx 443 (hb B at_441) rfl rfl ?_
    exact k)
   by_cases hc41Z : o41S = (0 : Int32)
   ·obtain ⟨fs, hr, hrun, hended, hW, hsame⟩ := X41N.leave (v := some (.int (1 : Int32))) (own_rv Bd.returns)
    refine ⟨_, _, hTG _ (c41Y _ ?_), hrun, hended, _, _, rfl, ?_, ⟨_, rfl⟩, hW, hsame.mono (by decide) (by decide)⟩
    ·refine y_ifYes X41N hx 450 (hb B at_443) (XT.i0_eq_t hc41Z) rfl rfl <| y_iconst X41N hx (0 : Int32) 451 (hb B at_450) rfl rfl <| y_icmpNo X41N hx 454 (hb B at_451) (XT.ii_ne_f (own_f0 hF.2 hc41V hc41X hc41Z)) rfl <| y_iconst X41N hx (1 : Int32) 455 (hb B at_454) rfl rfl <| y_goto X41N hx 459 (hb B at_455) rfl rfl ?_
     show Sx p e below T41N m 459 (LQ0 p0 p1 p2 p3 p4 ca cb o13 o18 o23 o27 o40 o53 ii0 ii1 ii2 o66 o72 o78 bb dd0 dd1 dd2 o84 o96 o0I b0S (xvi (0 : Int32)) (xvi (0 : Int32)) (xvi o39M) (xvi o39O) (xvi o40E) (xvi o40M) (xvi o40U) (xvi o41C) (xvi o41K) (xvi o41S)) [xwi (1 : Int32)] _
     exact retN X41N hx (t := .boolean) Bd.returns (by simp) (hb B at_459) (hr)
    ·show Qrm0 Z G p0 p1 p2 p3 p4 h0 n0 _ T41N.heap _
     rw [e41N]
     exact ⟨rfl, N41N, ((((((KK39U.trans K39Z all0).trans K40H all0).trans K40P all0).trans K40X all0).trans K41F all0).trans K41N all0)⟩
   ·obtain ⟨fs, hr, hrun, hended, hW, hsame⟩ := X41N.leave (v := some (.int (1 : Int32))) (own_rv Bd.returns)
    refine ⟨_, _, hTG _ (c41Y _ ?_), hrun, hended, _, _, rfl, ?_, ⟨_, rfl⟩, hW, hsame.mono (by decide) (by decide)⟩
    ·refine y_ifNo X41N hx 446 (hb B at_443) (XT.i0_eq_f hc41Z) rfl <| y_iconst X41N hx (1 : Int32) 447 (hb B at_446) rfl rfl <| y_goto X41N hx 451 (hb B at_447) rfl rfl <| y_icmpNo X41N hx 454 (hb B at_451) (XT.ii_ne_f (own_f1 hF.2 (Or.inr (Or.inr hc41Z)))) rfl <| y_iconst X41N hx (1 : Int32) 455 (hb B at_454) rfl rfl <| y_goto X41N hx 459 (hb B at_455) rfl rfl ?_
     show Sx p e below T41N m 459 (LQ0 p0 p1 p2 p3 p4 ca cb o13 o18 o23 o27 o40 o53 ii0 ii1 ii2 o66 o72 o78 bb dd0 dd1 dd2 o84 o96 o0I b0S (xvi (0 : Int32)) (xvi (0 : Int32)) (xvi o39M) (xvi o39O) (xvi o40E) (xvi o40M) (xvi o40U) (xvi o41C) (xvi o41K) (xvi o41S)) [xwi (1 : Int32)] _
     exact retN X41N hx (t := .boolean) Bd.returns (by simp) (hb B at_459) (hr)
    ·show Qrm0 Z G p0 p1 p2 p3 p4 h0 n0 _ T41N.heap _
     rw [e41N]
     exact ⟨rfl, N41N, ((((((KK39U.trans K39Z all0).trans K40H all0).trans K40P all0).trans K40X all0).trans K41F all0).trans K41N all0)⟩
  ·obtain ⟨fs, hr, hrun, hended, hW, hsame⟩ := X41N.leave (v := some (.int (1 : Int32))) (own_rv Bd.returns)
   refine ⟨_, _, hTG _ (c41W _ ?_), hrun, hended, _, _, rfl, ?_, ⟨_, rfl⟩, hW, hsame.mono (by decide) (by decide)⟩
   ·refine y_ifYes X41N hx 446 (hb B at_438) (XT.i0_ne_t hc41X) rfl rfl <| y_iconst X41N hx (1 : Int32) 447 (hb B at_446) rfl rfl <| y_goto X41N hx 451 (hb B at_447) rfl rfl <| y_icmpNo X41N hx 454 (hb B at_451) (XT.ii_ne_f (own_f1 hF.2 (Or.inr (Or.inl hc41X)))) rfl <| y_iconst X41N hx (1 : Int32) 455 (hb B at_454) rfl rfl <| y_goto X41N hx 459 (hb B at_455) rfl rfl ?_
    show Sx p e below T41N m 459 (LQ0 p0 p1 p2 p3 p4 ca cb o13 o18 o23 o27 o40 o53 ii0 ii1 ii2 o66 o72 o78 bb dd0 dd1 dd2 o84 o96 o0I b0S (xvi (0 : Int32)) (xvi (0 : Int32)) (xvi o39M) (xvi o39O) (xvi o40E) (xvi o40M) (xvi o40U) (xvi o41C) (xvi o41K) (xvi o41S)) [xwi (1 : Int32)] _
    exact retN X41N hx (t := .boolean) Bd.returns (by simp) (hb B at_459) (hr)
   ·show Qrm0 Z G p0 p1 p2 p3 p4 h0 n0 _ T41N.heap _
    rw [e41N]
    exact ⟨rfl, N41N, ((((((KK39U.trans K39Z all0).trans K40H all0).trans K40P all0).trans K40X all0).trans K41F all0).trans K41N all0)⟩
 ·obtain ⟨fs, hr, hrun, hended, hW, hsame⟩ := X41N.leave (v := some (.int (1 : Int32))) (own_rv Bd.returns)
  refine ⟨_, _, hTG _ (c41U _ ?_), hrun, hended, _, _, rfl, ?_, ⟨_, rfl⟩, hW, hsame.mono (by decide) (by decide)⟩
  ·refine y_ifYes X41N hx 446 (hb B at_433) (XT.i0_ne_t hc41V) rfl rfl <| y_iconst X41N hx (1 : Int32) 447 (hb B at_446) rfl rfl <| y_goto X41N hx 451 (hb B at_447) rfl rfl <| y_icmpNo X41N hx 454 (hb B at_451) (XT.ii_ne_f (own_f1 hF.2 (Or.inl hc41V))) rfl <| y_iconst X41N hx (1 : Int32) 455 (hb B at_454) rfl rfl <| y_goto X41N hx 459 (hb B at_455) rfl rfl ?_
   show Sx p e below T41N m 459 (LQ0 p0 p1 p2 p3 p4 ca cb o13 o18 o23 o27 o40 o53 ii0 ii1 ii2 o66 o72 o78 bb dd0 dd1 dd2 o84 o96 o0I b0S (xvi (0 : Int32)) (xvi (0 : Int32)) (xvi o39M) (xvi o39O) (xvi o40E) (xvi o40M) (xvi o40U) (xvi o41C) (xvi o41K) (xvi o41S)) [xwi (1 : Int32)] _
   exact retN X41N hx (t := .boolean) Bd.returns (by simp) (hb B at_459) (hr)
  ·show Qrm0 Z G p0 p1 p2 p3 p4 h0 n0 _ T41N.heap _
   rw [e41N]
   exact ⟨rfl, N41N, ((((((KK39U.trans K39Z all0).trans K40H all0).trans K40P all0).trans K40X all0).trans K41F all0).trans K41N all0)⟩
theorem comes_1 {Post : Tables → Env → Array Value → State → Outcome → State → Prop} (hpost : ∀ tb e args s v u, (limb_1_1.after args s (.returned v) u = true ∧ limb_1_2.after args s (.returned v) u = true ∧ True) → FrameEnd s (.returned v) u (Jvm.fieldLocs frame_1_writes args s ++ Jvm.arrayLocs frame_1_arrays args s ++ Jvm.staticLocs frame_1_statics s) 48 384 → Post tb e args s (.returned v) u) :
    ArmFor flags0 classFile x code maxLocals ret World_1 tables_1 room_1 Calls_1 rest_1 Pre_1 Post := by
  intro l hfl _ _ p e ha hc hk s m args below hf hA hF happ hP
  obtain ⟨hcalls, hrest, hpre⟩ := hP
  obtain ⟨-, -, -, hnamed, -, -, -, hat⟩ := (Spec.applies_iff hf).mp happ
  obtain ⟨hg, hn⟩ := and_e (Cond.before_iff.mp (show (Jvm.Cond.and given_1 narrow_1).before args s = true from hpre))
  obtain ⟨hcnt, hg⟩ := and_e hg
  obtain ⟨w0, w1, w2, w3, w4, rfl⟩ : ∃ w0 w1 w2 w3 w4 : Value, args = #[w0, w1, w2, w3, w4] := by
    have hs : args.size = 5 := by simpa [Cond.value, given_1] using hcnt
    obtain ⟨L⟩ := args
    match L, hs with
    | [w0, w1, w2, w3, w4], _ => exact ⟨w0, w1, w2, w3, w4, rfl⟩
  have hw := fun d (hd : d ∈ tables_1) => atoms_spec (ws := Jvm.Cond.code x code maxLocals ret :: tables_1) hat d (List.mem_cons_of_mem _ hd)
  have hfit : Fit s := fun {y c} hc i hi => by
    obtain ⟨ha, rfl⟩ := Array.getElem?_eq_some_iff.mp hc
    have q := List.all_eq_true.mp ((Array.all_eq_true_iff_forall_mem.mp hF) _ (Array.getElem_mem ha)) i (List.mem_range.mpr hi)
    simpa [Array.getElem?_eq_getElem hi] using q
  obtain ⟨hsets, hown0⟩ := atoms_of _ (rest_1_c_eq ▸ (show rest_1_c.before _ s = true from hrest))
  obtain ⟨ga0, gb0⟩ := and_e hg
  obtain ⟨i0, ei0⟩ := is_v ga0
  obtain rfl : w0 = (.int i0) := Option.some.inj ei0
  obtain ⟨ga1, gb1⟩ := and_e gb0
  obtain ⟨i1, ei1⟩ := is_v ga1
  obtain rfl : w1 = (.int i1) := Option.some.inj ei1
  obtain ⟨ga2, gb2⟩ := and_e gb1
  obtain ⟨i2, ei2⟩ := is_v ga2
  obtain rfl : w2 = (.int i2) := Option.some.inj ei2
  obtain ⟨ga3, gb3⟩ := and_e gb2
  obtain ⟨i3, ei3⟩ := is_v ga3
  obtain rfl : w3 = (.int i3) := Option.some.inj ei3
  obtain ⟨i4, ei4⟩ := is_v gb3
  obtain rfl : w4 = (.int i4) := Option.some.inj ei4
  have hs9 := fun (i : Nat) {d : Jvm.Cond} (h : jdkStatics_1[i]? = some d) => hsets d (List.mem_of_getElem? h)
  obtain ⟨nr0, nq0⟩ := and_e hn
  obtain ⟨nr1, nq1⟩ := and_e nq0
  obtain ⟨nr2, nq2⟩ := and_e nq1
  obtain ⟨nr3, nq3⟩ := and_e nq2
  obtain ⟨nr4, nq4⟩ := and_e nq3
  obtain ⟨nr5, nq5⟩ := and_e nq4
  obtain ⟨nr6, nq6⟩ := and_e nq5
  obtain ⟨nr7, nq7⟩ := and_e nq6
  obtain ⟨nr8, nq8⟩ := and_e nq7
  obtain ⟨nr9, nq9⟩ := and_e nq8
  obtain ⟨nr10, nq10⟩ := and_e nq9
  obtain ⟨nr11, nq11⟩ := and_e nq10
  obtain ⟨nr12, nq12⟩ := and_e nq11
  obtain ⟨nr13, nq13⟩ := and_e nq12
  obtain ⟨nr14, nq14⟩ := and_e nq13
  obtain ⟨nr15, nq15⟩ := and_e nq14
  obtain ⟨nr16, nq16⟩ := and_e nq15
  obtain ⟨nr17, nq17⟩ := and_e nq16
  obtain ⟨z0, ez0⟩ := is_v (Cond.before_iff.mp (hs9 1 rfl))
  have O0 : Sta s s.heap "java/lang/String" "COMPACT_STRINGS" "Z" (.int z0) := Sta.start ez0 (Or.inl (hs9 0 rfl))
  have P0 : ¬ z0 = (0 : Int32) := gotF (Cond.eq_ints ez0 (Term.int_eval (0))) (not_v (Cond.before_iff.mp (hs9 2 rfl)))
  obtain ⟨a1, ea1⟩ := exa_v (Cond.before_iff.mp (hs9 15 rfl))
  have O1 : Sta s s.heap "java/time/temporal/ChronoField" "EPOCH_DAY" "Ljava/time/temporal/ChronoField;" (.ref a1) := Sta.start ea1 (Or.inl (hs9 10 rfl))
  have E1 := Exa.start ea1 (Cond.before_iff.mp (hs9 15 rfl))
  have F1_0 : Fld s s.heap a1 "java/lang/Enum" "ordinal" "I" (.int (20 : Int32)) := Fld.start ((fld_at ea1).symm.trans (Cond.eq_int (hs9 17 rfl) rfl))
  obtain ⟨a2, ea2⟩ := exa_v (Cond.before_iff.mp (hs9 31 rfl))
  have F1_1 : Fld s s.heap a1 "java/time/temporal/ChronoField" "range" "Ljava/time/temporal/ValueRange;" (.ref a2) := Fld.start ((fld_at ea1).symm.trans ea2)
  have E2 := Exa.start ea2 (Cond.before_iff.mp (hs9 31 rfl))
  have F2_0 : Fld s s.heap a2 "java/time/temporal/ValueRange" "minSmallest" "J" (.long (-365243219162 : Int64)) := Fld.start ((fld_at ea2).symm.trans (Cond.eq_long (hs9 32 rfl) rfl))
  have F2_1 : Fld s s.heap a2 "java/time/temporal/ValueRange" "minLargest" "J" (.long (-365243219162 : Int64)) := Fld.start ((fld_at ea2).symm.trans (Cond.eq_long (hs9 33 rfl) rfl))
  have F2_2 : Fld s s.heap a2 "java/time/temporal/ValueRange" "maxSmallest" "J" (.long (365241780471 : Int64)) := Fld.start ((fld_at ea2).symm.trans (Cond.eq_long (hs9 34 rfl) rfl))
  have F2_3 : Fld s s.heap a2 "java/time/temporal/ValueRange" "maxLargest" "J" (.long (365241780471 : Int64)) := Fld.start ((fld_at ea2).symm.trans (Cond.eq_long (hs9 35 rfl) rfl))
  have F1_2 : Fld s s.heap a1 "java/time/temporal/ChronoField" "displayNameKey" "Ljava/lang/String;" .null := Fld.start ((fld_at ea1).symm.trans (null_v (Cond.before_iff.mp (hs9 36 rfl))))
  obtain ⟨a3, ea3⟩ := exa_v (Cond.before_iff.mp (hs9 42 rfl))
  have O3 : Sta s s.heap "java/time/chrono/IsoChronology" "INSTANCE" "Ljava/time/chrono/IsoChronology;" (.ref a3) := Sta.start ea3 (Or.inl (hs9 41 rfl))
  have E3 := Exa.start ea3 (Cond.before_iff.mp (hs9 42 rfl))
  have O4 : Sta s s.heap "java/util/BitSet" "$assertionsDisabled" "Z" (.int (1 : Int32)) := Sta.start (Cond.eq_int (hs9 39 rfl) rfl) (Or.inl (hs9 38 rfl))
  have O5 : Sta s s.heap "com/example/planwright/planwright/model/LatestPayDates" "ITEMS" "I" (.int (9 : Int32)) := Sta.start (Cond.eq_int (Cond.before_iff.mpr nr2) rfl) (Or.inr ⟨(w_103 hw), (w_109 hw)⟩)
  obtain ⟨a6, ea6⟩ := exa_v nr1
  have O6 : Sta s s.heap "com/example/planwright/planwright/model/PayItem" "SALARY" "Lcom/example/planwright/planwright/model/PayItem;" (.ref a6) := Sta.start ea6 (Or.inr ⟨(w_31 hw), (w_34 hw)⟩)
  have E6 := Exa.start ea6 nr1
  have F6_0 : Fld s s.heap a6 "java/lang/Enum" "ordinal" "I" (.int (0 : Int32)) := Fld.start ((fld_at ea6).symm.trans (Cond.eq_int (Cond.before_iff.mpr nr4) rfl))
  obtain ⟨a7, ea7⟩ := exa_v nr15
  have O7 : Sta s s.heap "com/example/planwright/planwright/model/PayItem" "OVERTIME" "Lcom/example/planwright/planwright/model/PayItem;" (.ref a7) := Sta.start ea7 (Or.inr ⟨(w_31 hw), (w_302 hw)⟩)
  have E7 := Exa.start ea7 nr15
  have F7_0 : Fld s s.heap a7 "java/lang/Enum" "ordinal" "I" (.int (1 : Int32)) := Fld.start ((fld_at ea7).symm.trans (Cond.eq_int (Cond.before_iff.mpr nr16) rfl))
  obtain ⟨a8, ea8⟩ := exa_v nr7
  have O8 : Sta s s.heap "com/example/planwright/planwright/model/PayItem" "BONUS" "Lcom/example/planwright/planwright/model/PayItem;" (.ref a8) := Sta.start ea8 (Or.inr ⟨(w_31 hw), (w_277 hw)⟩)
  have E8 := Exa.start ea8 nr7
  have F8_0 : Fld s s.heap a8 "java/lang/Enum" "ordinal" "I" (.int (2 : Int32)) := Fld.start ((fld_at ea8).symm.trans (Cond.eq_int (Cond.before_iff.mpr nr9) rfl))
  obtain ⟨a9, ea9⟩ := exa_v nr0
  have O9 : Sta s s.heap "com/example/planwright/planwright/model/PayItem" "COMMISSION" "Lcom/example/planwright/planwright/model/PayItem;" (.ref a9) := Sta.start ea9 (Or.inr ⟨(w_31 hw), (w_32 hw)⟩)
  have E9 := Exa.start ea9 nr0
  have F9_0 : Fld s s.heap a9 "java/lang/Enum" "ordinal" "I" (.int (3 : Int32)) := Fld.start ((fld_at ea9).symm.trans (Cond.eq_int (Cond.before_iff.mpr nr3) rfl))
  obtain ⟨a10, ea10⟩ := exa_v nr5
  have O10 : Sta s s.heap "com/example/planwright/planwright/model/PayItem" "SEVERANCE" "Lcom/example/planwright/planwright/model/PayItem;" (.ref a10) := Sta.start ea10 (Or.inr ⟨(w_31 hw), (w_260 hw)⟩)
  have E10 := Exa.start ea10 nr5
  have F10_0 : Fld s s.heap a10 "java/lang/Enum" "ordinal" "I" (.int (4 : Int32)) := Fld.start ((fld_at ea10).symm.trans (Cond.eq_int (Cond.before_iff.mpr nr6) rfl))
  obtain ⟨a11, ea11⟩ := exa_v nr8
  have O11 : Sta s s.heap "com/example/planwright/planwright/model/PayItem" "MOVING" "Lcom/example/planwright/planwright/model/PayItem;" (.ref a11) := Sta.start ea11 (Or.inr ⟨(w_31 hw), (w_279 hw)⟩)
  have E11 := Exa.start ea11 nr8
  have F11_0 : Fld s s.heap a11 "java/lang/Enum" "ordinal" "I" (.int (5 : Int32)) := Fld.start ((fld_at ea11).symm.trans (Cond.eq_int (Cond.before_iff.mpr nr10) rfl))
  obtain ⟨a12, ea12⟩ := exa_v nr11
  have O12 : Sta s s.heap "com/example/planwright/planwright/model/PayItem" "HOURS" "Lcom/example/planwright/planwright/model/PayItem;" (.ref a12) := Sta.start ea12 (Or.inr ⟨(w_31 hw), (w_298 hw)⟩)
  have E12 := Exa.start ea12 nr11
  have F12_0 : Fld s s.heap a12 "java/lang/Enum" "ordinal" "I" (.int (6 : Int32)) := Fld.start ((fld_at ea12).symm.trans (Cond.eq_int (Cond.before_iff.mpr nr12) rfl))
  obtain ⟨a13, ea13⟩ := exa_v nr13
  have O13 : Sta s s.heap "com/example/planwright/planwright/model/PayItem" "DEFERRAL_401K" "Lcom/example/planwright/planwright/model/PayItem;" (.ref a13) := Sta.start ea13 (Or.inr ⟨(w_31 hw), (w_300 hw)⟩)
  have E13 := Exa.start ea13 nr13
  have F13_0 : Fld s s.heap a13 "java/lang/Enum" "ordinal" "I" (.int (7 : Int32)) := Fld.start ((fld_at ea13).symm.trans (Cond.eq_int (Cond.before_iff.mpr nr14) rfl))
  obtain ⟨a14, ea14⟩ := exa_v nr17
  have O14 : Sta s s.heap "com/example/planwright/planwright/model/PayItem" "DEFERRAL_NQ" "Lcom/example/planwright/planwright/model/PayItem;" (.ref a14) := Sta.start ea14 (Or.inr ⟨(w_31 hw), (w_304 hw)⟩)
  have E14 := Exa.start ea14 nr17
  have F14_0 : Fld s s.heap a14 "java/lang/Enum" "ordinal" "I" (.int (8 : Int32)) := Fld.start ((fld_at ea14).symm.trans (Cond.eq_int (Cond.before_iff.mpr nq17) rfl))
  obtain ⟨G0, eG⟩ : ∃ g : Gs, g = (z0, a1, a2, a3, a6, a7, a8, a9, a10, a11, a12, a13, a14) := ⟨_, rfl⟩
  have ST0 : StartF s G0 := by rw [eG]; exact ⟨O0, P0, O1, E1, F1_0, F1_1, E2, F2_0, F2_1, F2_2, F2_3, F1_2, O3, E3, O4, O5, O6, E6, F6_0, O7, E7, F7_0, O8, E8, F8_0, O9, E9, F9_0, O10, E10, F10_0, O11, E11, F11_0, O12, E12, F12_0, O13, E13, F13_0, O14, E14, F14_0⟩
  obtain ⟨n, o, h1, h2, h3, _, L, rfl, ⟨rfl, N, -⟩, hq⟩ := rm0 l s _ hw G0 ST0 tables_1 i0 i1 i2 i3 i4 s.heap s.heap.size (Old.start s) p e ha hc hk s m _ below hf ((Spec.applies_iff_loose hf).mp happ).1 ⟨rfl, State.Warmed39.refl s, rfl⟩ trivial
  refine ⟨n, _, h1, h2, h3, hpost _ _ _ _ _ _ ⟨Cond.after_iff.mpr rfl, Cond.after_iff.mpr (eq_i res_at (Term.int_eval (1)) rfl), trivial⟩ ⟨hq.1, hq.2.1, (hq.2.2.sift fun y hy => Or.inr (N y hy)).mono (by decide) (by decide)⟩⟩
theorem main_1_1 : Claimed_1_1 := comes_1 fun _ _ _ _ _ _ h hF => ⟨h.1, hF⟩
theorem main_1_2 : Claimed_1_2 := comes_1 fun _ _ _ _ _ _ h hF => ⟨h.2.1, hF⟩
end Jvm.Pilot.@@N@@
namespace Jvm.Pilot.@@N@@
open Jvm Jvm.ClassFile Sem Op Lib Jvm.Free Jvm.Stand Jvm.Pilot.@@N@@.Jvm.D
/-! MADE BY PROGRAM (witnessworld.py) out of the Statement's table words and the real class files: 44 classes; the members and pool entries that the words name. The judged class is class 1, her method 2. -/
namespace start1
open Jvm.ClassFile
def mkc (a b : Nat) (c : ByteArray) : Code := { maxStack := a, maxLocals := b, code := c, exceptionTable := #[], attributes := #[] }
abbrev tz0 : FieldType := .object "java/time/temporal/ChronoField"
abbrev tz1 : FieldType := .object "java/time/temporal/ChronoUnit"
abbrev tz2 : FieldType := .object "com/example/planwright/planwright/model/PayItem"
abbrev tz3 : FieldType := .object "java/lang/String"
def u (s : String) : CpInfo := .utf8 (stringToUtf16 s)
def gap : Nat → List CpInfo → List CpInfo
  | 0, r => r
  | n + 1, r => .unusable :: gap n r
def poolList (es : List (Nat × CpInfo)) (last : Nat) : List CpInfo := es.foldr (fun e r => gap e.1 (e.2 :: r)) (gap last [])
def pool (es : List (Nat × CpInfo)) (last : Nat) : Array CpInfo := ⟨poolList es last⟩
def fileOf (pool : Array CpInfo) (this : Nat) (attrs : Array Attribute := #[]) (ms : Array MethodInfo := #[]) (fl : Nat := 33) (sup : Nat := 0) (ifs : Array Nat := #[]) (fds : Array FieldInfo := #[]) : ClassFile where
  minorVersion := 0
  majorVersion := 65
  constantPool := pool
  accessFlags := fl
  thisClass := this
  superClass := sup
  interfaces := ifs
  fields := fds
  methods := ms
  attributes := attrs
def plain (name : String) (sup : Option ClassId) : Class where
  name := name
  kind := .ordinary
  loader := none
  accessFlags := 33
  super := sup
  interfaces := #[]
  cf := none
  fields := #[]
  methods := #[]
  instanceTypes := #[]
  staticTypes := #[]
  resolved := #[]
  callSites := []
  init := .initialized
  statics := none
  mirror := none

def pool0 : Array CpInfo := pool [(5, u "<init>"), (0, u "()V"), (1, .class_ 10), (1, u "java/lang/Object")] 113

def k0c0 : Code := mkc 0 1 object_method_1_code
def k0m0 : Method := { name := "<init>", desc := "()V", sig := { parameters := [], returnType := none }, accessFlags := 1, code := some k0c0 }
def k0 : Class := { plain "java/lang/Object" none with
  accessFlags := 33
  interfaces := #[]
  cf := some (fileOf pool0 8 #[] #[⟨1, 5, 6, #[]⟩] 33 0 #[] #[])
  fields := #[]
  methods := #[k0m0]
  instanceTypes := #[]
  staticTypes := #[]
  resolved := Array.replicate 124 none
  statics := none }

def pool1 : Array CpInfo := pool [(2, .class_ 4), (1, u "java/lang/Object"), (0, u "<init>"), (0, u "()V"), (0, .fieldref 8 9), (0, .class_ 10), (0, .nameAndType 11 12), (0, u "com/example/planwright/planwright/model/PayItem"), (0, u "SALARY"), (0, u "Lcom/example/planwright/planwright/model/PayItem;"), (0, .fieldref 8 14), (0, .nameAndType 15 12), (0, u "OVERTIME"), (0, .fieldref 8 17), (0, .nameAndType 18 12), (0, u "BONUS"), (0, .fieldref 8 20), (0, .nameAndType 21 12), (0, u "COMMISSION"), (0, .fieldref 8 23), (0, .nameAndType 24 12), (0, u "SEVERANCE"), (0, .fieldref 8 26), (0, .nameAndType 27 12), (0, u "MOVING"), (0, .fieldref 8 29), (0, .nameAndType 30 12), (0, u "HOURS"), (0, .fieldref 8 32), (0, .nameAndType 33 12), (0, u "DEFERRAL_401K"), (0, .fieldref 8 35), (0, .nameAndType 36 12), (0, u "DEFERRAL_NQ"), (0, .methodref 38 39), (0, .class_ 40), (0, .nameAndType 41 42), (0, u "java/lang/String"), (0, u "valueOf"), (0, u "(C)Ljava/lang/String;"), (0, .methodref 44 45), (0, .class_ 46), (0, .nameAndType 47 48), (0, u "com/example/planwright/planwright/model/LatestPayDatesAnyOutOfOrderPinLaw"), (0, u "item"), (0, u "(I)Lcom/example/planwright/planwright/model/PayItem;"), (0, .integer 2097151), (0, .integer 1048576), (0, .methodref 52 53), (0, .class_ 54), (0, .nameAndType 55 56), (0, u "java/time/LocalDate"), (0, u "ofEpochDay"), (0, u "(J)Ljava/time/LocalDate;"), (0, .class_ 58), (0, u "com/example/planwright/planwright/model/LatestPayDates"), (0, .methodref 57 60), (0, .nameAndType 5 61), (0, u "(I)V"), (0, .methodref 57 63), (0, .nameAndType 64 65), (0, u "anyOutOfOrder"), (0, u "()Z"), (0, .methodref 57 67), (0, .nameAndType 68 69), (0, u "add"), (0, u "(Ljava/lang/String;Ljava/time/LocalDate;Lcom/example/planwright/planwright/model/PayItem;)Z"), (3, u "law"), (0, u "(IIIII)Z")] 2

def k1m0 : Method := { name := "<init>", desc := "()V", sig := { parameters := [], returnType := none }, accessFlags := 2, code := none }
def k1c1 : Code := mkc 2 1 method_2_code
def k1m1 : Method := { name := "item", desc := "(I)Lcom/example/planwright/planwright/model/PayItem;", sig := { parameters := [.int], returnType := some tz2 }, accessFlags := 10, code := some k1c1 }
def k1c2 : Code := mkc 5 37 code
def k1m2 : Method := { name := "law", desc := "(IIIII)Z", sig := { parameters := [.int, .int, .int, .int, .int], returnType := some .boolean }, accessFlags := 9, code := some k1c2 }
def k1 : Class := { plain "com/example/planwright/planwright/model/LatestPayDatesAnyOutOfOrderPinLaw" (some 0) with
  accessFlags := 49
  interfaces := #[]
  cf := some (fileOf pool1 44 #[] #[⟨2, 5, 6, #[]⟩, ⟨10, 47, 48, #[]⟩, ⟨9, 73, 74, #[]⟩] 49 2 #[] #[])
  fields := #[]
  methods := #[k1m0, k1m1, k1m2]
  instanceTypes := #[]
  staticTypes := #[]
  resolved := Array.replicate 77 none
  statics := none }

def pool2 : Array CpInfo := pool [(1, .class_ 2), (0, u "java/io/Serializable"), (0, .class_ 4), (0, u "java/lang/Object")] 2

def k2 : Class := { plain "java/io/Serializable" (some 0) with
  accessFlags := 1537
  interfaces := #[]
  cf := some (fileOf pool2 1 #[] #[] 1537 3 #[] #[])
  fields := #[]
  methods := #[]
  instanceTypes := #[]
  staticTypes := #[]
  resolved := Array.replicate 7 none
  statics := none }

def pool3 : Array CpInfo := pool [(1, .class_ 2), (0, u "java/lang/Comparable"), (0, .class_ 4), (0, u "java/lang/Object")] 7

def k3 : Class := { plain "java/lang/Comparable" (some 0) with
  accessFlags := 1537
  interfaces := #[]
  cf := some (fileOf pool3 1 #[] #[] 1537 3 #[] #[])
  fields := #[]
  methods := #[]
  instanceTypes := #[]
  staticTypes := #[]
  resolved := Array.replicate 12 none
  statics := none }

def pool4 : Array CpInfo := pool [(2, .class_ 4), (1, u "java/lang/CharSequence"), (42, .class_ 48), (0, u "java/lang/CharSequence$1CodePointIterator"), (10, .class_ 60), (0, u "java/lang/CharSequence$1CharIterator"), (5, .class_ 67), (0, u "java/lang/Object")] 63

def k4 : Class := { plain "java/lang/CharSequence" (some 0) with
  accessFlags := 1537
  interfaces := #[]
  cf := some (fileOf pool4 2 #[.nestMembers #[47, 59]] #[] 1537 66 #[] #[])
  fields := #[]
  methods := #[]
  instanceTypes := #[]
  staticTypes := #[]
  resolved := Array.replicate 131 none
  statics := none }

def pool5 : Array CpInfo := pool [(1, .class_ 2), (0, u "java/lang/constant/Constable"), (0, .class_ 4), (0, u "java/lang/Object")] 6

def k5 : Class := { plain "java/lang/constant/Constable" (some 0) with
  accessFlags := 1537
  interfaces := #[]
  cf := some (fileOf pool5 1 #[] #[] 1537 3 #[] #[])
  fields := #[]
  methods := #[]
  instanceTypes := #[]
  staticTypes := #[]
  resolved := Array.replicate 11 none
  statics := none }

def pool6 : Array CpInfo := pool [(1, .class_ 2), (0, u "java/lang/constant/ConstantDesc"), (0, .class_ 4), (0, u "java/lang/Object")] 32

def k6 : Class := { plain "java/lang/constant/ConstantDesc" (some 0) with
  accessFlags := 1537
  interfaces := #[]
  cf := some (fileOf pool6 1 #[] #[] 1537 3 #[] #[])
  fields := #[]
  methods := #[]
  instanceTypes := #[]
  staticTypes := #[]
  resolved := Array.replicate 37 none
  statics := none }

def pool7 : Array CpInfo := pool [(1, .methodref 2 3), (0, .class_ 4), (0, .nameAndType 5 6), (0, u "java/lang/Object"), (0, u "<init>"), (0, u "()V"), (2, .fieldref 10 11), (0, .class_ 12), (0, .nameAndType 13 14), (0, u "java/lang/String"), (0, u "value"), (0, u "[B"), (0, .fieldref 10 16), (0, .nameAndType 17 18), (0, u "coder"), (0, u "B"), (0, .fieldref 10 20), (0, .nameAndType 21 22), (0, u "hash"), (0, u "I"), (0, .fieldref 10 24), (0, .nameAndType 25 26), (0, u "hashIsZero"), (0, u "Z"), (11, .fieldref 10 39), (0, .nameAndType 40 26), (0, u "COMPACT_STRINGS"), (12, u "toBytes"), (53, .class_ 109), (1, u "java/lang/StringLatin1"), (32, u "()Z"), (66, .methodref 10 210), (0, .nameAndType 5 211), (0, u "([BB)V"), (122, u "()I"), (34, u "(C)Z"), (122, .methodref 10 493), (0, .nameAndType 494 142), (0, u "isLatin1"), (46, .methodref 107 542), (0, .nameAndType 543 544), (0, u "equals"), (0, u "([B[B)Z"), (28, u "(Ljava/lang/Object;)Z"), (1, .class_ 576), (0, u "java/lang/CharSequence"), (22, u "CASE_INSENSITIVE_ORDER"), (0, u "Ljava/util/Comparator;"), (27, .methodref 107 629), (0, .nameAndType 630 631), (0, u "hashCode"), (0, u "([B)I"), (150, u "valueOf"), (0, u "(C)Ljava/lang/String;"), (231, .methodref 107 1016), (0, .nameAndType 1017 369), (0, u "canEncode"), (0, .methodref 107 1019), (0, .nameAndType 53 1020), (0, u "(C)[B"), (80, u "serialPersistentFields"), (0, u "[Ljava/io/ObjectStreamField;"), (0, .class_ 1104), (0, u "java/lang/String$CaseInsensitiveComparator"), (1, .class_ 1107), (0, u "java/io/Serializable"), (0, .class_ 1109), (0, u "java/lang/Comparable"), (0, .class_ 1111), (0, u "java/lang/constant/Constable"), (0, .class_ 1113), (0, u "java/lang/constant/ConstantDesc"), (2, u "serialVersionUID"), (0, u "J"), (3, u "REPL"), (0, u "C"), (2, u "LATIN1"), (1, u "UTF16")] 323

def k7m0 : Method := { name := "<init>", desc := "()V", sig := { parameters := [], returnType := none }, accessFlags := 1, code := none }
def k7c1 : Code := mkc 2 3 jdk_42_method_66_code
def k7m1 : Method := { name := "equals", desc := "(Ljava/lang/Object;)Z", sig := { parameters := [(.object "java/lang/Object")], returnType := some .boolean }, accessFlags := 1, code := some k7c1 }
def k7c2 : Code := mkc 2 2 jdk_42_method_78_code
def k7m2 : Method := { name := "hashCode", desc := "()I", sig := { parameters := [], returnType := some .int }, accessFlags := 1, code := some k7c2 }
def k7c3 : Code := mkc 4 1 jdk_42_method_139_code
def k7m3 : Method := { name := "valueOf", desc := "(C)Ljava/lang/String;", sig := { parameters := [.char], returnType := some tz3 }, accessFlags := 9, code := some k7c3 }
def k7c4 : Code := mkc 2 3 jdk_42_method_151_code
def k7m4 : Method := { name := "<init>", desc := "([BB)V", sig := { parameters := [(.array .byte), .byte], returnType := none }, accessFlags := 0, code := some k7c4 }
def k7c5 : Code := mkc 1 1 jdk_42_method_154_code
def k7m5 : Method := { name := "isLatin1", desc := "()Z", sig := { parameters := [], returnType := some .boolean }, accessFlags := 0, code := some k7c5 }
def k7 : Class := { plain "java/lang/String" (some 0) with
  accessFlags := 49
  interfaces := #[2, 3, 4, 5, 6]
  cf := some (fileOf pool7 10 #[.nestMembers #[1103]] #[⟨1, 5, 6, #[]⟩, ⟨1, 543, 573, #[]⟩, ⟨1, 630, 334, #[]⟩, ⟨9, 782, 783, #[]⟩, ⟨0, 5, 211, #[]⟩, ⟨0, 494, 142, #[]⟩] 49 2 #[1106, 1108, 575, 1110, 1112] #[⟨18, 13, 14, #[]⟩, ⟨18, 17, 18, #[]⟩, ⟨2, 21, 22, #[]⟩, ⟨2, 25, 26, #[]⟩, ⟨26, 1116, 1117, #[]⟩, ⟨24, 40, 26, #[]⟩, ⟨26, 1101, 1102, #[]⟩, ⟨26, 1121, 1122, #[]⟩, ⟨25, 599, 600, #[]⟩, ⟨24, 1125, 18, #[]⟩, ⟨24, 1127, 18, #[]⟩])
  fields := #[⟨"value", (.array .byte), 18, 0, 0⟩, ⟨"coder", .byte, 18, 1, 0⟩, ⟨"hash", .int, 2, 2, 0⟩, ⟨"hashIsZero", .boolean, 2, 3, 0⟩, ⟨"serialVersionUID", .long, 26, 0, 0⟩, ⟨"COMPACT_STRINGS", .boolean, 24, 1, 0⟩, ⟨"serialPersistentFields", (.array (.object "java/io/ObjectStreamField")), 26, 2, 0⟩, ⟨"REPL", .char, 26, 3, 0⟩, ⟨"CASE_INSENSITIVE_ORDER", (.object "java/util/Comparator"), 25, 4, 0⟩, ⟨"LATIN1", .byte, 24, 5, 0⟩, ⟨"UTF16", .byte, 24, 6, 0⟩]
  methods := #[k7m0, k7m1, k7m2, k7m3, k7m4, k7m5]
  instanceTypes := #[(.array .byte), .byte, .int, .boolean]
  staticTypes := #[.long, .boolean, (.array (.object "java/io/ObjectStreamField")), .char, (.object "java/util/Comparator"), .byte, .byte]
  resolved := Array.replicate 1451 none
  statics := some 0 }

def pool8 : Array CpInfo := pool [(4, .class_ 6), (1, u "java/lang/Object"), (0, u "<init>"), (0, u "()V"), (5, .class_ 16), (1, u "java/lang/StringLatin1"), (40, u "([B)I"), (32, u "canEncode"), (14, u "(C)Z"), (15, u "$assertionsDisabled"), (0, u "Z"), (98, .class_ 223), (1, u "java/lang/StringLatin1$LinesSpliterator"), (57, u "equals"), (0, u "([B[B)Z"), (15, u "hashCode"), (81, u "toBytes"), (1, u "(C)[B"), (7, .class_ 391), (0, u "java/lang/StringLatin1$CharsSpliterator")] 3

def k8m0 : Method := { name := "<init>", desc := "()V", sig := { parameters := [], returnType := none }, accessFlags := 0, code := none }
def k8c1 : Code := mkc 2 1 jdk_43_method_3_code
def k8m1 : Method := { name := "canEncode", desc := "(C)Z", sig := { parameters := [.char], returnType := some .boolean }, accessFlags := 9, code := some k8c1 }
def k8c2 : Code := mkc 3 3 jdk_43_method_13_code
def k8m2 : Method := { name := "equals", desc := "([B[B)Z", sig := { parameters := [(.array .byte), (.array .byte)], returnType := some .boolean }, accessFlags := 9, code := some k8c2 }
def k8c3 : Code := mkc 5 1 jdk_43_method_21_code
def k8m3 : Method := { name := "hashCode", desc := "([B)I", sig := { parameters := [(.array .byte)], returnType := some .int }, accessFlags := 9, code := some k8c3 }
def k8c4 : Code := mkc 4 1 jdk_43_method_46_code
def k8m4 : Method := { name := "toBytes", desc := "(C)[B", sig := { parameters := [.char], returnType := some (.array .byte) }, accessFlags := 9, code := some k8c4 }
def k8 : Class := { plain "java/lang/StringLatin1" (some 0) with
  accessFlags := 48
  interfaces := #[]
  cf := some (fileOf pool8 14 #[.nestMembers #[390, 221]] #[⟨0, 7, 8, #[]⟩, ⟨9, 90, 105, #[]⟩, ⟨9, 281, 282, #[]⟩, ⟨9, 298, 57, #[]⟩, ⟨9, 380, 382, #[]⟩] 48 4 #[] #[⟨4120, 121, 122, #[]⟩])
  fields := #[⟨"$assertionsDisabled", .boolean, 4120, 0, 0⟩]
  methods := #[k8m0, k8m1, k8m2, k8m3, k8m4]
  instanceTypes := #[]
  staticTypes := #[.boolean]
  resolved := Array.replicate 395 none
  statics := none }

def pool9 : Array CpInfo := pool [(2, .class_ 4), (1, u "java/lang/Enum"), (0, u "name"), (0, u "Ljava/lang/String;"), (0, .fieldref 2 8), (0, .nameAndType 9 10), (0, u "ordinal"), (0, u "I"), (1, .class_ 14), (1, u "java/lang/Object"), (4, u "hash"), (86, .class_ 108), (1, u "java/lang/Enum$EnumDesc"), (2, .class_ 112), (0, u "java/lang/constant/Constable"), (0, .class_ 114), (0, u "java/lang/Comparable"), (0, .class_ 116), (0, u "java/io/Serializable"), (9, u "()I")] 77

def k9c0 : Code := mkc 1 1 jdk_37_method_2_code
def k9m0 : Method := { name := "ordinal", desc := "()I", sig := { parameters := [], returnType := some .int }, accessFlags := 17, code := some k9c0 }
def k9 : Class := { plain "java/lang/Enum" (some 0) with
  accessFlags := 1057
  interfaces := #[5, 3, 2]
  cf := some (fileOf pool9 2 #[.nestMembers #[106]] #[⟨17, 9, 126, #[]⟩] 1057 12 #[111, 113, 115] #[⟨18, 5, 6, #[]⟩, ⟨18, 9, 10, #[]⟩, ⟨2, 19, 10, #[]⟩])
  fields := #[⟨"name", tz3, 18, 0, 0⟩, ⟨"ordinal", .int, 18, 1, 0⟩, ⟨"hash", .int, 2, 2, 0⟩]
  methods := #[k9m0]
  instanceTypes := #[tz3, .int, .int]
  staticTypes := #[]
  resolved := Array.replicate 204 none
  statics := none }

def pool10 : Array CpInfo := pool [(21, .class_ 22), (0, u "com/example/planwright/planwright/model/FieldNamed"), (0, .class_ 24), (0, u "java/lang/Object")] 10

def k10 : Class := { plain "com/example/planwright/planwright/model/FieldNamed" (some 0) with
  accessFlags := 1537
  interfaces := #[]
  cf := some (fileOf pool10 21 #[] #[] 1537 23 #[] #[])
  fields := #[]
  methods := #[]
  instanceTypes := #[]
  staticTypes := #[]
  resolved := Array.replicate 35 none
  statics := none }

def pool11 : Array CpInfo := pool [(1, .class_ 2), (0, u "com/example/planwright/planwright/model/PayItem"), (2, u "SALARY"), (0, u "Lcom/example/planwright/planwright/model/PayItem;"), (2, u "OVERTIME"), (2, u "BONUS"), (2, u "COMMISSION"), (2, u "SEVERANCE"), (2, u "MOVING"), (2, u "HOURS"), (2, u "DEFERRAL_401K"), (2, u "DEFERRAL_NQ"), (2, u "$VALUES"), (0, u "[Lcom/example/planwright/planwright/model/PayItem;"), (6, .class_ 43), (1, u "java/lang/Enum"), (8, u "field"), (0, u "Ljava/lang/String;"), (2, u "pay"), (0, u "Z"), (1, .class_ 61), (1, u "com/example/planwright/planwright/model/FieldNamed")] 53

def k11 : Class := { plain "com/example/planwright/planwright/model/PayItem" (some 9) with
  accessFlags := 16433
  interfaces := #[10]
  cf := some (fileOf pool11 1 #[] #[] 16433 41 #[59] #[⟨16409, 5, 6, #[]⟩, ⟨16409, 9, 6, #[]⟩, ⟨16409, 12, 6, #[]⟩, ⟨16409, 15, 6, #[]⟩, ⟨16409, 18, 6, #[]⟩, ⟨16409, 21, 6, #[]⟩, ⟨16409, 24, 6, #[]⟩, ⟨16409, 27, 6, #[]⟩, ⟨16409, 30, 6, #[]⟩, ⟨18, 52, 53, #[]⟩, ⟨18, 56, 57, #[]⟩, ⟨4122, 33, 34, #[]⟩])
  fields := #[⟨"SALARY", tz2, 16409, 0, 0⟩, ⟨"OVERTIME", tz2, 16409, 1, 0⟩, ⟨"BONUS", tz2, 16409, 2, 0⟩, ⟨"COMMISSION", tz2, 16409, 3, 0⟩, ⟨"SEVERANCE", tz2, 16409, 4, 0⟩, ⟨"MOVING", tz2, 16409, 5, 0⟩, ⟨"HOURS", tz2, 16409, 6, 0⟩, ⟨"DEFERRAL_401K", tz2, 16409, 7, 0⟩, ⟨"DEFERRAL_NQ", tz2, 16409, 8, 0⟩, ⟨"field", tz3, 18, 3, 0⟩, ⟨"pay", .boolean, 18, 4, 0⟩, ⟨"$VALUES", (.array tz2), 4122, 9, 0⟩]
  methods := #[]
  instanceTypes := #[tz3, .int, .int, tz3, .boolean]
  staticTypes := #[tz2, tz2, tz2, tz2, tz2, tz2, tz2, tz2, tz2, (.array tz2)]
  resolved := Array.replicate 115 none
  statics := some 1 }

def pool12 : Array CpInfo := pool [(4, .class_ 6), (1, u "java/time/temporal/TemporalAccessor"), (95, .class_ 103), (0, u "java/lang/Object")] 21

def k12 : Class := { plain "java/time/temporal/TemporalAccessor" (some 0) with
  accessFlags := 1537
  interfaces := #[]
  cf := some (fileOf pool12 4 #[] #[] 1537 102 #[] #[])
  fields := #[]
  methods := #[]
  instanceTypes := #[]
  staticTypes := #[]
  resolved := Array.replicate 125 none
  statics := none }

def pool13 : Array CpInfo := pool [(22, .class_ 24), (1, u "java/time/temporal/Temporal"), (2, .class_ 28), (0, u "java/lang/Object"), (0, .class_ 30), (0, u "java/time/temporal/TemporalAccessor")] 25

def k13 : Class := { plain "java/time/temporal/Temporal" (some 0) with
  accessFlags := 1537
  interfaces := #[12]
  cf := some (fileOf pool13 22 #[] #[] 1537 27 #[29] #[])
  fields := #[]
  methods := #[]
  instanceTypes := #[]
  staticTypes := #[]
  resolved := Array.replicate 56 none
  statics := none }

def pool14 : Array CpInfo := pool [(1, .class_ 2), (0, u "java/time/temporal/TemporalAdjuster"), (0, .class_ 4), (0, u "java/lang/Object")] 6

def k14 : Class := { plain "java/time/temporal/TemporalAdjuster" (some 0) with
  accessFlags := 1537
  interfaces := #[]
  cf := some (fileOf pool14 1 #[] #[] 1537 3 #[] #[])
  fields := #[]
  methods := #[]
  instanceTypes := #[]
  staticTypes := #[]
  resolved := Array.replicate 11 none
  statics := none }

def pool15 : Array CpInfo := pool [(9, .class_ 10), (0, u "java/time/chrono/ChronoLocalDate"), (104, .class_ 117), (1, u "java/time/temporal/Temporal"), (134, .class_ 253), (0, u "java/lang/Object"), (23, .class_ 278), (0, u "java/time/temporal/TemporalAdjuster"), (0, .class_ 280), (0, u "java/lang/Comparable")] 86

def k15 : Class := { plain "java/time/chrono/ChronoLocalDate" (some 0) with
  accessFlags := 1537
  interfaces := #[13, 14, 3]
  cf := some (fileOf pool15 9 #[] #[] 1537 252 #[115, 277, 279] #[])
  fields := #[]
  methods := #[]
  instanceTypes := #[]
  staticTypes := #[]
  resolved := Array.replicate 367 none
  statics := none }

def pool16 : Array CpInfo := pool [(1, .class_ 2), (0, u "java/time/LocalDate"), (37, .class_ 42), (1, u "java/time/temporal/ChronoField"), (1, u "Ljava/time/temporal/ChronoField;"), (0, .methodref 40 46), (0, .nameAndType 47 48), (0, u "checkValidValue"), (0, u "(J)J"), (1, u "month"), (19, .fieldref 71 72), (0, .class_ 73), (0, .nameAndType 74 75), (0, u "java/time/chrono/IsoChronology"), (0, u "INSTANCE"), (0, u "Ljava/time/chrono/IsoChronology;"), (0, .methodref 71 77), (0, .nameAndType 78 79), (0, u "isLeapYear"), (0, u "(J)Z"), (5, .nameAndType 86 87), (0, u "<init>"), (0, u "()V"), (33, .methodref 1 122), (0, .nameAndType 86 123), (0, u "(III)V"), (20, u "()J"), (14, u "ofEpochDay"), (0, u "(J)Ljava/time/LocalDate;"), (0, .fieldref 40 162), (0, .nameAndType 163 44), (0, u "EPOCH_DAY"), (0, .long 719528), (1, .long 60), (1, .long 146097), (1, .long 400), (1, .long 591), (1, .long 365), (1, .long 4), (1, .long 100), (64, .methodref 244 85), (0, .class_ 245), (0, u "java/lang/Object"), (0, .fieldref 1 247), (0, .nameAndType 248 249), (0, u "year"), (0, u "I"), (0, .fieldref 1 251), (0, .nameAndType 50 252), (0, u "S"), (0, .fieldref 1 254), (0, .nameAndType 255 252), (0, u "day"), (1, .class_ 259), (1, u "java/time/chrono/ChronoLocalDate"), (8, u "()Z"), (1, .class_ 272), (1, u "java/time/LocalDate$1"), (24, .methodref 1 298), (0, .nameAndType 78 268), (35, u "toEpochDay"), (24, .long 12), (10, .long 3), (9, .class_ 382), (1, u "java/time/temporal/TemporalAdjuster"), (205, u "MAX"), (0, u "Ljava/time/LocalDate;"), (2, u "MIN"), (61, .long 99), (1, .long 399), (1, .long 18446744073709551612), (1, .long 18446744073709551516), (1, .long 18446744073709551216), (1, .long 367), (1, .long 362), (1, .long 2), (100, u "EPOCH"), (0, .class_ 771), (0, u "java/time/temporal/Temporal"), (0, .class_ 773), (0, u "java/io/Serializable"), (0, u "serialVersionUID"), (0, u "J"), (3, u "DAYS_PER_CYCLE"), (1, u "DAYS_0000_TO_1970")] 206

def k16c0 : Code := mkc 8 14 jdk_2323_method_8_code
def k16m0 : Method := { name := "ofEpochDay", desc := "(J)Ljava/time/LocalDate;", sig := { parameters := [.long], returnType := some (.object "java/time/LocalDate") }, accessFlags := 9, code := some k16c0 }
def k16c1 : Code := mkc 2 4 jdk_2323_method_14_code
def k16m1 : Method := { name := "<init>", desc := "(III)V", sig := { parameters := [.int, .int, .int], returnType := none }, accessFlags := 2, code := some k16c1 }
def k16c2 : Code := mkc 3 1 jdk_2323_method_30_code
def k16m2 : Method := { name := "isLeapYear", desc := "()Z", sig := { parameters := [], returnType := some .boolean }, accessFlags := 1, code := some k16c2 }
def k16c3 : Code := mkc 8 7 jdk_2323_method_67_code
def k16m3 : Method := { name := "toEpochDay", desc := "()J", sig := { parameters := [], returnType := some .long }, accessFlags := 1, code := some k16c3 }
def k16 : Class := { plain "java/time/LocalDate" (some 0) with
  accessFlags := 49
  interfaces := #[13, 14, 15, 2]
  cf := some (fileOf pool16 1 #[.nestMembers #[270]] #[⟨9, 159, 160, #[]⟩, ⟨2, 86, 123, #[]⟩, ⟨1, 78, 268, #[]⟩, ⟨1, 334, 144, #[]⟩] 49 244 #[770, 380, 257, 772] #[⟨25, 592, 589, #[]⟩, ⟨25, 588, 589, #[]⟩, ⟨25, 769, 589, #[]⟩, ⟨26, 774, 775, #[]⟩, ⟨26, 779, 249, #[]⟩, ⟨24, 781, 775, #[]⟩, ⟨18, 248, 249, #[]⟩, ⟨18, 50, 252, #[]⟩, ⟨18, 255, 252, #[]⟩])
  fields := #[⟨"MIN", (.object "java/time/LocalDate"), 25, 0, 0⟩, ⟨"MAX", (.object "java/time/LocalDate"), 25, 1, 0⟩, ⟨"EPOCH", (.object "java/time/LocalDate"), 25, 2, 0⟩, ⟨"serialVersionUID", .long, 26, 3, 0⟩, ⟨"DAYS_PER_CYCLE", .int, 26, 4, 0⟩, ⟨"DAYS_0000_TO_1970", .long, 24, 5, 0⟩, ⟨"year", .int, 18, 0, 0⟩, ⟨"month", .short, 18, 1, 0⟩, ⟨"day", .short, 18, 2, 0⟩]
  methods := #[k16m0, k16m1, k16m2, k16m3]
  instanceTypes := #[.int, .short, .short]
  staticTypes := #[(.object "java/time/LocalDate"), (.object "java/time/LocalDate"), (.object "java/time/LocalDate"), .long, .int, .long]
  resolved := Array.replicate 988 none
  statics := none }

def pool17 : Array CpInfo := pool [(10, .class_ 12), (1, u "java/time/temporal/TemporalField"), (2, .class_ 16), (0, u "java/lang/Object")] 39

def k17 : Class := { plain "java/time/temporal/TemporalField" (some 0) with
  accessFlags := 1537
  interfaces := #[]
  cf := some (fileOf pool17 10 #[] #[] 1537 15 #[] #[])
  fields := #[]
  methods := #[]
  instanceTypes := #[]
  staticTypes := #[]
  resolved := Array.replicate 56 none
  statics := none }

def pool18 : Array CpInfo := pool [(1, .class_ 2), (0, u "java/time/temporal/ChronoField"), (2, u "NANO_OF_SECOND"), (0, u "Ljava/time/temporal/ChronoField;"), (2, u "NANO_OF_DAY"), (2, u "MICRO_OF_SECOND"), (2, u "MICRO_OF_DAY"), (2, u "MILLI_OF_SECOND"), (2, u "MILLI_OF_DAY"), (2, u "SECOND_OF_MINUTE"), (2, u "SECOND_OF_DAY"), (2, u "MINUTE_OF_HOUR"), (2, u "MINUTE_OF_DAY"), (2, u "HOUR_OF_AMPM"), (2, u "CLOCK_HOUR_OF_AMPM"), (2, u "HOUR_OF_DAY"), (2, u "CLOCK_HOUR_OF_DAY"), (2, u "AMPM_OF_DAY"), (2, u "DAY_OF_WEEK"), (2, u "ALIGNED_DAY_OF_WEEK_IN_MONTH"), (2, u "ALIGNED_DAY_OF_WEEK_IN_YEAR"), (2, u "DAY_OF_MONTH"), (2, u "DAY_OF_YEAR"), (2, u "EPOCH_DAY"), (2, u "ALIGNED_WEEK_OF_MONTH"), (2, u "ALIGNED_WEEK_OF_YEAR"), (2, u "MONTH_OF_YEAR"), (2, u "PROLEPTIC_MONTH"), (2, u "YEAR_OF_ERA"), (2, u "YEAR"), (2, u "ERA"), (2, u "INSTANT_SECONDS"), (2, u "OFFSET_SECONDS"), (2, u "$VALUES"), (0, u "[Ljava/time/temporal/ChronoField;"), (6, .class_ 106), (1, u "java/lang/Enum"), (8, u "name"), (0, u "Ljava/lang/String;"), (2, u "baseUnit"), (0, u "Ljava/time/temporal/TemporalUnit;"), (2, u "rangeUnit"), (0, .fieldref 1 125), (0, .nameAndType 126 127), (0, u "range"), (0, u "Ljava/time/temporal/ValueRange;"), (2, u "displayNameKey"), (59, .methodref 1 191), (0, .nameAndType 126 192), (0, u "()Ljava/time/temporal/ValueRange;"), (0, .methodref 194 195), (0, .class_ 196), (0, .nameAndType 197 198), (0, u "java/time/temporal/ValueRange"), (0, u "checkValidValue"), (0, u "(JLjava/time/temporal/TemporalField;)J"), (256, .class_ 456), (0, u "java/time/temporal/TemporalField"), (27, u "(J)J")] 22

def k18c0 : Code := mkc 1 1 jdk_2395_method_8_code
def k18m0 : Method := { name := "range", desc := "()Ljava/time/temporal/ValueRange;", sig := { parameters := [], returnType := some (.object "java/time/temporal/ValueRange") }, accessFlags := 1, code := some k18c0 }
def k18c1 : Code := mkc 4 3 jdk_2395_method_11_code
def k18m1 : Method := { name := "checkValidValue", desc := "(J)J", sig := { parameters := [.long], returnType := some .long }, accessFlags := 1, code := some k18c1 }
def k18 : Class := { plain "java/time/temporal/ChronoField" (some 9) with
  accessFlags := 16433
  interfaces := #[17]
  cf := some (fileOf pool18 1 #[] #[⟨1, 126, 192, #[]⟩, ⟨1, 197, 484, #[]⟩] 16433 104 #[455] #[⟨16409, 5, 6, #[]⟩, ⟨16409, 9, 6, #[]⟩, ⟨16409, 12, 6, #[]⟩, ⟨16409, 15, 6, #[]⟩, ⟨16409, 18, 6, #[]⟩, ⟨16409, 21, 6, #[]⟩, ⟨16409, 24, 6, #[]⟩, ⟨16409, 27, 6, #[]⟩, ⟨16409, 30, 6, #[]⟩, ⟨16409, 33, 6, #[]⟩, ⟨16409, 36, 6, #[]⟩, ⟨16409, 39, 6, #[]⟩, ⟨16409, 42, 6, #[]⟩, ⟨16409, 45, 6, #[]⟩, ⟨16409, 48, 6, #[]⟩, ⟨16409, 51, 6, #[]⟩, ⟨16409, 54, 6, #[]⟩, ⟨16409, 57, 6, #[]⟩, ⟨16409, 60, 6, #[]⟩, ⟨16409, 63, 6, #[]⟩, ⟨16409, 66, 6, #[]⟩, ⟨16409, 69, 6, #[]⟩, ⟨16409, 72, 6, #[]⟩, ⟨16409, 75, 6, #[]⟩, ⟨16409, 78, 6, #[]⟩, ⟨16409, 81, 6, #[]⟩, ⟨16409, 84, 6, #[]⟩, ⟨16409, 87, 6, #[]⟩, ⟨16409, 90, 6, #[]⟩, ⟨16409, 93, 6, #[]⟩, ⟨18, 115, 116, #[]⟩, ⟨18, 119, 120, #[]⟩, ⟨18, 123, 120, #[]⟩, ⟨18, 126, 127, #[]⟩, ⟨18, 130, 116, #[]⟩, ⟨4122, 96, 97, #[]⟩])
  fields := #[⟨"NANO_OF_SECOND", tz0, 16409, 0, 0⟩, ⟨"NANO_OF_DAY", tz0, 16409, 1, 0⟩, ⟨"MICRO_OF_SECOND", tz0, 16409, 2, 0⟩, ⟨"MICRO_OF_DAY", tz0, 16409, 3, 0⟩, ⟨"MILLI_OF_SECOND", tz0, 16409, 4, 0⟩, ⟨"MILLI_OF_DAY", tz0, 16409, 5, 0⟩, ⟨"SECOND_OF_MINUTE", tz0, 16409, 6, 0⟩, ⟨"SECOND_OF_DAY", tz0, 16409, 7, 0⟩, ⟨"MINUTE_OF_HOUR", tz0, 16409, 8, 0⟩, ⟨"MINUTE_OF_DAY", tz0, 16409, 9, 0⟩, ⟨"HOUR_OF_AMPM", tz0, 16409, 10, 0⟩, ⟨"CLOCK_HOUR_OF_AMPM", tz0, 16409, 11, 0⟩, ⟨"HOUR_OF_DAY", tz0, 16409, 12, 0⟩, ⟨"CLOCK_HOUR_OF_DAY", tz0, 16409, 13, 0⟩, ⟨"AMPM_OF_DAY", tz0, 16409, 14, 0⟩, ⟨"DAY_OF_WEEK", tz0, 16409, 15, 0⟩, ⟨"ALIGNED_DAY_OF_WEEK_IN_MONTH", tz0, 16409, 16, 0⟩, ⟨"ALIGNED_DAY_OF_WEEK_IN_YEAR", tz0, 16409, 17, 0⟩, ⟨"DAY_OF_MONTH", tz0, 16409, 18, 0⟩, ⟨"DAY_OF_YEAR", tz0, 16409, 19, 0⟩, ⟨"EPOCH_DAY", tz0, 16409, 20, 0⟩, ⟨"ALIGNED_WEEK_OF_MONTH", tz0, 16409, 21, 0⟩, ⟨"ALIGNED_WEEK_OF_YEAR", tz0, 16409, 22, 0⟩, ⟨"MONTH_OF_YEAR", tz0, 16409, 23, 0⟩, ⟨"PROLEPTIC_MONTH", tz0, 16409, 24, 0⟩, ⟨"YEAR_OF_ERA", tz0, 16409, 25, 0⟩, ⟨"YEAR", tz0, 16409, 26, 0⟩, ⟨"ERA", tz0, 16409, 27, 0⟩, ⟨"INSTANT_SECONDS", tz0, 16409, 28, 0⟩, ⟨"OFFSET_SECONDS", tz0, 16409, 29, 0⟩, ⟨"name", tz3, 18, 3, 0⟩, ⟨"baseUnit", (.object "java/time/temporal/TemporalUnit"), 18, 4, 0⟩, ⟨"rangeUnit", (.object "java/time/temporal/TemporalUnit"), 18, 5, 0⟩, ⟨"range", (.object "java/time/temporal/ValueRange"), 18, 6, 0⟩, ⟨"displayNameKey", tz3, 18, 7, 0⟩, ⟨"$VALUES", (.array tz0), 4122, 30, 0⟩]
  methods := #[k18m0, k18m1]
  instanceTypes := #[tz3, .int, .int, tz3, (.object "java/time/temporal/TemporalUnit"), (.object "java/time/temporal/TemporalUnit"), (.object "java/time/temporal/ValueRange"), tz3]
  staticTypes := #[tz0, tz0, tz0, tz0, tz0, tz0, tz0, tz0, tz0, tz0, tz0, tz0, tz0, tz0, tz0, tz0, tz0, tz0, tz0, tz0, tz0, tz0, tz0, tz0, tz0, tz0, tz0, tz0, tz0, tz0, (.array tz0)]
  resolved := Array.replicate 507 none
  statics := some 2 }

def pool19 : Array CpInfo := pool [(9, .class_ 10), (0, u "java/time/temporal/ValueRange"), (18, .class_ 31), (1, u "java/lang/Object"), (1, .fieldref 9 34), (0, .nameAndType 35 36), (0, u "minSmallest"), (0, u "J"), (2, u "minLargest"), (2, u "maxSmallest"), (0, .fieldref 9 44), (0, .nameAndType 45 36), (0, u "maxLargest"), (0, .methodref 9 47), (0, .nameAndType 48 49), (0, u "getMinimum"), (0, u "()J"), (4, .methodref 9 55), (0, .nameAndType 56 49), (0, u "getMaximum"), (6, .methodref 9 64), (0, .nameAndType 65 66), (0, u "isValidValue"), (0, u "(J)Z"), (54, .class_ 122), (0, u "java/io/Serializable"), (0, u "serialVersionUID"), (17, u "checkValidValue"), (0, u "(JLjava/time/temporal/TemporalField;)J")] 24

def k19c0 : Code := mkc 2 1 jdk_2423_method_6_code
def k19m0 : Method := { name := "getMinimum", desc := "()J", sig := { parameters := [], returnType := some .long }, accessFlags := 1, code := some k19c0 }
def k19c1 : Code := mkc 2 1 jdk_2423_method_9_code
def k19m1 : Method := { name := "getMaximum", desc := "()J", sig := { parameters := [], returnType := some .long }, accessFlags := 1, code := some k19c1 }
def k19c2 : Code := mkc 4 3 jdk_2423_method_11_code
def k19m2 : Method := { name := "isValidValue", desc := "(J)Z", sig := { parameters := [.long], returnType := some .boolean }, accessFlags := 1, code := some k19c2 }
def k19c3 : Code := mkc 6 4 jdk_2423_method_13_code
def k19m3 : Method := { name := "checkValidValue", desc := "(JLjava/time/temporal/TemporalField;)J", sig := { parameters := [.long, (.object "java/time/temporal/TemporalField")], returnType := some .long }, accessFlags := 1, code := some k19c3 }
def k19 : Class := { plain "java/time/temporal/ValueRange" (some 0) with
  accessFlags := 49
  interfaces := #[2]
  cf := some (fileOf pool19 9 #[] #[⟨1, 48, 49, #[]⟩, ⟨1, 56, 49, #[]⟩, ⟨1, 65, 66, #[]⟩, ⟨1, 141, 142, #[]⟩] 49 29 #[121] #[⟨26, 123, 36, #[]⟩, ⟨18, 35, 36, #[]⟩, ⟨18, 39, 36, #[]⟩, ⟨18, 42, 36, #[]⟩, ⟨18, 45, 36, #[]⟩])
  fields := #[⟨"serialVersionUID", .long, 26, 0, 0⟩, ⟨"minSmallest", .long, 18, 0, 0⟩, ⟨"minLargest", .long, 18, 1, 0⟩, ⟨"maxSmallest", .long, 18, 2, 0⟩, ⟨"maxLargest", .long, 18, 3, 0⟩]
  methods := #[k19m0, k19m1, k19m2, k19m3]
  instanceTypes := #[.long, .long, .long, .long]
  staticTypes := #[.long]
  resolved := Array.replicate 167 none
  statics := none }

def pool20 : Array CpInfo := pool [(1, .class_ 2), (0, u "java/lang/Integer"), (0, .methodref 4 5), (0, .class_ 6), (0, .nameAndType 7 8), (0, u "java/lang/Object"), (0, u "<init>"), (0, u "()V"), (0, .fieldref 10 11), (0, .class_ 12), (0, .nameAndType 13 14), (0, u "com/example/planwright/planwright/model/LatestPayDates"), (0, u "ITEMS"), (0, u "I"), (0, .class_ 16), (0, u "[I"), (0, .fieldref 10 18), (0, .nameAndType 19 20), (0, u "days"), (0, u "[[I"), (0, .class_ 22), (0, u "java/util/BitSet"), (0, .methodref 21 5), (0, .fieldref 10 25), (0, .nameAndType 26 27), (0, u "outOfOrder"), (0, u "Ljava/util/BitSet;"), (0, .methodref 29 30), (0, .class_ 31), (0, .nameAndType 32 33), (0, u "java/lang/Math"), (0, u "max"), (0, u "(II)I"), (0, .methodref 1 35), (0, .nameAndType 36 37), (0, u "highestOneBit"), (0, u "(I)I"), (0, .class_ 39), (0, u "java/lang/String"), (0, .fieldref 10 41), (0, .nameAndType 42 43), (0, u "participants"), (0, u "[Ljava/lang/String;"), (0, .fieldref 10 45), (0, .nameAndType 46 16), (0, u "numbers"), (0, .methodref 1 48), (0, .nameAndType 49 37), (0, u "numberOfLeadingZeros"), (0, .fieldref 10 51), (0, .nameAndType 52 14), (0, u "shift"), (0, .fieldref 10 54), (0, .nameAndType 55 14), (0, u "most"), (0, .methodref 10 57), (0, .nameAndType 58 59), (0, u "number"), (0, u "(Ljava/lang/String;)I"), (0, .methodref 21 61), (0, .nameAndType 62 63), (0, u "get"), (0, u "(I)Z"), (0, .methodref 10 65), (0, .nameAndType 66 67), (0, u "column"), (0, u "(Lcom/example/planwright/planwright/model/PayItem;)[I"), (0, .methodref 69 70), (0, .class_ 71), (0, .nameAndType 72 73), (0, u "java/time/LocalDate"), (0, u "toEpochDay"), (0, u "()J"), (0, .methodref 29 75), (0, .nameAndType 76 77), (0, u "toIntExact"), (0, u "(J)I"), (0, .methodref 21 79), (0, .nameAndType 80 81), (0, u "set"), (0, u "(I)V"), (0, .methodref 21 83), (0, .nameAndType 84 85), (0, u "isEmpty"), (0, u "()Z"), (0, .methodref 10 87), (0, .nameAndType 88 59), (0, u "slot"), (0, .methodref 90 91), (0, .class_ 92), (0, .nameAndType 93 94), (0, u "com/example/planwright/planwright/model/PayItem"), (0, u "ordinal"), (0, u "()I"), (0, .integer 2147483648), (0, .methodref 97 98), (0, .class_ 99), (0, .nameAndType 100 101), (0, u "java/util/Arrays"), (0, u "fill"), (0, u "([II)V"), (0, .fieldref 10 103), (0, .nameAndType 104 14), (0, u "count"), (0, .methodref 38 106), (0, .nameAndType 107 94), (0, u "hashCode"), (0, .integer 2654435769), (0, .methodref 38 110), (0, .nameAndType 111 112), (0, u "equals"), (0, u "(Ljava/lang/Object;)Z"), (4, u "NONE"), (1, u "SPREAD"), (2, u "add"), (0, u "(Ljava/lang/String;Ljava/time/LocalDate;Lcom/example/planwright/planwright/model/PayItem;)Z"), (1, u "anyOutOfOrder")] 5

def k20c0 : Code := mkc 4 3 prog_54_method_1_code
def k20m0 : Method := { name := "<init>", desc := "(I)V", sig := { parameters := [.int], returnType := none }, accessFlags := 0, code := some k20c0 }
def k20c1 : Code := mkc 3 8 prog_54_method_2_code
def k20m1 : Method := { name := "add", desc := "(Ljava/lang/String;Ljava/time/LocalDate;Lcom/example/planwright/planwright/model/PayItem;)Z", sig := { parameters := [tz3, (.object "java/time/LocalDate"), tz2], returnType := some .boolean }, accessFlags := 0, code := some k20c1 }
def k20c2 : Code := mkc 1 1 prog_54_method_3_code
def k20m2 : Method := { name := "anyOutOfOrder", desc := "()Z", sig := { parameters := [], returnType := some .boolean }, accessFlags := 0, code := some k20c2 }
def k20c3 : Code := mkc 3 3 prog_54_method_5_code
def k20m3 : Method := { name := "column", desc := "(Lcom/example/planwright/planwright/model/PayItem;)[I", sig := { parameters := [tz2], returnType := some (.array .int) }, accessFlags := 2, code := some k20c3 }
def k20c4 : Code := mkc 3 3 prog_54_method_6_code
def k20m4 : Method := { name := "number", desc := "(Ljava/lang/String;)I", sig := { parameters := [tz3], returnType := some .int }, accessFlags := 2, code := some k20c4 }
def k20c5 : Code := mkc 3 3 prog_54_method_7_code
def k20m5 : Method := { name := "slot", desc := "(Ljava/lang/String;)I", sig := { parameters := [tz3], returnType := some .int }, accessFlags := 2, code := some k20c5 }
def k20 : Class := { plain "com/example/planwright/planwright/model/LatestPayDates" (some 0) with
  accessFlags := 48
  interfaces := #[]
  cf := some (fileOf pool20 10 #[] #[⟨0, 7, 81, #[]⟩, ⟨0, 122, 123, #[]⟩, ⟨0, 125, 85, #[]⟩, ⟨2, 66, 67, #[]⟩, ⟨2, 58, 59, #[]⟩, ⟨2, 88, 59, #[]⟩] 48 4 #[] #[⟨26, 13, 14, #[]⟩, ⟨26, 117, 14, #[]⟩, ⟨26, 119, 14, #[]⟩, ⟨18, 42, 43, #[]⟩, ⟨18, 46, 16, #[]⟩, ⟨18, 52, 14, #[]⟩, ⟨18, 19, 20, #[]⟩, ⟨18, 55, 14, #[]⟩, ⟨18, 26, 27, #[]⟩, ⟨2, 104, 14, #[]⟩])
  fields := #[⟨"ITEMS", .int, 26, 0, 0⟩, ⟨"NONE", .int, 26, 1, 0⟩, ⟨"SPREAD", .int, 26, 2, 0⟩, ⟨"participants", (.array tz3), 18, 0, 0⟩, ⟨"numbers", (.array .int), 18, 1, 0⟩, ⟨"shift", .int, 18, 2, 0⟩, ⟨"days", (.array (.array .int)), 18, 3, 0⟩, ⟨"most", .int, 18, 4, 0⟩, ⟨"outOfOrder", (.object "java/util/BitSet"), 18, 5, 0⟩, ⟨"count", .int, 2, 6, 0⟩]
  methods := #[k20m0, k20m1, k20m2, k20m3, k20m4, k20m5]
  instanceTypes := #[(.array tz3), (.array .int), .int, (.array (.array .int)), .int, (.object "java/util/BitSet"), .int]
  staticTypes := #[.int, .int, .int]
  resolved := Array.replicate 131 none
  statics := some 3 }

def pool21 : Array CpInfo := pool [(1, .class_ 2), (0, u "java/lang/Cloneable"), (0, .class_ 4), (0, u "java/lang/Object")] 2

def k21 : Class := { plain "java/lang/Cloneable" (some 0) with
  accessFlags := 1537
  interfaces := #[]
  cf := some (fileOf pool21 1 #[] #[] 1537 3 #[] #[])
  fields := #[]
  methods := #[]
  instanceTypes := #[]
  staticTypes := #[]
  resolved := Array.replicate 7 none
  statics := none }

def pool22 : Array CpInfo := pool [(1, .class_ 2), (0, u "java/util/BitSet"), (0, .fieldref 1 4), (0, .nameAndType 5 6), (0, u "$assertionsDisabled"), (0, u "Z"), (0, .fieldref 1 8), (0, .nameAndType 9 10), (0, u "wordsInUse"), (0, u "I"), (0, .fieldref 1 12), (0, .nameAndType 13 14), (0, u "words"), (0, u "[J"), (3, .nameAndType 19 20), (0, u "<init>"), (0, u "()V"), (0, .methodref 22 18), (0, .class_ 23), (0, u "java/lang/Object"), (0, .fieldref 1 25), (0, .nameAndType 26 6), (0, u "sizeIsSticky"), (0, .methodref 1 28), (0, .nameAndType 29 30), (0, u "initWords"), (0, u "(I)V"), (21, .methodref 1 53), (0, .nameAndType 54 55), (0, u "wordIndex"), (0, u "(I)I"), (0, .methodref 1 57), (0, .nameAndType 58 20), (0, u "checkInvariants"), (21, u "get"), (58, .methodref 1 140), (0, .nameAndType 141 30), (0, u "ensureCapacity"), (13, .methodref 1 156), (0, .nameAndType 157 30), (0, u "expandTo"), (11, u "set"), (99, .class_ 270), (0, u "java/util/BitSet$1BitSetSpliterator"), (14, u "()Z"), (7, u "serialPersistentFields"), (0, u "[Ljava/io/ObjectStreamField;"), (0, .class_ 296), (0, u "java/lang/Cloneable"), (0, .class_ 298), (0, u "java/io/Serializable"), (0, u "ADDRESS_BITS_PER_WORD"), (2, u "BITS_PER_WORD"), (1, u "BIT_INDEX_MASK"), (1, u "WORD_MASK"), (0, u "J"), (0, u "serialVersionUID"), (42, u "(I)Z"), (9, u "isEmpty")] 55

def k22c0 : Code := mkc 2 1 jdk_92_method_1_code
def k22m0 : Method := { name := "wordIndex", desc := "(I)I", sig := { parameters := [.int], returnType := some .int }, accessFlags := 10, code := some k22c0 }
def k22c1 : Code := mkc 4 1 jdk_92_method_2_code
def k22m1 : Method := { name := "checkInvariants", desc := "()V", sig := { parameters := [], returnType := none }, accessFlags := 2, code := some k22c1 }
def k22c2 : Code := mkc 2 1 jdk_92_method_4_code
def k22m2 : Method := { name := "<init>", desc := "()V", sig := { parameters := [], returnType := none }, accessFlags := 1, code := some k22c2 }
def k22c3 : Code := mkc 3 2 jdk_92_method_6_code
def k22m3 : Method := { name := "initWords", desc := "(I)V", sig := { parameters := [.int], returnType := none }, accessFlags := 2, code := some k22c3 }
def k22c4 : Code := mkc 3 3 jdk_92_method_14_code
def k22m4 : Method := { name := "ensureCapacity", desc := "(I)V", sig := { parameters := [.int], returnType := none }, accessFlags := 2, code := some k22c4 }
def k22c5 : Code := mkc 2 3 jdk_92_method_15_code
def k22m5 : Method := { name := "expandTo", desc := "(I)V", sig := { parameters := [.int], returnType := none }, accessFlags := 2, code := some k22c5 }
def k22c6 : Code := mkc 7 3 jdk_92_method_19_code
def k22m6 : Method := { name := "set", desc := "(I)V", sig := { parameters := [.int], returnType := none }, accessFlags := 1, code := some k22c6 }
def k22c7 : Code := mkc 5 3 jdk_92_method_26_code
def k22m7 : Method := { name := "get", desc := "(I)Z", sig := { parameters := [.int], returnType := some .boolean }, accessFlags := 1, code := some k22c7 }
def k22c8 : Code := mkc 1 1 jdk_92_method_33_code
def k22m8 : Method := { name := "isEmpty", desc := "()Z", sig := { parameters := [], returnType := some .boolean }, accessFlags := 1, code := some k22c8 }
def k22 : Class := { plain "java/util/BitSet" (some 0) with
  accessFlags := 33
  interfaces := #[21, 2]
  cf := some (fileOf pool22 1 #[.nestMembers #[269]] #[⟨10, 54, 55, #[]⟩, ⟨2, 58, 20, #[]⟩, ⟨1, 19, 20, #[]⟩, ⟨2, 29, 30, #[]⟩, ⟨2, 141, 30, #[]⟩, ⟨2, 157, 30, #[]⟩, ⟨1, 169, 30, #[]⟩, ⟨1, 80, 351, #[]⟩, ⟨1, 361, 285, #[]⟩] 33 22 #[295, 297] #[⟨26, 299, 10, #[]⟩, ⟨26, 302, 10, #[]⟩, ⟨26, 304, 10, #[]⟩, ⟨26, 306, 307, #[]⟩, ⟨26, 293, 294, #[]⟩, ⟨2, 13, 14, #[]⟩, ⟨130, 9, 10, #[]⟩, ⟨130, 26, 6, #[]⟩, ⟨26, 308, 307, #[]⟩, ⟨4120, 5, 6, #[]⟩])
  fields := #[⟨"ADDRESS_BITS_PER_WORD", .int, 26, 0, 0⟩, ⟨"BITS_PER_WORD", .int, 26, 1, 0⟩, ⟨"BIT_INDEX_MASK", .int, 26, 2, 0⟩, ⟨"WORD_MASK", .long, 26, 3, 0⟩, ⟨"serialPersistentFields", (.array (.object "java/io/ObjectStreamField")), 26, 4, 0⟩, ⟨"words", (.array .long), 2, 0, 0⟩, ⟨"wordsInUse", .int, 130, 1, 0⟩, ⟨"sizeIsSticky", .boolean, 130, 2, 0⟩, ⟨"serialVersionUID", .long, 26, 5, 0⟩, ⟨"$assertionsDisabled", .boolean, 4120, 6, 0⟩]
  methods := #[k22m0, k22m1, k22m2, k22m3, k22m4, k22m5, k22m6, k22m7, k22m8]
  instanceTypes := #[(.array .long), .int, .boolean]
  staticTypes := #[.int, .int, .int, .long, (.array (.object "java/io/ObjectStreamField")), .long, .boolean]
  resolved := Array.replicate 417 none
  statics := some 4 }

def pool23 : Array CpInfo := pool [(1, .class_ 2), (0, u "java/lang/Math"), (1, .class_ 6), (1, u "java/lang/Object"), (0, u "<init>"), (0, u "()V"), (89, .class_ 100), (1, u "java/lang/Math$RandomNumberGeneratorHolder"), (71, u "negativeZeroFloatBits"), (0, u "J"), (2, u "negativeZeroDoubleBits"), (21, u "max"), (46, u "$assertionsDisabled"), (0, u "Z"), (88, u "(II)I"), (2, u "twoToTheDoubleScaleDown"), (0, u "D"), (4, u "twoToTheDoubleScaleUp"), (9, u "E"), (3, u "PI"), (2, u "TAU"), (2, u "DEGREES_TO_RADIANS"), (0, u "RADIANS_TO_DEGREES"), (39, u "toIntExact"), (0, u "(J)I")] 53

def k23m0 : Method := { name := "<init>", desc := "()V", sig := { parameters := [], returnType := none }, accessFlags := 2, code := none }
def k23c1 : Code := mkc 4 2 jdk_29_method_43_code
def k23m1 : Method := { name := "toIntExact", desc := "(J)I", sig := { parameters := [.long], returnType := some .int }, accessFlags := 9, code := some k23c1 }
def k23c2 : Code := mkc 2 2 jdk_29_method_65_code
def k23m2 : Method := { name := "max", desc := "(II)I", sig := { parameters := [.int, .int], returnType := some .int }, accessFlags := 9, code := some k23c2 }
def k23 : Class := { plain "java/lang/Math" (some 0) with
  accessFlags := 49
  interfaces := #[]
  cf := some (fileOf pool23 1 #[.nestMembers #[98]] #[⟨2, 7, 8, #[]⟩, ⟨9, 405, 406, #[]⟩, ⟨9, 198, 335, #[]⟩] 49 4 #[] #[⟨25, 354, 339, #[]⟩, ⟨25, 358, 339, #[]⟩, ⟨25, 361, 339, #[]⟩, ⟨26, 364, 339, #[]⟩, ⟨26, 365, 339, #[]⟩, ⟨26, 172, 173, #[]⟩, ⟨26, 176, 173, #[]⟩, ⟨8, 344, 339, #[]⟩, ⟨8, 338, 339, #[]⟩, ⟨4120, 245, 246, #[]⟩])
  fields := #[⟨"E", .double, 25, 0, 0⟩, ⟨"PI", .double, 25, 1, 0⟩, ⟨"TAU", .double, 25, 2, 0⟩, ⟨"DEGREES_TO_RADIANS", .double, 26, 3, 0⟩, ⟨"RADIANS_TO_DEGREES", .double, 26, 4, 0⟩, ⟨"negativeZeroFloatBits", .long, 26, 5, 0⟩, ⟨"negativeZeroDoubleBits", .long, 26, 6, 0⟩, ⟨"twoToTheDoubleScaleUp", .double, 8, 7, 0⟩, ⟨"twoToTheDoubleScaleDown", .double, 8, 8, 0⟩, ⟨"$assertionsDisabled", .boolean, 4120, 9, 0⟩]
  methods := #[k23m0, k23m1, k23m2]
  instanceTypes := #[]
  staticTypes := #[.double, .double, .double, .double, .double, .long, .long, .double, .double, .boolean]
  resolved := Array.replicate 460 none
  statics := none }

def pool24 : Array CpInfo := pool [(2, .class_ 4), (1, u "java/lang/Object"), (0, u "<init>"), (0, u "()V"), (1, .class_ 10), (1, u "java/lang/Number"), (2, .class_ 14), (0, u "java/io/Serializable"), (0, u "serialVersionUID"), (0, u "J")] 20

def k24m0 : Method := { name := "<init>", desc := "()V", sig := { parameters := [], returnType := none }, accessFlags := 1, code := none }
def k24 : Class := { plain "java/lang/Number" (some 0) with
  accessFlags := 1057
  interfaces := #[2]
  cf := some (fileOf pool24 8 #[] #[⟨1, 5, 6, #[]⟩] 1057 2 #[13] #[⟨26, 15, 16, #[]⟩])
  fields := #[⟨"serialVersionUID", .long, 26, 0, 0⟩]
  methods := #[k24m0]
  instanceTypes := #[]
  staticTypes := #[.long]
  resolved := Array.replicate 37 none
  statics := none }

def pool25 : Array CpInfo := pool [(1, .class_ 2), (0, u "java/lang/Integer"), (16, u "digits"), (0, u "[C"), (30, .methodref 1 52), (0, .nameAndType 53 54), (0, u "numberOfLeadingZeros"), (0, u "(I)I"), (30, u "DigitOnes"), (0, u "[B"), (2, u "DigitTens"), (37, .integer 2147483648), (61, .class_ 190), (0, u "java/lang/Integer$IntegerCache"), (3, u "I"), (8, .class_ 204), (0, u "java/lang/Number"), (2, u "value"), (56, .integer 65536), (37, u "TYPE"), (0, u "Ljava/lang/Class;"), (0, .class_ 305), (0, u "java/lang/Comparable"), (0, .class_ 307), (0, u "java/lang/constant/Constable"), (0, .class_ 309), (0, u "java/lang/constant/ConstantDesc"), (0, u "MIN_VALUE"), (1, u "MAX_VALUE"), (3, u "SIZE"), (1, u "BYTES"), (1, u "serialVersionUID"), (0, u "J"), (81, u "highestOneBit")] 49

def k25c0 : Code := mkc 3 1 jdk_33_method_45_code
def k25m0 : Method := { name := "highestOneBit", desc := "(I)I", sig := { parameters := [.int], returnType := some .int }, accessFlags := 9, code := some k25c0 }
def k25c1 : Code := mkc 3 2 jdk_33_method_47_code
def k25m1 : Method := { name := "numberOfLeadingZeros", desc := "(I)I", sig := { parameters := [.int], returnType := some .int }, accessFlags := 9, code := some k25c1 }
def k25 : Class := { plain "java/lang/Integer" (some 24) with
  accessFlags := 49
  interfaces := #[3, 5, 6]
  cf := some (fileOf pool25 1 #[.nestMembers #[189]] #[⟨9, 403, 54, #[]⟩, ⟨9, 53, 54, #[]⟩] 49 203 #[304, 306, 308] #[⟨25, 310, 194, #[]⟩, ⟨25, 312, 194, #[]⟩, ⟨25, 302, 303, #[]⟩, ⟨24, 19, 20, #[]⟩, ⟨24, 89, 86, #[]⟩, ⟨24, 85, 86, #[]⟩, ⟨18, 207, 194, #[]⟩, ⟨25, 316, 194, #[]⟩, ⟨25, 318, 194, #[]⟩, ⟨26, 320, 321, #[]⟩])
  fields := #[⟨"MIN_VALUE", .int, 25, 0, 0⟩, ⟨"MAX_VALUE", .int, 25, 1, 0⟩, ⟨"TYPE", (.object "java/lang/Class"), 25, 2, 0⟩, ⟨"digits", (.array .char), 24, 3, 0⟩, ⟨"DigitTens", (.array .byte), 24, 4, 0⟩, ⟨"DigitOnes", (.array .byte), 24, 5, 0⟩, ⟨"value", .int, 18, 0, 0⟩, ⟨"SIZE", .int, 25, 6, 0⟩, ⟨"BYTES", .int, 25, 7, 0⟩, ⟨"serialVersionUID", .long, 26, 8, 0⟩]
  methods := #[k25m0, k25m1]
  instanceTypes := #[.int]
  staticTypes := #[.int, .int, (.object "java/lang/Class"), (.array .char), (.array .byte), (.array .byte), .int, .int, .long]
  resolved := Array.replicate 453 none
  statics := none }

def pool26 : Array CpInfo := pool [(2, .class_ 4), (1, u "java/lang/Object"), (0, u "<init>"), (0, u "()V"), (7, .class_ 16), (1, u "java/util/Arrays"), (57, .class_ 76), (1, u "java/util/Arrays$NaturalOrder"), (36, .class_ 115), (1, u "java/util/Arrays$LegacyMergeSort"), (1, u "Z"), (257, .class_ 376), (0, u "java/util/Arrays$ArrayList"), (68, u "$assertionsDisabled"), (269, u "MIN_ARRAY_SORT_GRAN"), (0, u "I"), (2, u "INSERTIONSORT_THRESHOLD"), (120, u "fill"), (4, u "([II)V"), (129, .class_ 976), (0, u "java/util/Arrays$ArrayItr")] 52

def k26m0 : Method := { name := "<init>", desc := "()V", sig := { parameters := [], returnType := none }, accessFlags := 2, code := none }
def k26c1 : Code := mkc 3 4 jdk_65_method_103_code
def k26m1 : Method := { name := "fill", desc := "([II)V", sig := { parameters := [(.array .int), .int], returnType := none }, accessFlags := 9, code := some k26c1 }
def k26 : Class := { plain "java/util/Arrays" (some 0) with
  accessFlags := 49
  interfaces := #[]
  cf := some (fileOf pool26 14 #[.nestMembers #[975, 375, 113, 74]] #[⟨2, 5, 6, #[]⟩, ⟨9, 840, 845, #[]⟩] 49 2 #[] #[⟨26, 715, 716, #[]⟩, ⟨26, 719, 716, #[]⟩, ⟨4120, 445, 117, #[]⟩])
  fields := #[⟨"MIN_ARRAY_SORT_GRAN", .int, 26, 0, 0⟩, ⟨"INSERTIONSORT_THRESHOLD", .int, 26, 1, 0⟩, ⟨"$assertionsDisabled", .boolean, 4120, 2, 0⟩]
  methods := #[k26m0, k26m1]
  instanceTypes := #[]
  staticTypes := #[.int, .int, .boolean]
  resolved := Array.replicate 1029 none
  statics := none }

def pool27 : Array CpInfo := pool [(21, .class_ 22), (0, u "java/time/chrono/Chronology"), (138, .class_ 162), (0, u "java/time/chrono/Chronology$1"), (74, .class_ 238), (0, u "java/lang/Object"), (0, .class_ 240), (0, u "java/lang/Comparable")] 86

def k27 : Class := { plain "java/time/chrono/Chronology" (some 0) with
  accessFlags := 1537
  interfaces := #[3]
  cf := some (fileOf pool27 21 #[.nestMembers #[161]] #[] 1537 237 #[239] #[])
  fields := #[]
  methods := #[]
  instanceTypes := #[]
  staticTypes := #[]
  resolved := Array.replicate 327 none
  statics := none }

def pool28 : Array CpInfo := pool [(2, .class_ 4), (1, u "java/time/chrono/Chronology"), (3, .class_ 10), (1, u "java/time/chrono/AbstractChronology"), (4, u "CHRONOS_BY_ID"), (0, u "Ljava/util/concurrent/ConcurrentHashMap;"), (11, u "CHRONOS_BY_TYPE"), (69, u "<init>"), (0, u "()V"), (71, .class_ 172), (0, u "java/lang/Object")] 383

def k28m0 : Method := { name := "<init>", desc := "()V", sig := { parameters := [], returnType := none }, accessFlags := 4, code := none }
def k28 : Class := { plain "java/time/chrono/AbstractChronology" (some 0) with
  accessFlags := 1057
  interfaces := #[27]
  cf := some (fileOf pool28 8 #[] #[⟨4, 98, 99, #[]⟩] 1057 171 #[2] #[⟨26, 15, 16, #[]⟩, ⟨26, 28, 16, #[]⟩])
  fields := #[⟨"CHRONOS_BY_ID", (.object "java/util/concurrent/ConcurrentHashMap"), 26, 0, 0⟩, ⟨"CHRONOS_BY_TYPE", (.object "java/util/concurrent/ConcurrentHashMap"), 26, 1, 0⟩]
  methods := #[k28m0]
  instanceTypes := #[]
  staticTypes := #[(.object "java/util/concurrent/ConcurrentHashMap"), (.object "java/util/concurrent/ConcurrentHashMap")]
  resolved := Array.replicate 556 none
  statics := none }

def pool29 : Array CpInfo := pool [(2, .class_ 4), (1, u "java/time/chrono/AbstractChronology"), (0, u "<init>"), (0, u "()V"), (5, .class_ 14), (1, u "java/time/chrono/IsoChronology"), (102, .long 3), (5, .long 100), (3, .long 400), (3, u "INSTANCE"), (0, u "Ljava/time/chrono/IsoChronology;"), (2, u "isLeapYear"), (0, u "(J)Z"), (228, .class_ 366), (0, u "java/io/Serializable"), (0, u "serialVersionUID"), (0, u "J"), (3, u "DAYS_0000_TO_1970")] 81

def k29m0 : Method := { name := "<init>", desc := "()V", sig := { parameters := [], returnType := none }, accessFlags := 2, code := none }
def k29c1 : Code := mkc 4 3 jdk_2369_method_18_code
def k29m1 : Method := { name := "isLeapYear", desc := "(J)Z", sig := { parameters := [.long], returnType := some .boolean }, accessFlags := 1, code := some k29c1 }
def k29 : Class := { plain "java/time/chrono/IsoChronology" (some 28) with
  accessFlags := 49
  interfaces := #[2]
  cf := some (fileOf pool29 12 #[] #[⟨2, 5, 6, #[]⟩, ⟨1, 135, 136, #[]⟩] 49 2 #[365] #[⟨25, 131, 132, #[]⟩, ⟨26, 367, 368, #[]⟩, ⟨26, 372, 368, #[]⟩])
  fields := #[⟨"INSTANCE", (.object "java/time/chrono/IsoChronology"), 25, 0, 0⟩, ⟨"serialVersionUID", .long, 26, 1, 0⟩, ⟨"DAYS_0000_TO_1970", .long, 26, 2, 0⟩]
  methods := #[k29m0, k29m1]
  instanceTypes := #[]
  staticTypes := #[(.object "java/time/chrono/IsoChronology"), .long, .long]
  resolved := Array.replicate 454 none
  statics := some 5 }

def pool30 : Array CpInfo := pool [(2, .class_ 4), (1, u "java/lang/Object"), (0, u "<init>"), (0, u "()V"), (17, .class_ 26), (1, u "jdk/internal/util/Preconditions"), (28, .class_ 56), (0, u "jdk/internal/util/Preconditions$4"), (57, .class_ 115), (0, u "jdk/internal/util/Preconditions$1"), (7, u "SIOOBE_FORMATTER"), (0, u "Ljava/util/function/BiFunction;"), (0, .class_ 126), (0, u "jdk/internal/util/Preconditions$2"), (3, u "AIOOBE_FORMATTER"), (0, .class_ 132), (0, u "jdk/internal/util/Preconditions$3"), (3, u "IOOBE_FORMATTER")] 57

def k30m0 : Method := { name := "<init>", desc := "()V", sig := { parameters := [], returnType := none }, accessFlags := 1, code := none }
def k30 : Class := { plain "jdk/internal/util/Preconditions" (some 0) with
  accessFlags := 33
  interfaces := #[]
  cf := some (fileOf pool30 24 #[.nestMembers #[55, 131, 125, 114]] #[⟨1, 5, 6, #[]⟩] 33 2 #[] #[⟨25, 123, 124, #[]⟩, ⟨25, 130, 124, #[]⟩, ⟨25, 136, 124, #[]⟩])
  fields := #[⟨"SIOOBE_FORMATTER", (.object "java/util/function/BiFunction"), 25, 0, 0⟩, ⟨"AIOOBE_FORMATTER", (.object "java/util/function/BiFunction"), 25, 1, 0⟩, ⟨"IOOBE_FORMATTER", (.object "java/util/function/BiFunction"), 25, 2, 0⟩]
  methods := #[k30m0]
  instanceTypes := #[]
  staticTypes := #[(.object "java/util/function/BiFunction"), (.object "java/util/function/BiFunction"), (.object "java/util/function/BiFunction")]
  resolved := Array.replicate 194 none
  statics := some 6 }

def pool31 : Array CpInfo := pool [(9, u "<init>"), (6, .class_ 18), (1, u "java/lang/Object"), (0, u "()V"), (1, .class_ 23), (1, u "jdk/internal/util/ArraysSupport"), (0, u "LOG2_ARRAY_LONG_INDEX_SCALE"), (0, u "I"), (2, u "U"), (0, u "Ljdk/internal/misc/Unsafe;"), (8, u "BIG_ENDIAN"), (0, u "Z"), (8, u "LOG2_BYTE_BIT_SIZE"), (4, u "LOG2_ARRAY_INT_INDEX_SCALE"), (54, u "JLA"), (0, u "Ljdk/internal/access/JavaLangAccess;"), (11, u "LOG2_ARRAY_BOOLEAN_INDEX_SCALE"), (9, u "LOG2_ARRAY_BYTE_INDEX_SCALE"), (5, u "LOG2_ARRAY_CHAR_INDEX_SCALE"), (5, u "LOG2_ARRAY_SHORT_INDEX_SCALE"), (18, u "LOG2_ARRAY_FLOAT_INDEX_SCALE"), (24, u "LOG2_ARRAY_DOUBLE_INDEX_SCALE"), (89, u "T_BOOLEAN"), (2, u "T_CHAR"), (1, u "T_FLOAT"), (1, u "T_DOUBLE"), (1, u "T_BYTE"), (1, u "T_SHORT"), (1, u "T_INT"), (1, u "T_LONG"), (1, u "SOFT_MAX_ARRAY_LENGTH")] 83

def k31m0 : Method := { name := "<init>", desc := "()V", sig := { parameters := [], returnType := none }, accessFlags := 2, code := none }
def k31 : Class := { plain "jdk/internal/util/ArraysSupport" (some 0) with
  accessFlags := 33
  interfaces := #[]
  cf := some (fileOf pool31 21 #[] #[⟨2, 9, 19, #[]⟩] 33 16 #[] #[⟨24, 28, 29, #[]⟩, ⟨26, 38, 39, #[]⟩, ⟨25, 121, 25, #[]⟩, ⟨25, 131, 25, #[]⟩, ⟨25, 137, 25, #[]⟩, ⟨25, 143, 25, #[]⟩, ⟨25, 53, 25, #[]⟩, ⟨25, 24, 25, #[]⟩, ⟨25, 162, 25, #[]⟩, ⟨25, 187, 25, #[]⟩, ⟨26, 48, 25, #[]⟩, ⟨25, 277, 25, #[]⟩, ⟨25, 280, 25, #[]⟩, ⟨25, 282, 25, #[]⟩, ⟨25, 284, 25, #[]⟩, ⟨25, 286, 25, #[]⟩, ⟨25, 288, 25, #[]⟩, ⟨25, 290, 25, #[]⟩, ⟨25, 292, 25, #[]⟩, ⟨26, 108, 109, #[]⟩, ⟨25, 294, 25, #[]⟩])
  fields := #[⟨"U", (.object "jdk/internal/misc/Unsafe"), 24, 0, 0⟩, ⟨"BIG_ENDIAN", .boolean, 26, 1, 0⟩, ⟨"LOG2_ARRAY_BOOLEAN_INDEX_SCALE", .int, 25, 2, 0⟩, ⟨"LOG2_ARRAY_BYTE_INDEX_SCALE", .int, 25, 3, 0⟩, ⟨"LOG2_ARRAY_CHAR_INDEX_SCALE", .int, 25, 4, 0⟩, ⟨"LOG2_ARRAY_SHORT_INDEX_SCALE", .int, 25, 5, 0⟩, ⟨"LOG2_ARRAY_INT_INDEX_SCALE", .int, 25, 6, 0⟩, ⟨"LOG2_ARRAY_LONG_INDEX_SCALE", .int, 25, 7, 0⟩, ⟨"LOG2_ARRAY_FLOAT_INDEX_SCALE", .int, 25, 8, 0⟩, ⟨"LOG2_ARRAY_DOUBLE_INDEX_SCALE", .int, 25, 9, 0⟩, ⟨"LOG2_BYTE_BIT_SIZE", .int, 26, 10, 0⟩, ⟨"T_BOOLEAN", .int, 25, 11, 0⟩, ⟨"T_CHAR", .int, 25, 12, 0⟩, ⟨"T_FLOAT", .int, 25, 13, 0⟩, ⟨"T_DOUBLE", .int, 25, 14, 0⟩, ⟨"T_BYTE", .int, 25, 15, 0⟩, ⟨"T_SHORT", .int, 25, 16, 0⟩, ⟨"T_INT", .int, 25, 17, 0⟩, ⟨"T_LONG", .int, 25, 18, 0⟩, ⟨"JLA", (.object "jdk/internal/access/JavaLangAccess"), 26, 19, 0⟩, ⟨"SOFT_MAX_ARRAY_LENGTH", .int, 25, 20, 0⟩]
  methods := #[k31m0]
  instanceTypes := #[]
  staticTypes := #[(.object "jdk/internal/misc/Unsafe"), .boolean, .int, .int, .int, .int, .int, .int, .int, .int, .int, .int, .int, .int, .int, .int, .int, .int, .int, (.object "jdk/internal/access/JavaLangAccess"), .int]
  resolved := Array.replicate 378 none
  statics := none }

def pool32 : Array CpInfo := pool [(4, .class_ 6), (1, u "java/time/temporal/TemporalUnit"), (23, .class_ 31), (0, u "java/lang/Object")] 27

def k32 : Class := { plain "java/time/temporal/TemporalUnit" (some 0) with
  accessFlags := 1537
  interfaces := #[]
  cf := some (fileOf pool32 4 #[] #[] 1537 30 #[] #[])
  fields := #[]
  methods := #[]
  instanceTypes := #[]
  staticTypes := #[]
  resolved := Array.replicate 59 none
  statics := none }

def pool33 : Array CpInfo := pool [(1, .class_ 2), (0, u "java/time/temporal/ChronoUnit"), (2, u "NANOS"), (0, u "Ljava/time/temporal/ChronoUnit;"), (2, u "MICROS"), (2, u "MILLIS"), (2, u "SECONDS"), (2, u "MINUTES"), (2, u "HOURS"), (2, u "HALF_DAYS"), (2, u "DAYS"), (2, u "WEEKS"), (2, u "MONTHS"), (2, u "YEARS"), (2, u "DECADES"), (2, u "CENTURIES"), (2, u "MILLENNIA"), (2, u "ERAS"), (2, u "FOREVER"), (2, u "$VALUES"), (0, u "[Ljava/time/temporal/ChronoUnit;"), (6, .class_ 64), (1, u "java/lang/Enum"), (8, u "name"), (0, u "Ljava/lang/String;"), (2, u "duration"), (0, u "Ljava/time/Duration;"), (117, .class_ 197), (0, u "java/time/temporal/TemporalUnit")] 39

def k33 : Class := { plain "java/time/temporal/ChronoUnit" (some 9) with
  accessFlags := 16433
  interfaces := #[32]
  cf := some (fileOf pool33 1 #[] #[] 16433 62 #[196] #[⟨16409, 5, 6, #[]⟩, ⟨16409, 9, 6, #[]⟩, ⟨16409, 12, 6, #[]⟩, ⟨16409, 15, 6, #[]⟩, ⟨16409, 18, 6, #[]⟩, ⟨16409, 21, 6, #[]⟩, ⟨16409, 24, 6, #[]⟩, ⟨16409, 27, 6, #[]⟩, ⟨16409, 30, 6, #[]⟩, ⟨16409, 33, 6, #[]⟩, ⟨16409, 36, 6, #[]⟩, ⟨16409, 39, 6, #[]⟩, ⟨16409, 42, 6, #[]⟩, ⟨16409, 45, 6, #[]⟩, ⟨16409, 48, 6, #[]⟩, ⟨16409, 51, 6, #[]⟩, ⟨18, 73, 74, #[]⟩, ⟨18, 77, 78, #[]⟩, ⟨4122, 54, 55, #[]⟩])
  fields := #[⟨"NANOS", tz1, 16409, 0, 0⟩, ⟨"MICROS", tz1, 16409, 1, 0⟩, ⟨"MILLIS", tz1, 16409, 2, 0⟩, ⟨"SECONDS", tz1, 16409, 3, 0⟩, ⟨"MINUTES", tz1, 16409, 4, 0⟩, ⟨"HOURS", tz1, 16409, 5, 0⟩, ⟨"HALF_DAYS", tz1, 16409, 6, 0⟩, ⟨"DAYS", tz1, 16409, 7, 0⟩, ⟨"WEEKS", tz1, 16409, 8, 0⟩, ⟨"MONTHS", tz1, 16409, 9, 0⟩, ⟨"YEARS", tz1, 16409, 10, 0⟩, ⟨"DECADES", tz1, 16409, 11, 0⟩, ⟨"CENTURIES", tz1, 16409, 12, 0⟩, ⟨"MILLENNIA", tz1, 16409, 13, 0⟩, ⟨"ERAS", tz1, 16409, 14, 0⟩, ⟨"FOREVER", tz1, 16409, 15, 0⟩, ⟨"name", tz3, 18, 3, 0⟩, ⟨"duration", (.object "java/time/Duration"), 18, 4, 0⟩, ⟨"$VALUES", (.array tz1), 4122, 16, 0⟩]
  methods := #[]
  instanceTypes := #[tz3, .int, .int, tz3, (.object "java/time/Duration")]
  staticTypes := #[tz1, tz1, tz1, tz1, tz1, tz1, tz1, tz1, tz1, tz1, tz1, tz1, tz1, tz1, tz1, tz1, (.array tz1)]
  resolved := Array.replicate 237 none
  statics := some 7 }

def pool34 : Array CpInfo := pool [(1, .class_ 2), (0, u "java/time/temporal/TemporalAmount"), (0, .class_ 4), (0, u "java/lang/Object")] 11

def k34 : Class := { plain "java/time/temporal/TemporalAmount" (some 0) with
  accessFlags := 1537
  interfaces := #[]
  cf := some (fileOf pool34 1 #[] #[] 1537 3 #[] #[])
  fields := #[]
  methods := #[]
  instanceTypes := #[]
  staticTypes := #[]
  resolved := Array.replicate 16 none
  statics := none }

def pool35 : Array CpInfo := pool [(11, .class_ 13), (1, u "java/time/Duration"), (20, u "ZERO"), (0, u "Ljava/time/Duration;"), (13, .class_ 51), (1, u "java/time/temporal/TemporalAmount"), (27, .class_ 81), (1, u "java/time/Duration$Lazy"), (35, u "seconds"), (101, .class_ 220), (0, u "java/lang/Object"), (2, u "J"), (2, u "nanos"), (0, u "I"), (11, .class_ 241), (1, u "java/time/Duration$DurationUnits"), (27, .class_ 271), (1, u "java/time/Duration$1"), (91, u "BI_NANOS_PER_SECOND"), (0, u "Ljava/math/BigInteger;"), (120, .class_ 486), (0, u "java/lang/Comparable"), (0, .class_ 488), (0, u "java/io/Serializable"), (0, u "serialVersionUID")] 166

def k35 : Class := { plain "java/time/Duration" (some 0) with
  accessFlags := 49
  interfaces := #[34, 3, 2]
  cf := some (fileOf pool35 11 #[.nestMembers #[269, 239, 79]] #[] 49 219 #[49, 485, 487] #[⟨25, 34, 35, #[]⟩, ⟨26, 489, 223, #[]⟩, ⟨26, 363, 364, #[]⟩, ⟨18, 117, 223, #[]⟩, ⟨18, 226, 227, #[]⟩])
  fields := #[⟨"ZERO", (.object "java/time/Duration"), 25, 0, 0⟩, ⟨"serialVersionUID", .long, 26, 1, 0⟩, ⟨"BI_NANOS_PER_SECOND", (.object "java/math/BigInteger"), 26, 2, 0⟩, ⟨"seconds", .long, 18, 0, 0⟩, ⟨"nanos", .int, 18, 1, 0⟩]
  methods := #[]
  instanceTypes := #[.long, .int]
  staticTypes := #[(.object "java/time/Duration"), .long, (.object "java/math/BigInteger")]
  resolved := Array.replicate 656 none
  statics := none }

def k36 : Class := { plain "byte" none with kind := .primitive 'B', accessFlags := 0x411 }
def k37 : Class := { plain "[B" (some 0) with kind := .array 36 .byte, interfaces := #[21, 2], accessFlags := 1041 }

def k38 : Class := { plain "int" none with kind := .primitive 'I', accessFlags := 0x411 }
def k39 : Class := { plain "[I" (some 0) with kind := .array 38 .int, interfaces := #[21, 2], accessFlags := 1041 }

def k40 : Class := { plain "long" none with kind := .primitive 'J', accessFlags := 0x411 }
def k41 : Class := { plain "[J" (some 0) with kind := .array 40 .long, interfaces := #[21, 2], accessFlags := 1041 }

def k42 : Class := { plain "[[I" (some 0) with kind := .array 39 (.array .int), interfaces := #[21, 2], accessFlags := 1041 }

def k43 : Class := { plain "[Ljava/lang/String;" (some 0) with kind := .array 7 tz3, interfaces := #[21, 2], accessFlags := 1041 }

def heap : Heap := #[{ cls := 7, slots := #[.long 0, .int 1, .null, .int 0, .null, .int 0, .int 0], vm := .statics 7 },
  { cls := 11, slots := #[.ref 9, .ref 10, .ref 11, .ref 12, .ref 13, .ref 14, .ref 15, .ref 16, .ref 17, .null], vm := .statics 11 },
  { cls := 18, slots := #[.null, .null, .null, .null, .null, .null, .null, .null, .null, .null, .null, .null, .null, .null, .null, .null, .null, .null, .null, .null, .ref 23, .null, .null, .null, .null, .null, .null, .null, .null, .null, .null], vm := .statics 18 },
  { cls := 20, slots := #[.int 9, .int 0, .int 0], vm := .statics 20 },
  { cls := 22, slots := #[.int 0, .int 0, .int 0, .long 0, .null, .long 0, .int 1], vm := .statics 22 },
  { cls := 29, slots := #[.ref 24, .long 0, .long 0], vm := .statics 29 },
  { cls := 30, slots := #[.null, .null, .null], vm := .statics 30 },
  { cls := 33, slots := #[.null, .null, .null, .null, .null, .null, .null, .ref 20, .null, .null, .null, .null, .null, .null, .null, .ref 21, .null], vm := .statics 33 },
  { cls := 42, slots := #[.null], vm := .none },
  { cls := 11, slots := #[.null, .int 0, .int 0, .null, .int 0], vm := .none },
  { cls := 11, slots := #[.null, .int 1, .int 0, .null, .int 0], vm := .none },
  { cls := 11, slots := #[.null, .int 2, .int 0, .null, .int 0], vm := .none },
  { cls := 11, slots := #[.null, .int 3, .int 0, .null, .int 0], vm := .none },
  { cls := 11, slots := #[.null, .int 4, .int 0, .null, .int 0], vm := .none },
  { cls := 11, slots := #[.null, .int 5, .int 0, .null, .int 0], vm := .none },
  { cls := 11, slots := #[.null, .int 6, .int 0, .null, .int 0], vm := .none },
  { cls := 11, slots := #[.null, .int 7, .int 0, .null, .int 0], vm := .none },
  { cls := 11, slots := #[.null, .int 8, .int 0, .null, .int 0], vm := .none },
  { cls := 7, slots := #[.null, .int 0, .int 0, .int 0], vm := .none },
  { cls := 35, slots := #[.long 0, .int 0], vm := .none },
  { cls := 33, slots := #[.ref 18, .int 7, .int 0, .ref 18, .ref 19], vm := .none },
  { cls := 33, slots := #[.ref 18, .int 15, .int 0, .ref 18, .ref 19], vm := .none },
  { cls := 19, slots := #[.long (-365243219162), .long (-365243219162), .long 365241780471, .long 365241780471], vm := .none },
  { cls := 18, slots := #[.ref 18, .int 20, .int 0, .ref 18, .ref 20, .ref 21, .ref 22, .null], vm := .none },
  { cls := 29, slots := #[], vm := .none }]
def classes : Array Class := #[k0, k1, k2, k3, k4, k5, k6, k7, k8, k9, k10, k11, k12, k13, k14, k15, k16, k17, k18, k19, k20, k21, k22, k23, k24, k25, k26, k27, k28, k29, k30, k31, k32, k33, k34, k35, k36, k37, k38, k39, k40, k41, k42, k43]
def interned : List (Array UInt16 × Addr) := []
def slotsUsed : Nat := 155
def theMethod : MethodId := ⟨1, 2⟩
def args0 : Array Value := #[.int 5, .int 5, .int 5, .int 5, .int 5]
def aboutOver (below : List Frame) : State where
  vm := { classes := classes, interned := interned.toArray }
  heap := heap
  slotsUsed := slotsUsed
  threads := #[{ frames := .invoking theMethod args0 :: below }]
def below0 : List Frame := [.native { method := ⟨0, 0⟩, args := #[] }]
def about1 : State := aboutOver below0
def p0 : Program := .bare "" "" ""
def e0 : Env := launch0.env 0 0 0
theorem w_frames : about1.frames = Frame.invoking theMethod args0 :: below0 := rfl
theorem w_args : argsFit about1.vm theMethod args0 = true := by decide +kernel
theorem w_heap : heapFits about1 = true := by decide +kernel
theorem w_runnable : about1.curStatus? = some .runnable := by decide +kernel
theorem w_alone : about1.alone = true := by decide +kernel
theorem w_named : about1.methodNamed? x = some theMethod := by decide +kernel
theorem w_hears : about1.hears theMethod below0 = true := by decide +kernel
theorem w_ripe : about1.ripe theMethod args0 below0 = true := by decide +kernel
theorem w_running : about1.status = .running := rfl
theorem w_room : about1.hasRoom e0.platform room_1 = true :=
  launch0.hasRoom_least _ room_1 (by decide +kernel) (by decide +kernel) (by decide +kernel) (by decide +kernel) (by decide +kernel) (by decide +kernel)
theorem allAtoms_all (ts : List Jvm.Cond) (a : Array Jvm.Value) (st : Jvm.State) : (allAtoms ts).before a st = ts.all (fun c => c.before a st) := by
  induction ts with
  | nil => rfl
  | cons c t ih =>
    show (Jvm.Cond.and c (allAtoms t)).before a st = _
    rw [Jvm.Cond.before_and, ih, List.all_cons]
def words1 : List Jvm.Cond := Jvm.Cond.code x code maxLocals ret :: tables_1
theorem code_word {y : MethodName} {bytes : ByteArray} {mx : Nat} {rt : Option FieldType} {a : Array Value} {s : State} {m : MethodId} {meth : Method} {c : Code} (h1 : s.methodNamed? y = some m) (h2 : s.vm.method? m = some meth) (h3 : meth.code = some c) (h4 : c.code = bytes)
    (h5 : (c.maxLocals == mx && c.exceptionTable.isEmpty && decide (c.maxStack ≤ mostOperands) && decide (meth.sig.returnType = rt) && !meth.locks && decide (parseMethodDescriptor y.desc = some meth.sig)) = true) : (Jvm.Cond.code y bytes mx rt).before a s = true := by
  simp only [Bool.and_eq_true, beq_iff_eq, Bool.not_eq_true', decide_eq_true_eq] at h5
  obtain ⟨⟨⟨⟨⟨g1, g2⟩, g3⟩, g4⟩, g5⟩, g6⟩ := h5
  simp [Cond.before, Cond.holds, Cond.value, h1, h2, h3, h4, g1, g2, g3, g4, g5, g6]
def isCode : Jvm.Cond → Bool
  | .code _ _ _ _ => true
  | _ => false
theorem all_split {L : List Jvm.Cond} {P : Jvm.Cond → Bool} (h1 : L.all (fun c => isCode c || P c) = true) (h2 : ∀ c ∈ L.filter isCode, P c = true) : L.all P = true := by
  refine List.all_eq_true.mpr fun c hc => ?_
  have h := List.all_eq_true.mp h1 c hc
  rcases Bool.eq_false_or_eq_true (isCode c) with hi | hi
  · exact h2 c (List.mem_filter.mpr ⟨hc, hi⟩)
  · simpa [hi] using h
theorem w_c0 : (Jvm.Cond.code x code maxLocals ret).before args0 about1 = true := code_word (m := ⟨1, 2⟩) (meth := k1m2) (c := k1c2) (by decide +kernel) rfl rfl rfl (by decide +kernel)
theorem w_c1 : (Jvm.Cond.code ({ cls := "java/lang/String", name := "valueOf", desc := "(C)Ljava/lang/String;" } : Jvm.MethodName) jdk_42_method_139_code (1 : Nat) (Option.some (Jvm.ClassFile.FieldType.object "java/lang/String"))).before args0 about1 = true := code_word (m := ⟨7, 3⟩) (meth := k7m3) (c := k7c3) (by decide +kernel) rfl rfl rfl (by decide +kernel)
theorem w_c2 : (Jvm.Cond.code ({ cls := "java/lang/StringLatin1", name := "canEncode", desc := "(C)Z" } : Jvm.MethodName) jdk_43_method_3_code (1 : Nat) (Option.some Jvm.ClassFile.FieldType.boolean)).before args0 about1 = true := code_word (m := ⟨8, 1⟩) (meth := k8m1) (c := k8c1) (by decide +kernel) rfl rfl rfl (by decide +kernel)
theorem w_c3 : (Jvm.Cond.code ({ cls := "java/lang/StringLatin1", name := "toBytes", desc := "(C)[B" } : Jvm.MethodName) jdk_43_method_46_code (1 : Nat) (Option.some (Jvm.ClassFile.FieldType.array Jvm.ClassFile.FieldType.byte))).before args0 about1 = true := code_word (m := ⟨8, 4⟩) (meth := k8m4) (c := k8c4) (by decide +kernel) rfl rfl rfl (by decide +kernel)
theorem w_c4 : (Jvm.Cond.code ({ cls := "java/lang/String", name := "<init>", desc := "([BB)V" } : Jvm.MethodName) jdk_42_method_151_code (3 : Nat) (Option.none : Option Jvm.ClassFile.FieldType)).before args0 about1 = true := code_word (m := ⟨7, 4⟩) (meth := k7m4) (c := k7c4) (by decide +kernel) rfl rfl rfl (by decide +kernel)
theorem w_c5 : (Jvm.Cond.code ({ cls := "java/lang/Object", name := "<init>", desc := "()V" } : Jvm.MethodName) object_method_1_code (1 : Nat) (Option.none : Option Jvm.ClassFile.FieldType)).before args0 about1 = true := code_word (m := ⟨0, 0⟩) (meth := k0m0) (c := k0c0) (by decide +kernel) rfl rfl rfl (by decide +kernel)
theorem w_c6 : (Jvm.Cond.code ({ cls := "com/example/planwright/planwright/model/LatestPayDatesAnyOutOfOrderPinLaw", name := "item", desc := "(I)Lcom/example/planwright/planwright/model/PayItem;" } : Jvm.MethodName) method_2_code (1 : Nat) (Option.some (Jvm.ClassFile.FieldType.object "com/example/planwright/planwright/model/PayItem"))).before args0 about1 = true := code_word (m := ⟨1, 1⟩) (meth := k1m1) (c := k1c1) (by decide +kernel) rfl rfl rfl (by decide +kernel)
theorem w_c7 : (Jvm.Cond.code ({ cls := "java/time/LocalDate", name := "ofEpochDay", desc := "(J)Ljava/time/LocalDate;" } : Jvm.MethodName) jdk_2323_method_8_code (14 : Nat) (Option.some (Jvm.ClassFile.FieldType.object "java/time/LocalDate"))).before args0 about1 = true := code_word (m := ⟨16, 0⟩) (meth := k16m0) (c := k16c0) (by decide +kernel) rfl rfl rfl (by decide +kernel)
theorem w_c8 : (Jvm.Cond.code ({ cls := "java/time/temporal/ChronoField", name := "checkValidValue", desc := "(J)J" } : Jvm.MethodName) jdk_2395_method_11_code (3 : Nat) (Option.some Jvm.ClassFile.FieldType.long)).before args0 about1 = true := code_word (m := ⟨18, 1⟩) (meth := k18m1) (c := k18c1) (by decide +kernel) rfl rfl rfl (by decide +kernel)
theorem w_c9 : (Jvm.Cond.code ({ cls := "java/time/temporal/ChronoField", name := "range", desc := "()Ljava/time/temporal/ValueRange;" } : Jvm.MethodName) jdk_2395_method_8_code (1 : Nat) (Option.some (Jvm.ClassFile.FieldType.object "java/time/temporal/ValueRange"))).before args0 about1 = true := code_word (m := ⟨18, 0⟩) (meth := k18m0) (c := k18c0) (by decide +kernel) rfl rfl rfl (by decide +kernel)
theorem w_c10 : (Jvm.Cond.code ({ cls := "java/time/temporal/ValueRange", name := "checkValidValue", desc := "(JLjava/time/temporal/TemporalField;)J" } : Jvm.MethodName) jdk_2423_method_13_code (4 : Nat) (Option.some Jvm.ClassFile.FieldType.long)).before args0 about1 = true := code_word (m := ⟨19, 3⟩) (meth := k19m3) (c := k19c3) (by decide +kernel) rfl rfl rfl (by decide +kernel)
theorem w_c11 : (Jvm.Cond.code ({ cls := "java/time/temporal/ValueRange", name := "isValidValue", desc := "(J)Z" } : Jvm.MethodName) jdk_2423_method_11_code (3 : Nat) (Option.some Jvm.ClassFile.FieldType.boolean)).before args0 about1 = true := code_word (m := ⟨19, 2⟩) (meth := k19m2) (c := k19c2) (by decide +kernel) rfl rfl rfl (by decide +kernel)
theorem w_c12 : (Jvm.Cond.code ({ cls := "java/time/temporal/ValueRange", name := "getMinimum", desc := "()J" } : Jvm.MethodName) jdk_2423_method_6_code (1 : Nat) (Option.some Jvm.ClassFile.FieldType.long)).before args0 about1 = true := code_word (m := ⟨19, 0⟩) (meth := k19m0) (c := k19c0) (by decide +kernel) rfl rfl rfl (by decide +kernel)
theorem w_c13 : (Jvm.Cond.code ({ cls := "java/time/temporal/ValueRange", name := "getMaximum", desc := "()J" } : Jvm.MethodName) jdk_2423_method_9_code (1 : Nat) (Option.some Jvm.ClassFile.FieldType.long)).before args0 about1 = true := code_word (m := ⟨19, 1⟩) (meth := k19m1) (c := k19c1) (by decide +kernel) rfl rfl rfl (by decide +kernel)
theorem w_c14 : (Jvm.Cond.code ({ cls := "java/time/LocalDate", name := "<init>", desc := "(III)V" } : Jvm.MethodName) jdk_2323_method_14_code (4 : Nat) (Option.none : Option Jvm.ClassFile.FieldType)).before args0 about1 = true := code_word (m := ⟨16, 1⟩) (meth := k16m1) (c := k16c1) (by decide +kernel) rfl rfl rfl (by decide +kernel)
theorem w_c15 : (Jvm.Cond.code ({ cls := "com/example/planwright/planwright/model/LatestPayDates", name := "<init>", desc := "(I)V" } : Jvm.MethodName) prog_54_method_1_code (3 : Nat) (Option.none : Option Jvm.ClassFile.FieldType)).before args0 about1 = true := code_word (m := ⟨20, 0⟩) (meth := k20m0) (c := k20c0) (by decide +kernel) rfl rfl rfl (by decide +kernel)
theorem w_c16 : (Jvm.Cond.code ({ cls := "java/util/BitSet", name := "<init>", desc := "()V" } : Jvm.MethodName) jdk_92_method_4_code (1 : Nat) (Option.none : Option Jvm.ClassFile.FieldType)).before args0 about1 = true := code_word (m := ⟨22, 2⟩) (meth := k22m2) (c := k22c2) (by decide +kernel) rfl rfl rfl (by decide +kernel)
theorem w_c17 : (Jvm.Cond.code ({ cls := "java/util/BitSet", name := "initWords", desc := "(I)V" } : Jvm.MethodName) jdk_92_method_6_code (2 : Nat) (Option.none : Option Jvm.ClassFile.FieldType)).before args0 about1 = true := code_word (m := ⟨22, 3⟩) (meth := k22m3) (c := k22c3) (by decide +kernel) rfl rfl rfl (by decide +kernel)
theorem w_c18 : (Jvm.Cond.code ({ cls := "java/util/BitSet", name := "wordIndex", desc := "(I)I" } : Jvm.MethodName) jdk_92_method_1_code (1 : Nat) (Option.some Jvm.ClassFile.FieldType.int)).before args0 about1 = true := code_word (m := ⟨22, 0⟩) (meth := k22m0) (c := k22c0) (by decide +kernel) rfl rfl rfl (by decide +kernel)
theorem w_c19 : (Jvm.Cond.code ({ cls := "java/lang/Math", name := "max", desc := "(II)I" } : Jvm.MethodName) jdk_29_method_65_code (2 : Nat) (Option.some Jvm.ClassFile.FieldType.int)).before args0 about1 = true := code_word (m := ⟨23, 2⟩) (meth := k23m2) (c := k23c2) (by decide +kernel) rfl rfl rfl (by decide +kernel)
theorem w_c20 : (Jvm.Cond.code ({ cls := "java/lang/Integer", name := "highestOneBit", desc := "(I)I" } : Jvm.MethodName) jdk_33_method_45_code (1 : Nat) (Option.some Jvm.ClassFile.FieldType.int)).before args0 about1 = true := code_word (m := ⟨25, 0⟩) (meth := k25m0) (c := k25c0) (by decide +kernel) rfl rfl rfl (by decide +kernel)
theorem w_c21 : (Jvm.Cond.code ({ cls := "java/lang/Integer", name := "numberOfLeadingZeros", desc := "(I)I" } : Jvm.MethodName) jdk_33_method_47_code (2 : Nat) (Option.some Jvm.ClassFile.FieldType.int)).before args0 about1 = true := code_word (m := ⟨25, 1⟩) (meth := k25m1) (c := k25c1) (by decide +kernel) rfl rfl rfl (by decide +kernel)
theorem w_c22 : (Jvm.Cond.code ({ cls := "com/example/planwright/planwright/model/LatestPayDates", name := "anyOutOfOrder", desc := "()Z" } : Jvm.MethodName) prog_54_method_3_code (1 : Nat) (Option.some Jvm.ClassFile.FieldType.boolean)).before args0 about1 = true := code_word (m := ⟨20, 2⟩) (meth := k20m2) (c := k20c2) (by decide +kernel) rfl rfl rfl (by decide +kernel)
theorem w_c23 : (Jvm.Cond.code ({ cls := "java/util/BitSet", name := "isEmpty", desc := "()Z" } : Jvm.MethodName) jdk_92_method_33_code (1 : Nat) (Option.some Jvm.ClassFile.FieldType.boolean)).before args0 about1 = true := code_word (m := ⟨22, 8⟩) (meth := k22m8) (c := k22c8) (by decide +kernel) rfl rfl rfl (by decide +kernel)
theorem w_c24 : (Jvm.Cond.code ({ cls := "com/example/planwright/planwright/model/LatestPayDates", name := "add", desc := "(Ljava/lang/String;Ljava/time/LocalDate;Lcom/example/planwright/planwright/model/PayItem;)Z" } : Jvm.MethodName) prog_54_method_2_code (8 : Nat) (Option.some Jvm.ClassFile.FieldType.boolean)).before args0 about1 = true := code_word (m := ⟨20, 1⟩) (meth := k20m1) (c := k20c1) (by decide +kernel) rfl rfl rfl (by decide +kernel)
theorem w_c25 : (Jvm.Cond.code ({ cls := "com/example/planwright/planwright/model/LatestPayDates", name := "number", desc := "(Ljava/lang/String;)I" } : Jvm.MethodName) prog_54_method_6_code (3 : Nat) (Option.some Jvm.ClassFile.FieldType.int)).before args0 about1 = true := code_word (m := ⟨20, 4⟩) (meth := k20m4) (c := k20c4) (by decide +kernel) rfl rfl rfl (by decide +kernel)
theorem w_c26 : (Jvm.Cond.code ({ cls := "com/example/planwright/planwright/model/LatestPayDates", name := "slot", desc := "(Ljava/lang/String;)I" } : Jvm.MethodName) prog_54_method_7_code (3 : Nat) (Option.some Jvm.ClassFile.FieldType.int)).before args0 about1 = true := code_word (m := ⟨20, 5⟩) (meth := k20m5) (c := k20c5) (by decide +kernel) rfl rfl rfl (by decide +kernel)
theorem w_c27 : (Jvm.Cond.code ({ cls := "java/lang/String", name := "hashCode", desc := "()I" } : Jvm.MethodName) jdk_42_method_78_code (2 : Nat) (Option.some Jvm.ClassFile.FieldType.int)).before args0 about1 = true := code_word (m := ⟨7, 2⟩) (meth := k7m2) (c := k7c2) (by decide +kernel) rfl rfl rfl (by decide +kernel)
theorem w_c28 : (Jvm.Cond.code ({ cls := "java/lang/String", name := "isLatin1", desc := "()Z" } : Jvm.MethodName) jdk_42_method_154_code (1 : Nat) (Option.some Jvm.ClassFile.FieldType.boolean)).before args0 about1 = true := code_word (m := ⟨7, 5⟩) (meth := k7m5) (c := k7c5) (by decide +kernel) rfl rfl rfl (by decide +kernel)
theorem w_c29 : (Jvm.Cond.code ({ cls := "java/lang/StringLatin1", name := "hashCode", desc := "([B)I" } : Jvm.MethodName) jdk_43_method_21_code (1 : Nat) (Option.some Jvm.ClassFile.FieldType.int)).before args0 about1 = true := code_word (m := ⟨8, 3⟩) (meth := k8m3) (c := k8c3) (by decide +kernel) rfl rfl rfl (by decide +kernel)
theorem w_c30 : (Jvm.Cond.code ({ cls := "java/util/BitSet", name := "get", desc := "(I)Z" } : Jvm.MethodName) jdk_92_method_26_code (3 : Nat) (Option.some Jvm.ClassFile.FieldType.boolean)).before args0 about1 = true := code_word (m := ⟨22, 7⟩) (meth := k22m7) (c := k22c7) (by decide +kernel) rfl rfl rfl (by decide +kernel)
theorem w_c31 : (Jvm.Cond.code ({ cls := "java/util/BitSet", name := "checkInvariants", desc := "()V" } : Jvm.MethodName) jdk_92_method_2_code (1 : Nat) (Option.none : Option Jvm.ClassFile.FieldType)).before args0 about1 = true := code_word (m := ⟨22, 1⟩) (meth := k22m1) (c := k22c1) (by decide +kernel) rfl rfl rfl (by decide +kernel)
theorem w_c32 : (Jvm.Cond.code ({ cls := "com/example/planwright/planwright/model/LatestPayDates", name := "column", desc := "(Lcom/example/planwright/planwright/model/PayItem;)[I" } : Jvm.MethodName) prog_54_method_5_code (3 : Nat) (Option.some (Jvm.ClassFile.FieldType.array Jvm.ClassFile.FieldType.int))).before args0 about1 = true := code_word (m := ⟨20, 3⟩) (meth := k20m3) (c := k20c3) (by decide +kernel) rfl rfl rfl (by decide +kernel)
theorem w_c33 : (Jvm.Cond.code ({ cls := "java/lang/Enum", name := "ordinal", desc := "()I" } : Jvm.MethodName) jdk_37_method_2_code (1 : Nat) (Option.some Jvm.ClassFile.FieldType.int)).before args0 about1 = true := code_word (m := ⟨9, 0⟩) (meth := k9m0) (c := k9c0) (by decide +kernel) rfl rfl rfl (by decide +kernel)
theorem w_c34 : (Jvm.Cond.code ({ cls := "java/util/Arrays", name := "fill", desc := "([II)V" } : Jvm.MethodName) jdk_65_method_103_code (4 : Nat) (Option.none : Option Jvm.ClassFile.FieldType)).before args0 about1 = true := code_word (m := ⟨26, 1⟩) (meth := k26m1) (c := k26c1) (by decide +kernel) rfl rfl rfl (by decide +kernel)
theorem w_c35 : (Jvm.Cond.code ({ cls := "java/time/LocalDate", name := "toEpochDay", desc := "()J" } : Jvm.MethodName) jdk_2323_method_67_code (7 : Nat) (Option.some Jvm.ClassFile.FieldType.long)).before args0 about1 = true := code_word (m := ⟨16, 3⟩) (meth := k16m3) (c := k16c3) (by decide +kernel) rfl rfl rfl (by decide +kernel)
theorem w_c36 : (Jvm.Cond.code ({ cls := "java/lang/Math", name := "toIntExact", desc := "(J)I" } : Jvm.MethodName) jdk_29_method_43_code (2 : Nat) (Option.some Jvm.ClassFile.FieldType.int)).before args0 about1 = true := code_word (m := ⟨23, 1⟩) (meth := k23m1) (c := k23c1) (by decide +kernel) rfl rfl rfl (by decide +kernel)
theorem w_c37 : (Jvm.Cond.code ({ cls := "java/lang/String", name := "equals", desc := "(Ljava/lang/Object;)Z" } : Jvm.MethodName) jdk_42_method_66_code (3 : Nat) (Option.some Jvm.ClassFile.FieldType.boolean)).before args0 about1 = true := code_word (m := ⟨7, 1⟩) (meth := k7m1) (c := k7c1) (by decide +kernel) rfl rfl rfl (by decide +kernel)
theorem w_c38 : (Jvm.Cond.code ({ cls := "java/lang/StringLatin1", name := "equals", desc := "([B[B)Z" } : Jvm.MethodName) jdk_43_method_13_code (3 : Nat) (Option.some Jvm.ClassFile.FieldType.boolean)).before args0 about1 = true := code_word (m := ⟨8, 2⟩) (meth := k8m2) (c := k8c2) (by decide +kernel) rfl rfl rfl (by decide +kernel)
theorem w_c39 : (Jvm.Cond.code ({ cls := "java/util/BitSet", name := "set", desc := "(I)V" } : Jvm.MethodName) jdk_92_method_19_code (3 : Nat) (Option.none : Option Jvm.ClassFile.FieldType)).before args0 about1 = true := code_word (m := ⟨22, 6⟩) (meth := k22m6) (c := k22c6) (by decide +kernel) rfl rfl rfl (by decide +kernel)
theorem w_c40 : (Jvm.Cond.code ({ cls := "java/util/BitSet", name := "expandTo", desc := "(I)V" } : Jvm.MethodName) jdk_92_method_15_code (3 : Nat) (Option.none : Option Jvm.ClassFile.FieldType)).before args0 about1 = true := code_word (m := ⟨22, 5⟩) (meth := k22m5) (c := k22c5) (by decide +kernel) rfl rfl rfl (by decide +kernel)
theorem w_c41 : (Jvm.Cond.code ({ cls := "java/util/BitSet", name := "ensureCapacity", desc := "(I)V" } : Jvm.MethodName) jdk_92_method_14_code (3 : Nat) (Option.none : Option Jvm.ClassFile.FieldType)).before args0 about1 = true := code_word (m := ⟨22, 4⟩) (meth := k22m4) (c := k22c4) (by decide +kernel) rfl rfl rfl (by decide +kernel)
theorem w_c42 : (Jvm.Cond.code ({ cls := "java/time/LocalDate", name := "isLeapYear", desc := "()Z" } : Jvm.MethodName) jdk_2323_method_30_code (1 : Nat) (Option.some Jvm.ClassFile.FieldType.boolean)).before args0 about1 = true := code_word (m := ⟨16, 2⟩) (meth := k16m2) (c := k16c2) (by decide +kernel) rfl rfl rfl (by decide +kernel)
theorem w_c43 : (Jvm.Cond.code ({ cls := "java/time/chrono/IsoChronology", name := "isLeapYear", desc := "(J)Z" } : Jvm.MethodName) jdk_2369_method_18_code (3 : Nat) (Option.some Jvm.ClassFile.FieldType.boolean)).before args0 about1 = true := code_word (m := ⟨29, 1⟩) (meth := k29m1) (c := k29c1) (by decide +kernel) rfl rfl rfl (by decide +kernel)
def codes1 : List Jvm.Cond := [Jvm.Cond.code x code maxLocals ret, Jvm.Cond.code ({ cls := "java/lang/String", name := "valueOf", desc := "(C)Ljava/lang/String;" } : Jvm.MethodName) jdk_42_method_139_code (1 : Nat) (Option.some (Jvm.ClassFile.FieldType.object "java/lang/String")), Jvm.Cond.code ({ cls := "java/lang/StringLatin1", name := "canEncode", desc := "(C)Z" } : Jvm.MethodName) jdk_43_method_3_code (1 : Nat) (Option.some Jvm.ClassFile.FieldType.boolean), Jvm.Cond.code ({ cls := "java/lang/StringLatin1", name := "toBytes", desc := "(C)[B" } : Jvm.MethodName) jdk_43_method_46_code (1 : Nat) (Option.some (Jvm.ClassFile.FieldType.array Jvm.ClassFile.FieldType.byte)), Jvm.Cond.code ({ cls := "java/lang/String", name := "<init>", desc := "([BB)V" } : Jvm.MethodName) jdk_42_method_151_code (3 : Nat) (Option.none : Option Jvm.ClassFile.FieldType), Jvm.Cond.code ({ cls := "java/lang/Object", name := "<init>", desc := "()V" } : Jvm.MethodName) object_method_1_code (1 : Nat) (Option.none : Option Jvm.ClassFile.FieldType), Jvm.Cond.code ({ cls := "com/example/planwright/planwright/model/LatestPayDatesAnyOutOfOrderPinLaw", name := "item", desc := "(I)Lcom/example/planwright/planwright/model/PayItem;" } : Jvm.MethodName) method_2_code (1 : Nat) (Option.some (Jvm.ClassFile.FieldType.object "com/example/planwright/planwright/model/PayItem")), Jvm.Cond.code ({ cls := "java/time/LocalDate", name := "ofEpochDay", desc := "(J)Ljava/time/LocalDate;" } : Jvm.MethodName) jdk_2323_method_8_code (14 : Nat) (Option.some (Jvm.ClassFile.FieldType.object "java/time/LocalDate")), Jvm.Cond.code ({ cls := "java/time/temporal/ChronoField", name := "checkValidValue", desc := "(J)J" } : Jvm.MethodName) jdk_2395_method_11_code (3 : Nat) (Option.some Jvm.ClassFile.FieldType.long), Jvm.Cond.code ({ cls := "java/time/temporal/ChronoField", name := "range", desc := "()Ljava/time/temporal/ValueRange;" } : Jvm.MethodName) jdk_2395_method_8_code (1 : Nat) (Option.some (Jvm.ClassFile.FieldType.object "java/time/temporal/ValueRange")), Jvm.Cond.code ({ cls := "java/time/temporal/ValueRange", name := "checkValidValue", desc := "(JLjava/time/temporal/TemporalField;)J" } : Jvm.MethodName) jdk_2423_method_13_code (4 : Nat) (Option.some Jvm.ClassFile.FieldType.long), Jvm.Cond.code ({ cls := "java/time/temporal/ValueRange", name := "isValidValue", desc := "(J)Z" } : Jvm.MethodName) jdk_2423_method_11_code (3 : Nat) (Option.some Jvm.ClassFile.FieldType.boolean), Jvm.Cond.code ({ cls := "java/time/temporal/ValueRange", name := "getMinimum", desc := "()J" } : Jvm.MethodName) jdk_2423_method_6_code (1 : Nat) (Option.some Jvm.ClassFile.FieldType.long), Jvm.Cond.code ({ cls := "java/time/temporal/ValueRange", name := "getMaximum", desc := "()J" } : Jvm.MethodName) jdk_2423_method_9_code (1 : Nat) (Option.some Jvm.ClassFile.FieldType.long), Jvm.Cond.code ({ cls := "java/time/LocalDate", name := "<init>", desc := "(III)V" } : Jvm.MethodName) jdk_2323_method_14_code (4 : Nat) (Option.none : Option Jvm.ClassFile.FieldType), Jvm.Cond.code ({ cls := "com/example/planwright/planwright/model/LatestPayDates", name := "<init>", desc := "(I)V" } : Jvm.MethodName) prog_54_method_1_code (3 : Nat) (Option.none : Option Jvm.ClassFile.FieldType), Jvm.Cond.code ({ cls := "java/util/BitSet", name := "<init>", desc := "()V" } : Jvm.MethodName) jdk_92_method_4_code (1 : Nat) (Option.none : Option Jvm.ClassFile.FieldType), Jvm.Cond.code ({ cls := "java/util/BitSet", name := "initWords", desc := "(I)V" } : Jvm.MethodName) jdk_92_method_6_code (2 : Nat) (Option.none : Option Jvm.ClassFile.FieldType), Jvm.Cond.code ({ cls := "java/util/BitSet", name := "wordIndex", desc := "(I)I" } : Jvm.MethodName) jdk_92_method_1_code (1 : Nat) (Option.some Jvm.ClassFile.FieldType.int), Jvm.Cond.code ({ cls := "java/lang/Math", name := "max", desc := "(II)I" } : Jvm.MethodName) jdk_29_method_65_code (2 : Nat) (Option.some Jvm.ClassFile.FieldType.int), Jvm.Cond.code ({ cls := "java/lang/Integer", name := "highestOneBit", desc := "(I)I" } : Jvm.MethodName) jdk_33_method_45_code (1 : Nat) (Option.some Jvm.ClassFile.FieldType.int), Jvm.Cond.code ({ cls := "java/lang/Integer", name := "numberOfLeadingZeros", desc := "(I)I" } : Jvm.MethodName) jdk_33_method_47_code (2 : Nat) (Option.some Jvm.ClassFile.FieldType.int), Jvm.Cond.code ({ cls := "com/example/planwright/planwright/model/LatestPayDates", name := "anyOutOfOrder", desc := "()Z" } : Jvm.MethodName) prog_54_method_3_code (1 : Nat) (Option.some Jvm.ClassFile.FieldType.boolean), Jvm.Cond.code ({ cls := "java/util/BitSet", name := "isEmpty", desc := "()Z" } : Jvm.MethodName) jdk_92_method_33_code (1 : Nat) (Option.some Jvm.ClassFile.FieldType.boolean), Jvm.Cond.code ({ cls := "com/example/planwright/planwright/model/LatestPayDates", name := "add", desc := "(Ljava/lang/String;Ljava/time/LocalDate;Lcom/example/planwright/planwright/model/PayItem;)Z" } : Jvm.MethodName) prog_54_method_2_code (8 : Nat) (Option.some Jvm.ClassFile.FieldType.boolean), Jvm.Cond.code ({ cls := "com/example/planwright/planwright/model/LatestPayDates", name := "number", desc := "(Ljava/lang/String;)I" } : Jvm.MethodName) prog_54_method_6_code (3 : Nat) (Option.some Jvm.ClassFile.FieldType.int), Jvm.Cond.code ({ cls := "com/example/planwright/planwright/model/LatestPayDates", name := "slot", desc := "(Ljava/lang/String;)I" } : Jvm.MethodName) prog_54_method_7_code (3 : Nat) (Option.some Jvm.ClassFile.FieldType.int), Jvm.Cond.code ({ cls := "java/lang/String", name := "hashCode", desc := "()I" } : Jvm.MethodName) jdk_42_method_78_code (2 : Nat) (Option.some Jvm.ClassFile.FieldType.int), Jvm.Cond.code ({ cls := "java/lang/String", name := "isLatin1", desc := "()Z" } : Jvm.MethodName) jdk_42_method_154_code (1 : Nat) (Option.some Jvm.ClassFile.FieldType.boolean), Jvm.Cond.code ({ cls := "java/lang/StringLatin1", name := "hashCode", desc := "([B)I" } : Jvm.MethodName) jdk_43_method_21_code (1 : Nat) (Option.some Jvm.ClassFile.FieldType.int), Jvm.Cond.code ({ cls := "java/util/BitSet", name := "get", desc := "(I)Z" } : Jvm.MethodName) jdk_92_method_26_code (3 : Nat) (Option.some Jvm.ClassFile.FieldType.boolean), Jvm.Cond.code ({ cls := "java/util/BitSet", name := "checkInvariants", desc := "()V" } : Jvm.MethodName) jdk_92_method_2_code (1 : Nat) (Option.none : Option Jvm.ClassFile.FieldType), Jvm.Cond.code ({ cls := "com/example/planwright/planwright/model/LatestPayDates", name := "column", desc := "(Lcom/example/planwright/planwright/model/PayItem;)[I" } : Jvm.MethodName) prog_54_method_5_code (3 : Nat) (Option.some (Jvm.ClassFile.FieldType.array Jvm.ClassFile.FieldType.int)), Jvm.Cond.code ({ cls := "java/lang/Enum", name := "ordinal", desc := "()I" } : Jvm.MethodName) jdk_37_method_2_code (1 : Nat) (Option.some Jvm.ClassFile.FieldType.int), Jvm.Cond.code ({ cls := "java/util/Arrays", name := "fill", desc := "([II)V" } : Jvm.MethodName) jdk_65_method_103_code (4 : Nat) (Option.none : Option Jvm.ClassFile.FieldType), Jvm.Cond.code ({ cls := "java/time/LocalDate", name := "toEpochDay", desc := "()J" } : Jvm.MethodName) jdk_2323_method_67_code (7 : Nat) (Option.some Jvm.ClassFile.FieldType.long), Jvm.Cond.code ({ cls := "java/lang/Math", name := "toIntExact", desc := "(J)I" } : Jvm.MethodName) jdk_29_method_43_code (2 : Nat) (Option.some Jvm.ClassFile.FieldType.int), Jvm.Cond.code ({ cls := "java/lang/String", name := "equals", desc := "(Ljava/lang/Object;)Z" } : Jvm.MethodName) jdk_42_method_66_code (3 : Nat) (Option.some Jvm.ClassFile.FieldType.boolean), Jvm.Cond.code ({ cls := "java/lang/StringLatin1", name := "equals", desc := "([B[B)Z" } : Jvm.MethodName) jdk_43_method_13_code (3 : Nat) (Option.some Jvm.ClassFile.FieldType.boolean), Jvm.Cond.code ({ cls := "java/util/BitSet", name := "set", desc := "(I)V" } : Jvm.MethodName) jdk_92_method_19_code (3 : Nat) (Option.none : Option Jvm.ClassFile.FieldType), Jvm.Cond.code ({ cls := "java/util/BitSet", name := "expandTo", desc := "(I)V" } : Jvm.MethodName) jdk_92_method_15_code (3 : Nat) (Option.none : Option Jvm.ClassFile.FieldType), Jvm.Cond.code ({ cls := "java/util/BitSet", name := "ensureCapacity", desc := "(I)V" } : Jvm.MethodName) jdk_92_method_14_code (3 : Nat) (Option.none : Option Jvm.ClassFile.FieldType), Jvm.Cond.code ({ cls := "java/time/LocalDate", name := "isLeapYear", desc := "()Z" } : Jvm.MethodName) jdk_2323_method_30_code (1 : Nat) (Option.some Jvm.ClassFile.FieldType.boolean), Jvm.Cond.code ({ cls := "java/time/chrono/IsoChronology", name := "isLeapYear", desc := "(J)Z" } : Jvm.MethodName) jdk_2369_method_18_code (3 : Nat) (Option.some Jvm.ClassFile.FieldType.boolean)]
theorem codes_eq : words1.filter isCode = codes1 := rfl
theorem w_codes : ∀ c ∈ words1.filter isCode, c.before args0 about1 = true := by
  rw [codes_eq]
  intro c hc
  simp only [codes1, List.mem_cons, List.not_mem_nil, or_false] at hc
  rcases hc with rfl | rfl | rfl | rfl | rfl | rfl | rfl | rfl | rfl | rfl | rfl | rfl | rfl | rfl | rfl | rfl | rfl | rfl | rfl | rfl | rfl | rfl | rfl | rfl | rfl | rfl | rfl | rfl | rfl | rfl | rfl | rfl | rfl | rfl | rfl | rfl | rfl | rfl | rfl | rfl | rfl | rfl | rfl | rfl
  · exact w_c0
  · exact w_c1
  · exact w_c2
  · exact w_c3
  · exact w_c4
  · exact w_c5
  · exact w_c6
  · exact w_c7
  · exact w_c8
  · exact w_c9
  · exact w_c10
  · exact w_c11
  · exact w_c12
  · exact w_c13
  · exact w_c14
  · exact w_c15
  · exact w_c16
  · exact w_c17
  · exact w_c18
  · exact w_c19
  · exact w_c20
  · exact w_c21
  · exact w_c22
  · exact w_c23
  · exact w_c24
  · exact w_c25
  · exact w_c26
  · exact w_c27
  · exact w_c28
  · exact w_c29
  · exact w_c30
  · exact w_c31
  · exact w_c32
  · exact w_c33
  · exact w_c34
  · exact w_c35
  · exact w_c36
  · exact w_c37
  · exact w_c38
  · exact w_c39
  · exact w_c40
  · exact w_c41
  · exact w_c42
  · exact w_c43
theorem w_t1 : (words1.take 24).all (fun c => isCode c || c.before args0 about1) = true := by decide +kernel
theorem w_t2 : ((words1.drop 24).take 24).all (fun c => isCode c || c.before args0 about1) = true := by decide +kernel
theorem w_t3 : (((words1.drop 24).drop 24).take 24).all (fun c => isCode c || c.before args0 about1) = true := by decide +kernel
theorem w_t4 : ((((words1.drop 24).drop 24).drop 24).take 24).all (fun c => isCode c || c.before args0 about1) = true := by decide +kernel
theorem w_t5 : (((((words1.drop 24).drop 24).drop 24).drop 24).take 24).all (fun c => isCode c || c.before args0 about1) = true := by decide +kernel
theorem w_t6 : ((((((words1.drop 24).drop 24).drop 24).drop 24).drop 24).take 24).all (fun c => isCode c || c.before args0 about1) = true := by decide +kernel
theorem w_t7 : (((((((words1.drop 24).drop 24).drop 24).drop 24).drop 24).drop 24).take 24).all (fun c => isCode c || c.before args0 about1) = true := by decide +kernel
theorem w_t8 : ((((((((words1.drop 24).drop 24).drop 24).drop 24).drop 24).drop 24).drop 24).take 24).all (fun c => isCode c || c.before args0 about1) = true := by decide +kernel
theorem w_t9 : (((((((((words1.drop 24).drop 24).drop 24).drop 24).drop 24).drop 24).drop 24).drop 24).take 24).all (fun c => isCode c || c.before args0 about1) = true := by decide +kernel
theorem w_t10 : ((((((((((words1.drop 24).drop 24).drop 24).drop 24).drop 24).drop 24).drop 24).drop 24).drop 24).take 24).all (fun c => isCode c || c.before args0 about1) = true := by decide +kernel
theorem w_t11 : (((((((((((words1.drop 24).drop 24).drop 24).drop 24).drop 24).drop 24).drop 24).drop 24).drop 24).drop 24).take 24).all (fun c => isCode c || c.before args0 about1) = true := by decide +kernel
theorem w_t12 : ((((((((((((words1.drop 24).drop 24).drop 24).drop 24).drop 24).drop 24).drop 24).drop 24).drop 24).drop 24).drop 24).take 24).all (fun c => isCode c || c.before args0 about1) = true := by decide +kernel
theorem w_t13 : ((((((((((((words1.drop 24).drop 24).drop 24).drop 24).drop 24).drop 24).drop 24).drop 24).drop 24).drop 24).drop 24).drop 24).all (fun c => isCode c || c.before args0 about1) = true := by decide +kernel
theorem w_tables : (allAtoms (Jvm.Cond.code x code maxLocals ret :: tables_1)).before args0 about1 = true := by
  rw [allAtoms_all]
  show words1.all (fun c => c.before args0 about1) = true
  refine all_split ?_ w_codes
  rw [← List.take_append_drop 24 words1, List.all_append, w_t1, ← List.take_append_drop 24 (words1.drop 24), List.all_append, w_t2, ← List.take_append_drop 24 ((words1.drop 24).drop 24), List.all_append, w_t3, ← List.take_append_drop 24 (((words1.drop 24).drop 24).drop 24), List.all_append, w_t4, ← List.take_append_drop 24 ((((words1.drop 24).drop 24).drop 24).drop 24), List.all_append, w_t5, ← List.take_append_drop 24 (((((words1.drop 24).drop 24).drop 24).drop 24).drop 24), List.all_append, w_t6, ← List.take_append_drop 24 ((((((words1.drop 24).drop 24).drop 24).drop 24).drop 24).drop 24), List.all_append, w_t7, ← List.take_append_drop 24 (((((((words1.drop 24).drop 24).drop 24).drop 24).drop 24).drop 24).drop 24), List.all_append, w_t8, ← List.take_append_drop 24 ((((((((words1.drop 24).drop 24).drop 24).drop 24).drop 24).drop 24).drop 24).drop 24), List.all_append, w_t9, ← List.take_append_drop 24 (((((((((words1.drop 24).drop 24).drop 24).drop 24).drop 24).drop 24).drop 24).drop 24).drop 24), List.all_append, w_t10, ← List.take_append_drop 24 ((((((((((words1.drop 24).drop 24).drop 24).drop 24).drop 24).drop 24).drop 24).drop 24).drop 24).drop 24), List.all_append, w_t11, ← List.take_append_drop 24 (((((((((((words1.drop 24).drop 24).drop 24).drop 24).drop 24).drop 24).drop 24).drop 24).drop 24).drop 24).drop 24), List.all_append, w_t12, w_t13]
  rfl
theorem w_rest : rest_1_c.before args0 about1 = true := by decide +kernel
theorem w_case : (Jvm.Cond.and given_1 narrow_1).before args0 about1 = true := by decide +kernel
theorem w_applies : (headSpec (Jvm.Cond.code x code maxLocals ret :: tables_1) room_1).applies x e0.platform about1 = true :=
  (Spec.applies_iff w_frames).mpr ⟨w_running, w_runnable, w_alone, w_named, w_hears, w_ripe, w_room, w_tables⟩
theorem atStart : AtStart classFile x code maxLocals ret World_1 tables_1 room_1 Calls_1 rest_1 Pre_1 launch0 p0 e0 about1 theMethod args0 below0 :=
  ⟨lists_1, trivial, launch0.admits_env _ _ _, launch0.least_env, fairChoices_fair.cas, fairChoices_fair.clock, w_frames, w_args, w_heap, w_applies, trivial, w_rest, w_case⟩
end start1
theorem witness_1 : WitnessClaimed_1 := ⟨start1.p0, start1.e0, start1.about1, start1.theMethod, start1.args0, start1.below0, start1.atStart⟩
end Jvm.Pilot.@@N@@
