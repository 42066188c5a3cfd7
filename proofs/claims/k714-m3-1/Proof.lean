import JvmDerived
import JvmDerived.Pilot.@@N@@Statement
import JvmDerived.Pilot.@@N@@Code
set_option linter.unusedVariables false
set_option linter.unusedSimpArgs false
namespace Jvm.Pilot.@@N@@
open Jvm Jvm.ClassFile Sem Op Lib Jvm.Free Jvm.Stand Jvm.LawKit Jvm.RoadKit Bundle Jvm.Pilot.@@N@@.Jvm.D
theorem own_wid {p : Program} {l : Launch} {e : Env} {R : Room} {s : State} {m : MethodId} {args : Array Value} {below : List Frame} {meth : Method} {c : Code} {T : State} {locs : List Loc} {cells slots c' s' : Nat} (X : Stand p l e R s m args below meth c T locs cells slots) (h1 : cells ≤ c') (h2 : slots ≤ s') : Stand p l e R s m args below meth c T locs c' s' :=
  ⟨X.admits, X.cas, X.clock, X.frames, X.room, X.hears, X.method, X.code, X.here, X.tail, X.warmed, X.limits, X.bytes, X.same.mono h1 h2⟩
abbrev Sx (p : Program) (e : Env) (b : List Frame) (T : State) (m : MethodId) (pc : Nat) (L : Array Slot) (S : List Value) (t : State) : Prop := Steps p.tables e b (T.setTop (mkF m pc L S)) t
abbrev xvi (x : Int32) : Slot := .val (.int x)
abbrev xvj (x : Int64) : Slot := .val (.long x)
abbrev xvr (x : Addr) : Slot := .val (.ref x)
abbrev xwi (x : Int32) : Value := .int x
abbrev xwj (x : Int64) : Value := .long x
abbrev xwr (x : Addr) : Value := .ref x
abbrev xun : Slot := .unset
abbrev xse : Slot := .second
theorem own_selp {Z : State} {a0 : Array Value} {y : MethodName} {n : Nat} (wi : (Cond.instantiable y.cls n).before a0 Z = true) (wp : (Cond.privateMethod y).before a0 Z = true) (wn : (Cond.instanceMethod y).before a0 Z = true) (hy : y.cls ≠ "java/lang/invoke/MethodHandle" ∧ y.cls ≠ "java/lang/invoke/VarHandle") : (Cond.selects y.cls y y).before a0 Z = true := by
  obtain ⟨c, k, h1, h2, -, h4, -⟩ := Cond.instantiable_spec wi
  exact Jvm.Stand.selects_self_of_private h1 h2 (Bool.or_eq_false_iff.mp h4).1 (Cond.privateMethod_at wp) wn hy
theorem y_iload {p : Program} {l : Launch} {e : Env} {R : Room} {s : State} {m : MethodId} {args : Array Value} {below : List Frame} {meth : Method} {c : Code} {T : State} {locs : List Loc} {cells slots : Nat} {t : State} {L : Array Slot} {S : List Value} {pc : Nat} (X : Stand p l e R s m args below meth c T locs cells slots) (hx : p.tables.exec = Jvm.exec) {k : Nat} {v : Int32} (q : Nat) (hd : decode c.code pc = .ok (.iload k, 2)) (hl : L[k]? = some (.val (.int v))) (hq : pc + 2 = q) (hr : Sx p e below T m q L (.int v :: S) t) : Sx p e below T m pc L S t := by subst hq; exact XS.iload X.here hx rfl hd hl hr
theorem y_iloadN {p : Program} {l : Launch} {e : Env} {R : Room} {s : State} {m : MethodId} {args : Array Value} {below : List Frame} {meth : Method} {c : Code} {T : State} {locs : List Loc} {cells slots : Nat} {t : State} {L : Array Slot} {S : List Value} {pc : Nat} (X : Stand p l e R s m args below meth c T locs cells slots) (hx : p.tables.exec = Jvm.exec) {k : Fin 4} {v : Int32} (q : Nat) (hd : decode c.code pc = .ok (.iload_n k, 1)) (hl : L[k.val]? = some (.val (.int v))) (hq : pc + 1 = q) (hr : Sx p e below T m q L (.int v :: S) t) : Sx p e below T m pc L S t := by subst hq; exact XS.iloadN X.here hx rfl hd hl hr
theorem y_lload {p : Program} {l : Launch} {e : Env} {R : Room} {s : State} {m : MethodId} {args : Array Value} {below : List Frame} {meth : Method} {c : Code} {T : State} {locs : List Loc} {cells slots : Nat} {t : State} {L : Array Slot} {S : List Value} {pc : Nat} (X : Stand p l e R s m args below meth c T locs cells slots) (hx : p.tables.exec = Jvm.exec) {k : Nat} {v : Int64} (q : Nat) (hd : decode c.code pc = .ok (.lload k, 2)) (hl : L[k]? = some (.val (.long v))) (hq : pc + 2 = q) (hr : Sx p e below T m q L (.long v :: S) t) : Sx p e below T m pc L S t := by subst hq; exact XS.lload X.here hx rfl hd hl hr
theorem y_lloadN {p : Program} {l : Launch} {e : Env} {R : Room} {s : State} {m : MethodId} {args : Array Value} {below : List Frame} {meth : Method} {c : Code} {T : State} {locs : List Loc} {cells slots : Nat} {t : State} {L : Array Slot} {S : List Value} {pc : Nat} (X : Stand p l e R s m args below meth c T locs cells slots) (hx : p.tables.exec = Jvm.exec) {k : Fin 4} {v : Int64} (q : Nat) (hd : decode c.code pc = .ok (.lload_n k, 1)) (hl : L[k.val]? = some (.val (.long v))) (hq : pc + 1 = q) (hr : Sx p e below T m q L (.long v :: S) t) : Sx p e below T m pc L S t := by subst hq; exact XS.lloadN X.here hx rfl hd hl hr
theorem y_aload {p : Program} {l : Launch} {e : Env} {R : Room} {s : State} {m : MethodId} {args : Array Value} {below : List Frame} {meth : Method} {c : Code} {T : State} {locs : List Loc} {cells slots : Nat} {t : State} {L : Array Slot} {S : List Value} {pc : Nat} (X : Stand p l e R s m args below meth c T locs cells slots) (hx : p.tables.exec = Jvm.exec) {k : Nat} {v : Value} (q : Nat) (hd : decode c.code pc = .ok (.aload k, 2)) (hl : L[k]? = some (.val v)) (hv : v.isRef = true) (hq : pc + 2 = q) (hr : Sx p e below T m q L (v :: S) t) : Sx p e below T m pc L S t := by subst hq; exact XS.aload X.here hx rfl hd hl hv hr
theorem y_aloadN {p : Program} {l : Launch} {e : Env} {R : Room} {s : State} {m : MethodId} {args : Array Value} {below : List Frame} {meth : Method} {c : Code} {T : State} {locs : List Loc} {cells slots : Nat} {t : State} {L : Array Slot} {S : List Value} {pc : Nat} (X : Stand p l e R s m args below meth c T locs cells slots) (hx : p.tables.exec = Jvm.exec) {k : Fin 4} {v : Value} (q : Nat) (hd : decode c.code pc = .ok (.aload_n k, 1)) (hl : L[k.val]? = some (.val v)) (hv : v.isRef = true) (hq : pc + 1 = q) (hr : Sx p e below T m q L (v :: S) t) : Sx p e below T m pc L S t := by subst hq; exact XS.aloadN X.here hx rfl hd hl hv hr
theorem y_iconst {p : Program} {l : Launch} {e : Env} {R : Room} {s : State} {m : MethodId} {args : Array Value} {below : List Frame} {meth : Method} {c : Code} {T : State} {locs : List Loc} {cells slots : Nat} {t : State} {L : Array Slot} {S : List Value} {pc : Nat} (X : Stand p l e R s m args below meth c T locs cells slots) (hx : p.tables.exec = Jvm.exec) {i : Int} (z : Int32) (q : Nat) (hd : decode c.code pc = .ok (.iconst i, 1)) (hz : Int32.ofInt i = z) (hq : pc + 1 = q) (hr : Sx p e below T m q L (.int z :: S) t) : Sx p e below T m pc L S t := by subst hq; exact XS.iconst X.here hx rfl hd (by rw [hz]; exact hr)
theorem y_bipush {p : Program} {l : Launch} {e : Env} {R : Room} {s : State} {m : MethodId} {args : Array Value} {below : List Frame} {meth : Method} {c : Code} {T : State} {locs : List Loc} {cells slots : Nat} {t : State} {L : Array Slot} {S : List Value} {pc : Nat} (X : Stand p l e R s m args below meth c T locs cells slots) (hx : p.tables.exec = Jvm.exec) {i : Int} (z : Int32) (q : Nat) (hd : decode c.code pc = .ok (.bipush i, 2)) (hz : (Int8.ofInt i).toInt32 = z) (hq : pc + 2 = q) (hr : Sx p e below T m q L (.int z :: S) t) : Sx p e below T m pc L S t := by subst hq; exact XS.bipush X.here hx rfl hd (by rw [hz]; exact hr)
theorem y_sipush {p : Program} {l : Launch} {e : Env} {R : Room} {s : State} {m : MethodId} {args : Array Value} {below : List Frame} {meth : Method} {c : Code} {T : State} {locs : List Loc} {cells slots : Nat} {t : State} {L : Array Slot} {S : List Value} {pc : Nat} (X : Stand p l e R s m args below meth c T locs cells slots) (hx : p.tables.exec = Jvm.exec) {i : Int} (z : Int32) (q : Nat) (hd : decode c.code pc = .ok (.sipush i, 3)) (hz : (Int16.ofInt i).toInt32 = z) (hq : pc + 3 = q) (hr : Sx p e below T m q L (.int z :: S) t) : Sx p e below T m pc L S t := by subst hq; exact XS.sipush X.here hx rfl hd (by rw [hz]; exact hr)
theorem y_aconst_null {p : Program} {l : Launch} {e : Env} {R : Room} {s : State} {m : MethodId} {args : Array Value} {below : List Frame} {meth : Method} {c : Code} {T : State} {locs : List Loc} {cells slots : Nat} {t : State} {L : Array Slot} {S : List Value} {pc : Nat} (X : Stand p l e R s m args below meth c T locs cells slots) (hx : p.tables.exec = Jvm.exec) (q : Nat) (hd : decode c.code pc = .ok (.aconst_null, 1)) (hq : pc + 1 = q) (hr : Sx p e below T m q L (.null :: S) t) : Sx p e below T m pc L S t := by subst hq; exact XS.aconstNull X.here hx rfl hd hr
theorem y_iadd {p : Program} {l : Launch} {e : Env} {R : Room} {s : State} {m : MethodId} {args : Array Value} {below : List Frame} {meth : Method} {c : Code} {T : State} {locs : List Loc} {cells slots : Nat} {t : State} {L : Array Slot} {S : List Value} {pc : Nat} (X : Stand p l e R s m args below meth c T locs cells slots) (hx : p.tables.exec = Jvm.exec) {x y : Int32} (q : Nat) (hd : decode c.code pc = .ok (.iadd, 1)) (hq : pc + 1 = q) (hr : Sx p e below T m q L (.int (x + y) :: S) t) : Sx p e below T m pc L (.int y :: .int x :: S) t := by subst hq; exact XS.iadd X.here hx rfl hd rfl hr
theorem y_ladd {p : Program} {l : Launch} {e : Env} {R : Room} {s : State} {m : MethodId} {args : Array Value} {below : List Frame} {meth : Method} {c : Code} {T : State} {locs : List Loc} {cells slots : Nat} {t : State} {L : Array Slot} {S : List Value} {pc : Nat} (X : Stand p l e R s m args below meth c T locs cells slots) (hx : p.tables.exec = Jvm.exec) {x y : Int64} (q : Nat) (hd : decode c.code pc = .ok (.ladd, 1)) (hq : pc + 1 = q) (hr : Sx p e below T m q L (.long (x + y) :: S) t) : Sx p e below T m pc L (.long y :: .long x :: S) t := by subst hq; exact XS.ladd X.here hx rfl hd rfl hr
theorem y_isub {p : Program} {l : Launch} {e : Env} {R : Room} {s : State} {m : MethodId} {args : Array Value} {below : List Frame} {meth : Method} {c : Code} {T : State} {locs : List Loc} {cells slots : Nat} {t : State} {L : Array Slot} {S : List Value} {pc : Nat} (X : Stand p l e R s m args below meth c T locs cells slots) (hx : p.tables.exec = Jvm.exec) {x y : Int32} (q : Nat) (hd : decode c.code pc = .ok (.isub, 1)) (hq : pc + 1 = q) (hr : Sx p e below T m q L (.int (x - y) :: S) t) : Sx p e below T m pc L (.int y :: .int x :: S) t := by subst hq; exact XS.isub X.here hx rfl hd rfl hr
theorem y_lsub {p : Program} {l : Launch} {e : Env} {R : Room} {s : State} {m : MethodId} {args : Array Value} {below : List Frame} {meth : Method} {c : Code} {T : State} {locs : List Loc} {cells slots : Nat} {t : State} {L : Array Slot} {S : List Value} {pc : Nat} (X : Stand p l e R s m args below meth c T locs cells slots) (hx : p.tables.exec = Jvm.exec) {x y : Int64} (q : Nat) (hd : decode c.code pc = .ok (.lsub, 1)) (hq : pc + 1 = q) (hr : Sx p e below T m q L (.long (x - y) :: S) t) : Sx p e below T m pc L (.long y :: .long x :: S) t := by subst hq; exact XS.lsub X.here hx rfl hd rfl hr
theorem y_imul {p : Program} {l : Launch} {e : Env} {R : Room} {s : State} {m : MethodId} {args : Array Value} {below : List Frame} {meth : Method} {c : Code} {T : State} {locs : List Loc} {cells slots : Nat} {t : State} {L : Array Slot} {S : List Value} {pc : Nat} (X : Stand p l e R s m args below meth c T locs cells slots) (hx : p.tables.exec = Jvm.exec) {x y : Int32} (q : Nat) (hd : decode c.code pc = .ok (.imul, 1)) (hq : pc + 1 = q) (hr : Sx p e below T m q L (.int (x * y) :: S) t) : Sx p e below T m pc L (.int y :: .int x :: S) t := by subst hq; exact XS.imul X.here hx rfl hd rfl hr
theorem y_lmul {p : Program} {l : Launch} {e : Env} {R : Room} {s : State} {m : MethodId} {args : Array Value} {below : List Frame} {meth : Method} {c : Code} {T : State} {locs : List Loc} {cells slots : Nat} {t : State} {L : Array Slot} {S : List Value} {pc : Nat} (X : Stand p l e R s m args below meth c T locs cells slots) (hx : p.tables.exec = Jvm.exec) {x y : Int64} (q : Nat) (hd : decode c.code pc = .ok (.lmul, 1)) (hq : pc + 1 = q) (hr : Sx p e below T m q L (.long (x * y) :: S) t) : Sx p e below T m pc L (.long y :: .long x :: S) t := by subst hq; exact XS.lmul X.here hx rfl hd rfl hr
theorem y_iand {p : Program} {l : Launch} {e : Env} {R : Room} {s : State} {m : MethodId} {args : Array Value} {below : List Frame} {meth : Method} {c : Code} {T : State} {locs : List Loc} {cells slots : Nat} {t : State} {L : Array Slot} {S : List Value} {pc : Nat} (X : Stand p l e R s m args below meth c T locs cells slots) (hx : p.tables.exec = Jvm.exec) {x y : Int32} (q : Nat) (hd : decode c.code pc = .ok (.iand, 1)) (hq : pc + 1 = q) (hr : Sx p e below T m q L (.int (x &&& y) :: S) t) : Sx p e below T m pc L (.int y :: .int x :: S) t := by subst hq; exact XS.iand X.here hx rfl hd rfl hr
theorem y_land {p : Program} {l : Launch} {e : Env} {R : Room} {s : State} {m : MethodId} {args : Array Value} {below : List Frame} {meth : Method} {c : Code} {T : State} {locs : List Loc} {cells slots : Nat} {t : State} {L : Array Slot} {S : List Value} {pc : Nat} (X : Stand p l e R s m args below meth c T locs cells slots) (hx : p.tables.exec = Jvm.exec) {x y : Int64} (q : Nat) (hd : decode c.code pc = .ok (.land, 1)) (hq : pc + 1 = q) (hr : Sx p e below T m q L (.long (x &&& y) :: S) t) : Sx p e below T m pc L (.long y :: .long x :: S) t := by subst hq; exact XS.land X.here hx rfl hd rfl hr
theorem y_ior {p : Program} {l : Launch} {e : Env} {R : Room} {s : State} {m : MethodId} {args : Array Value} {below : List Frame} {meth : Method} {c : Code} {T : State} {locs : List Loc} {cells slots : Nat} {t : State} {L : Array Slot} {S : List Value} {pc : Nat} (X : Stand p l e R s m args below meth c T locs cells slots) (hx : p.tables.exec = Jvm.exec) {x y : Int32} (q : Nat) (hd : decode c.code pc = .ok (.ior, 1)) (hq : pc + 1 = q) (hr : Sx p e below T m q L (.int (x ||| y) :: S) t) : Sx p e below T m pc L (.int y :: .int x :: S) t := by subst hq; exact XS.ior X.here hx rfl hd rfl hr
theorem y_lor {p : Program} {l : Launch} {e : Env} {R : Room} {s : State} {m : MethodId} {args : Array Value} {below : List Frame} {meth : Method} {c : Code} {T : State} {locs : List Loc} {cells slots : Nat} {t : State} {L : Array Slot} {S : List Value} {pc : Nat} (X : Stand p l e R s m args below meth c T locs cells slots) (hx : p.tables.exec = Jvm.exec) {x y : Int64} (q : Nat) (hd : decode c.code pc = .ok (.lor, 1)) (hq : pc + 1 = q) (hr : Sx p e below T m q L (.long (x ||| y) :: S) t) : Sx p e below T m pc L (.long y :: .long x :: S) t := by subst hq; exact XS.lor X.here hx rfl hd rfl hr
theorem y_ixor {p : Program} {l : Launch} {e : Env} {R : Room} {s : State} {m : MethodId} {args : Array Value} {below : List Frame} {meth : Method} {c : Code} {T : State} {locs : List Loc} {cells slots : Nat} {t : State} {L : Array Slot} {S : List Value} {pc : Nat} (X : Stand p l e R s m args below meth c T locs cells slots) (hx : p.tables.exec = Jvm.exec) {x y : Int32} (q : Nat) (hd : decode c.code pc = .ok (.ixor, 1)) (hq : pc + 1 = q) (hr : Sx p e below T m q L (.int (x ^^^ y) :: S) t) : Sx p e below T m pc L (.int y :: .int x :: S) t := by subst hq; exact XS.ixor X.here hx rfl hd rfl hr
theorem y_lxor {p : Program} {l : Launch} {e : Env} {R : Room} {s : State} {m : MethodId} {args : Array Value} {below : List Frame} {meth : Method} {c : Code} {T : State} {locs : List Loc} {cells slots : Nat} {t : State} {L : Array Slot} {S : List Value} {pc : Nat} (X : Stand p l e R s m args below meth c T locs cells slots) (hx : p.tables.exec = Jvm.exec) {x y : Int64} (q : Nat) (hd : decode c.code pc = .ok (.lxor, 1)) (hq : pc + 1 = q) (hr : Sx p e below T m q L (.long (x ^^^ y) :: S) t) : Sx p e below T m pc L (.long y :: .long x :: S) t := by subst hq; exact XS.lxor X.here hx rfl hd rfl hr
theorem y_goto {p : Program} {l : Launch} {e : Env} {R : Room} {s : State} {m : MethodId} {args : Array Value} {below : List Frame} {meth : Method} {c : Code} {T : State} {locs : List Loc} {cells slots : Nat} {t : State} {L : Array Slot} {S : List Value} {pc : Nat} (X : Stand p l e R s m args below meth c T locs cells slots) (hx : p.tables.exec = Jvm.exec) {o : Int} (q : Nat) (hd : decode c.code pc = .ok (.goto o, 3)) (ho : 0 ≤ (pc : Int) + o) (hq : ((pc : Int) + o).toNat = q) (hr : Sx p e below T m q L S t) : Sx p e below T m pc L S t := by subst hq; exact XS.goto X.here hx rfl rfl hd ho rfl hr
theorem y_ifYes {p : Program} {l : Launch} {e : Env} {R : Room} {s : State} {m : MethodId} {args : Array Value} {below : List Frame} {meth : Method} {c : Code} {T : State} {locs : List Loc} {cells slots : Nat} {t : State} {L : Array Slot} {S : List Value} {pc : Nat} (X : Stand p l e R s m args below meth c T locs cells slots) (hx : p.tables.exec = Jvm.exec) {cd : ClassFile.Cond} {x : Int32} {o : Int} (q : Nat) (hd : decode c.code pc = .ok (.ifCond cd o, 3)) (hc : ifCond.holds cd x = true) (ho : 0 ≤ (pc : Int) + o) (hq : ((pc : Int) + o).toNat = q) (hr : Sx p e below T m q L S t) : Sx p e below T m pc L (.int x :: S) t := by subst hq; exact XS.ifYes X.here hx rfl rfl hd rfl hc ho rfl hr
theorem y_ifNo {p : Program} {l : Launch} {e : Env} {R : Room} {s : State} {m : MethodId} {args : Array Value} {below : List Frame} {meth : Method} {c : Code} {T : State} {locs : List Loc} {cells slots : Nat} {t : State} {L : Array Slot} {S : List Value} {pc : Nat} (X : Stand p l e R s m args below meth c T locs cells slots) (hx : p.tables.exec = Jvm.exec) {cd : ClassFile.Cond} {x : Int32} {o : Int} (q : Nat) (hd : decode c.code pc = .ok (.ifCond cd o, 3)) (hc : ifCond.holds cd x = false) (hq : pc + 3 = q) (hr : Sx p e below T m q L S t) : Sx p e below T m pc L (.int x :: S) t := by subst hq; exact XS.ifNo X.here hx rfl hd rfl hc hr
theorem y_icmpYes {p : Program} {l : Launch} {e : Env} {R : Room} {s : State} {m : MethodId} {args : Array Value} {below : List Frame} {meth : Method} {c : Code} {T : State} {locs : List Loc} {cells slots : Nat} {t : State} {L : Array Slot} {S : List Value} {pc : Nat} (X : Stand p l e R s m args below meth c T locs cells slots) (hx : p.tables.exec = Jvm.exec) {cd : ClassFile.Cond} {x y : Int32} {o : Int} (q : Nat) (hd : decode c.code pc = .ok (.if_icmp cd o, 3)) (hc : if_icmp.holds cd x y = true) (ho : 0 ≤ (pc : Int) + o) (hq : ((pc : Int) + o).toNat = q) (hr : Sx p e below T m q L S t) : Sx p e below T m pc L (.int y :: .int x :: S) t := by subst hq; exact XS.icmpYes X.here hx rfl rfl hd rfl hc ho rfl hr
theorem y_icmpNo {p : Program} {l : Launch} {e : Env} {R : Room} {s : State} {m : MethodId} {args : Array Value} {below : List Frame} {meth : Method} {c : Code} {T : State} {locs : List Loc} {cells slots : Nat} {t : State} {L : Array Slot} {S : List Value} {pc : Nat} (X : Stand p l e R s m args below meth c T locs cells slots) (hx : p.tables.exec = Jvm.exec) {cd : ClassFile.Cond} {x y : Int32} {o : Int} (q : Nat) (hd : decode c.code pc = .ok (.if_icmp cd o, 3)) (hc : if_icmp.holds cd x y = false) (hq : pc + 3 = q) (hr : Sx p e below T m q L S t) : Sx p e below T m pc L (.int y :: .int x :: S) t := by subst hq; exact XS.icmpNo X.here hx rfl hd rfl hc hr
theorem y_dup {p : Program} {l : Launch} {e : Env} {R : Room} {s : State} {m : MethodId} {args : Array Value} {below : List Frame} {meth : Method} {c : Code} {T : State} {locs : List Loc} {cells slots : Nat} {t : State} {L : Array Slot} {S : List Value} {pc : Nat} (X : Stand p l e R s m args below meth c T locs cells slots) (hx : p.tables.exec = Jvm.exec) {v : Value} (q : Nat) (hd : decode c.code pc = .ok (.dup, 1)) (hc : v.category = 1) (hq : pc + 1 = q) (hr : Sx p e below T m q L (v :: v :: S) t) : Sx p e below T m pc L (v :: S) t := by subst hq; exact XS.dup X.here hx rfl hd rfl hc hr
theorem y_pop {p : Program} {l : Launch} {e : Env} {R : Room} {s : State} {m : MethodId} {args : Array Value} {below : List Frame} {meth : Method} {c : Code} {T : State} {locs : List Loc} {cells slots : Nat} {t : State} {L : Array Slot} {S : List Value} {pc : Nat} (X : Stand p l e R s m args below meth c T locs cells slots) (hx : p.tables.exec = Jvm.exec) {v : Value} (q : Nat) (hd : decode c.code pc = .ok (.pop, 1)) (hc : v.category = 1) (hq : pc + 1 = q) (hr : Sx p e below T m q L S t) : Sx p e below T m pc L (v :: S) t := by subst hq; exact XS.pop X.here hx rfl hd rfl hc hr
theorem own_nar {v : Value} {t : FieldType} (h : v.isRef = true) (ht : t.isReference = true) : narrow t v = v := by
  rcases XT.refc h with rfl | ⟨r, rfl⟩ <;> cases t <;> first | rfl | cases ht
theorem own_fit {v : Value} {t : FieldType} (h : v.isRef = true) (ht : t.isReference = true) : fits t v = true := by
  rcases XT.refc h with rfl | ⟨r, rfl⟩ <;> cases t <;> first | rfl | cases ht
abbrev HW (a0 : Array Value) (Z : State) : Prop := ∀ d ∈ tables_1, d.before a0 Z = true
theorem w_at {a0 : Array Value} {Z : State} (hw : HW a0 Z) {d : Jvm.Cond} (i : Nat) (h : tables_1[i]? = some d) : d.before a0 Z = true := hw _ (List.mem_of_getElem? h)
theorem w_0 {a0 : Array Value} {Z : State} (hw : HW a0 Z) : (Cond.constantLong "com/example/arbiter/arbiter/service/ClaimCursorFromPinLaw" 7 (3 : Int64)).before a0 Z = true := w_at hw 0 rfl
theorem w_1 {a0 : Array Value} {Z : State} (hw : HW a0 Z) : (Cond.constantLong "com/example/arbiter/arbiter/service/ClaimCursorFromPinLaw" 9 (288230376151711743 : Int64)).before a0 Z = true := w_at hw 1 rfl
theorem w_2 {a0 : Array Value} {Z : State} (hw : HW a0 Z) : (Cond.classLink "com/example/arbiter/arbiter/service/ClaimCursorFromPinLaw" 11 "com/example/arbiter/arbiter/service/ClaimCursor").before a0 Z = true := w_at hw 2 rfl
theorem w_3 {a0 : Array Value} {Z : State} (hw : HW a0 Z) : (Cond.instantiable "com/example/arbiter/arbiter/service/ClaimCursor" 3).before a0 Z = true := w_at hw 3 rfl
theorem w_4 {a0 : Array Value} {Z : State} (hw : HW a0 Z) : (Cond.initialized "com/example/arbiter/arbiter/service/ClaimCursor").before a0 Z = true := w_at hw 4 rfl
theorem w_5 {a0 : Array Value} {Z : State} (hw : HW a0 Z) : (Cond.methodLink "com/example/arbiter/arbiter/service/ClaimCursorFromPinLaw" 13 ⟨"com/example/arbiter/arbiter/service/ClaimCursor", "<init>", "()V"⟩).before a0 Z = true := w_at hw 5 rfl
theorem w_6 {a0 : Array Value} {Z : State} (hw : HW a0 Z) : (Cond.instanceMethod ⟨"com/example/arbiter/arbiter/service/ClaimCursor", "<init>", "()V"⟩).before a0 Z = true := w_at hw 6 rfl
theorem w_7 {a0 : Array Value} {Z : State} (hw : HW a0 Z) : (Cond.code ⟨"com/example/arbiter/arbiter/service/ClaimCursor", "<init>", "()V"⟩ prog_14_method_1_code 1 (Option.none : Option FieldType)).before a0 Z = true := w_at hw 7 rfl
theorem w_8 {a0 : Array Value} {Z : State} (hw : HW a0 Z) : (Cond.methodLink "com/example/arbiter/arbiter/service/ClaimCursor" 1 ⟨"java/lang/Object", "<init>", "()V"⟩).before a0 Z = true := w_at hw 8 rfl
theorem w_9 {a0 : Array Value} {Z : State} (hw : HW a0 Z) : (Cond.instanceMethod ⟨"java/lang/Object", "<init>", "()V"⟩).before a0 Z = true := w_at hw 9 rfl
theorem w_10 {a0 : Array Value} {Z : State} (hw : HW a0 Z) : (Cond.code ⟨"java/lang/Object", "<init>", "()V"⟩ object_method_1_code 1 (Option.none : Option FieldType)).before a0 Z = true := w_at hw 10 rfl
theorem w_11 {a0 : Array Value} {Z : State} (hw : HW a0 Z) : (Cond.classLink "com/example/arbiter/arbiter/service/ClaimCursorFromPinLaw" 18 "com/example/arbiter/arbiter/store/JobStore$Position").before a0 Z = true := w_at hw 11 rfl
theorem w_12 {a0 : Array Value} {Z : State} (hw : HW a0 Z) : (Cond.instantiable "com/example/arbiter/arbiter/store/JobStore$Position" 2).before a0 Z = true := w_at hw 12 rfl
theorem w_13 {a0 : Array Value} {Z : State} (hw : HW a0 Z) : (Cond.initialized "com/example/arbiter/arbiter/store/JobStore$Position").before a0 Z = true := w_at hw 13 rfl
theorem w_14 {a0 : Array Value} {Z : State} (hw : HW a0 Z) : (Cond.fieldLink "com/example/arbiter/arbiter/service/ClaimCursorFromPinLaw" 20 "java/time/Instant" "EPOCH" "Ljava/time/Instant;").before a0 Z = true := w_at hw 14 rfl
theorem w_15 {a0 : Array Value} {Z : State} (hw : HW a0 Z) : (Cond.initialized "java/time/Instant").before a0 Z = true := w_at hw 15 rfl
theorem w_16 {a0 : Array Value} {Z : State} (hw : HW a0 Z) : (Cond.methodLink "com/example/arbiter/arbiter/service/ClaimCursorFromPinLaw" 26 ⟨"com/example/arbiter/arbiter/store/JobStore$Position", "<init>", "(Ljava/time/Instant;J)V"⟩).before a0 Z = true := w_at hw 16 rfl
theorem w_17 {a0 : Array Value} {Z : State} (hw : HW a0 Z) : (Cond.instanceMethod ⟨"com/example/arbiter/arbiter/store/JobStore$Position", "<init>", "(Ljava/time/Instant;J)V"⟩).before a0 Z = true := w_at hw 17 rfl
theorem w_18 {a0 : Array Value} {Z : State} (hw : HW a0 Z) : (Cond.code ⟨"com/example/arbiter/arbiter/store/JobStore$Position", "<init>", "(Ljava/time/Instant;J)V"⟩ prog_33_method_1_code 4 (Option.none : Option FieldType)).before a0 Z = true := w_at hw 18 rfl
theorem w_19 {a0 : Array Value} {Z : State} (hw : HW a0 Z) : (Cond.methodLink "com/example/arbiter/arbiter/store/JobStore$Position" 1 ⟨"java/lang/Record", "<init>", "()V"⟩).before a0 Z = true := w_at hw 19 rfl
theorem w_20 {a0 : Array Value} {Z : State} (hw : HW a0 Z) : (Cond.instanceMethod ⟨"java/lang/Record", "<init>", "()V"⟩).before a0 Z = true := w_at hw 20 rfl
theorem w_22 {a0 : Array Value} {Z : State} (hw : HW a0 Z) : (Cond.initialized "java/lang/Record").before a0 Z = true := w_at hw 22 rfl
theorem w_23 {a0 : Array Value} {Z : State} (hw : HW a0 Z) : (Cond.code ⟨"java/lang/Record", "<init>", "()V"⟩ jdk_30_method_1_code 1 (Option.none : Option FieldType)).before a0 Z = true := w_at hw 23 rfl
theorem w_24 {a0 : Array Value} {Z : State} (hw : HW a0 Z) : (Cond.methodLink "java/lang/Record" 1 ⟨"java/lang/Object", "<init>", "()V"⟩).before a0 Z = true := w_at hw 24 rfl
theorem w_25 {a0 : Array Value} {Z : State} (hw : HW a0 Z) : (Cond.fieldLink "com/example/arbiter/arbiter/store/JobStore$Position" 7 "com/example/arbiter/arbiter/store/JobStore$Position" "at" "Ljava/time/Instant;").before a0 Z = true := w_at hw 25 rfl
theorem w_26 {a0 : Array Value} {Z : State} (hw : HW a0 Z) : (Cond.laysFinal "com/example/arbiter/arbiter/store/JobStore$Position" "com/example/arbiter/arbiter/store/JobStore$Position" "at" "Ljava/time/Instant;").before a0 Z = true := w_at hw 26 rfl
theorem w_27 {a0 : Array Value} {Z : State} (hw : HW a0 Z) : (Cond.fieldLink "com/example/arbiter/arbiter/store/JobStore$Position" 13 "com/example/arbiter/arbiter/store/JobStore$Position" "id" "J").before a0 Z = true := w_at hw 27 rfl
theorem w_28 {a0 : Array Value} {Z : State} (hw : HW a0 Z) : (Cond.laysFinal "com/example/arbiter/arbiter/store/JobStore$Position" "com/example/arbiter/arbiter/store/JobStore$Position" "id" "J").before a0 Z = true := w_at hw 28 rfl
theorem w_29 {a0 : Array Value} {Z : State} (hw : HW a0 Z) : (Cond.classLink "com/example/arbiter/arbiter/service/ClaimCursorFromPinLaw" 29 "com/example/arbiter/arbiter/store/JobStore$Claim").before a0 Z = true := w_at hw 29 rfl
theorem w_30 {a0 : Array Value} {Z : State} (hw : HW a0 Z) : (Cond.instantiable "com/example/arbiter/arbiter/store/JobStore$Claim" 3).before a0 Z = true := w_at hw 30 rfl
theorem w_31 {a0 : Array Value} {Z : State} (hw : HW a0 Z) : (Cond.initialized "com/example/arbiter/arbiter/store/JobStore$Claim").before a0 Z = true := w_at hw 31 rfl
theorem w_32 {a0 : Array Value} {Z : State} (hw : HW a0 Z) : (Cond.classLink "com/example/arbiter/arbiter/service/ClaimCursorFromPinLaw" 31 "java/util/ArrayList").before a0 Z = true := w_at hw 32 rfl
theorem w_33 {a0 : Array Value} {Z : State} (hw : HW a0 Z) : (Cond.instantiable "java/util/ArrayList" 3).before a0 Z = true := w_at hw 33 rfl
theorem w_34 {a0 : Array Value} {Z : State} (hw : HW a0 Z) : (Cond.initialized "java/util/ArrayList").before a0 Z = true := w_at hw 34 rfl
theorem w_35 {a0 : Array Value} {Z : State} (hw : HW a0 Z) : (Cond.methodLink "com/example/arbiter/arbiter/service/ClaimCursorFromPinLaw" 33 ⟨"java/util/ArrayList", "<init>", "()V"⟩).before a0 Z = true := w_at hw 35 rfl
theorem w_36 {a0 : Array Value} {Z : State} (hw : HW a0 Z) : (Cond.instanceMethod ⟨"java/util/ArrayList", "<init>", "()V"⟩).before a0 Z = true := w_at hw 36 rfl
theorem w_37 {a0 : Array Value} {Z : State} (hw : HW a0 Z) : (Cond.code ⟨"java/util/ArrayList", "<init>", "()V"⟩ jdk_38_method_2_code 1 (Option.none : Option FieldType)).before a0 Z = true := w_at hw 37 rfl
theorem w_38 {a0 : Array Value} {Z : State} (hw : HW a0 Z) : (Cond.methodLink "java/util/ArrayList" 1 ⟨"java/util/AbstractList", "<init>", "()V"⟩).before a0 Z = true := w_at hw 38 rfl
theorem w_39 {a0 : Array Value} {Z : State} (hw : HW a0 Z) : (Cond.instanceMethod ⟨"java/util/AbstractList", "<init>", "()V"⟩).before a0 Z = true := w_at hw 39 rfl
theorem w_42 {a0 : Array Value} {Z : State} (hw : HW a0 Z) : (Cond.initialized "java/util/AbstractList").before a0 Z = true := w_at hw 42 rfl
theorem w_43 {a0 : Array Value} {Z : State} (hw : HW a0 Z) : (Cond.code ⟨"java/util/AbstractList", "<init>", "()V"⟩ jdk_39_method_1_code 1 (Option.none : Option FieldType)).before a0 Z = true := w_at hw 43 rfl
theorem w_44 {a0 : Array Value} {Z : State} (hw : HW a0 Z) : (Cond.methodLink "java/util/AbstractList" 1 ⟨"java/util/AbstractCollection", "<init>", "()V"⟩).before a0 Z = true := w_at hw 44 rfl
theorem w_45 {a0 : Array Value} {Z : State} (hw : HW a0 Z) : (Cond.instanceMethod ⟨"java/util/AbstractCollection", "<init>", "()V"⟩).before a0 Z = true := w_at hw 45 rfl
theorem w_48 {a0 : Array Value} {Z : State} (hw : HW a0 Z) : (Cond.initialized "java/util/AbstractCollection").before a0 Z = true := w_at hw 48 rfl
theorem w_49 {a0 : Array Value} {Z : State} (hw : HW a0 Z) : (Cond.code ⟨"java/util/AbstractCollection", "<init>", "()V"⟩ jdk_22_method_1_code 1 (Option.none : Option FieldType)).before a0 Z = true := w_at hw 49 rfl
theorem w_50 {a0 : Array Value} {Z : State} (hw : HW a0 Z) : (Cond.methodLink "java/util/AbstractCollection" 1 ⟨"java/lang/Object", "<init>", "()V"⟩).before a0 Z = true := w_at hw 50 rfl
theorem w_51 {a0 : Array Value} {Z : State} (hw : HW a0 Z) : (Cond.fieldLink "java/util/AbstractList" 7 "java/util/AbstractList" "modCount" "I").before a0 Z = true := w_at hw 51 rfl
theorem w_52 {a0 : Array Value} {Z : State} (hw : HW a0 Z) : (Cond.lays "java/util/ArrayList" "java/util/AbstractList" "modCount" "I").before a0 Z = true := w_at hw 52 rfl
theorem w_53 {a0 : Array Value} {Z : State} (hw : HW a0 Z) : (Cond.fieldLink "java/util/ArrayList" 39 "java/util/ArrayList" "DEFAULTCAPACITY_EMPTY_ELEMENTDATA" "[Ljava/lang/Object;").before a0 Z = true := w_at hw 53 rfl
theorem w_54 {a0 : Array Value} {Z : State} (hw : HW a0 Z) : (Cond.fieldLink "java/util/ArrayList" 9 "java/util/ArrayList" "elementData" "[Ljava/lang/Object;").before a0 Z = true := w_at hw 54 rfl
theorem w_55 {a0 : Array Value} {Z : State} (hw : HW a0 Z) : (Cond.lays "java/util/ArrayList" "java/util/ArrayList" "elementData" "[Ljava/lang/Object;").before a0 Z = true := w_at hw 55 rfl
theorem w_56 {a0 : Array Value} {Z : State} (hw : HW a0 Z) : (Cond.fieldLink "com/example/arbiter/arbiter/service/ClaimCursorFromPinLaw" 34 "java/time/Instant" "MAX" "Ljava/time/Instant;").before a0 Z = true := w_at hw 56 rfl
theorem w_57 {a0 : Array Value} {Z : State} (hw : HW a0 Z) : (Cond.methodLink "com/example/arbiter/arbiter/service/ClaimCursorFromPinLaw" 37 ⟨"com/example/arbiter/arbiter/store/JobStore$Claim", "<init>", "(Ljava/util/List;Lcom/example/arbiter/arbiter/store/JobStore$Position;Ljava/time/Instant;)V"⟩).before a0 Z = true := w_at hw 57 rfl
theorem w_58 {a0 : Array Value} {Z : State} (hw : HW a0 Z) : (Cond.instanceMethod ⟨"com/example/arbiter/arbiter/store/JobStore$Claim", "<init>", "(Ljava/util/List;Lcom/example/arbiter/arbiter/store/JobStore$Position;Ljava/time/Instant;)V"⟩).before a0 Z = true := w_at hw 58 rfl
theorem w_59 {a0 : Array Value} {Z : State} (hw : HW a0 Z) : (Cond.code ⟨"com/example/arbiter/arbiter/store/JobStore$Claim", "<init>", "(Ljava/util/List;Lcom/example/arbiter/arbiter/store/JobStore$Position;Ljava/time/Instant;)V"⟩ prog_32_method_1_code 4 (Option.none : Option FieldType)).before a0 Z = true := w_at hw 59 rfl
theorem w_60 {a0 : Array Value} {Z : State} (hw : HW a0 Z) : (Cond.methodLink "com/example/arbiter/arbiter/store/JobStore$Claim" 1 ⟨"java/lang/Record", "<init>", "()V"⟩).before a0 Z = true := w_at hw 60 rfl
theorem w_61 {a0 : Array Value} {Z : State} (hw : HW a0 Z) : (Cond.fieldLink "com/example/arbiter/arbiter/store/JobStore$Claim" 7 "com/example/arbiter/arbiter/store/JobStore$Claim" "jobs" "Ljava/util/List;").before a0 Z = true := w_at hw 61 rfl
theorem w_62 {a0 : Array Value} {Z : State} (hw : HW a0 Z) : (Cond.laysFinal "com/example/arbiter/arbiter/store/JobStore$Claim" "com/example/arbiter/arbiter/store/JobStore$Claim" "jobs" "Ljava/util/List;").before a0 Z = true := w_at hw 62 rfl
theorem w_63 {a0 : Array Value} {Z : State} (hw : HW a0 Z) : (Cond.fieldLink "com/example/arbiter/arbiter/store/JobStore$Claim" 13 "com/example/arbiter/arbiter/store/JobStore$Claim" "end" "Lcom/example/arbiter/arbiter/store/JobStore$Position;").before a0 Z = true := w_at hw 63 rfl
theorem w_64 {a0 : Array Value} {Z : State} (hw : HW a0 Z) : (Cond.laysFinal "com/example/arbiter/arbiter/store/JobStore$Claim" "com/example/arbiter/arbiter/store/JobStore$Claim" "end" "Lcom/example/arbiter/arbiter/store/JobStore$Position;").before a0 Z = true := w_at hw 64 rfl
theorem w_65 {a0 : Array Value} {Z : State} (hw : HW a0 Z) : (Cond.fieldLink "com/example/arbiter/arbiter/store/JobStore$Claim" 17 "com/example/arbiter/arbiter/store/JobStore$Claim" "readAt" "Ljava/time/Instant;").before a0 Z = true := w_at hw 65 rfl
theorem w_66 {a0 : Array Value} {Z : State} (hw : HW a0 Z) : (Cond.laysFinal "com/example/arbiter/arbiter/store/JobStore$Claim" "com/example/arbiter/arbiter/store/JobStore$Claim" "readAt" "Ljava/time/Instant;").before a0 Z = true := w_at hw 66 rfl
theorem w_67 {a0 : Array Value} {Z : State} (hw : HW a0 Z) : (Cond.methodLink "com/example/arbiter/arbiter/service/ClaimCursorFromPinLaw" 40 ⟨"com/example/arbiter/arbiter/service/ClaimCursor", "moved", "(Lcom/example/arbiter/arbiter/store/JobStore$Position;Lcom/example/arbiter/arbiter/store/JobStore$Claim;JJ)V"⟩).before a0 Z = true := w_at hw 67 rfl
theorem w_68 {a0 : Array Value} {Z : State} (hw : HW a0 Z) : (Cond.declares ⟨"com/example/arbiter/arbiter/service/ClaimCursor", "moved", "(Lcom/example/arbiter/arbiter/store/JobStore$Position;Lcom/example/arbiter/arbiter/store/JobStore$Claim;JJ)V"⟩).before a0 Z = true := w_at hw 68 rfl
theorem w_69 {a0 : Array Value} {Z : State} (hw : HW a0 Z) : (Cond.instanceMethod ⟨"com/example/arbiter/arbiter/service/ClaimCursor", "moved", "(Lcom/example/arbiter/arbiter/store/JobStore$Position;Lcom/example/arbiter/arbiter/store/JobStore$Claim;JJ)V"⟩).before a0 Z = true := w_at hw 69 rfl
theorem w_70 {a0 : Array Value} {Z : State} (hw : HW a0 Z) : (Cond.selects "com/example/arbiter/arbiter/service/ClaimCursor" ⟨"com/example/arbiter/arbiter/service/ClaimCursor", "moved", "(Lcom/example/arbiter/arbiter/store/JobStore$Position;Lcom/example/arbiter/arbiter/store/JobStore$Claim;JJ)V"⟩ ⟨"com/example/arbiter/arbiter/service/ClaimCursor", "moved", "(Lcom/example/arbiter/arbiter/store/JobStore$Position;Lcom/example/arbiter/arbiter/store/JobStore$Claim;JJ)V"⟩).before a0 Z = true := w_at hw 70 rfl
theorem w_71 {a0 : Array Value} {Z : State} (hw : HW a0 Z) : (Cond.code ⟨"com/example/arbiter/arbiter/service/ClaimCursor", "moved", "(Lcom/example/arbiter/arbiter/store/JobStore$Position;Lcom/example/arbiter/arbiter/store/JobStore$Claim;JJ)V"⟩ prog_14_method_3_code 8 (Option.none : Option FieldType)).before a0 Z = true := w_at hw 71 rfl
theorem w_72 {a0 : Array Value} {Z : State} (hw : HW a0 Z) : (Cond.fieldLink "com/example/arbiter/arbiter/service/ClaimCursor" 31 "com/example/arbiter/arbiter/service/ClaimCursor" "oldestReadAt" "J").before a0 Z = true := w_at hw 72 rfl
theorem w_73 {a0 : Array Value} {Z : State} (hw : HW a0 Z) : (Cond.lays "com/example/arbiter/arbiter/service/ClaimCursor" "com/example/arbiter/arbiter/service/ClaimCursor" "oldestReadAt" "J").before a0 Z = true := w_at hw 73 rfl
theorem w_74 {a0 : Array Value} {Z : State} (hw : HW a0 Z) : (Cond.fieldLink "com/example/arbiter/arbiter/service/ClaimCursor" 21 "com/example/arbiter/arbiter/service/ClaimCursor" "oldestReadNanos" "J").before a0 Z = true := w_at hw 74 rfl
theorem w_75 {a0 : Array Value} {Z : State} (hw : HW a0 Z) : (Cond.lays "com/example/arbiter/arbiter/service/ClaimCursor" "com/example/arbiter/arbiter/service/ClaimCursor" "oldestReadNanos" "J").before a0 Z = true := w_at hw 75 rfl
theorem w_76 {a0 : Array Value} {Z : State} (hw : HW a0 Z) : (Cond.methodLink "com/example/arbiter/arbiter/service/ClaimCursor" 38 ⟨"com/example/arbiter/arbiter/store/JobStore$Claim", "readAt", "()Ljava/time/Instant;"⟩).before a0 Z = true := w_at hw 76 rfl
theorem w_77 {a0 : Array Value} {Z : State} (hw : HW a0 Z) : (Cond.declares ⟨"com/example/arbiter/arbiter/store/JobStore$Claim", "readAt", "()Ljava/time/Instant;"⟩).before a0 Z = true := w_at hw 77 rfl
theorem w_78 {a0 : Array Value} {Z : State} (hw : HW a0 Z) : (Cond.instanceMethod ⟨"com/example/arbiter/arbiter/store/JobStore$Claim", "readAt", "()Ljava/time/Instant;"⟩).before a0 Z = true := w_at hw 78 rfl
theorem w_79 {a0 : Array Value} {Z : State} (hw : HW a0 Z) : (Cond.selects "com/example/arbiter/arbiter/store/JobStore$Claim" ⟨"com/example/arbiter/arbiter/store/JobStore$Claim", "readAt", "()Ljava/time/Instant;"⟩ ⟨"com/example/arbiter/arbiter/store/JobStore$Claim", "readAt", "()Ljava/time/Instant;"⟩).before a0 Z = true := w_at hw 79 rfl
theorem w_80 {a0 : Array Value} {Z : State} (hw : HW a0 Z) : (Cond.code ⟨"com/example/arbiter/arbiter/store/JobStore$Claim", "readAt", "()Ljava/time/Instant;"⟩ prog_32_method_7_code 1 (Option.some (FieldType.object "java/time/Instant"))).before a0 Z = true := w_at hw 80 rfl
theorem w_81 {a0 : Array Value} {Z : State} (hw : HW a0 Z) : (Cond.fieldLink "com/example/arbiter/arbiter/service/ClaimCursor" 44 "com/example/arbiter/arbiter/service/ClaimCursor" "LATE_COMMIT" "Ljava/time/Duration;").before a0 Z = true := w_at hw 81 rfl
theorem w_82 {a0 : Array Value} {Z : State} (hw : HW a0 Z) : (Cond.laysStatic "com/example/arbiter/arbiter/service/ClaimCursor" "LATE_COMMIT" "Ljava/time/Duration;").before a0 Z = true := w_at hw 82 rfl
theorem w_83 {a0 : Array Value} {Z : State} (hw : HW a0 Z) : (Cond.methodLink "com/example/arbiter/arbiter/service/ClaimCursor" 47 ⟨"java/time/Instant", "minus", "(Ljava/time/temporal/TemporalAmount;)Ljava/time/Instant;"⟩).before a0 Z = true := w_at hw 83 rfl
theorem w_84 {a0 : Array Value} {Z : State} (hw : HW a0 Z) : (Cond.declares ⟨"java/time/Instant", "minus", "(Ljava/time/temporal/TemporalAmount;)Ljava/time/Instant;"⟩).before a0 Z = true := w_at hw 84 rfl
theorem w_85 {a0 : Array Value} {Z : State} (hw : HW a0 Z) : (Cond.instanceMethod ⟨"java/time/Instant", "minus", "(Ljava/time/temporal/TemporalAmount;)Ljava/time/Instant;"⟩).before a0 Z = true := w_at hw 85 rfl
theorem w_86 {a0 : Array Value} {Z : State} (hw : HW a0 Z) : (Cond.selects "java/time/Instant" ⟨"java/time/Instant", "minus", "(Ljava/time/temporal/TemporalAmount;)Ljava/time/Instant;"⟩ ⟨"java/time/Instant", "minus", "(Ljava/time/temporal/TemporalAmount;)Ljava/time/Instant;"⟩).before a0 Z = true := w_at hw 86 rfl
theorem w_87 {a0 : Array Value} {Z : State} (hw : HW a0 Z) : (Cond.code ⟨"java/time/Instant", "minus", "(Ljava/time/temporal/TemporalAmount;)Ljava/time/Instant;"⟩ jdk_2320_method_26_code 2 (Option.some (FieldType.object "java/time/Instant"))).before a0 Z = true := w_at hw 87 rfl
theorem w_88 {a0 : Array Value} {Z : State} (hw : HW a0 Z) : (Cond.methodLink "java/time/Instant" 279 ⟨"java/time/temporal/TemporalAmount", "subtractFrom", "(Ljava/time/temporal/Temporal;)Ljava/time/temporal/Temporal;"⟩).before a0 Z = true := w_at hw 88 rfl
theorem w_89 {a0 : Array Value} {Z : State} (hw : HW a0 Z) : (Cond.declares ⟨"java/time/temporal/TemporalAmount", "subtractFrom", "(Ljava/time/temporal/Temporal;)Ljava/time/temporal/Temporal;"⟩).before a0 Z = true := w_at hw 89 rfl
theorem w_90 {a0 : Array Value} {Z : State} (hw : HW a0 Z) : (Cond.interfaceMethod "java/time/temporal/TemporalAmount" "java/time/temporal/TemporalAmount" "subtractFrom" "(Ljava/time/temporal/Temporal;)Ljava/time/temporal/Temporal;").before a0 Z = true := w_at hw 90 rfl
theorem w_91 {a0 : Array Value} {Z : State} (hw : HW a0 Z) : (Cond.selects "java/time/Duration" ⟨"java/time/temporal/TemporalAmount", "subtractFrom", "(Ljava/time/temporal/Temporal;)Ljava/time/temporal/Temporal;"⟩ ⟨"java/time/Duration", "subtractFrom", "(Ljava/time/temporal/Temporal;)Ljava/time/temporal/Temporal;"⟩).before a0 Z = true := w_at hw 91 rfl
theorem w_92 {a0 : Array Value} {Z : State} (hw : HW a0 Z) : (Cond.instanceMethod ⟨"java/time/Duration", "subtractFrom", "(Ljava/time/temporal/Temporal;)Ljava/time/temporal/Temporal;"⟩).before a0 Z = true := w_at hw 92 rfl
theorem w_93 {a0 : Array Value} {Z : State} (hw : HW a0 Z) : (Cond.publicMethod ⟨"java/time/Duration", "subtractFrom", "(Ljava/time/temporal/Temporal;)Ljava/time/temporal/Temporal;"⟩).before a0 Z = true := w_at hw 93 rfl
theorem w_94 {a0 : Array Value} {Z : State} (hw : HW a0 Z) : (Cond.unhidden "java/time/Duration" "subtractFrom" "(Ljava/time/temporal/Temporal;)Ljava/time/temporal/Temporal;").before a0 Z = true := w_at hw 94 rfl
theorem w_95 {a0 : Array Value} {Z : State} (hw : HW a0 Z) : (Cond.castable "java/time/Duration" "java/time/temporal/TemporalAmount").before a0 Z = true := w_at hw 95 rfl
theorem w_96 {a0 : Array Value} {Z : State} (hw : HW a0 Z) : (Cond.initialized "java/time/Duration").before a0 Z = true := w_at hw 96 rfl
theorem w_97 {a0 : Array Value} {Z : State} (hw : HW a0 Z) : (Cond.code ⟨"java/time/Duration", "subtractFrom", "(Ljava/time/temporal/Temporal;)Ljava/time/temporal/Temporal;"⟩ jdk_2316_method_52_code 2 (Option.some (FieldType.object "java/time/temporal/Temporal"))).before a0 Z = true := w_at hw 97 rfl
theorem w_98 {a0 : Array Value} {Z : State} (hw : HW a0 Z) : (Cond.fieldLink "java/time/Duration" 221 "java/time/Duration" "seconds" "J").before a0 Z = true := w_at hw 98 rfl
theorem w_100 {a0 : Array Value} {Z : State} (hw : HW a0 Z) : (Cond.fieldLink "java/time/Duration" 224 "java/time/Duration" "nanos" "I").before a0 Z = true := w_at hw 100 rfl
theorem w_102 {a0 : Array Value} {Z : State} (hw : HW a0 Z) : (Cond.fieldLink "java/time/Duration" 184 "java/time/temporal/ChronoUnit" "NANOS" "Ljava/time/temporal/ChronoUnit;").before a0 Z = true := w_at hw 102 rfl
theorem w_104 {a0 : Array Value} {Z : State} (hw : HW a0 Z) : (Cond.methodLink "java/time/Duration" 390 ⟨"java/time/temporal/Temporal", "minus", "(JLjava/time/temporal/TemporalUnit;)Ljava/time/temporal/Temporal;"⟩).before a0 Z = true := w_at hw 104 rfl
theorem w_105 {a0 : Array Value} {Z : State} (hw : HW a0 Z) : (Cond.declares ⟨"java/time/temporal/Temporal", "minus", "(JLjava/time/temporal/TemporalUnit;)Ljava/time/temporal/Temporal;"⟩).before a0 Z = true := w_at hw 105 rfl
theorem w_106 {a0 : Array Value} {Z : State} (hw : HW a0 Z) : (Cond.interfaceMethod "java/time/temporal/Temporal" "java/time/temporal/Temporal" "minus" "(JLjava/time/temporal/TemporalUnit;)Ljava/time/temporal/Temporal;").before a0 Z = true := w_at hw 106 rfl
theorem w_107 {a0 : Array Value} {Z : State} (hw : HW a0 Z) : (Cond.selects "java/time/Instant" ⟨"java/time/temporal/Temporal", "minus", "(JLjava/time/temporal/TemporalUnit;)Ljava/time/temporal/Temporal;"⟩ ⟨"java/time/Instant", "minus", "(JLjava/time/temporal/TemporalUnit;)Ljava/time/temporal/Temporal;"⟩).before a0 Z = true := w_at hw 107 rfl
theorem w_108 {a0 : Array Value} {Z : State} (hw : HW a0 Z) : (Cond.instanceMethod ⟨"java/time/Instant", "minus", "(JLjava/time/temporal/TemporalUnit;)Ljava/time/temporal/Temporal;"⟩).before a0 Z = true := w_at hw 108 rfl
theorem w_109 {a0 : Array Value} {Z : State} (hw : HW a0 Z) : (Cond.publicMethod ⟨"java/time/Instant", "minus", "(JLjava/time/temporal/TemporalUnit;)Ljava/time/temporal/Temporal;"⟩).before a0 Z = true := w_at hw 109 rfl
theorem w_110 {a0 : Array Value} {Z : State} (hw : HW a0 Z) : (Cond.unhidden "java/time/Instant" "minus" "(JLjava/time/temporal/TemporalUnit;)Ljava/time/temporal/Temporal;").before a0 Z = true := w_at hw 110 rfl
theorem w_111 {a0 : Array Value} {Z : State} (hw : HW a0 Z) : (Cond.castable "java/time/Instant" "java/time/temporal/Temporal").before a0 Z = true := w_at hw 111 rfl
theorem w_112 {a0 : Array Value} {Z : State} (hw : HW a0 Z) : (Cond.code ⟨"java/time/Instant", "minus", "(JLjava/time/temporal/TemporalUnit;)Ljava/time/temporal/Temporal;"⟩ jdk_2320_method_51_code 4 (Option.some (FieldType.object "java/time/temporal/Temporal"))).before a0 Z = true := w_at hw 112 rfl
theorem w_113 {a0 : Array Value} {Z : State} (hw : HW a0 Z) : (Cond.methodLink "java/time/Instant" 407 ⟨"java/time/Instant", "minus", "(JLjava/time/temporal/TemporalUnit;)Ljava/time/Instant;"⟩).before a0 Z = true := w_at hw 113 rfl
theorem w_114 {a0 : Array Value} {Z : State} (hw : HW a0 Z) : (Cond.declares ⟨"java/time/Instant", "minus", "(JLjava/time/temporal/TemporalUnit;)Ljava/time/Instant;"⟩).before a0 Z = true := w_at hw 114 rfl
theorem w_115 {a0 : Array Value} {Z : State} (hw : HW a0 Z) : (Cond.instanceMethod ⟨"java/time/Instant", "minus", "(JLjava/time/temporal/TemporalUnit;)Ljava/time/Instant;"⟩).before a0 Z = true := w_at hw 115 rfl
theorem w_116 {a0 : Array Value} {Z : State} (hw : HW a0 Z) : (Cond.selects "java/time/Instant" ⟨"java/time/Instant", "minus", "(JLjava/time/temporal/TemporalUnit;)Ljava/time/Instant;"⟩ ⟨"java/time/Instant", "minus", "(JLjava/time/temporal/TemporalUnit;)Ljava/time/Instant;"⟩).before a0 Z = true := w_at hw 116 rfl
theorem w_117 {a0 : Array Value} {Z : State} (hw : HW a0 Z) : (Cond.code ⟨"java/time/Instant", "minus", "(JLjava/time/temporal/TemporalUnit;)Ljava/time/Instant;"⟩ jdk_2320_method_27_code 4 (Option.some (FieldType.object "java/time/Instant"))).before a0 Z = true := w_at hw 117 rfl
theorem w_118 {a0 : Array Value} {Z : State} (hw : HW a0 Z) : (Cond.constantLong "java/time/Instant" 284 (-9223372036854775808 : Int64)).before a0 Z = true := w_at hw 118 rfl
theorem w_119 {a0 : Array Value} {Z : State} (hw : HW a0 Z) : (Cond.methodLink "java/time/Instant" 288 ⟨"java/time/Instant", "plus", "(JLjava/time/temporal/TemporalUnit;)Ljava/time/Instant;"⟩).before a0 Z = true := w_at hw 119 rfl
theorem w_120 {a0 : Array Value} {Z : State} (hw : HW a0 Z) : (Cond.declares ⟨"java/time/Instant", "plus", "(JLjava/time/temporal/TemporalUnit;)Ljava/time/Instant;"⟩).before a0 Z = true := w_at hw 120 rfl
theorem w_121 {a0 : Array Value} {Z : State} (hw : HW a0 Z) : (Cond.instanceMethod ⟨"java/time/Instant", "plus", "(JLjava/time/temporal/TemporalUnit;)Ljava/time/Instant;"⟩).before a0 Z = true := w_at hw 121 rfl
theorem w_122 {a0 : Array Value} {Z : State} (hw : HW a0 Z) : (Cond.selects "java/time/Instant" ⟨"java/time/Instant", "plus", "(JLjava/time/temporal/TemporalUnit;)Ljava/time/Instant;"⟩ ⟨"java/time/Instant", "plus", "(JLjava/time/temporal/TemporalUnit;)Ljava/time/Instant;"⟩).before a0 Z = true := w_at hw 122 rfl
theorem w_123 {a0 : Array Value} {Z : State} (hw : HW a0 Z) : (Cond.code ⟨"java/time/Instant", "plus", "(JLjava/time/temporal/TemporalUnit;)Ljava/time/Instant;"⟩ jdk_2320_method_21_code 5 (Option.some (FieldType.object "java/time/Instant"))).before a0 Z = true := w_at hw 123 rfl
theorem w_124 {a0 : Array Value} {Z : State} (hw : HW a0 Z) : (Cond.classLink "java/time/Instant" 160 "java/time/temporal/ChronoUnit").before a0 Z = true := w_at hw 124 rfl
theorem w_126 {a0 : Array Value} {Z : State} (hw : HW a0 Z) : (Cond.fieldLink "java/time/Instant" 253 "java/time/Instant$1" "$SwitchMap$java$time$temporal$ChronoUnit" "[I").before a0 Z = true := w_at hw 126 rfl
theorem w_128 {a0 : Array Value} {Z : State} (hw : HW a0 Z) : (Cond.methodLink "java/time/Instant" 256 ⟨"java/time/temporal/ChronoUnit", "ordinal", "()I"⟩).before a0 Z = true := w_at hw 128 rfl
theorem w_129 {a0 : Array Value} {Z : State} (hw : HW a0 Z) : (Cond.sameMethod "java/time/temporal/ChronoUnit" "java/lang/Enum" "ordinal" "()I").before a0 Z = true := w_at hw 129 rfl
theorem w_130 {a0 : Array Value} {Z : State} (hw : HW a0 Z) : (Cond.declares ⟨"java/lang/Enum", "ordinal", "()I"⟩).before a0 Z = true := w_at hw 130 rfl
theorem w_131 {a0 : Array Value} {Z : State} (hw : HW a0 Z) : (Cond.instanceMethod ⟨"java/lang/Enum", "ordinal", "()I"⟩).before a0 Z = true := w_at hw 131 rfl
theorem w_132 {a0 : Array Value} {Z : State} (hw : HW a0 Z) : (Cond.selects "java/time/temporal/ChronoUnit" ⟨"java/time/temporal/ChronoUnit", "ordinal", "()I"⟩ ⟨"java/lang/Enum", "ordinal", "()I"⟩).before a0 Z = true := w_at hw 132 rfl
theorem w_133 {a0 : Array Value} {Z : State} (hw : HW a0 Z) : (Cond.initialized "java/lang/Enum").before a0 Z = true := w_at hw 133 rfl
theorem w_134 {a0 : Array Value} {Z : State} (hw : HW a0 Z) : (Cond.code ⟨"java/lang/Enum", "ordinal", "()I"⟩ jdk_37_method_2_code 1 (Option.some FieldType.int)).before a0 Z = true := w_at hw 134 rfl
theorem w_135 {a0 : Array Value} {Z : State} (hw : HW a0 Z) : (Cond.fieldLink "java/lang/Enum" 7 "java/lang/Enum" "ordinal" "I").before a0 Z = true := w_at hw 135 rfl
theorem w_137 {a0 : Array Value} {Z : State} (hw : HW a0 Z) : (Cond.methodLink "java/time/Instant" 244 ⟨"java/time/Instant", "plusNanos", "(J)Ljava/time/Instant;"⟩).before a0 Z = true := w_at hw 137 rfl
theorem w_138 {a0 : Array Value} {Z : State} (hw : HW a0 Z) : (Cond.declares ⟨"java/time/Instant", "plusNanos", "(J)Ljava/time/Instant;"⟩).before a0 Z = true := w_at hw 138 rfl
theorem w_139 {a0 : Array Value} {Z : State} (hw : HW a0 Z) : (Cond.instanceMethod ⟨"java/time/Instant", "plusNanos", "(J)Ljava/time/Instant;"⟩).before a0 Z = true := w_at hw 139 rfl
theorem w_140 {a0 : Array Value} {Z : State} (hw : HW a0 Z) : (Cond.selects "java/time/Instant" ⟨"java/time/Instant", "plusNanos", "(J)Ljava/time/Instant;"⟩ ⟨"java/time/Instant", "plusNanos", "(J)Ljava/time/Instant;"⟩).before a0 Z = true := w_at hw 140 rfl
theorem w_141 {a0 : Array Value} {Z : State} (hw : HW a0 Z) : (Cond.code ⟨"java/time/Instant", "plusNanos", "(J)Ljava/time/Instant;"⟩ jdk_2320_method_24_code 3 (Option.some (FieldType.object "java/time/Instant"))).before a0 Z = true := w_at hw 141 rfl
theorem w_142 {a0 : Array Value} {Z : State} (hw : HW a0 Z) : (Cond.methodLink "java/time/Instant" 261 ⟨"java/time/Instant", "plus", "(JJ)Ljava/time/Instant;"⟩).before a0 Z = true := w_at hw 142 rfl
theorem w_143 {a0 : Array Value} {Z : State} (hw : HW a0 Z) : (Cond.instanceMethod ⟨"java/time/Instant", "plus", "(JJ)Ljava/time/Instant;"⟩).before a0 Z = true := w_at hw 143 rfl
theorem w_144 {a0 : Array Value} {Z : State} (hw : HW a0 Z) : (Cond.privateMethod ⟨"java/time/Instant", "plus", "(JJ)Ljava/time/Instant;"⟩).before a0 Z = true := w_at hw 144 rfl
theorem w_145 {a0 : Array Value} {Z : State} (hw : HW a0 Z) : (Cond.selects "java/time/Instant" ⟨"java/time/Instant", "plus", "(JJ)Ljava/time/Instant;"⟩ ⟨"java/time/Instant", "plus", "(JJ)Ljava/time/Instant;"⟩).before a0 Z = true := w_at hw 145 rfl
theorem w_146 {a0 : Array Value} {Z : State} (hw : HW a0 Z) : (Cond.code ⟨"java/time/Instant", "plus", "(JJ)Ljava/time/Instant;"⟩ jdk_2320_method_25_code 9 (Option.some (FieldType.object "java/time/Instant"))).before a0 Z = true := w_at hw 146 rfl
theorem w_147 {a0 : Array Value} {Z : State} (hw : HW a0 Z) : (Cond.fieldLink "java/time/Instant" 140 "java/time/Instant" "seconds" "J").before a0 Z = true := w_at hw 147 rfl
theorem w_148 {a0 : Array Value} {Z : State} (hw : HW a0 Z) : (Cond.laysFinal "java/time/Instant" "java/time/Instant" "seconds" "J").before a0 Z = true := w_at hw 148 rfl
theorem w_149 {a0 : Array Value} {Z : State} (hw : HW a0 Z) : (Cond.methodLink "java/time/Instant" 34 ⟨"java/lang/Math", "addExact", "(JJ)J"⟩).before a0 Z = true := w_at hw 149 rfl
theorem w_150 {a0 : Array Value} {Z : State} (hw : HW a0 Z) : (Cond.static ⟨"java/lang/Math", "addExact", "(JJ)J"⟩).before a0 Z = true := w_at hw 150 rfl
theorem w_151 {a0 : Array Value} {Z : State} (hw : HW a0 Z) : (Cond.initialized "java/lang/Math").before a0 Z = true := w_at hw 151 rfl
theorem w_152 {a0 : Array Value} {Z : State} (hw : HW a0 Z) : (Cond.code ⟨"java/lang/Math", "addExact", "(JJ)J"⟩ jdk_29_method_25_code 6 (Option.some FieldType.long)).before a0 Z = true := w_at hw 152 rfl
theorem w_153 {a0 : Array Value} {Z : State} (hw : HW a0 Z) : (Cond.constantLong "java/time/Instant" 26 (1000000000 : Int64)).before a0 Z = true := w_at hw 153 rfl
theorem w_154 {a0 : Array Value} {Z : State} (hw : HW a0 Z) : (Cond.fieldLink "java/time/Instant" 144 "java/time/Instant" "nanos" "I").before a0 Z = true := w_at hw 154 rfl
theorem w_155 {a0 : Array Value} {Z : State} (hw : HW a0 Z) : (Cond.laysFinal "java/time/Instant" "java/time/Instant" "nanos" "I").before a0 Z = true := w_at hw 155 rfl
theorem w_156 {a0 : Array Value} {Z : State} (hw : HW a0 Z) : (Cond.methodLink "java/time/Instant" 68 ⟨"java/time/Instant", "ofEpochSecond", "(JJ)Ljava/time/Instant;"⟩).before a0 Z = true := w_at hw 156 rfl
theorem w_157 {a0 : Array Value} {Z : State} (hw : HW a0 Z) : (Cond.static ⟨"java/time/Instant", "ofEpochSecond", "(JJ)Ljava/time/Instant;"⟩).before a0 Z = true := w_at hw 157 rfl
theorem w_158 {a0 : Array Value} {Z : State} (hw : HW a0 Z) : (Cond.code ⟨"java/time/Instant", "ofEpochSecond", "(JJ)Ljava/time/Instant;"⟩ jdk_2320_method_4_code 7 (Option.some (FieldType.object "java/time/Instant"))).before a0 Z = true := w_at hw 158 rfl
theorem w_159 {a0 : Array Value} {Z : State} (hw : HW a0 Z) : (Cond.methodLink "java/time/Instant" 28 ⟨"java/lang/Math", "floorDiv", "(JJ)J"⟩).before a0 Z = true := w_at hw 159 rfl
theorem w_160 {a0 : Array Value} {Z : State} (hw : HW a0 Z) : (Cond.static ⟨"java/lang/Math", "floorDiv", "(JJ)J"⟩).before a0 Z = true := w_at hw 160 rfl
theorem w_161 {a0 : Array Value} {Z : State} (hw : HW a0 Z) : (Cond.code ⟨"java/lang/Math", "floorDiv", "(JJ)J"⟩ jdk_29_method_49_code 6 (Option.some FieldType.long)).before a0 Z = true := w_at hw 161 rfl
theorem w_162 {a0 : Array Value} {Z : State} (hw : HW a0 Z) : (Cond.methodLink "java/time/Instant" 37 ⟨"java/lang/Math", "floorMod", "(JJ)J"⟩).before a0 Z = true := w_at hw 162 rfl
theorem w_163 {a0 : Array Value} {Z : State} (hw : HW a0 Z) : (Cond.static ⟨"java/lang/Math", "floorMod", "(JJ)J"⟩).before a0 Z = true := w_at hw 163 rfl
theorem w_164 {a0 : Array Value} {Z : State} (hw : HW a0 Z) : (Cond.code ⟨"java/lang/Math", "floorMod", "(JJ)J"⟩ jdk_29_method_52_code 6 (Option.some FieldType.long)).before a0 Z = true := w_at hw 164 rfl
theorem w_165 {a0 : Array Value} {Z : State} (hw : HW a0 Z) : (Cond.methodLink "java/time/Instant" 20 ⟨"java/time/Instant", "create", "(JI)Ljava/time/Instant;"⟩).before a0 Z = true := w_at hw 165 rfl
theorem w_166 {a0 : Array Value} {Z : State} (hw : HW a0 Z) : (Cond.static ⟨"java/time/Instant", "create", "(JI)Ljava/time/Instant;"⟩).before a0 Z = true := w_at hw 166 rfl
theorem w_167 {a0 : Array Value} {Z : State} (hw : HW a0 Z) : (Cond.code ⟨"java/time/Instant", "create", "(JI)Ljava/time/Instant;"⟩ jdk_2320_method_8_code 3 (Option.some (FieldType.object "java/time/Instant"))).before a0 Z = true := w_at hw 167 rfl
theorem w_168 {a0 : Array Value} {Z : State} (hw : HW a0 Z) : (Cond.constantLong "java/time/Instant" 125 (-31557014167219200 : Int64)).before a0 Z = true := w_at hw 168 rfl
theorem w_169 {a0 : Array Value} {Z : State} (hw : HW a0 Z) : (Cond.constantLong "java/time/Instant" 127 (31556889864403199 : Int64)).before a0 Z = true := w_at hw 169 rfl
theorem w_170 {a0 : Array Value} {Z : State} (hw : HW a0 Z) : (Cond.classLink "java/time/Instant" 21 "java/time/Instant").before a0 Z = true := w_at hw 170 rfl
theorem w_171 {a0 : Array Value} {Z : State} (hw : HW a0 Z) : (Cond.instantiable "java/time/Instant" 2).before a0 Z = true := w_at hw 171 rfl
theorem w_172 {a0 : Array Value} {Z : State} (hw : HW a0 Z) : (Cond.methodLink "java/time/Instant" 134 ⟨"java/time/Instant", "<init>", "(JI)V"⟩).before a0 Z = true := w_at hw 172 rfl
theorem w_173 {a0 : Array Value} {Z : State} (hw : HW a0 Z) : (Cond.instanceMethod ⟨"java/time/Instant", "<init>", "(JI)V"⟩).before a0 Z = true := w_at hw 173 rfl
theorem w_175 {a0 : Array Value} {Z : State} (hw : HW a0 Z) : (Cond.code ⟨"java/time/Instant", "<init>", "(JI)V"⟩ jdk_2320_method_9_code 4 (Option.none : Option FieldType)).before a0 Z = true := w_at hw 175 rfl
theorem w_176 {a0 : Array Value} {Z : State} (hw : HW a0 Z) : (Cond.methodLink "java/time/Instant" 137 ⟨"java/lang/Object", "<init>", "()V"⟩).before a0 Z = true := w_at hw 176 rfl
theorem w_177 {a0 : Array Value} {Z : State} (hw : HW a0 Z) : (Cond.methodLink "com/example/arbiter/arbiter/service/ClaimCursor" 53 ⟨"com/example/arbiter/arbiter/store/JobStore$Position", "after", "(Ljava/time/Instant;)Lcom/example/arbiter/arbiter/store/JobStore$Position;"⟩).before a0 Z = true := w_at hw 177 rfl
theorem w_178 {a0 : Array Value} {Z : State} (hw : HW a0 Z) : (Cond.static ⟨"com/example/arbiter/arbiter/store/JobStore$Position", "after", "(Ljava/time/Instant;)Lcom/example/arbiter/arbiter/store/JobStore$Position;"⟩).before a0 Z = true := w_at hw 178 rfl
theorem w_179 {a0 : Array Value} {Z : State} (hw : HW a0 Z) : (Cond.code ⟨"com/example/arbiter/arbiter/store/JobStore$Position", "after", "(Ljava/time/Instant;)Lcom/example/arbiter/arbiter/store/JobStore$Position;"⟩ prog_33_method_2_code 1 (Option.some (FieldType.object "com/example/arbiter/arbiter/store/JobStore$Position"))).before a0 Z = true := w_at hw 179 rfl
theorem w_180 {a0 : Array Value} {Z : State} (hw : HW a0 Z) : (Cond.classLink "com/example/arbiter/arbiter/store/JobStore$Position" 8 "com/example/arbiter/arbiter/store/JobStore$Position").before a0 Z = true := w_at hw 180 rfl
theorem w_181 {a0 : Array Value} {Z : State} (hw : HW a0 Z) : (Cond.constantLong "com/example/arbiter/arbiter/store/JobStore$Position" 19 (9223372036854775807 : Int64)).before a0 Z = true := w_at hw 181 rfl
theorem w_182 {a0 : Array Value} {Z : State} (hw : HW a0 Z) : (Cond.methodLink "com/example/arbiter/arbiter/store/JobStore$Position" 21 ⟨"com/example/arbiter/arbiter/store/JobStore$Position", "<init>", "(Ljava/time/Instant;J)V"⟩).before a0 Z = true := w_at hw 182 rfl
theorem w_183 {a0 : Array Value} {Z : State} (hw : HW a0 Z) : (Cond.methodLink "com/example/arbiter/arbiter/service/ClaimCursor" 59 ⟨"com/example/arbiter/arbiter/store/JobStore$Claim", "end", "()Lcom/example/arbiter/arbiter/store/JobStore$Position;"⟩).before a0 Z = true := w_at hw 183 rfl
theorem w_184 {a0 : Array Value} {Z : State} (hw : HW a0 Z) : (Cond.declares ⟨"com/example/arbiter/arbiter/store/JobStore$Claim", "end", "()Lcom/example/arbiter/arbiter/store/JobStore$Position;"⟩).before a0 Z = true := w_at hw 184 rfl
theorem w_185 {a0 : Array Value} {Z : State} (hw : HW a0 Z) : (Cond.instanceMethod ⟨"com/example/arbiter/arbiter/store/JobStore$Claim", "end", "()Lcom/example/arbiter/arbiter/store/JobStore$Position;"⟩).before a0 Z = true := w_at hw 185 rfl
theorem w_186 {a0 : Array Value} {Z : State} (hw : HW a0 Z) : (Cond.selects "com/example/arbiter/arbiter/store/JobStore$Claim" ⟨"com/example/arbiter/arbiter/store/JobStore$Claim", "end", "()Lcom/example/arbiter/arbiter/store/JobStore$Position;"⟩ ⟨"com/example/arbiter/arbiter/store/JobStore$Claim", "end", "()Lcom/example/arbiter/arbiter/store/JobStore$Position;"⟩).before a0 Z = true := w_at hw 186 rfl
theorem w_187 {a0 : Array Value} {Z : State} (hw : HW a0 Z) : (Cond.code ⟨"com/example/arbiter/arbiter/store/JobStore$Claim", "end", "()Lcom/example/arbiter/arbiter/store/JobStore$Position;"⟩ prog_32_method_6_code 1 (Option.some (FieldType.object "com/example/arbiter/arbiter/store/JobStore$Position"))).before a0 Z = true := w_at hw 187 rfl
theorem w_188 {a0 : Array Value} {Z : State} (hw : HW a0 Z) : (Cond.methodLink "com/example/arbiter/arbiter/service/ClaimCursor" 63 ⟨"com/example/arbiter/arbiter/store/JobStore$Position", "compareTo", "(Lcom/example/arbiter/arbiter/store/JobStore$Position;)I"⟩).before a0 Z = true := w_at hw 188 rfl
theorem w_189 {a0 : Array Value} {Z : State} (hw : HW a0 Z) : (Cond.declares ⟨"com/example/arbiter/arbiter/store/JobStore$Position", "compareTo", "(Lcom/example/arbiter/arbiter/store/JobStore$Position;)I"⟩).before a0 Z = true := w_at hw 189 rfl
theorem w_190 {a0 : Array Value} {Z : State} (hw : HW a0 Z) : (Cond.instanceMethod ⟨"com/example/arbiter/arbiter/store/JobStore$Position", "compareTo", "(Lcom/example/arbiter/arbiter/store/JobStore$Position;)I"⟩).before a0 Z = true := w_at hw 190 rfl
theorem w_191 {a0 : Array Value} {Z : State} (hw : HW a0 Z) : (Cond.selects "com/example/arbiter/arbiter/store/JobStore$Position" ⟨"com/example/arbiter/arbiter/store/JobStore$Position", "compareTo", "(Lcom/example/arbiter/arbiter/store/JobStore$Position;)I"⟩ ⟨"com/example/arbiter/arbiter/store/JobStore$Position", "compareTo", "(Lcom/example/arbiter/arbiter/store/JobStore$Position;)I"⟩).before a0 Z = true := w_at hw 191 rfl
theorem w_192 {a0 : Array Value} {Z : State} (hw : HW a0 Z) : (Cond.code ⟨"com/example/arbiter/arbiter/store/JobStore$Position", "compareTo", "(Lcom/example/arbiter/arbiter/store/JobStore$Position;)I"⟩ prog_33_method_3_code 3 (Option.some FieldType.int)).before a0 Z = true := w_at hw 192 rfl
theorem w_193 {a0 : Array Value} {Z : State} (hw : HW a0 Z) : (Cond.methodLink "com/example/arbiter/arbiter/store/JobStore$Position" 24 ⟨"java/time/Instant", "compareTo", "(Ljava/time/Instant;)I"⟩).before a0 Z = true := w_at hw 193 rfl
theorem w_194 {a0 : Array Value} {Z : State} (hw : HW a0 Z) : (Cond.declares ⟨"java/time/Instant", "compareTo", "(Ljava/time/Instant;)I"⟩).before a0 Z = true := w_at hw 194 rfl
theorem w_195 {a0 : Array Value} {Z : State} (hw : HW a0 Z) : (Cond.instanceMethod ⟨"java/time/Instant", "compareTo", "(Ljava/time/Instant;)I"⟩).before a0 Z = true := w_at hw 195 rfl
theorem w_196 {a0 : Array Value} {Z : State} (hw : HW a0 Z) : (Cond.selects "java/time/Instant" ⟨"java/time/Instant", "compareTo", "(Ljava/time/Instant;)I"⟩ ⟨"java/time/Instant", "compareTo", "(Ljava/time/Instant;)I"⟩).before a0 Z = true := w_at hw 196 rfl
theorem w_197 {a0 : Array Value} {Z : State} (hw : HW a0 Z) : (Cond.code ⟨"java/time/Instant", "compareTo", "(Ljava/time/Instant;)I"⟩ jdk_2320_method_41_code 3 (Option.some FieldType.int)).before a0 Z = true := w_at hw 197 rfl
theorem w_198 {a0 : Array Value} {Z : State} (hw : HW a0 Z) : (Cond.methodLink "java/time/Instant" 367 ⟨"java/lang/Long", "compare", "(JJ)I"⟩).before a0 Z = true := w_at hw 198 rfl
theorem w_199 {a0 : Array Value} {Z : State} (hw : HW a0 Z) : (Cond.static ⟨"java/lang/Long", "compare", "(JJ)I"⟩).before a0 Z = true := w_at hw 199 rfl
theorem w_200 {a0 : Array Value} {Z : State} (hw : HW a0 Z) : (Cond.initialized "java/lang/Long").before a0 Z = true := w_at hw 200 rfl
theorem w_201 {a0 : Array Value} {Z : State} (hw : HW a0 Z) : (Cond.code ⟨"java/lang/Long", "compare", "(JJ)I"⟩ jdk_35_method_42_code 4 (Option.some FieldType.int)).before a0 Z = true := w_at hw 201 rfl
theorem w_202 {a0 : Array Value} {Z : State} (hw : HW a0 Z) : (Cond.fieldLink "com/example/arbiter/arbiter/service/ClaimCursor" 34 "com/example/arbiter/arbiter/service/ClaimCursor" "next" "Lcom/example/arbiter/arbiter/store/JobStore$Position;").before a0 Z = true := w_at hw 202 rfl
theorem w_203 {a0 : Array Value} {Z : State} (hw : HW a0 Z) : (Cond.lays "com/example/arbiter/arbiter/service/ClaimCursor" "com/example/arbiter/arbiter/service/ClaimCursor" "next" "Lcom/example/arbiter/arbiter/store/JobStore$Position;").before a0 Z = true := w_at hw 203 rfl
theorem w_204 {a0 : Array Value} {Z : State} (hw : HW a0 Z) : (Cond.constantLong "com/example/arbiter/arbiter/service/ClaimCursorFromPinLaw" 44 (2 : Int64)).before a0 Z = true := w_at hw 204 rfl
theorem w_205 {a0 : Array Value} {Z : State} (hw : HW a0 Z) : (Cond.methodLink "com/example/arbiter/arbiter/service/ClaimCursorFromPinLaw" 14 ⟨"com/example/arbiter/arbiter/service/ClaimCursor", "from", "(J)Lcom/example/arbiter/arbiter/store/JobStore$Position;"⟩).before a0 Z = true := w_at hw 205 rfl
theorem w_206 {a0 : Array Value} {Z : State} (hw : HW a0 Z) : (Cond.declares ⟨"com/example/arbiter/arbiter/service/ClaimCursor", "from", "(J)Lcom/example/arbiter/arbiter/store/JobStore$Position;"⟩).before a0 Z = true := w_at hw 206 rfl
theorem w_207 {a0 : Array Value} {Z : State} (hw : HW a0 Z) : (Cond.instanceMethod ⟨"com/example/arbiter/arbiter/service/ClaimCursor", "from", "(J)Lcom/example/arbiter/arbiter/store/JobStore$Position;"⟩).before a0 Z = true := w_at hw 207 rfl
theorem w_208 {a0 : Array Value} {Z : State} (hw : HW a0 Z) : (Cond.selects "com/example/arbiter/arbiter/service/ClaimCursor" ⟨"com/example/arbiter/arbiter/service/ClaimCursor", "from", "(J)Lcom/example/arbiter/arbiter/store/JobStore$Position;"⟩ ⟨"com/example/arbiter/arbiter/service/ClaimCursor", "from", "(J)Lcom/example/arbiter/arbiter/store/JobStore$Position;"⟩).before a0 Z = true := w_at hw 208 rfl
theorem w_209 {a0 : Array Value} {Z : State} (hw : HW a0 Z) : (Cond.code ⟨"com/example/arbiter/arbiter/service/ClaimCursor", "from", "(J)Lcom/example/arbiter/arbiter/store/JobStore$Position;"⟩ prog_14_method_2_code 5 (Option.some (FieldType.object "com/example/arbiter/arbiter/store/JobStore$Position"))).before a0 Z = true := w_at hw 209 rfl
theorem w_210 {a0 : Array Value} {Z : State} (hw : HW a0 Z) : (Cond.fieldLink "com/example/arbiter/arbiter/service/ClaimCursor" 7 "com/example/arbiter/arbiter/service/ClaimCursor" "OLDEST_READ_PERIOD" "Ljava/time/Duration;").before a0 Z = true := w_at hw 210 rfl
theorem w_211 {a0 : Array Value} {Z : State} (hw : HW a0 Z) : (Cond.laysStatic "com/example/arbiter/arbiter/service/ClaimCursor" "OLDEST_READ_PERIOD" "Ljava/time/Duration;").before a0 Z = true := w_at hw 211 rfl
theorem w_212 {a0 : Array Value} {Z : State} (hw : HW a0 Z) : (Cond.methodLink "com/example/arbiter/arbiter/service/ClaimCursor" 13 ⟨"java/time/Duration", "toNanos", "()J"⟩).before a0 Z = true := w_at hw 212 rfl
theorem w_213 {a0 : Array Value} {Z : State} (hw : HW a0 Z) : (Cond.declares ⟨"java/time/Duration", "toNanos", "()J"⟩).before a0 Z = true := w_at hw 213 rfl
theorem w_214 {a0 : Array Value} {Z : State} (hw : HW a0 Z) : (Cond.instanceMethod ⟨"java/time/Duration", "toNanos", "()J"⟩).before a0 Z = true := w_at hw 214 rfl
theorem w_215 {a0 : Array Value} {Z : State} (hw : HW a0 Z) : (Cond.selects "java/time/Duration" ⟨"java/time/Duration", "toNanos", "()J"⟩ ⟨"java/time/Duration", "toNanos", "()J"⟩).before a0 Z = true := w_at hw 215 rfl
theorem w_216 {a0 : Array Value} {Z : State} (hw : HW a0 Z) : (Cond.code ⟨"java/time/Duration", "toNanos", "()J"⟩ jdk_2316_method_58_code 7 (Option.some FieldType.long)).before a0 Z = true := w_at hw 216 rfl
theorem w_217 {a0 : Array Value} {Z : State} (hw : HW a0 Z) : (Cond.constantLong "java/time/Duration" 16 (1000000000 : Int64)).before a0 Z = true := w_at hw 217 rfl
theorem w_218 {a0 : Array Value} {Z : State} (hw : HW a0 Z) : (Cond.methodLink "java/time/Duration" 289 ⟨"java/lang/Math", "multiplyExact", "(JJ)J"⟩).before a0 Z = true := w_at hw 218 rfl
theorem w_219 {a0 : Array Value} {Z : State} (hw : HW a0 Z) : (Cond.static ⟨"java/lang/Math", "multiplyExact", "(JJ)J"⟩).before a0 Z = true := w_at hw 219 rfl
theorem w_220 {a0 : Array Value} {Z : State} (hw : HW a0 Z) : (Cond.code ⟨"java/lang/Math", "multiplyExact", "(JJ)J"⟩ jdk_29_method_30_code 10 (Option.some FieldType.long)).before a0 Z = true := w_at hw 220 rfl
theorem w_221 {a0 : Array Value} {Z : State} (hw : HW a0 Z) : (Cond.methodLink "java/lang/Math" 122 ⟨"java/lang/Math", "abs", "(J)J"⟩).before a0 Z = true := w_at hw 221 rfl
theorem w_222 {a0 : Array Value} {Z : State} (hw : HW a0 Z) : (Cond.static ⟨"java/lang/Math", "abs", "(J)J"⟩).before a0 Z = true := w_at hw 222 rfl
theorem w_223 {a0 : Array Value} {Z : State} (hw : HW a0 Z) : (Cond.code ⟨"java/lang/Math", "abs", "(J)J"⟩ jdk_29_method_61_code 2 (Option.some FieldType.long)).before a0 Z = true := w_at hw 223 rfl
theorem w_224 {a0 : Array Value} {Z : State} (hw : HW a0 Z) : (Cond.methodLink "java/time/Duration" 22 ⟨"java/lang/Math", "addExact", "(JJ)J"⟩).before a0 Z = true := w_at hw 224 rfl
theorem w_225 {a0 : Array Value} {Z : State} (hw : HW a0 Z) : (Cond.constantLong "com/example/arbiter/arbiter/service/ClaimCursor" 19 (20 : Int64)).before a0 Z = true := w_at hw 225 rfl
theorem w_226 {a0 : Array Value} {Z : State} (hw : HW a0 Z) : (Cond.methodLink "com/example/arbiter/arbiter/service/ClaimCursor" 25 ⟨"java/lang/Math", "max", "(JJ)J"⟩).before a0 Z = true := w_at hw 226 rfl
theorem w_227 {a0 : Array Value} {Z : State} (hw : HW a0 Z) : (Cond.static ⟨"java/lang/Math", "max", "(JJ)J"⟩).before a0 Z = true := w_at hw 227 rfl
theorem w_228 {a0 : Array Value} {Z : State} (hw : HW a0 Z) : (Cond.code ⟨"java/lang/Math", "max", "(JJ)J"⟩ jdk_29_method_66_code 4 (Option.some FieldType.long)).before a0 Z = true := w_at hw 228 rfl
theorem w_229 {a0 : Array Value} {Z : State} (hw : HW a0 Z) : (Cond.constantLong "com/example/arbiter/arbiter/service/ClaimCursorFromPinLaw" 46 (1000000000 : Int64)).before a0 Z = true := w_at hw 229 rfl
theorem w_230 {a0 : Array Value} {Z : State} (hw : HW a0 Z) : (Cond.constantLong "com/example/arbiter/arbiter/service/ClaimCursorFromPinLaw" 48 (20 : Int64)).before a0 Z = true := w_at hw 230 rfl
abbrev Gs : Type := Addr × Addr × Addr × ClassId × Addr × Addr × ClassId × Addr × Addr
abbrev Gs.a0 (G : Gs) : Addr := G.1
abbrev Gs.a1 (G : Gs) : Addr := G.2.1
abbrev Gs.a2 (G : Gs) : Addr := G.2.2.1
abbrev Gs.a3 (G : Gs) : ClassId := G.2.2.2.1
abbrev Gs.a4 (G : Gs) : Addr := G.2.2.2.2.1
abbrev Gs.a5 (G : Gs) : Addr := G.2.2.2.2.2.1
abbrev Gs.a6 (G : Gs) : ClassId := G.2.2.2.2.2.2.1
abbrev Gs.a7 (G : Gs) : Addr := G.2.2.2.2.2.2.2.1
abbrev Gs.a8 (G : Gs) : Addr := G.2.2.2.2.2.2.2.2
def StartF (Z : State) (G : Gs) : Prop := Sta Z Z.heap "java/time/Instant" "EPOCH" "Ljava/time/Instant;" (.ref G.a0) ∧ Exa Z Z.heap G.a0 "java/time/Instant" ∧ Fld Z Z.heap G.a0 "java/time/Instant" "seconds" "J" (.long (0 : Int64)) ∧ Fld Z Z.heap G.a0 "java/time/Instant" "nanos" "I" (.int (0 : Int32)) ∧ Sta Z Z.heap "java/time/Instant" "MAX" "Ljava/time/Instant;" (.ref G.a1) ∧ Exa Z Z.heap G.a1 "java/time/Instant" ∧ Fld Z Z.heap G.a1 "java/time/Instant" "seconds" "J" (.long (31556889864403199 : Int64)) ∧ Fld Z Z.heap G.a1 "java/time/Instant" "nanos" "I" (.int (999999999 : Int32)) ∧ Sta Z Z.heap "java/util/ArrayList" "DEFAULTCAPACITY_EMPTY_ELEMENTDATA" "[Ljava/lang/Object;" (.ref G.a2) ∧ Arv Z Z.heap G.a2 G.a3 (.object "java/lang/Object") (0 : Int32) [] .null ∧ Sta Z Z.heap "java/time/temporal/ChronoUnit" "NANOS" "Ljava/time/temporal/ChronoUnit;" (.ref G.a4) ∧ Exa Z Z.heap G.a4 "java/time/temporal/ChronoUnit" ∧ Fld Z Z.heap G.a4 "java/lang/Enum" "ordinal" "I" (.int (0 : Int32)) ∧ Sta Z Z.heap "java/time/Instant$1" "$SwitchMap$java$time$temporal$ChronoUnit" "[I" (.ref G.a5) ∧ Arv Z Z.heap G.a5 G.a6 .int (16 : Int32) [(.int (1 : Int32)), (.int (2 : Int32)), (.int (3 : Int32)), (.int (4 : Int32)), (.int (5 : Int32)), (.int (6 : Int32)), (.int (7 : Int32)), (.int (8 : Int32)), (.int (0 : Int32)), (.int (0 : Int32)), (.int (0 : Int32)), (.int (0 : Int32)), (.int (0 : Int32)), (.int (0 : Int32)), (.int (0 : Int32)), (.int (0 : Int32))] (.int (0 : Int32)) ∧ Sta Z Z.heap "com/example/arbiter/arbiter/service/ClaimCursor" "LATE_COMMIT" "Ljava/time/Duration;" (.ref G.a7) ∧ Exa Z Z.heap G.a7 "java/time/Duration" ∧ Fld Z Z.heap G.a7 "java/time/Duration" "seconds" "J" (.long (0 : Int64)) ∧ Fld Z Z.heap G.a7 "java/time/Duration" "nanos" "I" (.int (100000000 : Int32)) ∧ Sta Z Z.heap "com/example/arbiter/arbiter/service/ClaimCursor" "OLDEST_READ_PERIOD" "Ljava/time/Duration;" (.ref G.a8) ∧ Exa Z Z.heap G.a8 "java/time/Duration" ∧ Fld Z Z.heap G.a8 "java/time/Duration" "seconds" "J" (.long (1 : Int64)) ∧ Fld Z Z.heap G.a8 "java/time/Duration" "nanos" "I" (.int (0 : Int32))
theorem StartF.c0 {Z : State} {G : Gs} (ST : StartF Z G) : Sta Z Z.heap "java/time/Instant" "EPOCH" "Ljava/time/Instant;" (.ref G.a0) := ST.1
theorem StartF.c1 {Z : State} {G : Gs} (ST : StartF Z G) : Exa Z Z.heap G.a0 "java/time/Instant" := ST.2.1
theorem StartF.c2 {Z : State} {G : Gs} (ST : StartF Z G) : Fld Z Z.heap G.a0 "java/time/Instant" "seconds" "J" (.long (0 : Int64)) := ST.2.2.1
theorem StartF.c3 {Z : State} {G : Gs} (ST : StartF Z G) : Fld Z Z.heap G.a0 "java/time/Instant" "nanos" "I" (.int (0 : Int32)) := ST.2.2.2.1
theorem StartF.c4 {Z : State} {G : Gs} (ST : StartF Z G) : Sta Z Z.heap "java/time/Instant" "MAX" "Ljava/time/Instant;" (.ref G.a1) := ST.2.2.2.2.1
theorem StartF.c5 {Z : State} {G : Gs} (ST : StartF Z G) : Exa Z Z.heap G.a1 "java/time/Instant" := ST.2.2.2.2.2.1
theorem StartF.c6 {Z : State} {G : Gs} (ST : StartF Z G) : Fld Z Z.heap G.a1 "java/time/Instant" "seconds" "J" (.long (31556889864403199 : Int64)) := ST.2.2.2.2.2.2.1
theorem StartF.c7 {Z : State} {G : Gs} (ST : StartF Z G) : Fld Z Z.heap G.a1 "java/time/Instant" "nanos" "I" (.int (999999999 : Int32)) := ST.2.2.2.2.2.2.2.1
theorem StartF.c8 {Z : State} {G : Gs} (ST : StartF Z G) : Sta Z Z.heap "java/util/ArrayList" "DEFAULTCAPACITY_EMPTY_ELEMENTDATA" "[Ljava/lang/Object;" (.ref G.a2) := ST.2.2.2.2.2.2.2.2.1
theorem StartF.c9 {Z : State} {G : Gs} (ST : StartF Z G) : Arv Z Z.heap G.a2 G.a3 (.object "java/lang/Object") (0 : Int32) [] .null := ST.2.2.2.2.2.2.2.2.2.1
theorem StartF.c10 {Z : State} {G : Gs} (ST : StartF Z G) : Sta Z Z.heap "java/time/temporal/ChronoUnit" "NANOS" "Ljava/time/temporal/ChronoUnit;" (.ref G.a4) := ST.2.2.2.2.2.2.2.2.2.2.1
theorem StartF.c11 {Z : State} {G : Gs} (ST : StartF Z G) : Exa Z Z.heap G.a4 "java/time/temporal/ChronoUnit" := ST.2.2.2.2.2.2.2.2.2.2.2.1
theorem StartF.c12 {Z : State} {G : Gs} (ST : StartF Z G) : Fld Z Z.heap G.a4 "java/lang/Enum" "ordinal" "I" (.int (0 : Int32)) := ST.2.2.2.2.2.2.2.2.2.2.2.2.1
theorem StartF.c13 {Z : State} {G : Gs} (ST : StartF Z G) : Sta Z Z.heap "java/time/Instant$1" "$SwitchMap$java$time$temporal$ChronoUnit" "[I" (.ref G.a5) := ST.2.2.2.2.2.2.2.2.2.2.2.2.2.1
theorem StartF.c14 {Z : State} {G : Gs} (ST : StartF Z G) : Arv Z Z.heap G.a5 G.a6 .int (16 : Int32) [(.int (1 : Int32)), (.int (2 : Int32)), (.int (3 : Int32)), (.int (4 : Int32)), (.int (5 : Int32)), (.int (6 : Int32)), (.int (7 : Int32)), (.int (8 : Int32)), (.int (0 : Int32)), (.int (0 : Int32)), (.int (0 : Int32)), (.int (0 : Int32)), (.int (0 : Int32)), (.int (0 : Int32)), (.int (0 : Int32)), (.int (0 : Int32))] (.int (0 : Int32)) := ST.2.2.2.2.2.2.2.2.2.2.2.2.2.2.1
theorem StartF.c15 {Z : State} {G : Gs} (ST : StartF Z G) : Sta Z Z.heap "com/example/arbiter/arbiter/service/ClaimCursor" "LATE_COMMIT" "Ljava/time/Duration;" (.ref G.a7) := ST.2.2.2.2.2.2.2.2.2.2.2.2.2.2.2.1
theorem StartF.c16 {Z : State} {G : Gs} (ST : StartF Z G) : Exa Z Z.heap G.a7 "java/time/Duration" := ST.2.2.2.2.2.2.2.2.2.2.2.2.2.2.2.2.1
theorem StartF.c17 {Z : State} {G : Gs} (ST : StartF Z G) : Fld Z Z.heap G.a7 "java/time/Duration" "seconds" "J" (.long (0 : Int64)) := ST.2.2.2.2.2.2.2.2.2.2.2.2.2.2.2.2.2.1
theorem StartF.c18 {Z : State} {G : Gs} (ST : StartF Z G) : Fld Z Z.heap G.a7 "java/time/Duration" "nanos" "I" (.int (100000000 : Int32)) := ST.2.2.2.2.2.2.2.2.2.2.2.2.2.2.2.2.2.2.1
theorem StartF.c19 {Z : State} {G : Gs} (ST : StartF Z G) : Sta Z Z.heap "com/example/arbiter/arbiter/service/ClaimCursor" "OLDEST_READ_PERIOD" "Ljava/time/Duration;" (.ref G.a8) := ST.2.2.2.2.2.2.2.2.2.2.2.2.2.2.2.2.2.2.2.1
theorem StartF.c20 {Z : State} {G : Gs} (ST : StartF Z G) : Exa Z Z.heap G.a8 "java/time/Duration" := ST.2.2.2.2.2.2.2.2.2.2.2.2.2.2.2.2.2.2.2.2.1
theorem StartF.c21 {Z : State} {G : Gs} (ST : StartF Z G) : Fld Z Z.heap G.a8 "java/time/Duration" "seconds" "J" (.long (1 : Int64)) := ST.2.2.2.2.2.2.2.2.2.2.2.2.2.2.2.2.2.2.2.2.2.1
theorem StartF.c22 {Z : State} {G : Gs} (ST : StartF Z G) : Fld Z Z.heap G.a8 "java/time/Duration" "nanos" "I" (.int (0 : Int32)) := ST.2.2.2.2.2.2.2.2.2.2.2.2.2.2.2.2.2.2.2.2.2.2
theorem own_alen {args : Array Value} {s : State} {t : Term} {a : Addr} {cl : Cell} {ty : FieldType} {z : Int32} (ev : t.eval args s none [] s = some (.ref a)) (A : Arr s s.heap a cl ty) (ln : (Term.length t).eval args s none [] s = some (.int z)) : cl.slots.size < 2 ^ 31 ∧ cl.slots.size.toInt32 = z := by
  have hA := A.fin (U := s) (Vm.Alike.refl _)
  have h1 := SBG.length_lt ev hA ln
  refine ⟨h1, ?_⟩
  rw [len_f ev hA h1] at ln
  simpa using ln
def own_max (x y : Int64) : Int64 := if x < y then y else x
theorem own_sa (a b : Int64) : (a + b) - a = b := by rw [Int64.add_comm, Int64.add_sub_cancel]
theorem own_e1 {a b t : Int64} (h : ¬ ((a + b) - a) < own_max (1000000000 : Int64) ((20 : Int64) * ((a + t) - a))) : ¬ b < (1000000000 : Int64) := by
  rw [own_sa, own_sa] at h
  unfold own_max at h
  intro q
  split at h
  · rename_i k; exact h (by rw [Int64.lt_iff_toInt_lt] at *; omega)
  · exact h q
theorem own_e2 {a b t : Int64} (h : ¬ ((a + b) - a) < own_max (1000000000 : Int64) ((20 : Int64) * ((a + t) - a))) : ¬ b < ((20 : Int64) * t) := by
  rw [own_sa, own_sa] at h
  unfold own_max at h
  intro q
  split at h
  · exact h q
  · rename_i k; exact h (by rw [Int64.lt_iff_toInt_lt] at *; omega)
theorem own_e3 {a b t : Int64} (h : ((a + b) - a) < own_max (1000000000 : Int64) ((20 : Int64) * ((a + t) - a))) : b < (1000000000 : Int64) ∨ b < ((20 : Int64) * t) := by
  rw [own_sa, own_sa] at h
  unfold own_max at h
  split at h
  · exact Or.inr h
  · exact Or.inl h
theorem ef_rmMx (m : MethodId) (x0 : Int64) (x1 : Int64)  : entryFrame m #[(.long x0), (.long x1)] 4 = mkF m 0 #[.val (.long x0), .second, .val (.long x1), .second] [] := by first | (simp [entryFrame, mkF, argsToLocals, Value.category]; done) | rfl
theorem d34_0 : decode jdk_29_method_66_code 0 = .ok (.lload_n 0, 1) := by decide +kernel
theorem d34_1 : decode jdk_29_method_66_code 1 = .ok (.lload_n 2, 1) := by decide +kernel
theorem d34_2 : decode jdk_29_method_66_code 2 = .ok (.lcmp, 1) := by decide +kernel
theorem d34_3 : decode jdk_29_method_66_code 3 = .ok (.ifCond .lt 7, 3) := by decide +kernel
theorem d34_10 : decode jdk_29_method_66_code 10 = .ok (.lload_n 2, 1) := by decide +kernel
theorem d34_11 : decode jdk_29_method_66_code 11 = .ok (.lreturn, 1) := by decide +kernel
theorem d34_6 : decode jdk_29_method_66_code 6 = .ok (.lload_n 0, 1) := by decide +kernel
theorem d34_7 : decode jdk_29_method_66_code 7 = .ok (.goto 4, 3) := by decide +kernel
def QrmMx (Z : State) (G : Gs) (j1 : Int64) (j2 : Int64) (h0 : Heap) (n0 : Nat) (v : Option Value) (h : Heap) (L : List Loc) : Prop := v = some (.long (own_max j1 j2)) ∧ Fr n0 L ∧ h = h0
set_option maxRecDepth 65536 in
set_option maxHeartbeats 40000000 in
theorem rmMx (l : Launch) (Z : State) (a0 : Array Value) (hw : HW a0 Z) (G : Gs) (ST : StartF Z G) (ws : List Jvm.Cond) (j1 : Int64) (j2 : Int64) (h0 : Heap) (n0 : Nat) (X00 : Old Z n0 h0) :
    MetFree l (⟨"java/lang/Math", "max", "(JJ)J"⟩ : MethodName) (head1 (Jvm.Cond.code (⟨"java/lang/Math", "max", "(JJ)J"⟩ : MethodName) jdk_29_method_66_code 4 (some .long) :: ws) ({ frames := 0, cells := 0, slots := 0, locals := 0 } : Room)) (fun a U => a = #[(.long j1), (.long j2)] ∧ Z.Warmed39 U.vm ∧ U.heap = h0) (fun _ _ _ _ _ => True) (fun _ U o U' => ∃ v L, o = .returned v ∧ QrmMx Z G j1 j2 h0 n0 v U'.heap L ∧ FrameEnd U o U' L ({ frames := 0, cells := 0, slots := 0, locals := 0 } : Room).cells ({ frames := 0, cells := 0, slots := 0, locals := 0 } : Room).slots) := by
  refine MetFree.of_bodySF (Jvm.Free.JP.mathPlain rfl (by decide +kernel)) hisR ?_
  intro p e s m args below meth c s₁ Bd hml0 hP hK
  obtain ⟨rfl, hZ, hh⟩ := hP
  have hx := Bd.exec
  have hby := Bd.bytes
  have hml : c.maxLocals = 4 := hml0
  have hown : s.vm.findClass "java/lang/Math" = some m.cls := findClass_of_methodNamed Bd.named
  have hnm := (name_of_methodNamed Bd.named Bd.method).1
  have X0 : Stand p l e ({ frames := 0, cells := 0, slots := 0, locals := 0 } : Room) s m #[(.long j1), (.long j2)] below meth c s₁ [] 0 0 := Stand.of_body Bd
  have e0 : s₁.heap = h0 := by rw [← hh, Bd.state]; rfl
  have N0 := Fr.nil n0
  have Z0 : n0 ≤ h0.size := by have q := X00.2.1; rw [X00.1] at q; exact q
  obtain ⟨TG, hTG, hT2⟩ : ∃ P : State → Prop, (∀ t, P t → Steps p.tables e below (s₁.setTop (entryFrame m #[(.long j1), (.long j2)] 4)) t) ∧ (∀ t, Steps p.tables e below (s₁.setTop (entryFrame m #[(.long j1), (.long j2)] 4)) t → P t) := ⟨_, fun t k => k, fun t k => k⟩
  have pre0 : ∀ t, Sx p e below s₁ m 0 #[xvj j1, xse, xvj j2, xse] [] t → TG t := fun t k => hT2 t (castTop (ef_rmMx m j1 j2 ) k)
  have c101 : ∀ t, Sx p e below s₁ m 3 #[xvj j1, xse, xvj j2, xse] [(.int (XT.cmpL j1 j2))] t → TG t := fun t k => pre0 t (by
    refine y_lloadN X0 hx 1 (hb hby d34_0) rfl rfl ?_
    refine y_lloadN X0 hx 2 (hb hby d34_1) rfl rfl ?_
    refine XT.lcmp X0.here hx rfl (hb hby d34_2) rfl ?_
    exact k)
  by_cases hc102 : j1 < j2
  · have hmx : own_max j1 j2 = j2 := by unfold own_max; rw [if_pos hc102]
    obtain ⟨fs, hr, hrun, hended, hW, hsame⟩ := X0.leave (v := some (.long (own_max j1 j2))) (fun h => by rw [Bd.returns] at h; cases h)
    refine ⟨_, _, hTG _ (c101 _ ?_), hrun, hended, _, _, rfl, ?_, ⟨_, rfl⟩, hW, hsame.mono (by decide) (by decide)⟩
    · refine y_ifYes X0 hx 10 (hb hby d34_3) (XT.ll_lt_t hc102) (by decide) (by decide) ?_
      refine y_lloadN X0 hx 11 (hb hby d34_10) rfl rfl ?_
      show Sx p e below s₁ m 11 #[xvj j1, xse, xvj j2, xse] [xwj j2] _
      rw [show ([xwj j2] : List Value) = [xwj (own_max j1 j2)] from by rw [hmx]]
      show Sx p e below s₁ m 11 #[xvj j1, xse, xvj j2, xse] [xwj (own_max j1 j2)] _
      exact retOut X0 hx Bd.returns rfl (Or.inr (Or.inl ⟨rfl, rfl, _, rfl⟩)) (hb hby d34_11) hr
    · show QrmMx Z G j1 j2 h0 n0 _ s₁.heap _
      rw [e0]
      exact ⟨rfl, N0, rfl⟩
  · have hmx : own_max j1 j2 = j1 := by unfold own_max; rw [if_neg hc102]
    obtain ⟨fs, hr, hrun, hended, hW, hsame⟩ := X0.leave (v := some (.long (own_max j1 j2))) (fun h => by rw [Bd.returns] at h; cases h)
    refine ⟨_, _, hTG _ (c101 _ ?_), hrun, hended, _, _, rfl, ?_, ⟨_, rfl⟩, hW, hsame.mono (by decide) (by decide)⟩
    · refine y_ifNo X0 hx 6 (hb hby d34_3) (XT.ll_lt_f hc102) rfl ?_
      refine y_lloadN X0 hx 7 (hb hby d34_6) rfl rfl ?_
      refine y_goto X0 hx 11 (hb hby d34_7) (by decide) (by decide) ?_
      show Sx p e below s₁ m 11 #[xvj j1, xse, xvj j2, xse] [xwj j1] _
      rw [show ([xwj j1] : List Value) = [xwj (own_max j1 j2)] from by rw [hmx]]
      show Sx p e below s₁ m 11 #[xvj j1, xse, xvj j2, xse] [xwj (own_max j1 j2)] _
      exact retOut X0 hx Bd.returns rfl (Or.inr (Or.inl ⟨rfl, rfl, _, rfl⟩)) (hb hby d34_11) hr
    · show QrmMx Z G j1 j2 h0 n0 _ s₁.heap _
      rw [e0]
      exact ⟨rfl, N0, rfl⟩
theorem ef_rmFrom (m : MethodId) (x0 : Addr) (x1 : Int64)  : entryFrame m #[(.ref x0), (.long x1)] 5 = mkF m 0 #[.val (.ref x0), .val (.long x1), .second, .unset, .unset] [] := by first | (simp [entryFrame, mkF, argsToLocals, Value.category]; done) | rfl
theorem d30_0 : decode prog_14_method_2_code 0 = .ok (.getstatic 7, 3) := by decide +kernel
theorem d30_3 : decode prog_14_method_2_code 3 = .ok (.invokevirtual 13, 3) := by decide +kernel
theorem ef_rmA1 (m : MethodId) (x0 : Addr)  : entryFrame m #[(.ref x0)] 7 = mkF m 0 #[.val (.ref x0), .unset, .unset, .unset, .unset, .unset, .unset] [] := by first | (simp [entryFrame, mkF, argsToLocals, Value.category]; done) | rfl
theorem d31_0 : decode jdk_2316_method_58_code 0 = .ok (.aload_n 0, 1) := by decide +kernel
theorem d31_1 : decode jdk_2316_method_58_code 1 = .ok (.getfield 221, 3) := by decide +kernel
theorem d31_4 : decode jdk_2316_method_58_code 4 = .ok (.lstore_n 1, 1) := by decide +kernel
theorem d31_5 : decode jdk_2316_method_58_code 5 = .ok (.aload_n 0, 1) := by decide +kernel
theorem d31_6 : decode jdk_2316_method_58_code 6 = .ok (.getfield 224, 3) := by decide +kernel
theorem d31_9 : decode jdk_2316_method_58_code 9 = .ok (.i2l, 1) := by decide +kernel
theorem d31_10 : decode jdk_2316_method_58_code 10 = .ok (.lstore_n 3, 1) := by decide +kernel
theorem d31_11 : decode jdk_2316_method_58_code 11 = .ok (.lload_n 1, 1) := by decide +kernel
theorem d31_12 : decode jdk_2316_method_58_code 12 = .ok (.lconst 0, 1) := by decide +kernel
theorem d31_13 : decode jdk_2316_method_58_code 13 = .ok (.lcmp, 1) := by decide +kernel
theorem d31_14 : decode jdk_2316_method_58_code 14 = .ok (.ifCond .ge 13, 3) := by decide +kernel
theorem d31_27 : decode jdk_2316_method_58_code 27 = .ok (.lload_n 1, 1) := by decide +kernel
theorem d31_28 : decode jdk_2316_method_58_code 28 = .ok (.ldc2_w 16, 3) := by decide +kernel
theorem d31_31 : decode jdk_2316_method_58_code 31 = .ok (.invokestatic 289, 3) := by decide +kernel
theorem ef_rmA2 (m : MethodId) (x0 : Int64) (x1 : Int64)  : entryFrame m #[(.long x0), (.long x1)] 10 = mkF m 0 #[.val (.long x0), .second, .val (.long x1), .second, .unset, .unset, .unset, .unset, .unset, .unset] [] := by first | (simp [entryFrame, mkF, argsToLocals, Value.category]; done) | rfl
theorem d32_0 : decode jdk_29_method_30_code 0 = .ok (.lload_n 0, 1) := by decide +kernel
theorem d32_1 : decode jdk_29_method_30_code 1 = .ok (.lload_n 2, 1) := by decide +kernel
theorem d32_2 : decode jdk_29_method_30_code 2 = .ok (.lmul, 1) := by decide +kernel
theorem d32_3 : decode jdk_29_method_30_code 3 = .ok (.lstore 4, 2) := by decide +kernel
theorem d32_5 : decode jdk_29_method_30_code 5 = .ok (.lload_n 0, 1) := by decide +kernel
theorem d32_6 : decode jdk_29_method_30_code 6 = .ok (.invokestatic 122, 3) := by decide +kernel
theorem ef_rmA3 (m : MethodId) (x0 : Int64)  : entryFrame m #[(.long x0)] 2 = mkF m 0 #[.val (.long x0), .second] [] := by first | (simp [entryFrame, mkF, argsToLocals, Value.category]; done) | rfl
theorem d33_0 : decode jdk_29_method_61_code 0 = .ok (.lload_n 0, 1) := by decide +kernel
theorem d33_1 : decode jdk_29_method_61_code 1 = .ok (.lconst 0, 1) := by decide +kernel
theorem d33_2 : decode jdk_29_method_61_code 2 = .ok (.lcmp, 1) := by decide +kernel
theorem d33_3 : decode jdk_29_method_61_code 3 = .ok (.ifCond .ge 8, 3) := by decide +kernel
theorem d33_11 : decode jdk_29_method_61_code 11 = .ok (.lload_n 0, 1) := by decide +kernel
theorem d33_12 : decode jdk_29_method_61_code 12 = .ok (.lreturn, 1) := by decide +kernel
def QrmA3 (Z : State) (G : Gs)  (h0 : Heap) (n0 : Nat) (v : Option Value) (h : Heap) (L : List Loc) : Prop := v = some (.long (1 : Int64)) ∧ Fr n0 L ∧ h = h0
set_option maxRecDepth 65536 in
set_option maxHeartbeats 40000000 in
theorem rmA3 (l : Launch) (Z : State) (a0 : Array Value) (hw : HW a0 Z) (G : Gs) (ST : StartF Z G) (ws : List Jvm.Cond)  (h0 : Heap) (n0 : Nat) (X00 : Old Z n0 h0) :
    MetFree l (⟨"java/lang/Math", "abs", "(J)J"⟩ : MethodName) (head1 (Jvm.Cond.code (⟨"java/lang/Math", "abs", "(J)J"⟩ : MethodName) jdk_29_method_61_code 2 (some .long) :: ws) ({ frames := 0, cells := 0, slots := 0, locals := 0 } : Room)) (fun a U => a = #[(.long (1 : Int64))] ∧ Z.Warmed39 U.vm ∧ U.heap = h0) (fun _ _ _ _ _ => True) (fun _ U o U' => ∃ v L, o = .returned v ∧ QrmA3 Z G  h0 n0 v U'.heap L ∧ FrameEnd U o U' L ({ frames := 0, cells := 0, slots := 0, locals := 0 } : Room).cells ({ frames := 0, cells := 0, slots := 0, locals := 0 } : Room).slots) := by
  refine MetFree.of_bodySF (Jvm.Free.JP.mathPlain rfl (by decide +kernel)) hisR ?_
  intro p e s m args below meth c s₁ Bd hml0 hP hK
  obtain ⟨rfl, hZ, hh⟩ := hP
  have hx := Bd.exec
  have hby := Bd.bytes
  have hml : c.maxLocals = 2 := hml0
  have hown : s.vm.findClass "java/lang/Math" = some m.cls := findClass_of_methodNamed Bd.named
  have hnm := (name_of_methodNamed Bd.named Bd.method).1
  have X0 : Stand p l e ({ frames := 0, cells := 0, slots := 0, locals := 0 } : Room) s m #[(.long (1 : Int64))] below meth c s₁ [] 0 0 := Stand.of_body Bd
  have e0 : s₁.heap = h0 := by rw [← hh, Bd.state]; rfl
  have N0 := Fr.nil n0
  have Z0 : n0 ≤ h0.size := by have q := X00.2.1; rw [X00.1] at q; exact q
  obtain ⟨TG, hTG, hT2⟩ : ∃ P : State → Prop, (∀ t, P t → Steps p.tables e below (s₁.setTop (entryFrame m #[(.long (1 : Int64))] 2)) t) ∧ (∀ t, Steps p.tables e below (s₁.setTop (entryFrame m #[(.long (1 : Int64))] 2)) t → P t) := ⟨_, fun t k => k, fun t k => k⟩
  have pre0 : ∀ t, Sx p e below s₁ m 0 #[xvj (1 : Int64), xse] [] t → TG t := fun t k => hT2 t (castTop (ef_rmA3 m (1 : Int64) ) k)
  obtain ⟨fs, hr, hrun, hended, hW, hsame⟩ := X0.leave (v := some (.long (1 : Int64))) (fun h => by rw [Bd.returns] at h; cases h)
  refine ⟨_, _, hTG _ (pre0 _ ?_), hrun, hended, _, _, rfl, ?_, ⟨_, rfl⟩, hW, hsame.mono (by decide) (by decide)⟩
  · refine y_lloadN X0 hx 1 (hb hby d33_0) rfl rfl ?_
    refine XS.lconst X0.here hx rfl (hb hby d33_1) ?_
    show Sx p e below s₁ m 2 #[xvj (1 : Int64), xse] [xwj (0 : Int64), xwj (1 : Int64)] _
    refine XT.lcmp X0.here hx rfl (hb hby d33_2) rfl ?_
    show Sx p e below s₁ m 3 #[xvj (1 : Int64), xse] [(.int (XT.cmpL (1 : Int64) (0 : Int64)))] _
    refine y_ifYes X0 hx 11 (hb hby d33_3) (XT.ll_ge_t (by decide)) (by decide) (by decide) ?_
    refine y_lloadN X0 hx 12 (hb hby d33_11) rfl rfl ?_
    show Sx p e below s₁ m 12 #[xvj (1 : Int64), xse] [xwj (1 : Int64)] _
    exact retOut X0 hx Bd.returns rfl (Or.inr (Or.inl ⟨rfl, rfl, _, rfl⟩)) (hb hby d33_12) hr
  · show QrmA3 Z G  h0 n0 _ s₁.heap _
    rw [e0]
    exact ⟨rfl, N0, rfl⟩
theorem pd_0 : parseMethodDescriptor "(J)J" = some ⟨[.long], some .long⟩ := by decide +kernel
theorem d32_9 : decode jdk_29_method_30_code 9 = .ok (.lstore 6, 2) := by decide +kernel
theorem d32_11 : decode jdk_29_method_30_code 11 = .ok (.lload_n 2, 1) := by decide +kernel
theorem d32_12 : decode jdk_29_method_30_code 12 = .ok (.invokestatic 122, 3) := by decide +kernel
theorem ef_rmA4 (m : MethodId) (x0 : Int64)  : entryFrame m #[(.long x0)] 2 = mkF m 0 #[.val (.long x0), .second] [] := by first | (simp [entryFrame, mkF, argsToLocals, Value.category]; done) | rfl
def QrmA4 (Z : State) (G : Gs)  (h0 : Heap) (n0 : Nat) (v : Option Value) (h : Heap) (L : List Loc) : Prop := v = some (.long (1000000000 : Int64)) ∧ Fr n0 L ∧ h = h0
set_option maxRecDepth 65536 in
set_option maxHeartbeats 40000000 in
theorem rmA4 (l : Launch) (Z : State) (a0 : Array Value) (hw : HW a0 Z) (G : Gs) (ST : StartF Z G) (ws : List Jvm.Cond)  (h0 : Heap) (n0 : Nat) (X00 : Old Z n0 h0) :
    MetFree l (⟨"java/lang/Math", "abs", "(J)J"⟩ : MethodName) (head1 (Jvm.Cond.code (⟨"java/lang/Math", "abs", "(J)J"⟩ : MethodName) jdk_29_method_61_code 2 (some .long) :: ws) ({ frames := 0, cells := 0, slots := 0, locals := 0 } : Room)) (fun a U => a = #[(.long (1000000000 : Int64))] ∧ Z.Warmed39 U.vm ∧ U.heap = h0) (fun _ _ _ _ _ => True) (fun _ U o U' => ∃ v L, o = .returned v ∧ QrmA4 Z G  h0 n0 v U'.heap L ∧ FrameEnd U o U' L ({ frames := 0, cells := 0, slots := 0, locals := 0 } : Room).cells ({ frames := 0, cells := 0, slots := 0, locals := 0 } : Room).slots) := by
  refine MetFree.of_bodySF (Jvm.Free.JP.mathPlain rfl (by decide +kernel)) hisR ?_
  intro p e s m args below meth c s₁ Bd hml0 hP hK
  obtain ⟨rfl, hZ, hh⟩ := hP
  have hx := Bd.exec
  have hby := Bd.bytes
  have hml : c.maxLocals = 2 := hml0
  have hown : s.vm.findClass "java/lang/Math" = some m.cls := findClass_of_methodNamed Bd.named
  have hnm := (name_of_methodNamed Bd.named Bd.method).1
  have X0 : Stand p l e ({ frames := 0, cells := 0, slots := 0, locals := 0 } : Room) s m #[(.long (1000000000 : Int64))] below meth c s₁ [] 0 0 := Stand.of_body Bd
  have e0 : s₁.heap = h0 := by rw [← hh, Bd.state]; rfl
  have N0 := Fr.nil n0
  have Z0 : n0 ≤ h0.size := by have q := X00.2.1; rw [X00.1] at q; exact q
  obtain ⟨TG, hTG, hT2⟩ : ∃ P : State → Prop, (∀ t, P t → Steps p.tables e below (s₁.setTop (entryFrame m #[(.long (1000000000 : Int64))] 2)) t) ∧ (∀ t, Steps p.tables e below (s₁.setTop (entryFrame m #[(.long (1000000000 : Int64))] 2)) t → P t) := ⟨_, fun t k => k, fun t k => k⟩
  have pre0 : ∀ t, Sx p e below s₁ m 0 #[xvj (1000000000 : Int64), xse] [] t → TG t := fun t k => hT2 t (castTop (ef_rmA4 m (1000000000 : Int64) ) k)
  obtain ⟨fs, hr, hrun, hended, hW, hsame⟩ := X0.leave (v := some (.long (1000000000 : Int64))) (fun h => by rw [Bd.returns] at h; cases h)
  refine ⟨_, _, hTG _ (pre0 _ ?_), hrun, hended, _, _, rfl, ?_, ⟨_, rfl⟩, hW, hsame.mono (by decide) (by decide)⟩
  · refine y_lloadN X0 hx 1 (hb hby d33_0) rfl rfl ?_
    refine XS.lconst X0.here hx rfl (hb hby d33_1) ?_
    show Sx p e below s₁ m 2 #[xvj (1000000000 : Int64), xse] [xwj (0 : Int64), xwj (1000000000 : Int64)] _
    refine XT.lcmp X0.here hx rfl (hb hby d33_2) rfl ?_
    show Sx p e below s₁ m 3 #[xvj (1000000000 : Int64), xse] [(.int (XT.cmpL (1000000000 : Int64) (0 : Int64)))] _
    refine y_ifYes X0 hx 11 (hb hby d33_3) (XT.ll_ge_t (by decide)) (by decide) (by decide) ?_
    refine y_lloadN X0 hx 12 (hb hby d33_11) rfl rfl ?_
    show Sx p e below s₁ m 12 #[xvj (1000000000 : Int64), xse] [xwj (1000000000 : Int64)] _
    exact retOut X0 hx Bd.returns rfl (Or.inr (Or.inl ⟨rfl, rfl, _, rfl⟩)) (hb hby d33_12) hr
  · show QrmA4 Z G  h0 n0 _ s₁.heap _
    rw [e0]
    exact ⟨rfl, N0, rfl⟩
theorem d32_15 : decode jdk_29_method_30_code 15 = .ok (.lstore 8, 2) := by decide +kernel
theorem d32_17 : decode jdk_29_method_30_code 17 = .ok (.lload 6, 2) := by decide +kernel
theorem d32_19 : decode jdk_29_method_30_code 19 = .ok (.lload 8, 2) := by decide +kernel
theorem d32_21 : decode jdk_29_method_30_code 21 = .ok (.lor, 1) := by decide +kernel
theorem d32_22 : decode jdk_29_method_30_code 22 = .ok (.bipush 31, 2) := by decide +kernel
theorem d32_24 : decode jdk_29_method_30_code 24 = .ok (.lushr, 1) := by decide +kernel
theorem d32_25 : decode jdk_29_method_30_code 25 = .ok (.lconst 0, 1) := by decide +kernel
theorem d32_26 : decode jdk_29_method_30_code 26 = .ok (.lcmp, 1) := by decide +kernel
theorem d32_27 : decode jdk_29_method_30_code 27 = .ok (.ifCond .eq 44, 3) := by decide +kernel
theorem d32_71 : decode jdk_29_method_30_code 71 = .ok (.lload 4, 2) := by decide +kernel
theorem d32_73 : decode jdk_29_method_30_code 73 = .ok (.lreturn, 1) := by decide +kernel
def QrmA2 (Z : State) (G : Gs)  (h0 : Heap) (n0 : Nat) (v : Option Value) (h : Heap) (L : List Loc) : Prop := v = some (.long (1000000000 : Int64)) ∧ Fr n0 L ∧ h = h0
set_option maxRecDepth 65536 in
set_option maxHeartbeats 40000000 in
theorem rmA2 (l : Launch) (Z : State) (a0 : Array Value) (hw : HW a0 Z) (G : Gs) (ST : StartF Z G) (ws : List Jvm.Cond)  (h0 : Heap) (n0 : Nat) (X00 : Old Z n0 h0) :
    MetFree l (⟨"java/lang/Math", "multiplyExact", "(JJ)J"⟩ : MethodName) (head1 (Jvm.Cond.code (⟨"java/lang/Math", "multiplyExact", "(JJ)J"⟩ : MethodName) jdk_29_method_30_code 10 (some .long) :: ws) ({ frames := 1, cells := 0, slots := 0, locals := 13 } : Room)) (fun a U => a = #[(.long (1 : Int64)), (.long (1000000000 : Int64))] ∧ Z.Warmed39 U.vm ∧ U.heap = h0) (fun _ _ _ _ _ => True) (fun _ U o U' => ∃ v L, o = .returned v ∧ QrmA2 Z G  h0 n0 v U'.heap L ∧ FrameEnd U o U' L ({ frames := 1, cells := 0, slots := 0, locals := 13 } : Room).cells ({ frames := 1, cells := 0, slots := 0, locals := 13 } : Room).slots) := by
  refine MetFree.of_bodySF (Jvm.Free.JP.mathPlain rfl (by decide +kernel)) hisR ?_
  intro p e s m args below meth c s₁ Bd hml0 hP hK
  obtain ⟨rfl, hZ, hh⟩ := hP
  have hx := Bd.exec
  have hby := Bd.bytes
  have hml : c.maxLocals = 10 := hml0
  have hown : s.vm.findClass "java/lang/Math" = some m.cls := findClass_of_methodNamed Bd.named
  have hnm := (name_of_methodNamed Bd.named Bd.method).1
  have X0 : Stand p l e ({ frames := 1, cells := 0, slots := 0, locals := 13 } : Room) s m #[(.long (1 : Int64)), (.long (1000000000 : Int64))] below meth c s₁ [] 0 0 := Stand.of_body Bd
  have e0 : s₁.heap = h0 := by rw [← hh, Bd.state]; rfl
  have N0 := Fr.nil n0
  have Z0 : n0 ≤ h0.size := by have q := X00.2.1; rw [X00.1] at q; exact q
  obtain ⟨TG, hTG, hT2⟩ : ∃ P : State → Prop, (∀ t, P t → Steps p.tables e below (s₁.setTop (entryFrame m #[(.long (1 : Int64)), (.long (1000000000 : Int64))] 10)) t) ∧ (∀ t, Steps p.tables e below (s₁.setTop (entryFrame m #[(.long (1 : Int64)), (.long (1000000000 : Int64))] 10)) t → P t) := ⟨_, fun t k => k, fun t k => k⟩
  have pre0 : ∀ t, Sx p e below s₁ m 0 #[xvj (1 : Int64), xse, xvj (1000000000 : Int64), xse, xun, xun, xun, xun, xun, xun] [] t → TG t := fun t k => hT2 t (castTop (ef_rmA2 m (1 : Int64) (1000000000 : Int64) ) k)
  obtain ⟨_, _, ⟨T106, L106, k106, n106⟩, -, X106, ⟨Lc106, hQ106, l106, y106, z106⟩, st106⟩ := Jvm.LawKit.callS X0 hx (y := (⟨"java/lang/Math", "abs", "(J)J"⟩ : MethodName)) hown (mvT hZ (w_221 hw)) (mvT hZ (w_222 hw)) (mvT hZ (w_151 hw)) (mvT hZ (w_223 hw)) (by decide) (backOf (W := 0) (rmA3 l Z a0 hw G ST []  h0 n0 X00 ) hZ (w_223 hw) (w_151 hw) (by decide) (by decide)) (g := (mkF m 6 #[xvj (1 : Int64), xse, xvj (1000000000 : Int64), xse, xvj (1000000000 : Int64), xse, xun, xun, xun, xun] [xwj (1 : Int64)])) rfl (by rw [hml]; rfl) (argsL := [(.long (1 : Int64))]) (rest := []) (lenOf pd_0 rfl) rfl (by show 2 * 0 + _ ≤ _; exact Nat.le_of_eq rfl) (hb hby d32_6) (fun _ _ => ⟨rfl, e0, (by decide : 0 + 0 ≤ _), (by decide : 0 + 0 ≤ _)⟩)
  dsimp only [Pt.U, Pt.locs, Pt.cells, Pt.slots] at X106 l106 y106 z106 st106 hQ106
  subst l106 y106 z106
  obtain ⟨rfl, N106q, e106⟩ := hQ106
  have N106 := Fr.app N0 N106q
  obtain ⟨_, _, ⟨T107, L107, k107, n107⟩, -, X107, ⟨Lc107, hQ107, l107, y107, z107⟩, st107⟩ := Jvm.LawKit.callS X106 hx (y := (⟨"java/lang/Math", "abs", "(J)J"⟩ : MethodName)) hown (mvT hZ (w_221 hw)) (mvT hZ (w_222 hw)) (mvT hZ (w_151 hw)) (mvT hZ (w_223 hw)) (by decide) (backOf (W := 0) (rmA4 l Z a0 hw G ST []  h0 n0 X00 ) hZ (w_223 hw) (w_151 hw) (by decide) (by decide)) (g := (mkF m 12 #[xvj (1 : Int64), xse, xvj (1000000000 : Int64), xse, xvj (1000000000 : Int64), xse, xvj (1 : Int64), xse, xun, xun] [xwj (1000000000 : Int64)])) rfl (by rw [hml]; rfl) (argsL := [(.long (1000000000 : Int64))]) (rest := []) (lenOf pd_0 rfl) rfl (by show 2 * 0 + _ ≤ _; exact Nat.le_of_eq rfl) (hb hby d32_12) (fun _ _ => ⟨rfl, e106, (by decide : 0 + 0 ≤ _), (by decide : 0 + 0 ≤ _)⟩)
  dsimp only [Pt.U, Pt.locs, Pt.cells, Pt.slots] at X107 l107 y107 z107 st107 hQ107
  subst l107 y107 z107
  obtain ⟨rfl, N107q, e107⟩ := hQ107
  have N107 := Fr.app N106 N107q
  obtain ⟨fs, hr, hrun, hended, hW, hsame⟩ := X107.leave (v := some (.long (1000000000 : Int64))) (fun h => by rw [Bd.returns] at h; cases h)
  refine ⟨_, _, hTG _ (pre0 _ ?_), hrun, hended, _, _, rfl, ?_, ⟨_, rfl⟩, hW, hsame.mono (by decide) (by decide)⟩
  · refine y_lloadN X0 hx 1 (hb hby d32_0) rfl rfl ?_
    refine y_lloadN X0 hx 2 (hb hby d32_1) rfl rfl ?_
    refine y_lmul X0 hx 3 (hb hby d32_2) rfl ?_
    rw [show ((1 : Int64) * (1000000000 : Int64)) = (1000000000 : Int64) from by decide]
    refine XS.lstore X0.here hx rfl (hb hby d32_3) rfl (l' := #[xvj (1 : Int64), xse, xvj (1000000000 : Int64), xse, xvj (1000000000 : Int64), xse, xun, xun, xun, xun]) rfl ?_
    show Sx p e below s₁ m 5 #[xvj (1 : Int64), xse, xvj (1000000000 : Int64), xse, xvj (1000000000 : Int64), xse, xun, xun, xun, xun] [] _
    refine y_lloadN X0 hx 6 (hb hby d32_5) rfl rfl ?_
    refine st106 _ ?_
    show Sx p e below T106 m 9 #[xvj (1 : Int64), xse, xvj (1000000000 : Int64), xse, xvj (1000000000 : Int64), xse, xun, xun, xun, xun] [xwj (1 : Int64)] _
    refine XS.lstore X106.here hx rfl (hb hby d32_9) rfl (l' := #[xvj (1 : Int64), xse, xvj (1000000000 : Int64), xse, xvj (1000000000 : Int64), xse, xvj (1 : Int64), xse, xun, xun]) rfl ?_
    show Sx p e below T106 m 11 #[xvj (1 : Int64), xse, xvj (1000000000 : Int64), xse, xvj (1000000000 : Int64), xse, xvj (1 : Int64), xse, xun, xun] [] _
    refine y_lloadN X106 hx 12 (hb hby d32_11) rfl rfl ?_
    refine st107 _ ?_
    show Sx p e below T107 m 15 #[xvj (1 : Int64), xse, xvj (1000000000 : Int64), xse, xvj (1000000000 : Int64), xse, xvj (1 : Int64), xse, xun, xun] [xwj (1000000000 : Int64)] _
    refine XS.lstore X107.here hx rfl (hb hby d32_15) rfl (l' := #[xvj (1 : Int64), xse, xvj (1000000000 : Int64), xse, xvj (1000000000 : Int64), xse, xvj (1 : Int64), xse, xvj (1000000000 : Int64), xse]) rfl ?_
    show Sx p e below T107 m 17 #[xvj (1 : Int64), xse, xvj (1000000000 : Int64), xse, xvj (1000000000 : Int64), xse, xvj (1 : Int64), xse, xvj (1000000000 : Int64), xse] [] _
    refine y_lload X107 hx 19 (hb hby d32_17) rfl rfl ?_
    refine y_lload X107 hx 21 (hb hby d32_19) rfl rfl ?_
    refine y_lor X107 hx 22 (hb hby d32_21) rfl ?_
    rw [show ((1 : Int64) ||| (1000000000 : Int64)) = (1000000001 : Int64) from by decide]
    refine y_bipush X107 hx (31 : Int32) 24 (hb hby d32_22) rfl rfl ?_
    refine XS.lushr X107.here hx rfl (hb hby d32_24) rfl ?_
    rw [show (((1000000001 : Int64).toUInt64 >>> ((31 : Int32) &&& 0x3f).toInt64.toUInt64).toInt64) = (0 : Int64) from by decide]
    show Sx p e below T107 m 25 #[xvj (1 : Int64), xse, xvj (1000000000 : Int64), xse, xvj (1000000000 : Int64), xse, xvj (1 : Int64), xse, xvj (1000000000 : Int64), xse] [xwj (0 : Int64)] _
    refine XS.lconst X107.here hx rfl (hb hby d32_25) ?_
    show Sx p e below T107 m 26 #[xvj (1 : Int64), xse, xvj (1000000000 : Int64), xse, xvj (1000000000 : Int64), xse, xvj (1 : Int64), xse, xvj (1000000000 : Int64), xse] [xwj (0 : Int64), xwj (0 : Int64)] _
    refine XT.lcmp X107.here hx rfl (hb hby d32_26) rfl ?_
    show Sx p e below T107 m 27 #[xvj (1 : Int64), xse, xvj (1000000000 : Int64), xse, xvj (1000000000 : Int64), xse, xvj (1 : Int64), xse, xvj (1000000000 : Int64), xse] [(.int (XT.cmpL (0 : Int64) (0 : Int64)))] _
    refine y_ifYes X107 hx 71 (hb hby d32_27) (XT.ll_eq_t (by decide)) (by decide) (by decide) ?_
    refine y_lload X107 hx 73 (hb hby d32_71) rfl rfl ?_
    show Sx p e below T107 m 73 #[xvj (1 : Int64), xse, xvj (1000000000 : Int64), xse, xvj (1000000000 : Int64), xse, xvj (1 : Int64), xse, xvj (1000000000 : Int64), xse] [xwj (1000000000 : Int64)] _
    exact retOut X107 hx Bd.returns rfl (Or.inr (Or.inl ⟨rfl, rfl, _, rfl⟩)) (hb hby d32_73) hr
  · show QrmA2 Z G  h0 n0 _ T107.heap _
    rw [e107]
    exact ⟨rfl, N107, rfl⟩
theorem pd_1 : parseMethodDescriptor "(JJ)J" = some ⟨[.long, .long], some .long⟩ := by decide +kernel
theorem d31_34 : decode jdk_2316_method_58_code 34 = .ok (.lstore 5, 2) := by decide +kernel
theorem d31_36 : decode jdk_2316_method_58_code 36 = .ok (.lload 5, 2) := by decide +kernel
theorem d31_38 : decode jdk_2316_method_58_code 38 = .ok (.lload_n 3, 1) := by decide +kernel
theorem d31_39 : decode jdk_2316_method_58_code 39 = .ok (.invokestatic 22, 3) := by decide +kernel
theorem ef_rmA5 (m : MethodId) (x0 : Int64) (x1 : Int64)  : entryFrame m #[(.long x0), (.long x1)] 6 = mkF m 0 #[.val (.long x0), .second, .val (.long x1), .second, .unset, .unset] [] := by first | (simp [entryFrame, mkF, argsToLocals, Value.category]; done) | rfl
theorem d19_0 : decode jdk_29_method_25_code 0 = .ok (.lload_n 0, 1) := by decide +kernel
theorem d19_1 : decode jdk_29_method_25_code 1 = .ok (.lload_n 2, 1) := by decide +kernel
theorem d19_2 : decode jdk_29_method_25_code 2 = .ok (.ladd, 1) := by decide +kernel
theorem d19_3 : decode jdk_29_method_25_code 3 = .ok (.lstore 4, 2) := by decide +kernel
theorem d19_5 : decode jdk_29_method_25_code 5 = .ok (.lload_n 0, 1) := by decide +kernel
theorem d19_6 : decode jdk_29_method_25_code 6 = .ok (.lload 4, 2) := by decide +kernel
theorem d19_8 : decode jdk_29_method_25_code 8 = .ok (.lxor, 1) := by decide +kernel
theorem d19_9 : decode jdk_29_method_25_code 9 = .ok (.lload_n 2, 1) := by decide +kernel
theorem d19_10 : decode jdk_29_method_25_code 10 = .ok (.lload 4, 2) := by decide +kernel
theorem d19_12 : decode jdk_29_method_25_code 12 = .ok (.lxor, 1) := by decide +kernel
theorem d19_13 : decode jdk_29_method_25_code 13 = .ok (.land, 1) := by decide +kernel
theorem d19_14 : decode jdk_29_method_25_code 14 = .ok (.lconst 0, 1) := by decide +kernel
theorem d19_15 : decode jdk_29_method_25_code 15 = .ok (.lcmp, 1) := by decide +kernel
theorem d19_16 : decode jdk_29_method_25_code 16 = .ok (.ifCond .ge 13, 3) := by decide +kernel
theorem d19_29 : decode jdk_29_method_25_code 29 = .ok (.lload 4, 2) := by decide +kernel
theorem d19_31 : decode jdk_29_method_25_code 31 = .ok (.lreturn, 1) := by decide +kernel
def QrmA5 (Z : State) (G : Gs)  (h0 : Heap) (n0 : Nat) (v : Option Value) (h : Heap) (L : List Loc) : Prop := v = some (.long (1000000000 : Int64)) ∧ Fr n0 L ∧ h = h0
set_option maxRecDepth 65536 in
set_option maxHeartbeats 40000000 in
theorem rmA5 (l : Launch) (Z : State) (a0 : Array Value) (hw : HW a0 Z) (G : Gs) (ST : StartF Z G) (ws : List Jvm.Cond)  (h0 : Heap) (n0 : Nat) (X00 : Old Z n0 h0) :
    MetFree l (⟨"java/lang/Math", "addExact", "(JJ)J"⟩ : MethodName) (head1 (Jvm.Cond.code (⟨"java/lang/Math", "addExact", "(JJ)J"⟩ : MethodName) jdk_29_method_25_code 6 (some .long) :: ws) ({ frames := 0, cells := 0, slots := 0, locals := 0 } : Room)) (fun a U => a = #[(.long (1000000000 : Int64)), (.long (0 : Int64))] ∧ Z.Warmed39 U.vm ∧ U.heap = h0) (fun _ _ _ _ _ => True) (fun _ U o U' => ∃ v L, o = .returned v ∧ QrmA5 Z G  h0 n0 v U'.heap L ∧ FrameEnd U o U' L ({ frames := 0, cells := 0, slots := 0, locals := 0 } : Room).cells ({ frames := 0, cells := 0, slots := 0, locals := 0 } : Room).slots) := by
  refine MetFree.of_bodySF (Jvm.Free.JP.mathPlain rfl (by decide +kernel)) hisR ?_
  intro p e s m args below meth c s₁ Bd hml0 hP hK
  obtain ⟨rfl, hZ, hh⟩ := hP
  have hx := Bd.exec
  have hby := Bd.bytes
  have hml : c.maxLocals = 6 := hml0
  have hown : s.vm.findClass "java/lang/Math" = some m.cls := findClass_of_methodNamed Bd.named
  have hnm := (name_of_methodNamed Bd.named Bd.method).1
  have X0 : Stand p l e ({ frames := 0, cells := 0, slots := 0, locals := 0 } : Room) s m #[(.long (1000000000 : Int64)), (.long (0 : Int64))] below meth c s₁ [] 0 0 := Stand.of_body Bd
  have e0 : s₁.heap = h0 := by rw [← hh, Bd.state]; rfl
  have N0 := Fr.nil n0
  have Z0 : n0 ≤ h0.size := by have q := X00.2.1; rw [X00.1] at q; exact q
  obtain ⟨TG, hTG, hT2⟩ : ∃ P : State → Prop, (∀ t, P t → Steps p.tables e below (s₁.setTop (entryFrame m #[(.long (1000000000 : Int64)), (.long (0 : Int64))] 6)) t) ∧ (∀ t, Steps p.tables e below (s₁.setTop (entryFrame m #[(.long (1000000000 : Int64)), (.long (0 : Int64))] 6)) t → P t) := ⟨_, fun t k => k, fun t k => k⟩
  have pre0 : ∀ t, Sx p e below s₁ m 0 #[xvj (1000000000 : Int64), xse, xvj (0 : Int64), xse, xun, xun] [] t → TG t := fun t k => hT2 t (castTop (ef_rmA5 m (1000000000 : Int64) (0 : Int64) ) k)
  obtain ⟨fs, hr, hrun, hended, hW, hsame⟩ := X0.leave (v := some (.long (1000000000 : Int64))) (fun h => by rw [Bd.returns] at h; cases h)
  refine ⟨_, _, hTG _ (pre0 _ ?_), hrun, hended, _, _, rfl, ?_, ⟨_, rfl⟩, hW, hsame.mono (by decide) (by decide)⟩
  · refine y_lloadN X0 hx 1 (hb hby d19_0) rfl rfl ?_
    refine y_lloadN X0 hx 2 (hb hby d19_1) rfl rfl ?_
    refine y_ladd X0 hx 3 (hb hby d19_2) rfl ?_
    rw [show ((1000000000 : Int64) + (0 : Int64)) = (1000000000 : Int64) from by decide]
    refine XS.lstore X0.here hx rfl (hb hby d19_3) rfl (l' := #[xvj (1000000000 : Int64), xse, xvj (0 : Int64), xse, xvj (1000000000 : Int64), xse]) rfl ?_
    show Sx p e below s₁ m 5 #[xvj (1000000000 : Int64), xse, xvj (0 : Int64), xse, xvj (1000000000 : Int64), xse] [] _
    refine y_lloadN X0 hx 6 (hb hby d19_5) rfl rfl ?_
    refine y_lload X0 hx 8 (hb hby d19_6) rfl rfl ?_
    refine y_lxor X0 hx 9 (hb hby d19_8) rfl ?_
    rw [show ((1000000000 : Int64) ^^^ (1000000000 : Int64)) = (0 : Int64) from by decide]
    refine y_lloadN X0 hx 10 (hb hby d19_9) rfl rfl ?_
    refine y_lload X0 hx 12 (hb hby d19_10) rfl rfl ?_
    refine y_lxor X0 hx 13 (hb hby d19_12) rfl ?_
    rw [show ((0 : Int64) ^^^ (1000000000 : Int64)) = (1000000000 : Int64) from by decide]
    refine y_land X0 hx 14 (hb hby d19_13) rfl ?_
    rw [show ((0 : Int64) &&& (1000000000 : Int64)) = (0 : Int64) from by decide]
    refine XS.lconst X0.here hx rfl (hb hby d19_14) ?_
    show Sx p e below s₁ m 15 #[xvj (1000000000 : Int64), xse, xvj (0 : Int64), xse, xvj (1000000000 : Int64), xse] [xwj (0 : Int64), xwj (0 : Int64)] _
    refine XT.lcmp X0.here hx rfl (hb hby d19_15) rfl ?_
    show Sx p e below s₁ m 16 #[xvj (1000000000 : Int64), xse, xvj (0 : Int64), xse, xvj (1000000000 : Int64), xse] [(.int (XT.cmpL (0 : Int64) (0 : Int64)))] _
    refine y_ifYes X0 hx 29 (hb hby d19_16) (XT.ll_ge_t (by decide)) (by decide) (by decide) ?_
    refine y_lload X0 hx 31 (hb hby d19_29) rfl rfl ?_
    show Sx p e below s₁ m 31 #[xvj (1000000000 : Int64), xse, xvj (0 : Int64), xse, xvj (1000000000 : Int64), xse] [xwj (1000000000 : Int64)] _
    exact retOut X0 hx Bd.returns rfl (Or.inr (Or.inl ⟨rfl, rfl, _, rfl⟩)) (hb hby d19_31) hr
  · show QrmA5 Z G  h0 n0 _ s₁.heap _
    rw [e0]
    exact ⟨rfl, N0, rfl⟩
theorem d31_42 : decode jdk_2316_method_58_code 42 = .ok (.lstore 5, 2) := by decide +kernel
theorem d31_44 : decode jdk_2316_method_58_code 44 = .ok (.lload 5, 2) := by decide +kernel
theorem d31_46 : decode jdk_2316_method_58_code 46 = .ok (.lreturn, 1) := by decide +kernel
theorem pn_0 : plainName "java/time/Duration" = true := by first | (simp [plainName, overriddenIn]; done) | decide +kernel
def QrmA1 (Z : State) (G : Gs)  (h0 : Heap) (n0 : Nat) (v : Option Value) (h : Heap) (L : List Loc) : Prop := v = some (.long (1000000000 : Int64)) ∧ Fr n0 L ∧ h = h0
set_option maxRecDepth 65536 in
set_option maxHeartbeats 40000000 in
theorem rmA1 (l : Launch) (Z : State) (a0 : Array Value) (hw : HW a0 Z) (G : Gs) (ST : StartF Z G) (ws : List Jvm.Cond)  (h0 : Heap) (n0 : Nat) (X00 : Old Z n0 h0) :
    MetFree l (⟨"java/time/Duration", "toNanos", "()J"⟩ : MethodName) (head1 (Jvm.Cond.code (⟨"java/time/Duration", "toNanos", "()J"⟩ : MethodName) jdk_2316_method_58_code 7 (some .long) :: ws) ({ frames := 2, cells := 0, slots := 0, locals := 34 } : Room)) (fun a U => a = #[(.ref G.a8)] ∧ Z.Warmed39 U.vm ∧ U.heap = h0) (fun _ _ _ _ _ => True) (fun _ U o U' => ∃ v L, o = .returned v ∧ QrmA1 Z G  h0 n0 v U'.heap L ∧ FrameEnd U o U' L ({ frames := 2, cells := 0, slots := 0, locals := 34 } : Room).cells ({ frames := 2, cells := 0, slots := 0, locals := 34 } : Room).slots) := by
  refine MetFree.of_bodySF (plainFor_of_name pn_0) hisR ?_
  intro p e s m args below meth c s₁ Bd hml0 hP hK
  obtain ⟨rfl, hZ, hh⟩ := hP
  have hx := Bd.exec
  have hby := Bd.bytes
  have hml : c.maxLocals = 7 := hml0
  have hown : s.vm.findClass "java/time/Duration" = some m.cls := findClass_of_methodNamed Bd.named
  have hnm := (name_of_methodNamed Bd.named Bd.method).1
  have X0 : Stand p l e ({ frames := 2, cells := 0, slots := 0, locals := 34 } : Room) s m #[(.ref G.a8)] below meth c s₁ [] 0 0 := Stand.of_body Bd
  have e0 : s₁.heap = h0 := by rw [← hh, Bd.state]; rfl
  have N0 := Fr.nil n0
  have Z0 : n0 ≤ h0.size := by have q := X00.2.1; rw [X00.1] at q; exact q
  obtain ⟨TG, hTG, hT2⟩ : ∃ P : State → Prop, (∀ t, P t → Steps p.tables e below (s₁.setTop (entryFrame m #[(.ref G.a8)] 7)) t) ∧ (∀ t, Steps p.tables e below (s₁.setTop (entryFrame m #[(.ref G.a8)] 7)) t → P t) := ⟨_, fun t k => k, fun t k => k⟩
  have pre0 : ∀ t, Sx p e below s₁ m 0 #[xvr G.a8, xun, xun, xun, xun, xun, xun] [] t → TG t := fun t k => hT2 t (castTop (ef_rmA1 m G.a8 ) k)
  obtain ⟨T104, X104, e104, st104⟩ := getF X0 hx hZ hown (host := "") (Or.inl (w_98 hw)) Via.refl e0 (ST.c21.ext X00.2) (g := (mkF m 1 #[xvr G.a8, xun, xun, xun, xun, xun, xun] [xwr G.a8])) rfl rfl (hb hby d31_1)
  obtain ⟨T105, X105, e105, st105⟩ := getF X104 hx hZ hown (host := "") (Or.inl (w_100 hw)) Via.refl e104 (ST.c22.ext X00.2) (g := (mkF m 6 #[xvr G.a8, xvj (1 : Int64), xse, xun, xun, xun, xun] [xwr G.a8])) rfl rfl (hb hby d31_6)
  obtain ⟨_, _, ⟨T108, L108, k108, n108⟩, -, X108, ⟨Lc108, hQ108, l108, y108, z108⟩, st108⟩ := Jvm.LawKit.callS X105 hx (y := (⟨"java/lang/Math", "multiplyExact", "(JJ)J"⟩ : MethodName)) hown (mvT hZ (w_218 hw)) (mvT hZ (w_219 hw)) (mvT hZ (w_151 hw)) (mvT hZ (w_220 hw)) (by decide) (backOf (W := 0) (rmA2 l Z a0 hw G ST []  h0 n0 X00 ) hZ (w_220 hw) (w_151 hw) (by decide) (by decide)) (g := (mkF m 31 #[xvr G.a8, xvj (1 : Int64), xse, xvj (0 : Int64), xse, xun, xun] [xwj (1000000000 : Int64), xwj (1 : Int64)])) rfl (by rw [hml]; rfl) (argsL := [(.long (1 : Int64)), (.long (1000000000 : Int64))]) (rest := []) (lenOf pd_1 rfl) rfl (by show 2 * 0 + _ ≤ _; exact Nat.le_of_eq rfl) (hb hby d31_31) (fun _ _ => ⟨rfl, e105, (by decide : 0 + 0 ≤ _), (by decide : 0 + 0 ≤ _)⟩)
  dsimp only [Pt.U, Pt.locs, Pt.cells, Pt.slots] at X108 l108 y108 z108 st108 hQ108
  subst l108 y108 z108
  obtain ⟨rfl, N108q, e108⟩ := hQ108
  have N108 := Fr.app N0 N108q
  obtain ⟨_, _, ⟨T109, L109, k109, n109⟩, -, X109, ⟨Lc109, hQ109, l109, y109, z109⟩, st109⟩ := Jvm.LawKit.callS X108 hx (y := (⟨"java/lang/Math", "addExact", "(JJ)J"⟩ : MethodName)) hown (mvT hZ (w_224 hw)) (mvT hZ (w_150 hw)) (mvT hZ (w_151 hw)) (mvT hZ (w_152 hw)) (by decide) (backOf (W := 0) (rmA5 l Z a0 hw G ST []  h0 n0 X00 ) hZ (w_152 hw) (w_151 hw) (by decide) (by decide)) (g := (mkF m 39 #[xvr G.a8, xvj (1 : Int64), xse, xvj (0 : Int64), xse, xvj (1000000000 : Int64), xse] [xwj (0 : Int64), xwj (1000000000 : Int64)])) rfl (by rw [hml]; rfl) (argsL := [(.long (1000000000 : Int64)), (.long (0 : Int64))]) (rest := []) (lenOf pd_1 rfl) rfl (by show 2 * 0 + _ ≤ _; exact Nat.le_of_eq rfl) (hb hby d31_39) (fun _ _ => ⟨rfl, e108, (by decide : 0 + 0 ≤ _), (by decide : 0 + 0 ≤ _)⟩)
  dsimp only [Pt.U, Pt.locs, Pt.cells, Pt.slots] at X109 l109 y109 z109 st109 hQ109
  subst l109 y109 z109
  obtain ⟨rfl, N109q, e109⟩ := hQ109
  have N109 := Fr.app N108 N109q
  obtain ⟨fs, hr, hrun, hended, hW, hsame⟩ := X109.leave (v := some (.long (1000000000 : Int64))) (fun h => by rw [Bd.returns] at h; cases h)
  refine ⟨_, _, hTG _ (pre0 _ ?_), hrun, hended, _, _, rfl, ?_, ⟨_, rfl⟩, hW, hsame.mono (by decide) (by decide)⟩
  · refine y_aloadN X0 hx 1 (hb hby d31_0) rfl rfl rfl ?_
    refine st104 _ ?_
    show Sx p e below T104 m 4 #[xvr G.a8, xun, xun, xun, xun, xun, xun] [xwj (1 : Int64)] _
    refine XS.lstoreN X104.here hx rfl (hb hby d31_4) rfl (l' := #[xvr G.a8, xvj (1 : Int64), xse, xun, xun, xun, xun]) rfl ?_
    show Sx p e below T104 m 5 #[xvr G.a8, xvj (1 : Int64), xse, xun, xun, xun, xun] [] _
    refine y_aloadN X104 hx 6 (hb hby d31_5) rfl rfl rfl ?_
    refine st105 _ ?_
    show Sx p e below T105 m 9 #[xvr G.a8, xvj (1 : Int64), xse, xun, xun, xun, xun] [xwi (0 : Int32)] _
    refine XS.i2l X105.here hx rfl (hb hby d31_9) rfl ?_
    rw [show ((0 : Int32).toInt64) = (0 : Int64) from by decide]
    show Sx p e below T105 m 10 #[xvr G.a8, xvj (1 : Int64), xse, xun, xun, xun, xun] [xwj (0 : Int64)] _
    refine XS.lstoreN X105.here hx rfl (hb hby d31_10) rfl (l' := #[xvr G.a8, xvj (1 : Int64), xse, xvj (0 : Int64), xse, xun, xun]) rfl ?_
    show Sx p e below T105 m 11 #[xvr G.a8, xvj (1 : Int64), xse, xvj (0 : Int64), xse, xun, xun] [] _
    refine y_lloadN X105 hx 12 (hb hby d31_11) rfl rfl ?_
    refine XS.lconst X105.here hx rfl (hb hby d31_12) ?_
    show Sx p e below T105 m 13 #[xvr G.a8, xvj (1 : Int64), xse, xvj (0 : Int64), xse, xun, xun] [xwj (0 : Int64), xwj (1 : Int64)] _
    refine XT.lcmp X105.here hx rfl (hb hby d31_13) rfl ?_
    show Sx p e below T105 m 14 #[xvr G.a8, xvj (1 : Int64), xse, xvj (0 : Int64), xse, xun, xun] [(.int (XT.cmpL (1 : Int64) (0 : Int64)))] _
    refine y_ifYes X105 hx 27 (hb hby d31_14) (XT.ll_ge_t (by decide)) (by decide) (by decide) ?_
    refine y_lloadN X105 hx 28 (hb hby d31_27) rfl rfl ?_
    refine X105.ldc2Long hx hown (mvT hZ (w_217 hw)) (g := (mkF m 28 #[xvr G.a8, xvj (1 : Int64), xse, xvj (0 : Int64), xse, xun, xun] [xwj (1 : Int64)])) rfl (hb hby d31_28) _ ?_
    show Sx p e below T105 m 31 #[xvr G.a8, xvj (1 : Int64), xse, xvj (0 : Int64), xse, xun, xun] [xwj (1000000000 : Int64), xwj (1 : Int64)] _
    refine st108 _ ?_
    show Sx p e below T108 m 34 #[xvr G.a8, xvj (1 : Int64), xse, xvj (0 : Int64), xse, xun, xun] [xwj (1000000000 : Int64)] _
    refine XS.lstore X108.here hx rfl (hb hby d31_34) rfl (l' := #[xvr G.a8, xvj (1 : Int64), xse, xvj (0 : Int64), xse, xvj (1000000000 : Int64), xse]) rfl ?_
    show Sx p e below T108 m 36 #[xvr G.a8, xvj (1 : Int64), xse, xvj (0 : Int64), xse, xvj (1000000000 : Int64), xse] [] _
    refine y_lload X108 hx 38 (hb hby d31_36) rfl rfl ?_
    refine y_lloadN X108 hx 39 (hb hby d31_38) rfl rfl ?_
    refine st109 _ ?_
    show Sx p e below T109 m 42 #[xvr G.a8, xvj (1 : Int64), xse, xvj (0 : Int64), xse, xvj (1000000000 : Int64), xse] [xwj (1000000000 : Int64)] _
    refine XS.lstore X109.here hx rfl (hb hby d31_42) rfl (l' := #[xvr G.a8, xvj (1 : Int64), xse, xvj (0 : Int64), xse, xvj (1000000000 : Int64), xse]) rfl ?_
    show Sx p e below T109 m 44 #[xvr G.a8, xvj (1 : Int64), xse, xvj (0 : Int64), xse, xvj (1000000000 : Int64), xse] [] _
    refine y_lload X109 hx 46 (hb hby d31_44) rfl rfl ?_
    show Sx p e below T109 m 46 #[xvr G.a8, xvj (1 : Int64), xse, xvj (0 : Int64), xse, xvj (1000000000 : Int64), xse] [xwj (1000000000 : Int64)] _
    exact retOut X109 hx Bd.returns rfl (Or.inr (Or.inl ⟨rfl, rfl, _, rfl⟩)) (hb hby d31_46) hr
  · show QrmA1 Z G  h0 n0 _ T109.heap _
    rw [e109]
    exact ⟨rfl, N109, rfl⟩
theorem pd_2 : parseMethodDescriptor "()J" = some ⟨[], some .long⟩ := by decide +kernel
theorem d30_6 : decode prog_14_method_2_code 6 = .ok (.ldc2_w 19, 3) := by decide +kernel
theorem d30_9 : decode prog_14_method_2_code 9 = .ok (.aload_n 0, 1) := by decide +kernel
theorem d30_10 : decode prog_14_method_2_code 10 = .ok (.getfield 21, 3) := by decide +kernel
theorem d30_13 : decode prog_14_method_2_code 13 = .ok (.lmul, 1) := by decide +kernel
theorem d30_14 : decode prog_14_method_2_code 14 = .ok (.invokestatic 25, 3) := by decide +kernel
theorem d30_17 : decode prog_14_method_2_code 17 = .ok (.lstore_n 3, 1) := by decide +kernel
theorem d30_18 : decode prog_14_method_2_code 18 = .ok (.lload_n 1, 1) := by decide +kernel
theorem d30_19 : decode prog_14_method_2_code 19 = .ok (.aload_n 0, 1) := by decide +kernel
theorem d30_20 : decode prog_14_method_2_code 20 = .ok (.getfield 31, 3) := by decide +kernel
theorem d30_23 : decode prog_14_method_2_code 23 = .ok (.lsub, 1) := by decide +kernel
theorem d30_24 : decode prog_14_method_2_code 24 = .ok (.lload_n 3, 1) := by decide +kernel
theorem d30_25 : decode prog_14_method_2_code 25 = .ok (.lcmp, 1) := by decide +kernel
theorem d30_26 : decode prog_14_method_2_code 26 = .ok (.ifCond .lt 7, 3) := by decide +kernel
theorem d30_33 : decode prog_14_method_2_code 33 = .ok (.aload_n 0, 1) := by decide +kernel
theorem d30_34 : decode prog_14_method_2_code 34 = .ok (.getfield 34, 3) := by decide +kernel
theorem d30_37 : decode prog_14_method_2_code 37 = .ok (.areturn, 1) := by decide +kernel
theorem d30_29 : decode prog_14_method_2_code 29 = .ok (.aconst_null, 1) := by decide +kernel
theorem d30_30 : decode prog_14_method_2_code 30 = .ok (.goto 7, 3) := by decide +kernel
theorem pn_1 : plainName "com/example/arbiter/arbiter/service/ClaimCursor" = true := by first | (simp [plainName, overriddenIn]; done) | decide +kernel
def QrmFrom (Z : State) (G : Gs) (ax : Addr) (nw : Int64) (at_ : Int64) (nan_ : Int64) (nx : Addr) (h0 : Heap) (n0 : Nat) (v : Option Value) (h : Heap) (L : List Loc) : Prop := ∃ (vx : Value), v = some vx ∧ Fr n0 L ∧ h = h0 ∧ vx.isRef = true ∧ ((vx = .null ∧ ¬ (nw - at_) < (own_max (1000000000 : Int64) ((20 : Int64) * nan_))) ∨ (vx = .ref nx ∧ (nw - at_) < (own_max (1000000000 : Int64) ((20 : Int64) * nan_))))
set_option maxRecDepth 65536 in
set_option maxHeartbeats 40000000 in
theorem rmFrom (l : Launch) (Z : State) (a0 : Array Value) (hw : HW a0 Z) (G : Gs) (ST : StartF Z G) (ws : List Jvm.Cond) (ax : Addr) (nw : Int64) (at_ : Int64) (nan_ : Int64) (nx : Addr) (h0 : Heap) (n0 : Nat) (X00 : Old Z n0 h0) (F1 : Fld Z h0 ax "com/example/arbiter/arbiter/service/ClaimCursor" "oldestReadAt" "J" (.long at_)) (F2 : Fld Z h0 ax "com/example/arbiter/arbiter/service/ClaimCursor" "oldestReadNanos" "J" (.long nan_)) (F3 : Fld Z h0 ax "com/example/arbiter/arbiter/service/ClaimCursor" "next" "Lcom/example/arbiter/arbiter/store/JobStore$Position;" (.ref nx)) :
    MetFree l (⟨"com/example/arbiter/arbiter/service/ClaimCursor", "from", "(J)Lcom/example/arbiter/arbiter/store/JobStore$Position;"⟩ : MethodName) (head1 (Jvm.Cond.code (⟨"com/example/arbiter/arbiter/service/ClaimCursor", "from", "(J)Lcom/example/arbiter/arbiter/store/JobStore$Position;"⟩ : MethodName) prog_14_method_2_code 5 (some (.object "com/example/arbiter/arbiter/store/JobStore$Position")) :: ws) ({ frames := 3, cells := 0, slots := 0, locals := 52 } : Room)) (fun a U => a = #[(.ref ax), (.long nw)] ∧ Z.Warmed39 U.vm ∧ U.heap = h0) (fun _ _ _ _ _ => True) (fun _ U o U' => ∃ v L, o = .returned v ∧ QrmFrom Z G ax nw at_ nan_ nx h0 n0 v U'.heap L ∧ FrameEnd U o U' L ({ frames := 3, cells := 0, slots := 0, locals := 52 } : Room).cells ({ frames := 3, cells := 0, slots := 0, locals := 52 } : Room).slots) := by
  refine MetFree.of_bodySF (plainFor_of_name pn_1) hisR ?_
  intro p e s m args below meth c s₁ Bd hml0 hP hK
  obtain ⟨rfl, hZ, hh⟩ := hP
  have hx := Bd.exec
  have hby := Bd.bytes
  have hml : c.maxLocals = 5 := hml0
  have hown : s.vm.findClass "com/example/arbiter/arbiter/service/ClaimCursor" = some m.cls := findClass_of_methodNamed Bd.named
  have hnm := (name_of_methodNamed Bd.named Bd.method).1
  have X0 : Stand p l e ({ frames := 3, cells := 0, slots := 0, locals := 52 } : Room) s m #[(.ref ax), (.long nw)] below meth c s₁ [] 0 0 := Stand.of_body Bd
  have e0 : s₁.heap = h0 := by rw [← hh, Bd.state]; rfl
  have N0 := Fr.nil n0
  have Z0 : n0 ≤ h0.size := by have q := X00.2.1; rw [X00.1] at q; exact q
  obtain ⟨TG, hTG, hT2⟩ : ∃ P : State → Prop, (∀ t, P t → Steps p.tables e below (s₁.setTop (entryFrame m #[(.ref ax), (.long nw)] 5)) t) ∧ (∀ t, Steps p.tables e below (s₁.setTop (entryFrame m #[(.ref ax), (.long nw)] 5)) t → P t) := ⟨_, fun t k => k, fun t k => k⟩
  have pre0 : ∀ t, Sx p e below s₁ m 0 #[xvr ax, xvj nw, xse, xun, xun] [] t → TG t := fun t k => hT2 t (castTop (ef_rmFrom m ax nw ) k)
  obtain ⟨T103, X103, e103, st103⟩ := getS2 X0 hx hZ hown (host := "") (Or.inl (w_210 hw)) Via.refl e0 (ST.c19.ext X00.2) (g := (mkF m 0 #[xvr ax, xvj nw, xse, xun, xun] [])) rfl (hb hby d30_0)
  obtain ⟨cq111, kq111, q111a, q111b, q111c⟩ := isOf hZ e103 (ST.c20.ext X00.2)
  obtain ⟨_, _, ⟨T110, L110, k110, n110⟩, -, X110, ⟨Lc110, hQ110, l110, y110, z110⟩, st110⟩ := X103.virtualBack hx (y := (⟨"java/time/Duration", "toNanos", "()J"⟩ : MethodName)) (z := (⟨"java/time/Duration", "toNanos", "()J"⟩ : MethodName)) hown (mvT hZ (w_212 hw)) (mvT hZ (w_213 hw)) (notFace_of_selects (args := #[]) (mvT hZ (w_215 hw))) (mvT hZ (w_215 hw)) (mvT hZ (w_214 hw)) (by decide) (backOf (W := 0) (rmA1 l Z a0 hw G ST []  h0 n0 X00 ) hZ (w_216 hw) (w_96 hw) (by decide) (by decide)) q111a q111c (g := (mkF m 3 #[xvr ax, xvj nw, xse, xun, xun] [xwr G.a8])) rfl (by rw [hml]; rfl) (Steps.refl _) (argsL := []) (rest := []) (lenOf pd_2 rfl) rfl (by show 2 * 0 + _ ≤ _; exact Nat.le_of_eq rfl) (hb hby d30_3) (fun _ _ => ⟨rfl, e103, (by decide : 0 + 0 ≤ _), (by decide : 0 + 0 ≤ _)⟩)
  dsimp only [Pt.U, Pt.locs, Pt.cells, Pt.slots] at X110 l110 y110 z110 st110 hQ110
  subst l110 y110 z110
  obtain ⟨rfl, N110q, e110⟩ := hQ110
  have N110 := Fr.app N0 N110q
  obtain ⟨T112, X112, e112, st112⟩ := getF X110 hx hZ hown (host := "") (Or.inl (w_74 hw)) Via.refl e110 F2 (g := (mkF m 10 #[xvr ax, xvj nw, xse, xun, xun] [xwr ax, xwj (20 : Int64), xwj (1000000000 : Int64)])) rfl rfl (hb hby d30_10)
  obtain ⟨_, _, ⟨T113, L113, k113, n113⟩, -, X113, ⟨Lc113, hQ113, l113, y113, z113⟩, st113⟩ := Jvm.LawKit.callS X112 hx (y := (⟨"java/lang/Math", "max", "(JJ)J"⟩ : MethodName)) hown (mvT hZ (w_226 hw)) (mvT hZ (w_227 hw)) (mvT hZ (w_151 hw)) (mvT hZ (w_228 hw)) (by decide) (backOf (W := 0) (rmMx l Z a0 hw G ST [] (1000000000 : Int64) ((20 : Int64) * nan_) h0 n0 X00 ) hZ (w_228 hw) (w_151 hw) (by decide) (by decide)) (g := (mkF m 14 #[xvr ax, xvj nw, xse, xun, xun] [xwj ((20 : Int64) * nan_), xwj (1000000000 : Int64)])) rfl (by rw [hml]; rfl) (argsL := [(.long (1000000000 : Int64)), (.long ((20 : Int64) * nan_))]) (rest := []) (lenOf pd_1 rfl) rfl (by show 2 * 0 + _ ≤ _; exact Nat.le_of_eq rfl) (hb hby d30_14) (fun _ _ => ⟨rfl, e112, (by decide : 0 + 0 ≤ _), (by decide : 0 + 0 ≤ _)⟩)
  dsimp only [Pt.U, Pt.locs, Pt.cells, Pt.slots] at X113 l113 y113 z113 st113 hQ113
  subst l113 y113 z113
  obtain ⟨rfl, N113q, e113⟩ := hQ113
  have N113 := Fr.app N110 N113q
  obtain ⟨T114, X114, e114, st114⟩ := getF X113 hx hZ hown (host := "") (Or.inl (w_72 hw)) Via.refl e113 F1 (g := (mkF m 20 #[xvr ax, xvj nw, xse, xvj (own_max (1000000000 : Int64) ((20 : Int64) * nan_)), xse] [xwr ax, xwj nw])) rfl rfl (hb hby d30_20)
  have c115 : ∀ t, Sx p e below T114 m 26 #[xvr ax, xvj nw, xse, xvj (own_max (1000000000 : Int64) ((20 : Int64) * nan_)), xse] [(.int (XT.cmpL (nw - at_) (own_max (1000000000 : Int64) ((20 : Int64) * nan_))))] t → TG t := fun t k => pre0 t (by
    refine st103 _ ?_
    show Sx p e below T103 m 3 #[xvr ax, xvj nw, xse, xun, xun] [xwr G.a8] _
    refine st110.trans ?_
    show Sx p e below T110 m 6 #[xvr ax, xvj nw, xse, xun, xun] [xwj (1000000000 : Int64)] _
    refine X110.ldc2Long hx hown (mvT hZ (w_225 hw)) (g := (mkF m 6 #[xvr ax, xvj nw, xse, xun, xun] [xwj (1000000000 : Int64)])) rfl (hb hby d30_6) _ ?_
    show Sx p e below T110 m 9 #[xvr ax, xvj nw, xse, xun, xun] [xwj (20 : Int64), xwj (1000000000 : Int64)] _
    refine y_aloadN X110 hx 10 (hb hby d30_9) rfl rfl rfl ?_
    refine st112 _ ?_
    show Sx p e below T112 m 13 #[xvr ax, xvj nw, xse, xun, xun] [xwj nan_, xwj (20 : Int64), xwj (1000000000 : Int64)] _
    refine y_lmul X112 hx 14 (hb hby d30_13) rfl ?_
    refine st113 _ ?_
    show Sx p e below T113 m 17 #[xvr ax, xvj nw, xse, xun, xun] [xwj (own_max (1000000000 : Int64) ((20 : Int64) * nan_))] _
    refine XS.lstoreN X113.here hx rfl (hb hby d30_17) rfl (l' := #[xvr ax, xvj nw, xse, xvj (own_max (1000000000 : Int64) ((20 : Int64) * nan_)), xse]) rfl ?_
    show Sx p e below T113 m 18 #[xvr ax, xvj nw, xse, xvj (own_max (1000000000 : Int64) ((20 : Int64) * nan_)), xse] [] _
    refine y_lloadN X113 hx 19 (hb hby d30_18) rfl rfl ?_
    refine y_aloadN X113 hx 20 (hb hby d30_19) rfl rfl rfl ?_
    refine st114 _ ?_
    show Sx p e below T114 m 23 #[xvr ax, xvj nw, xse, xvj (own_max (1000000000 : Int64) ((20 : Int64) * nan_)), xse] [xwj at_, xwj nw] _
    refine y_lsub X114 hx 24 (hb hby d30_23) rfl ?_
    refine y_lloadN X114 hx 25 (hb hby d30_24) rfl rfl ?_
    refine XT.lcmp X114.here hx rfl (hb hby d30_25) rfl ?_
    exact k)
  by_cases hc116 : (nw - at_) < (own_max (1000000000 : Int64) ((20 : Int64) * nan_))
  · obtain ⟨T117, X117, e117, st117⟩ := getF X114 hx hZ hown (host := "") (Or.inl (w_202 hw)) Via.refl e114 F3 (g := (mkF m 34 #[xvr ax, xvj nw, xse, xvj (own_max (1000000000 : Int64) ((20 : Int64) * nan_)), xse] [xwr ax])) rfl rfl (hb hby d30_34)
    obtain ⟨fs, hr, hrun, hended, hW, hsame⟩ := X117.leave (v := some (.ref nx)) (fun h => by rw [Bd.returns] at h; cases h)
    refine ⟨_, _, hTG _ (c115 _ ?_), hrun, hended, _, _, rfl, ?_, ⟨_, rfl⟩, hW, hsame.mono (by decide) (by decide)⟩
    · refine y_ifYes X114 hx 33 (hb hby d30_26) (XT.ll_lt_t hc116) (by decide) (by decide) ?_
      refine y_aloadN X114 hx 34 (hb hby d30_33) rfl rfl rfl ?_
      refine st117 _ ?_
      show Sx p e below T117 m 37 #[xvr ax, xvj nw, xse, xvj (own_max (1000000000 : Int64) ((20 : Int64) * nan_)), xse] [xwr nx] _
      exact retOut X117 hx Bd.returns rfl (Or.inr (Or.inr (Or.inr (Or.inr ⟨rfl, rfl, rfl⟩)))) (hb hby d30_37) hr
    · show QrmFrom Z G ax nw at_ nan_ nx h0 n0 _ T117.heap _
      rw [e117]
      exact ⟨(.ref nx), rfl, N113, rfl, rfl, (Or.inr ⟨rfl, hc116⟩)⟩
  · obtain ⟨fs, hr, hrun, hended, hW, hsame⟩ := X114.leave (v := some .null) (fun h => by rw [Bd.returns] at h; cases h)
    refine ⟨_, _, hTG _ (c115 _ ?_), hrun, hended, _, _, rfl, ?_, ⟨_, rfl⟩, hW, hsame.mono (by decide) (by decide)⟩
    · refine y_ifNo X114 hx 29 (hb hby d30_26) (XT.ll_lt_f hc116) rfl ?_
      refine y_aconst_null X114 hx 30 (hb hby d30_29) rfl ?_
      refine y_goto X114 hx 37 (hb hby d30_30) (by decide) (by decide) ?_
      show Sx p e below T114 m 37 #[xvr ax, xvj nw, xse, xvj (own_max (1000000000 : Int64) ((20 : Int64) * nan_)), xse] [.null] _
      exact retOut X114 hx Bd.returns rfl (Or.inr (Or.inr (Or.inr (Or.inr ⟨rfl, rfl, rfl⟩)))) (hb hby d30_37) hr
    · show QrmFrom Z G ax nw at_ nan_ nx h0 n0 _ T114.heap _
      rw [e114]
      exact ⟨.null, rfl, N113, rfl, rfl, (Or.inl ⟨rfl, hc116⟩)⟩
theorem ef_rm0 (m : MethodId) (x0 : Int64) (x1 : Int64) (x2 : Int64) (x3 : Int64) (x4 : Int64) (x5 : Int64)  : entryFrame m #[(.long x0), (.long x1), (.long x2), (.long x3), (.long x4), (.long x5)] maxLocals = mkF m 0 #[.val (.long x0), .second, .val (.long x1), .second, .val (.long x2), .second, .val (.long x3), .second, .val (.long x4), .second, .val (.long x5), .second, .unset, .unset, .unset, .unset, .unset, .unset, .unset, .unset, .unset, .unset, .unset, .unset, .unset] [] := by first | (simp [entryFrame, mkF, argsToLocals, Value.category, maxLocals]; done) | rfl
theorem ef_rmA6 (m : MethodId) (x0 : Addr)  : entryFrame m #[(.ref x0)] 1 = mkF m 0 #[.val (.ref x0)] [] := by first | (simp [entryFrame, mkF, argsToLocals, Value.category]; done) | rfl
theorem d1_0 : decode prog_14_method_1_code 0 = .ok (.aload_n 0, 1) := by decide +kernel
theorem d1_1 : decode prog_14_method_1_code 1 = .ok (.invokespecial 1, 3) := by decide +kernel
theorem d1_4 : decode prog_14_method_1_code 4 = .ok (.return_, 1) := by decide +kernel
def QrmA6 (Z : State) (G : Gs) (xa1 : Addr) (h0 : Heap) (n0 : Nat) (v : Option Value) (h : Heap) (L : List Loc) : Prop := v = none ∧ Fr n0 L ∧ h = h0
set_option maxRecDepth 65536 in
set_option maxHeartbeats 40000000 in
theorem rmA6 (l : Launch) (Z : State) (a0 : Array Value) (hw : HW a0 Z) (G : Gs) (ST : StartF Z G) (ws : List Jvm.Cond) (xa1 : Addr) (h0 : Heap) (n0 : Nat) (X00 : Old Z n0 h0) :
    MetFree l (⟨"com/example/arbiter/arbiter/service/ClaimCursor", "<init>", "()V"⟩ : MethodName) (head1 (Jvm.Cond.code (⟨"com/example/arbiter/arbiter/service/ClaimCursor", "<init>", "()V"⟩ : MethodName) prog_14_method_1_code 1 none :: ws) ({ frames := 1, cells := 0, slots := 0, locals := 12 } : Room)) (fun a U => a = #[(.ref xa1)] ∧ Z.Warmed39 U.vm ∧ U.heap = h0) (fun _ _ _ _ _ => True) (fun _ U o U' => ∃ v L, o = .returned v ∧ QrmA6 Z G xa1 h0 n0 v U'.heap L ∧ FrameEnd U o U' L ({ frames := 1, cells := 0, slots := 0, locals := 12 } : Room).cells ({ frames := 1, cells := 0, slots := 0, locals := 12 } : Room).slots) := by
  refine MetFree.of_bodySF (plainFor_of_name pn_1) hisR ?_
  intro p e s m args below meth c s₁ Bd hml0 hP hK
  obtain ⟨rfl, hZ, hh⟩ := hP
  have hx := Bd.exec
  have hby := Bd.bytes
  have hml : c.maxLocals = 1 := hml0
  have hown : s.vm.findClass "com/example/arbiter/arbiter/service/ClaimCursor" = some m.cls := findClass_of_methodNamed Bd.named
  have hnm := (name_of_methodNamed Bd.named Bd.method).1
  have X0 : Stand p l e ({ frames := 1, cells := 0, slots := 0, locals := 12 } : Room) s m #[(.ref xa1)] below meth c s₁ [] 0 0 := Stand.of_body Bd
  have e0 : s₁.heap = h0 := by rw [← hh, Bd.state]; rfl
  have N0 := Fr.nil n0
  have Z0 : n0 ≤ h0.size := by have q := X00.2.1; rw [X00.1] at q; exact q
  obtain ⟨TG, hTG, hT2⟩ : ∃ P : State → Prop, (∀ t, P t → Steps p.tables e below (s₁.setTop (entryFrame m #[(.ref xa1)] 1)) t) ∧ (∀ t, Steps p.tables e below (s₁.setTop (entryFrame m #[(.ref xa1)] 1)) t → P t) := ⟨_, fun t k => k, fun t k => k⟩
  have pre0 : ∀ t, Sx p e below s₁ m 0 #[xvr xa1] [] t → TG t := fun t k => hT2 t (castTop (ef_rmA6 m xa1 ) k)
  obtain ⟨T119, X119, e119, st119⟩ := initO X0 hx hZ hown (w_8 hw) (w_9 hw) (w_10 hw) e0 (g := (mkF m 1 #[xvr xa1] [xwr xa1])) rfl (by rw [hml]; rfl) rfl (hb hby d1_1) (by decide) (W := 0) (by show 2 * 0 + _ ≤ _; exact Nat.le_of_eq rfl) (by decide)
  obtain ⟨fs, hr, hrun, hended, hW, hsame⟩ := X119.leave (v := none) (fun _ => rfl)
  refine ⟨_, _, hTG _ (pre0 _ ?_), hrun, hended, _, _, rfl, ?_, ⟨_, rfl⟩, hW, hsame.mono (by decide) (by decide)⟩
  · refine y_aloadN X0 hx 1 (hb hby d1_0) rfl rfl rfl ?_
    refine st119 _ ?_
    show Sx p e below T119 m 4 #[xvr xa1] [] _
    exact X119.returnOut hx Bd.returns (hb hby d1_4) hr
  · show QrmA6 Z G xa1 h0 n0 _ T119.heap _
    rw [e119]
    exact ⟨rfl, N0, rfl⟩
theorem pd_3 : parseMethodDescriptor "()V" = some ⟨[], none⟩ := by decide +kernel
theorem ef_rmA7 (m : MethodId) (x0 : Addr) (x1 : Int64)  : entryFrame m #[(.ref x0), (.long x1)] 5 = mkF m 0 #[.val (.ref x0), .val (.long x1), .second, .unset, .unset] [] := by first | (simp [entryFrame, mkF, argsToLocals, Value.category]; done) | rfl
theorem ef_rmA8 (m : MethodId) (x0 : Int64) (x1 : Int64)  : entryFrame m #[(.long x0), (.long x1)] 4 = mkF m 0 #[.val (.long x0), .second, .val (.long x1), .second] [] := by first | (simp [entryFrame, mkF, argsToLocals, Value.category]; done) | rfl
def QrmA8 (Z : State) (G : Gs)  (h0 : Heap) (n0 : Nat) (v : Option Value) (h : Heap) (L : List Loc) : Prop := v = some (.long (1000000000 : Int64)) ∧ Fr n0 L ∧ h = h0
set_option maxRecDepth 65536 in
set_option maxHeartbeats 40000000 in
theorem rmA8 (l : Launch) (Z : State) (a0 : Array Value) (hw : HW a0 Z) (G : Gs) (ST : StartF Z G) (ws : List Jvm.Cond)  (h0 : Heap) (n0 : Nat) (X00 : Old Z n0 h0) :
    MetFree l (⟨"java/lang/Math", "max", "(JJ)J"⟩ : MethodName) (head1 (Jvm.Cond.code (⟨"java/lang/Math", "max", "(JJ)J"⟩ : MethodName) jdk_29_method_66_code 4 (some .long) :: ws) ({ frames := 0, cells := 0, slots := 0, locals := 0 } : Room)) (fun a U => a = #[(.long (1000000000 : Int64)), (.long (0 : Int64))] ∧ Z.Warmed39 U.vm ∧ U.heap = h0) (fun _ _ _ _ _ => True) (fun _ U o U' => ∃ v L, o = .returned v ∧ QrmA8 Z G  h0 n0 v U'.heap L ∧ FrameEnd U o U' L ({ frames := 0, cells := 0, slots := 0, locals := 0 } : Room).cells ({ frames := 0, cells := 0, slots := 0, locals := 0 } : Room).slots) := by
  refine MetFree.of_bodySF (Jvm.Free.JP.mathPlain rfl (by decide +kernel)) hisR ?_
  intro p e s m args below meth c s₁ Bd hml0 hP hK
  obtain ⟨rfl, hZ, hh⟩ := hP
  have hx := Bd.exec
  have hby := Bd.bytes
  have hml : c.maxLocals = 4 := hml0
  have hown : s.vm.findClass "java/lang/Math" = some m.cls := findClass_of_methodNamed Bd.named
  have hnm := (name_of_methodNamed Bd.named Bd.method).1
  have X0 : Stand p l e ({ frames := 0, cells := 0, slots := 0, locals := 0 } : Room) s m #[(.long (1000000000 : Int64)), (.long (0 : Int64))] below meth c s₁ [] 0 0 := Stand.of_body Bd
  have e0 : s₁.heap = h0 := by rw [← hh, Bd.state]; rfl
  have N0 := Fr.nil n0
  have Z0 : n0 ≤ h0.size := by have q := X00.2.1; rw [X00.1] at q; exact q
  obtain ⟨TG, hTG, hT2⟩ : ∃ P : State → Prop, (∀ t, P t → Steps p.tables e below (s₁.setTop (entryFrame m #[(.long (1000000000 : Int64)), (.long (0 : Int64))] 4)) t) ∧ (∀ t, Steps p.tables e below (s₁.setTop (entryFrame m #[(.long (1000000000 : Int64)), (.long (0 : Int64))] 4)) t → P t) := ⟨_, fun t k => k, fun t k => k⟩
  have pre0 : ∀ t, Sx p e below s₁ m 0 #[xvj (1000000000 : Int64), xse, xvj (0 : Int64), xse] [] t → TG t := fun t k => hT2 t (castTop (ef_rmA8 m (1000000000 : Int64) (0 : Int64) ) k)
  obtain ⟨fs, hr, hrun, hended, hW, hsame⟩ := X0.leave (v := some (.long (1000000000 : Int64))) (fun h => by rw [Bd.returns] at h; cases h)
  refine ⟨_, _, hTG _ (pre0 _ ?_), hrun, hended, _, _, rfl, ?_, ⟨_, rfl⟩, hW, hsame.mono (by decide) (by decide)⟩
  · refine y_lloadN X0 hx 1 (hb hby d34_0) rfl rfl ?_
    refine y_lloadN X0 hx 2 (hb hby d34_1) rfl rfl ?_
    refine XT.lcmp X0.here hx rfl (hb hby d34_2) rfl ?_
    show Sx p e below s₁ m 3 #[xvj (1000000000 : Int64), xse, xvj (0 : Int64), xse] [(.int (XT.cmpL (1000000000 : Int64) (0 : Int64)))] _
    refine y_ifNo X0 hx 6 (hb hby d34_3) (XT.ll_lt_f (by decide)) rfl ?_
    refine y_lloadN X0 hx 7 (hb hby d34_6) rfl rfl ?_
    refine y_goto X0 hx 11 (hb hby d34_7) (by decide) (by decide) ?_
    show Sx p e below s₁ m 11 #[xvj (1000000000 : Int64), xse, xvj (0 : Int64), xse] [xwj (1000000000 : Int64)] _
    exact retOut X0 hx Bd.returns rfl (Or.inr (Or.inl ⟨rfl, rfl, _, rfl⟩)) (hb hby d34_11) hr
  · show QrmA8 Z G  h0 n0 _ s₁.heap _
    rw [e0]
    exact ⟨rfl, N0, rfl⟩
def QrmA7 (Z : State) (G : Gs) (xa1 : Addr) (xi1 : Int64) (h0 : Heap) (n0 : Nat) (v : Option Value) (h : Heap) (L : List Loc) : Prop := v = some .null ∧ Fr n0 L ∧ h = h0
set_option maxRecDepth 65536 in
set_option maxHeartbeats 40000000 in
theorem rmA7 (l : Launch) (Z : State) (a0 : Array Value) (hw : HW a0 Z) (G : Gs) (ST : StartF Z G) (ws : List Jvm.Cond) (xa1 : Addr) (xi1 : Int64) (h0 : Heap) (n0 : Nat) (X00 : Old Z n0 h0) (xF_xa1_next : Fld Z h0 xa1 "com/example/arbiter/arbiter/service/ClaimCursor" "next" "Lcom/example/arbiter/arbiter/store/JobStore$Position;" .null) (xF_xa1_oldestReadAt : Fld Z h0 xa1 "com/example/arbiter/arbiter/service/ClaimCursor" "oldestReadAt" "J" (.long (0 : Int64))) (xF_xa1_oldestReadNanos : Fld Z h0 xa1 "com/example/arbiter/arbiter/service/ClaimCursor" "oldestReadNanos" "J" (.long (0 : Int64))) :
    MetFree l (⟨"com/example/arbiter/arbiter/service/ClaimCursor", "from", "(J)Lcom/example/arbiter/arbiter/store/JobStore$Position;"⟩ : MethodName) (head1 (Jvm.Cond.code (⟨"com/example/arbiter/arbiter/service/ClaimCursor", "from", "(J)Lcom/example/arbiter/arbiter/store/JobStore$Position;"⟩ : MethodName) prog_14_method_2_code 5 (some (.object "com/example/arbiter/arbiter/store/JobStore$Position")) :: ws) ({ frames := 3, cells := 0, slots := 0, locals := 52 } : Room)) (fun a U => a = #[(.ref xa1), (.long xi1)] ∧ Z.Warmed39 U.vm ∧ U.heap = h0) (fun _ _ _ _ _ => True) (fun _ U o U' => ∃ v L, o = .returned v ∧ QrmA7 Z G xa1 xi1 h0 n0 v U'.heap L ∧ FrameEnd U o U' L ({ frames := 3, cells := 0, slots := 0, locals := 52 } : Room).cells ({ frames := 3, cells := 0, slots := 0, locals := 52 } : Room).slots) := by
  refine MetFree.of_bodySF (plainFor_of_name pn_1) hisR ?_
  intro p e s m args below meth c s₁ Bd hml0 hP hK
  obtain ⟨rfl, hZ, hh⟩ := hP
  have hx := Bd.exec
  have hby := Bd.bytes
  have hml : c.maxLocals = 5 := hml0
  have hown : s.vm.findClass "com/example/arbiter/arbiter/service/ClaimCursor" = some m.cls := findClass_of_methodNamed Bd.named
  have hnm := (name_of_methodNamed Bd.named Bd.method).1
  have X0 : Stand p l e ({ frames := 3, cells := 0, slots := 0, locals := 52 } : Room) s m #[(.ref xa1), (.long xi1)] below meth c s₁ [] 0 0 := Stand.of_body Bd
  have e0 : s₁.heap = h0 := by rw [← hh, Bd.state]; rfl
  have N0 := Fr.nil n0
  have Z0 : n0 ≤ h0.size := by have q := X00.2.1; rw [X00.1] at q; exact q
  obtain ⟨TG, hTG, hT2⟩ : ∃ P : State → Prop, (∀ t, P t → Steps p.tables e below (s₁.setTop (entryFrame m #[(.ref xa1), (.long xi1)] 5)) t) ∧ (∀ t, Steps p.tables e below (s₁.setTop (entryFrame m #[(.ref xa1), (.long xi1)] 5)) t → P t) := ⟨_, fun t k => k, fun t k => k⟩
  have pre0 : ∀ t, Sx p e below s₁ m 0 #[xvr xa1, xvj xi1, xse, xun, xun] [] t → TG t := fun t k => hT2 t (castTop (ef_rmA7 m xa1 xi1 ) k)
  obtain ⟨T124, X124, e124, st124⟩ := getS2 X0 hx hZ hown (host := "") (Or.inl (w_210 hw)) Via.refl e0 (ST.c19.ext X00.2) (g := (mkF m 0 #[xvr xa1, xvj xi1, xse, xun, xun] [])) rfl (hb hby d30_0)
  obtain ⟨cq126, kq126, q126a, q126b, q126c⟩ := isOf hZ e124 (ST.c20.ext X00.2)
  obtain ⟨_, _, ⟨T125, L125, k125, n125⟩, -, X125, ⟨Lc125, hQ125, l125, y125, z125⟩, st125⟩ := X124.virtualBack hx (y := (⟨"java/time/Duration", "toNanos", "()J"⟩ : MethodName)) (z := (⟨"java/time/Duration", "toNanos", "()J"⟩ : MethodName)) hown (mvT hZ (w_212 hw)) (mvT hZ (w_213 hw)) (notFace_of_selects (args := #[]) (mvT hZ (w_215 hw))) (mvT hZ (w_215 hw)) (mvT hZ (w_214 hw)) (by decide) (backOf (W := 0) (rmA1 l Z a0 hw G ST []  h0 n0 X00 ) hZ (w_216 hw) (w_96 hw) (by decide) (by decide)) q126a q126c (g := (mkF m 3 #[xvr xa1, xvj xi1, xse, xun, xun] [xwr G.a8])) rfl (by rw [hml]; rfl) (Steps.refl _) (argsL := []) (rest := []) (lenOf pd_2 rfl) rfl (by show 2 * 0 + _ ≤ _; exact Nat.le_of_eq rfl) (hb hby d30_3) (fun _ _ => ⟨rfl, e124, (by decide : 0 + 0 ≤ _), (by decide : 0 + 0 ≤ _)⟩)
  dsimp only [Pt.U, Pt.locs, Pt.cells, Pt.slots] at X125 l125 y125 z125 st125 hQ125
  subst l125 y125 z125
  obtain ⟨rfl, N125q, e125⟩ := hQ125
  have N125 := Fr.app N0 N125q
  obtain ⟨T127, X127, e127, st127⟩ := getF X125 hx hZ hown (host := "") (Or.inl (w_74 hw)) Via.refl e125 xF_xa1_oldestReadNanos (g := (mkF m 10 #[xvr xa1, xvj xi1, xse, xun, xun] [xwr xa1, xwj (20 : Int64), xwj (1000000000 : Int64)])) rfl rfl (hb hby d30_10)
  obtain ⟨_, _, ⟨T128, L128, k128, n128⟩, -, X128, ⟨Lc128, hQ128, l128, y128, z128⟩, st128⟩ := Jvm.LawKit.callS X127 hx (y := (⟨"java/lang/Math", "max", "(JJ)J"⟩ : MethodName)) hown (mvT hZ (w_226 hw)) (mvT hZ (w_227 hw)) (mvT hZ (w_151 hw)) (mvT hZ (w_228 hw)) (by decide) (backOf (W := 0) (rmA8 l Z a0 hw G ST []  h0 n0 X00 ) hZ (w_228 hw) (w_151 hw) (by decide) (by decide)) (g := (mkF m 14 #[xvr xa1, xvj xi1, xse, xun, xun] [xwj (0 : Int64), xwj (1000000000 : Int64)])) rfl (by rw [hml]; rfl) (argsL := [(.long (1000000000 : Int64)), (.long (0 : Int64))]) (rest := []) (lenOf pd_1 rfl) rfl (by show 2 * 0 + _ ≤ _; exact Nat.le_of_eq rfl) (hb hby d30_14) (fun _ _ => ⟨rfl, e127, (by decide : 0 + 0 ≤ _), (by decide : 0 + 0 ≤ _)⟩)
  dsimp only [Pt.U, Pt.locs, Pt.cells, Pt.slots] at X128 l128 y128 z128 st128 hQ128
  subst l128 y128 z128
  obtain ⟨rfl, N128q, e128⟩ := hQ128
  have N128 := Fr.app N125 N128q
  obtain ⟨T129, X129, e129, st129⟩ := getF X128 hx hZ hown (host := "") (Or.inl (w_72 hw)) Via.refl e128 xF_xa1_oldestReadAt (g := (mkF m 20 #[xvr xa1, xvj xi1, xse, xvj (1000000000 : Int64), xse] [xwr xa1, xwj xi1])) rfl rfl (hb hby d30_20)
  have c130 : ∀ t, Sx p e below T129 m 26 #[xvr xa1, xvj xi1, xse, xvj (1000000000 : Int64), xse] [(.int (XT.cmpL (xi1 - (0 : Int64)) (1000000000 : Int64)))] t → TG t := fun t k => pre0 t (by
    refine st124 _ ?_
    show Sx p e below T124 m 3 #[xvr xa1, xvj xi1, xse, xun, xun] [xwr G.a8] _
    refine st125.trans ?_
    show Sx p e below T125 m 6 #[xvr xa1, xvj xi1, xse, xun, xun] [xwj (1000000000 : Int64)] _
    refine X125.ldc2Long hx hown (mvT hZ (w_225 hw)) (g := (mkF m 6 #[xvr xa1, xvj xi1, xse, xun, xun] [xwj (1000000000 : Int64)])) rfl (hb hby d30_6) _ ?_
    show Sx p e below T125 m 9 #[xvr xa1, xvj xi1, xse, xun, xun] [xwj (20 : Int64), xwj (1000000000 : Int64)] _
    refine y_aloadN X125 hx 10 (hb hby d30_9) rfl rfl rfl ?_
    refine st127 _ ?_
    show Sx p e below T127 m 13 #[xvr xa1, xvj xi1, xse, xun, xun] [xwj (0 : Int64), xwj (20 : Int64), xwj (1000000000 : Int64)] _
    refine y_lmul X127 hx 14 (hb hby d30_13) rfl ?_
    rw [show ((20 : Int64) * (0 : Int64)) = (0 : Int64) from by decide]
    refine st128 _ ?_
    show Sx p e below T128 m 17 #[xvr xa1, xvj xi1, xse, xun, xun] [xwj (1000000000 : Int64)] _
    refine XS.lstoreN X128.here hx rfl (hb hby d30_17) rfl (l' := #[xvr xa1, xvj xi1, xse, xvj (1000000000 : Int64), xse]) rfl ?_
    show Sx p e below T128 m 18 #[xvr xa1, xvj xi1, xse, xvj (1000000000 : Int64), xse] [] _
    refine y_lloadN X128 hx 19 (hb hby d30_18) rfl rfl ?_
    refine y_aloadN X128 hx 20 (hb hby d30_19) rfl rfl rfl ?_
    refine st129 _ ?_
    show Sx p e below T129 m 23 #[xvr xa1, xvj xi1, xse, xvj (1000000000 : Int64), xse] [xwj (0 : Int64), xwj xi1] _
    refine y_lsub X129 hx 24 (hb hby d30_23) rfl ?_
    refine y_lloadN X129 hx 25 (hb hby d30_24) rfl rfl ?_
    refine XT.lcmp X129.here hx rfl (hb hby d30_25) rfl ?_
    exact k)
  by_cases hc131 : (xi1 - (0 : Int64)) < (1000000000 : Int64)
  · obtain ⟨T132, X132, e132, st132⟩ := getF X129 hx hZ hown (host := "") (Or.inl (w_202 hw)) Via.refl e129 xF_xa1_next (g := (mkF m 34 #[xvr xa1, xvj xi1, xse, xvj (1000000000 : Int64), xse] [xwr xa1])) rfl rfl (hb hby d30_34)
    obtain ⟨fs, hr, hrun, hended, hW, hsame⟩ := X132.leave (v := some .null) (fun h => by rw [Bd.returns] at h; cases h)
    refine ⟨_, _, hTG _ (c130 _ ?_), hrun, hended, _, _, rfl, ?_, ⟨_, rfl⟩, hW, hsame.mono (by decide) (by decide)⟩
    · refine y_ifYes X129 hx 33 (hb hby d30_26) (XT.ll_lt_t hc131) (by decide) (by decide) ?_
      refine y_aloadN X129 hx 34 (hb hby d30_33) rfl rfl rfl ?_
      refine st132 _ ?_
      show Sx p e below T132 m 37 #[xvr xa1, xvj xi1, xse, xvj (1000000000 : Int64), xse] [.null] _
      exact retOut X132 hx Bd.returns rfl (Or.inr (Or.inr (Or.inr (Or.inr ⟨rfl, rfl, rfl⟩)))) (hb hby d30_37) hr
    · show QrmA7 Z G xa1 xi1 h0 n0 _ T132.heap _
      rw [e132]
      exact ⟨rfl, N128, rfl⟩
  · obtain ⟨fs, hr, hrun, hended, hW, hsame⟩ := X129.leave (v := some .null) (fun h => by rw [Bd.returns] at h; cases h)
    refine ⟨_, _, hTG _ (c130 _ ?_), hrun, hended, _, _, rfl, ?_, ⟨_, rfl⟩, hW, hsame.mono (by decide) (by decide)⟩
    · refine y_ifNo X129 hx 29 (hb hby d30_26) (XT.ll_lt_f hc131) rfl ?_
      refine y_aconst_null X129 hx 30 (hb hby d30_29) rfl ?_
      refine y_goto X129 hx 37 (hb hby d30_30) (by decide) (by decide) ?_
      show Sx p e below T129 m 37 #[xvr xa1, xvj xi1, xse, xvj (1000000000 : Int64), xse] [.null] _
      exact retOut X129 hx Bd.returns rfl (Or.inr (Or.inr (Or.inr (Or.inr ⟨rfl, rfl, rfl⟩)))) (hb hby d30_37) hr
    · show QrmA7 Z G xa1 xi1 h0 n0 _ T129.heap _
      rw [e129]
      exact ⟨rfl, N128, rfl⟩
theorem pd_4 : parseMethodDescriptor "(J)Lcom/example/arbiter/arbiter/store/JobStore$Position;" = some ⟨[.long], some (.object "com/example/arbiter/arbiter/store/JobStore$Position")⟩ := by decide +kernel
theorem ef_rmA9 (m : MethodId) (x0 : Addr) (x1 : Addr) (x2 : Int64)  : entryFrame m #[(.ref x0), (.ref x1), (.long x2)] 4 = mkF m 0 #[.val (.ref x0), .val (.ref x1), .val (.long x2), .second] [] := by first | (simp [entryFrame, mkF, argsToLocals, Value.category]; done) | rfl
theorem d3_0 : decode prog_33_method_1_code 0 = .ok (.aload_n 0, 1) := by decide +kernel
theorem d3_1 : decode prog_33_method_1_code 1 = .ok (.invokespecial 1, 3) := by decide +kernel
theorem ef_rmA10 (m : MethodId) (x0 : Addr)  : entryFrame m #[(.ref x0)] 1 = mkF m 0 #[.val (.ref x0)] [] := by first | (simp [entryFrame, mkF, argsToLocals, Value.category]; done) | rfl
theorem d4_0 : decode jdk_30_method_1_code 0 = .ok (.aload_n 0, 1) := by decide +kernel
theorem d4_1 : decode jdk_30_method_1_code 1 = .ok (.invokespecial 1, 3) := by decide +kernel
theorem d4_4 : decode jdk_30_method_1_code 4 = .ok (.return_, 1) := by decide +kernel
theorem pn_2 : plainName "java/lang/Record" = true := by first | (simp [plainName, overriddenIn]; done) | decide +kernel
def QrmA10 (Z : State) (G : Gs) (xa1 : Addr) (h0 : Heap) (n0 : Nat) (v : Option Value) (h : Heap) (L : List Loc) : Prop := v = none ∧ Fr n0 L ∧ h = h0
set_option maxRecDepth 65536 in
set_option maxHeartbeats 40000000 in
theorem rmA10 (l : Launch) (Z : State) (a0 : Array Value) (hw : HW a0 Z) (G : Gs) (ST : StartF Z G) (ws : List Jvm.Cond) (xa1 : Addr) (h0 : Heap) (n0 : Nat) (X00 : Old Z n0 h0) :
    MetFree l (⟨"java/lang/Record", "<init>", "()V"⟩ : MethodName) (head1 (Jvm.Cond.code (⟨"java/lang/Record", "<init>", "()V"⟩ : MethodName) jdk_30_method_1_code 1 none :: ws) ({ frames := 1, cells := 0, slots := 0, locals := 12 } : Room)) (fun a U => a = #[(.ref xa1)] ∧ Z.Warmed39 U.vm ∧ U.heap = h0) (fun _ _ _ _ _ => True) (fun _ U o U' => ∃ v L, o = .returned v ∧ QrmA10 Z G xa1 h0 n0 v U'.heap L ∧ FrameEnd U o U' L ({ frames := 1, cells := 0, slots := 0, locals := 12 } : Room).cells ({ frames := 1, cells := 0, slots := 0, locals := 12 } : Room).slots) := by
  refine MetFree.of_bodySF (plainFor_of_name pn_2) hisR ?_
  intro p e s m args below meth c s₁ Bd hml0 hP hK
  obtain ⟨rfl, hZ, hh⟩ := hP
  have hx := Bd.exec
  have hby := Bd.bytes
  have hml : c.maxLocals = 1 := hml0
  have hown : s.vm.findClass "java/lang/Record" = some m.cls := findClass_of_methodNamed Bd.named
  have hnm := (name_of_methodNamed Bd.named Bd.method).1
  have X0 : Stand p l e ({ frames := 1, cells := 0, slots := 0, locals := 12 } : Room) s m #[(.ref xa1)] below meth c s₁ [] 0 0 := Stand.of_body Bd
  have e0 : s₁.heap = h0 := by rw [← hh, Bd.state]; rfl
  have N0 := Fr.nil n0
  have Z0 : n0 ≤ h0.size := by have q := X00.2.1; rw [X00.1] at q; exact q
  obtain ⟨TG, hTG, hT2⟩ : ∃ P : State → Prop, (∀ t, P t → Steps p.tables e below (s₁.setTop (entryFrame m #[(.ref xa1)] 1)) t) ∧ (∀ t, Steps p.tables e below (s₁.setTop (entryFrame m #[(.ref xa1)] 1)) t → P t) := ⟨_, fun t k => k, fun t k => k⟩
  have pre0 : ∀ t, Sx p e below s₁ m 0 #[xvr xa1] [] t → TG t := fun t k => hT2 t (castTop (ef_rmA10 m xa1 ) k)
  obtain ⟨T138, X138, e138, st138⟩ := initO X0 hx hZ hown (w_24 hw) (w_9 hw) (w_10 hw) e0 (g := (mkF m 1 #[xvr xa1] [xwr xa1])) rfl (by rw [hml]; rfl) rfl (hb hby d4_1) (by decide) (W := 0) (by show 2 * 0 + _ ≤ _; exact Nat.le_of_eq rfl) (by decide)
  obtain ⟨fs, hr, hrun, hended, hW, hsame⟩ := X138.leave (v := none) (fun _ => rfl)
  refine ⟨_, _, hTG _ (pre0 _ ?_), hrun, hended, _, _, rfl, ?_, ⟨_, rfl⟩, hW, hsame.mono (by decide) (by decide)⟩
  · refine y_aloadN X0 hx 1 (hb hby d4_0) rfl rfl rfl ?_
    refine st138 _ ?_
    show Sx p e below T138 m 4 #[xvr xa1] [] _
    exact X138.returnOut hx Bd.returns (hb hby d4_4) hr
  · show QrmA10 Z G xa1 h0 n0 _ T138.heap _
    rw [e138]
    exact ⟨rfl, N0, rfl⟩
theorem d3_4 : decode prog_33_method_1_code 4 = .ok (.aload_n 0, 1) := by decide +kernel
theorem d3_5 : decode prog_33_method_1_code 5 = .ok (.aload_n 1, 1) := by decide +kernel
theorem d3_6 : decode prog_33_method_1_code 6 = .ok (.putfield 7, 3) := by decide +kernel
theorem d3_9 : decode prog_33_method_1_code 9 = .ok (.aload_n 0, 1) := by decide +kernel
theorem d3_10 : decode prog_33_method_1_code 10 = .ok (.lload_n 2, 1) := by decide +kernel
theorem d3_11 : decode prog_33_method_1_code 11 = .ok (.putfield 13, 3) := by decide +kernel
theorem d3_14 : decode prog_33_method_1_code 14 = .ok (.return_, 1) := by decide +kernel
theorem pn_3 : plainName "com/example/arbiter/arbiter/store/JobStore$Position" = true := by first | (simp [plainName, overriddenIn]; done) | decide +kernel
def QrmA9 (Z : State) (G : Gs) (xa1 : Addr) (h0 : Heap) (n0 : Nat) (v : Option Value) (h : Heap) (L : List Loc) : Prop := v = none ∧ Fr n0 L ∧ Keep h0 h [xa1] ∧ Exa Z h xa1 "com/example/arbiter/arbiter/store/JobStore$Position" ∧ Fld Z h xa1 "com/example/arbiter/arbiter/store/JobStore$Position" "at" "Ljava/time/Instant;" (.ref G.a0) ∧ Fld Z h xa1 "com/example/arbiter/arbiter/store/JobStore$Position" "id" "J" (.long (1 : Int64))
set_option maxRecDepth 65536 in
set_option maxHeartbeats 40000000 in
theorem rmA9 (l : Launch) (Z : State) (a0 : Array Value) (hw : HW a0 Z) (G : Gs) (ST : StartF Z G) (ws : List Jvm.Cond) (xa1 : Addr) (h0 : Heap) (n0 : Nat) (X00 : Old Z n0 h0) (xE_xa1 : Exa Z h0 xa1 "com/example/arbiter/arbiter/store/JobStore$Position") (xF_xa1_at : Fld Z h0 xa1 "com/example/arbiter/arbiter/store/JobStore$Position" "at" "Ljava/time/Instant;" .null) (xF_xa1_id : Fld Z h0 xa1 "com/example/arbiter/arbiter/store/JobStore$Position" "id" "J" (.long (0 : Int64))) (xg_xa1 : n0 ≤ xa1) :
    MetFree l (⟨"com/example/arbiter/arbiter/store/JobStore$Position", "<init>", "(Ljava/time/Instant;J)V"⟩ : MethodName) (head1 (Jvm.Cond.code (⟨"com/example/arbiter/arbiter/store/JobStore$Position", "<init>", "(Ljava/time/Instant;J)V"⟩ : MethodName) prog_33_method_1_code 4 none :: ws) ({ frames := 2, cells := 0, slots := 0, locals := 24 } : Room)) (fun a U => a = #[(.ref xa1), (.ref G.a0), (.long (1 : Int64))] ∧ Z.Warmed39 U.vm ∧ U.heap = h0) (fun _ _ _ _ _ => True) (fun _ U o U' => ∃ v L, o = .returned v ∧ QrmA9 Z G xa1 h0 n0 v U'.heap L ∧ FrameEnd U o U' L ({ frames := 2, cells := 0, slots := 0, locals := 24 } : Room).cells ({ frames := 2, cells := 0, slots := 0, locals := 24 } : Room).slots) := by
  refine MetFree.of_bodySF (plainFor_of_name pn_3) hisR ?_
  intro p e s m args below meth c s₁ Bd hml0 hP hK
  obtain ⟨rfl, hZ, hh⟩ := hP
  have hx := Bd.exec
  have hby := Bd.bytes
  have hml : c.maxLocals = 4 := hml0
  have hown : s.vm.findClass "com/example/arbiter/arbiter/store/JobStore$Position" = some m.cls := findClass_of_methodNamed Bd.named
  have hnm := (name_of_methodNamed Bd.named Bd.method).1
  have X0 : Stand p l e ({ frames := 2, cells := 0, slots := 0, locals := 24 } : Room) s m #[(.ref xa1), (.ref G.a0), (.long (1 : Int64))] below meth c s₁ [] 0 0 := Stand.of_body Bd
  have e0 : s₁.heap = h0 := by rw [← hh, Bd.state]; rfl
  have N0 := Fr.nil n0
  have Z0 : n0 ≤ h0.size := by have q := X00.2.1; rw [X00.1] at q; exact q
  obtain ⟨TG, hTG, hT2⟩ : ∃ P : State → Prop, (∀ t, P t → Steps p.tables e below (s₁.setTop (entryFrame m #[(.ref xa1), (.ref G.a0), (.long (1 : Int64))] 4)) t) ∧ (∀ t, Steps p.tables e below (s₁.setTop (entryFrame m #[(.ref xa1), (.ref G.a0), (.long (1 : Int64))] 4)) t → P t) := ⟨_, fun t k => k, fun t k => k⟩
  have pre0 : ∀ t, Sx p e below s₁ m 0 #[xvr xa1, xvr G.a0, xvj (1 : Int64), xse] [] t → TG t := fun t k => hT2 t (castTop (ef_rmA9 m xa1 G.a0 (1 : Int64) ) k)
  obtain ⟨_, _, ⟨T139, L139, k139, n139⟩, -, X139, ⟨Lc139, hQ139, l139, y139, z139⟩, st139⟩ := X0.specialBack hx (y := (⟨"java/lang/Record", "<init>", "()V"⟩ : MethodName)) rfl hown (mvT hZ (w_19 hw)) (mvT hZ (w_20 hw)) (mvT hZ (w_23 hw)) (by decide) (backOf (W := 0) (rmA10 l Z a0 hw G ST [] xa1 h0 n0 X00 ) hZ (w_23 hw) (w_22 hw) (by decide) (by decide)) (g := (mkF m 1 #[xvr xa1, xvr G.a0, xvj (1 : Int64), xse] [xwr xa1])) rfl (by rw [hml]; rfl) (Steps.refl _) (a := xa1) (argsL := []) (rest := []) (lenOf pd_3 rfl) rfl (by show 2 * 0 + _ ≤ _; exact Nat.le_of_eq rfl) (hb hby d3_1) (fun _ _ => ⟨rfl, e0, (by decide : 0 + 0 ≤ _), (by decide : 0 + 0 ≤ _)⟩)
  dsimp only [Pt.U, Pt.locs, Pt.cells, Pt.slots] at X139 l139 y139 z139 st139 hQ139
  subst l139 y139 z139
  obtain ⟨rfl, N139q, e139⟩ := hQ139
  have N139 := Fr.app N0 N139q
  obtain ⟨T140, h140, X140, e140, W140, st140⟩ := putF X139 hx hZ hown (host := "") (Or.inl (w_25 hw)) Via.refl e139 xF_xa1_at xE_xa1 (Or.inr ⟨(w_26 hw), rfl, hnm⟩) (w_12 hw) (ty := (.object "java/time/Instant")) (by decide) rfl rfl (g := (mkF m 6 #[xvr xa1, xvr G.a0, xvj (1 : Int64), xse] [xwr G.a0, xwr xa1])) rfl rfl (hb hby d3_6)
  have Fw140 := xF_xa1_at.same W140
  have N140 := Fr.snoc X140 N139 xg_xa1
  have f141 := (xF_xa1_id.other W140 (Or.inr (slot_ne (Or.inr (w_28 hw)) (Or.inr (w_26 hw)) (by decide) (t := .long) (t' := (.object "java/time/Instant")) (by decide) (by decide))))
  have f142 := (xE_xa1.wr W140)
  obtain ⟨T143, h143, X143, e143, W143, st143⟩ := putF X140 hx hZ hown (host := "") (Or.inl (w_27 hw)) Via.refl e140 f141 f142 (Or.inr ⟨(w_28 hw), rfl, hnm⟩) (w_12 hw) (ty := .long) (by decide) rfl rfl (g := (mkF m 11 #[xvr xa1, xvr G.a0, xvj (1 : Int64), xse] [xwj (1 : Int64), xwr xa1])) rfl rfl (hb hby d3_11)
  have Fw143 := f141.same W143
  have N143 := Fr.snoc X143 N140 xg_xa1
  have f144 := (f142.wr W143)
  have f145 := (Fw140.other W143 (Or.inr (slot_ne (Or.inr (w_26 hw)) (Or.inr (w_28 hw)) (by decide) (t := (.object "java/time/Instant")) (t' := .long) (by decide) (by decide))))
  obtain ⟨fs, hr, hrun, hended, hW, hsame⟩ := X143.leave (v := none) (fun _ => rfl)
  refine ⟨_, _, hTG _ (pre0 _ ?_), hrun, hended, _, _, rfl, ?_, ⟨_, rfl⟩, hW, hsame.mono (by decide) (by decide)⟩
  · refine y_aloadN X0 hx 1 (hb hby d3_0) rfl rfl rfl ?_
    refine st139.trans ?_
    show Sx p e below T139 m 4 #[xvr xa1, xvr G.a0, xvj (1 : Int64), xse] [] _
    refine y_aloadN X139 hx 5 (hb hby d3_4) rfl rfl rfl ?_
    refine y_aloadN X139 hx 6 (hb hby d3_5) rfl rfl rfl ?_
    refine st140 _ ?_
    show Sx p e below T140 m 9 #[xvr xa1, xvr G.a0, xvj (1 : Int64), xse] [] _
    refine y_aloadN X140 hx 10 (hb hby d3_9) rfl rfl rfl ?_
    refine y_lloadN X140 hx 11 (hb hby d3_10) rfl rfl ?_
    refine st143 _ ?_
    show Sx p e below T143 m 14 #[xvr xa1, xvr G.a0, xvj (1 : Int64), xse] [] _
    exact X143.returnOut hx Bd.returns (hb hby d3_14) hr
  · show QrmA9 Z G xa1 h0 n0 _ T143.heap _
    rw [e143]
    exact ⟨rfl, N143, (((Keep.refl h0 [xa1]).wr W140 (Or.inl (List.mem_of_getElem? (i := 0) rfl))).wr W143 (Or.inl (List.mem_of_getElem? (i := 0) rfl))), f144, f145, Fw143⟩
theorem pd_5 : parseMethodDescriptor "(Ljava/time/Instant;J)V" = some ⟨[(.object "java/time/Instant"), .long], none⟩ := by decide +kernel
theorem ef_rmA11 (m : MethodId) (x0 : Addr)  : entryFrame m #[(.ref x0)] 1 = mkF m 0 #[.val (.ref x0)] [] := by first | (simp [entryFrame, mkF, argsToLocals, Value.category]; done) | rfl
theorem d5_0 : decode jdk_38_method_2_code 0 = .ok (.aload_n 0, 1) := by decide +kernel
theorem d5_1 : decode jdk_38_method_2_code 1 = .ok (.invokespecial 1, 3) := by decide +kernel
theorem ef_rmA12 (m : MethodId) (x0 : Addr)  : entryFrame m #[(.ref x0)] 1 = mkF m 0 #[.val (.ref x0)] [] := by first | (simp [entryFrame, mkF, argsToLocals, Value.category]; done) | rfl
theorem d6_0 : decode jdk_39_method_1_code 0 = .ok (.aload_n 0, 1) := by decide +kernel
theorem d6_1 : decode jdk_39_method_1_code 1 = .ok (.invokespecial 1, 3) := by decide +kernel
theorem ef_rmA13 (m : MethodId) (x0 : Addr)  : entryFrame m #[(.ref x0)] 1 = mkF m 0 #[.val (.ref x0)] [] := by first | (simp [entryFrame, mkF, argsToLocals, Value.category]; done) | rfl
theorem d7_0 : decode jdk_22_method_1_code 0 = .ok (.aload_n 0, 1) := by decide +kernel
theorem d7_1 : decode jdk_22_method_1_code 1 = .ok (.invokespecial 1, 3) := by decide +kernel
theorem d7_4 : decode jdk_22_method_1_code 4 = .ok (.return_, 1) := by decide +kernel
theorem pn_4 : plainName "java/util/AbstractCollection" = true := by first | (simp [plainName, overriddenIn]; done) | decide +kernel
def QrmA13 (Z : State) (G : Gs) (xa1 : Addr) (h0 : Heap) (n0 : Nat) (v : Option Value) (h : Heap) (L : List Loc) : Prop := v = none ∧ Fr n0 L ∧ h = h0
set_option maxRecDepth 65536 in
set_option maxHeartbeats 40000000 in
theorem rmA13 (l : Launch) (Z : State) (a0 : Array Value) (hw : HW a0 Z) (G : Gs) (ST : StartF Z G) (ws : List Jvm.Cond) (xa1 : Addr) (h0 : Heap) (n0 : Nat) (X00 : Old Z n0 h0) :
    MetFree l (⟨"java/util/AbstractCollection", "<init>", "()V"⟩ : MethodName) (head1 (Jvm.Cond.code (⟨"java/util/AbstractCollection", "<init>", "()V"⟩ : MethodName) jdk_22_method_1_code 1 none :: ws) ({ frames := 1, cells := 0, slots := 0, locals := 12 } : Room)) (fun a U => a = #[(.ref xa1)] ∧ Z.Warmed39 U.vm ∧ U.heap = h0) (fun _ _ _ _ _ => True) (fun _ U o U' => ∃ v L, o = .returned v ∧ QrmA13 Z G xa1 h0 n0 v U'.heap L ∧ FrameEnd U o U' L ({ frames := 1, cells := 0, slots := 0, locals := 12 } : Room).cells ({ frames := 1, cells := 0, slots := 0, locals := 12 } : Room).slots) := by
  refine MetFree.of_bodySF (plainFor_of_name pn_4) hisR ?_
  intro p e s m args below meth c s₁ Bd hml0 hP hK
  obtain ⟨rfl, hZ, hh⟩ := hP
  have hx := Bd.exec
  have hby := Bd.bytes
  have hml : c.maxLocals = 1 := hml0
  have hown : s.vm.findClass "java/util/AbstractCollection" = some m.cls := findClass_of_methodNamed Bd.named
  have hnm := (name_of_methodNamed Bd.named Bd.method).1
  have X0 : Stand p l e ({ frames := 1, cells := 0, slots := 0, locals := 12 } : Room) s m #[(.ref xa1)] below meth c s₁ [] 0 0 := Stand.of_body Bd
  have e0 : s₁.heap = h0 := by rw [← hh, Bd.state]; rfl
  have N0 := Fr.nil n0
  have Z0 : n0 ≤ h0.size := by have q := X00.2.1; rw [X00.1] at q; exact q
  obtain ⟨TG, hTG, hT2⟩ : ∃ P : State → Prop, (∀ t, P t → Steps p.tables e below (s₁.setTop (entryFrame m #[(.ref xa1)] 1)) t) ∧ (∀ t, Steps p.tables e below (s₁.setTop (entryFrame m #[(.ref xa1)] 1)) t → P t) := ⟨_, fun t k => k, fun t k => k⟩
  have pre0 : ∀ t, Sx p e below s₁ m 0 #[xvr xa1] [] t → TG t := fun t k => hT2 t (castTop (ef_rmA13 m xa1 ) k)
  obtain ⟨T152, X152, e152, st152⟩ := initO X0 hx hZ hown (w_50 hw) (w_9 hw) (w_10 hw) e0 (g := (mkF m 1 #[xvr xa1] [xwr xa1])) rfl (by rw [hml]; rfl) rfl (hb hby d7_1) (by decide) (W := 0) (by show 2 * 0 + _ ≤ _; exact Nat.le_of_eq rfl) (by decide)
  obtain ⟨fs, hr, hrun, hended, hW, hsame⟩ := X152.leave (v := none) (fun _ => rfl)
  refine ⟨_, _, hTG _ (pre0 _ ?_), hrun, hended, _, _, rfl, ?_, ⟨_, rfl⟩, hW, hsame.mono (by decide) (by decide)⟩
  · refine y_aloadN X0 hx 1 (hb hby d7_0) rfl rfl rfl ?_
    refine st152 _ ?_
    show Sx p e below T152 m 4 #[xvr xa1] [] _
    exact X152.returnOut hx Bd.returns (hb hby d7_4) hr
  · show QrmA13 Z G xa1 h0 n0 _ T152.heap _
    rw [e152]
    exact ⟨rfl, N0, rfl⟩
theorem d6_4 : decode jdk_39_method_1_code 4 = .ok (.aload_n 0, 1) := by decide +kernel
theorem d6_5 : decode jdk_39_method_1_code 5 = .ok (.iconst 0, 1) := by decide +kernel
theorem d6_6 : decode jdk_39_method_1_code 6 = .ok (.putfield 7, 3) := by decide +kernel
theorem d6_9 : decode jdk_39_method_1_code 9 = .ok (.return_, 1) := by decide +kernel
theorem pn_5 : plainName "java/util/AbstractList" = true := by first | (simp [plainName, overriddenIn]; done) | decide +kernel
def QrmA12 (Z : State) (G : Gs) (xa1 : Addr) (h0 : Heap) (n0 : Nat) (v : Option Value) (h : Heap) (L : List Loc) : Prop := v = none ∧ Fr n0 L ∧ Keep h0 h [xa1] ∧ Exa Z h xa1 "java/util/ArrayList" ∧ Fld Z h xa1 "java/util/AbstractList" "modCount" "I" (.int (0 : Int32)) ∧ Fld Z h xa1 "java/util/ArrayList" "elementData" "[Ljava/lang/Object;" .null
set_option maxRecDepth 65536 in
set_option maxHeartbeats 40000000 in
theorem rmA12 (l : Launch) (Z : State) (a0 : Array Value) (hw : HW a0 Z) (G : Gs) (ST : StartF Z G) (ws : List Jvm.Cond) (xa1 : Addr) (h0 : Heap) (n0 : Nat) (X00 : Old Z n0 h0) (xE_xa1 : Exa Z h0 xa1 "java/util/ArrayList") (xF_xa1_modCount : Fld Z h0 xa1 "java/util/AbstractList" "modCount" "I" (.int (0 : Int32))) (xF_xa1_elementData : Fld Z h0 xa1 "java/util/ArrayList" "elementData" "[Ljava/lang/Object;" .null) (xg_xa1 : n0 ≤ xa1) :
    MetFree l (⟨"java/util/AbstractList", "<init>", "()V"⟩ : MethodName) (head1 (Jvm.Cond.code (⟨"java/util/AbstractList", "<init>", "()V"⟩ : MethodName) jdk_39_method_1_code 1 none :: ws) ({ frames := 2, cells := 0, slots := 0, locals := 24 } : Room)) (fun a U => a = #[(.ref xa1)] ∧ Z.Warmed39 U.vm ∧ U.heap = h0) (fun _ _ _ _ _ => True) (fun _ U o U' => ∃ v L, o = .returned v ∧ QrmA12 Z G xa1 h0 n0 v U'.heap L ∧ FrameEnd U o U' L ({ frames := 2, cells := 0, slots := 0, locals := 24 } : Room).cells ({ frames := 2, cells := 0, slots := 0, locals := 24 } : Room).slots) := by
  refine MetFree.of_bodySF (plainFor_of_name pn_5) hisR ?_
  intro p e s m args below meth c s₁ Bd hml0 hP hK
  obtain ⟨rfl, hZ, hh⟩ := hP
  have hx := Bd.exec
  have hby := Bd.bytes
  have hml : c.maxLocals = 1 := hml0
  have hown : s.vm.findClass "java/util/AbstractList" = some m.cls := findClass_of_methodNamed Bd.named
  have hnm := (name_of_methodNamed Bd.named Bd.method).1
  have X0 : Stand p l e ({ frames := 2, cells := 0, slots := 0, locals := 24 } : Room) s m #[(.ref xa1)] below meth c s₁ [] 0 0 := Stand.of_body Bd
  have e0 : s₁.heap = h0 := by rw [← hh, Bd.state]; rfl
  have N0 := Fr.nil n0
  have Z0 : n0 ≤ h0.size := by have q := X00.2.1; rw [X00.1] at q; exact q
  obtain ⟨TG, hTG, hT2⟩ : ∃ P : State → Prop, (∀ t, P t → Steps p.tables e below (s₁.setTop (entryFrame m #[(.ref xa1)] 1)) t) ∧ (∀ t, Steps p.tables e below (s₁.setTop (entryFrame m #[(.ref xa1)] 1)) t → P t) := ⟨_, fun t k => k, fun t k => k⟩
  have pre0 : ∀ t, Sx p e below s₁ m 0 #[xvr xa1] [] t → TG t := fun t k => hT2 t (castTop (ef_rmA12 m xa1 ) k)
  obtain ⟨_, _, ⟨T153, L153, k153, n153⟩, -, X153, ⟨Lc153, hQ153, l153, y153, z153⟩, st153⟩ := X0.specialBack hx (y := (⟨"java/util/AbstractCollection", "<init>", "()V"⟩ : MethodName)) rfl hown (mvT hZ (w_44 hw)) (mvT hZ (w_45 hw)) (mvT hZ (w_49 hw)) (by decide) (backOf (W := 0) (rmA13 l Z a0 hw G ST [] xa1 h0 n0 X00 ) hZ (w_49 hw) (w_48 hw) (by decide) (by decide)) (g := (mkF m 1 #[xvr xa1] [xwr xa1])) rfl (by rw [hml]; rfl) (Steps.refl _) (a := xa1) (argsL := []) (rest := []) (lenOf pd_3 rfl) rfl (by show 2 * 0 + _ ≤ _; exact Nat.le_of_eq rfl) (hb hby d6_1) (fun _ _ => ⟨rfl, e0, (by decide : 0 + 0 ≤ _), (by decide : 0 + 0 ≤ _)⟩)
  dsimp only [Pt.U, Pt.locs, Pt.cells, Pt.slots] at X153 l153 y153 z153 st153 hQ153
  subst l153 y153 z153
  obtain ⟨rfl, N153q, e153⟩ := hQ153
  have N153 := Fr.app N0 N153q
  obtain ⟨T154, h154, X154, e154, W154, st154⟩ := putF X153 hx hZ hown (host := "") (Or.inl (w_51 hw)) Via.refl e153 xF_xa1_modCount xE_xa1 (Or.inl (w_52 hw)) (w_33 hw) (ty := .int) (by decide) rfl rfl (g := (mkF m 6 #[xvr xa1] [xwi (0 : Int32), xwr xa1])) rfl rfl (hb hby d6_6)
  have Fw154 := xF_xa1_modCount.same W154
  have N154 := Fr.snoc X154 N153 xg_xa1
  have f155 := (xE_xa1.wr W154)
  have f156 := (xF_xa1_elementData.other W154 (Or.inr (slot_ne (Or.inl (w_55 hw)) (Or.inl (w_52 hw)) (by decide) (t := (.array (.object "java/lang/Object"))) (t' := .int) (by decide) (by decide))))
  obtain ⟨fs, hr, hrun, hended, hW, hsame⟩ := X154.leave (v := none) (fun _ => rfl)
  refine ⟨_, _, hTG _ (pre0 _ ?_), hrun, hended, _, _, rfl, ?_, ⟨_, rfl⟩, hW, hsame.mono (by decide) (by decide)⟩
  · refine y_aloadN X0 hx 1 (hb hby d6_0) rfl rfl rfl ?_
    refine st153.trans ?_
    show Sx p e below T153 m 4 #[xvr xa1] [] _
    refine y_aloadN X153 hx 5 (hb hby d6_4) rfl rfl rfl ?_
    refine y_iconst X153 hx (0 : Int32) 6 (hb hby d6_5) rfl rfl ?_
    refine st154 _ ?_
    show Sx p e below T154 m 9 #[xvr xa1] [] _
    exact X154.returnOut hx Bd.returns (hb hby d6_9) hr
  · show QrmA12 Z G xa1 h0 n0 _ T154.heap _
    rw [e154]
    exact ⟨rfl, N154, ((Keep.refl h0 [xa1]).wr W154 (Or.inl (List.mem_of_getElem? (i := 0) rfl))), f155, Fw154, f156⟩
theorem d5_4 : decode jdk_38_method_2_code 4 = .ok (.aload_n 0, 1) := by decide +kernel
theorem d5_5 : decode jdk_38_method_2_code 5 = .ok (.getstatic 39, 3) := by decide +kernel
theorem d5_8 : decode jdk_38_method_2_code 8 = .ok (.putfield 9, 3) := by decide +kernel
theorem d5_11 : decode jdk_38_method_2_code 11 = .ok (.return_, 1) := by decide +kernel
theorem pn_6 : plainName "java/util/ArrayList" = true := by first | (simp [plainName, overriddenIn]; done) | decide +kernel
def QrmA11 (Z : State) (G : Gs) (xa1 : Addr) (h0 : Heap) (n0 : Nat) (v : Option Value) (h : Heap) (L : List Loc) : Prop := v = none ∧ Fr n0 L ∧ Keep h0 h [xa1] ∧ Exa Z h xa1 "java/util/ArrayList" ∧ Fld Z h xa1 "java/util/AbstractList" "modCount" "I" (.int (0 : Int32)) ∧ Fld Z h xa1 "java/util/ArrayList" "elementData" "[Ljava/lang/Object;" (.ref G.a2)
set_option maxRecDepth 65536 in
set_option maxHeartbeats 40000000 in
theorem rmA11 (l : Launch) (Z : State) (a0 : Array Value) (hw : HW a0 Z) (G : Gs) (ST : StartF Z G) (ws : List Jvm.Cond) (xa1 : Addr) (h0 : Heap) (n0 : Nat) (X00 : Old Z n0 h0) (xE_xa1 : Exa Z h0 xa1 "java/util/ArrayList") (xF_xa1_modCount : Fld Z h0 xa1 "java/util/AbstractList" "modCount" "I" (.int (0 : Int32))) (xF_xa1_elementData : Fld Z h0 xa1 "java/util/ArrayList" "elementData" "[Ljava/lang/Object;" .null) (xg_xa1 : n0 ≤ xa1) :
    MetFree l (⟨"java/util/ArrayList", "<init>", "()V"⟩ : MethodName) (head1 (Jvm.Cond.code (⟨"java/util/ArrayList", "<init>", "()V"⟩ : MethodName) jdk_38_method_2_code 1 none :: ws) ({ frames := 3, cells := 0, slots := 0, locals := 36 } : Room)) (fun a U => a = #[(.ref xa1)] ∧ Z.Warmed39 U.vm ∧ U.heap = h0) (fun _ _ _ _ _ => True) (fun _ U o U' => ∃ v L, o = .returned v ∧ QrmA11 Z G xa1 h0 n0 v U'.heap L ∧ FrameEnd U o U' L ({ frames := 3, cells := 0, slots := 0, locals := 36 } : Room).cells ({ frames := 3, cells := 0, slots := 0, locals := 36 } : Room).slots) := by
  refine MetFree.of_bodySF (plainFor_of_name pn_6) hisR ?_
  intro p e s m args below meth c s₁ Bd hml0 hP hK
  obtain ⟨rfl, hZ, hh⟩ := hP
  have hx := Bd.exec
  have hby := Bd.bytes
  have hml : c.maxLocals = 1 := hml0
  have hown : s.vm.findClass "java/util/ArrayList" = some m.cls := findClass_of_methodNamed Bd.named
  have hnm := (name_of_methodNamed Bd.named Bd.method).1
  have X0 : Stand p l e ({ frames := 3, cells := 0, slots := 0, locals := 36 } : Room) s m #[(.ref xa1)] below meth c s₁ [] 0 0 := Stand.of_body Bd
  have e0 : s₁.heap = h0 := by rw [← hh, Bd.state]; rfl
  have N0 := Fr.nil n0
  have Z0 : n0 ≤ h0.size := by have q := X00.2.1; rw [X00.1] at q; exact q
  obtain ⟨TG, hTG, hT2⟩ : ∃ P : State → Prop, (∀ t, P t → Steps p.tables e below (s₁.setTop (entryFrame m #[(.ref xa1)] 1)) t) ∧ (∀ t, Steps p.tables e below (s₁.setTop (entryFrame m #[(.ref xa1)] 1)) t → P t) := ⟨_, fun t k => k, fun t k => k⟩
  have pre0 : ∀ t, Sx p e below s₁ m 0 #[xvr xa1] [] t → TG t := fun t k => hT2 t (castTop (ef_rmA11 m xa1 ) k)
  obtain ⟨_, _, ⟨T157, L157, k157, n157⟩, -, X157, ⟨Lc157, hQ157, l157, y157, z157⟩, st157⟩ := X0.specialBack hx (y := (⟨"java/util/AbstractList", "<init>", "()V"⟩ : MethodName)) rfl hown (mvT hZ (w_38 hw)) (mvT hZ (w_39 hw)) (mvT hZ (w_43 hw)) (by decide) (backOf (W := 0) (rmA12 l Z a0 hw G ST [] xa1 h0 n0 X00 xE_xa1 xF_xa1_modCount xF_xa1_elementData xg_xa1) hZ (w_43 hw) (w_42 hw) (by decide) (by decide)) (g := (mkF m 1 #[xvr xa1] [xwr xa1])) rfl (by rw [hml]; rfl) (Steps.refl _) (a := xa1) (argsL := []) (rest := []) (lenOf pd_3 rfl) rfl (by show 2 * 0 + _ ≤ _; exact Nat.le_of_eq rfl) (hb hby d5_1) (fun _ _ => ⟨rfl, e0, (by decide : 0 + 0 ≤ _), (by decide : 0 + 0 ≤ _)⟩)
  dsimp only [Pt.U, Pt.locs, Pt.cells, Pt.slots] at X157 l157 y157 z157 st157 hQ157
  subst l157 y157 z157
  obtain ⟨hp157, e157⟩ : ∃ z, T157.heap = z := ⟨_, rfl⟩
  rw [e157] at hQ157
  obtain ⟨rfl, N157q, K157, p158, p159, p160⟩ := hQ157
  have N157 := Fr.app N0 N157q
  have Ol161 : Old Z n0 hp157 := (X00.keep K157 (allS xg_xa1 all0))
  obtain ⟨T162, X162, e162, st162⟩ := getS2 X157 hx hZ hown (host := "") (Or.inl (w_53 hw)) Via.refl e157 (ST.c8.ext Ol161.2) (g := (mkF m 5 #[xvr xa1] [xwr xa1])) rfl (hb hby d5_5)
  obtain ⟨T163, h163, X163, e163, W163, st163⟩ := putF X162 hx hZ hown (host := "") (Or.inl (w_54 hw)) Via.refl e162 p160 p158 (Or.inl (w_55 hw)) (w_33 hw) (ty := (.array (.object "java/lang/Object"))) (by decide) rfl rfl (g := (mkF m 8 #[xvr xa1] [xwr G.a2, xwr xa1])) rfl rfl (hb hby d5_8)
  have Fw163 := p160.same W163
  have N163 := Fr.snoc X163 N157 xg_xa1
  have f164 := (p158.wr W163)
  have f165 := (p159.other W163 (Or.inr (slot_ne (Or.inl (w_52 hw)) (Or.inl (w_55 hw)) (by decide) (t := .int) (t' := (.array (.object "java/lang/Object"))) (by decide) (by decide))))
  obtain ⟨fs, hr, hrun, hended, hW, hsame⟩ := X163.leave (v := none) (fun _ => rfl)
  refine ⟨_, _, hTG _ (pre0 _ ?_), hrun, hended, _, _, rfl, ?_, ⟨_, rfl⟩, hW, hsame.mono (by decide) (by decide)⟩
  · refine y_aloadN X0 hx 1 (hb hby d5_0) rfl rfl rfl ?_
    refine st157.trans ?_
    show Sx p e below T157 m 4 #[xvr xa1] [] _
    refine y_aloadN X157 hx 5 (hb hby d5_4) rfl rfl rfl ?_
    refine st162 _ ?_
    show Sx p e below T162 m 8 #[xvr xa1] [xwr G.a2, xwr xa1] _
    refine st163 _ ?_
    show Sx p e below T163 m 11 #[xvr xa1] [] _
    exact X163.returnOut hx Bd.returns (hb hby d5_11) hr
  · show QrmA11 Z G xa1 h0 n0 _ T163.heap _
    rw [e163]
    exact ⟨rfl, N163, (((Keep.refl h0 [xa1]).trans K157 (allS (Or.inl (List.mem_of_getElem? (i := 0) rfl)) all0)).wr W163 (Or.inl (List.mem_of_getElem? (i := 0) rfl))), f164, f165, Fw163⟩
theorem ef_rmA14 (m : MethodId) (x0 : Addr) (x1 : Addr) (x2 : Addr) (x3 : Addr)  : entryFrame m #[(.ref x0), (.ref x1), (.ref x2), (.ref x3)] 4 = mkF m 0 #[.val (.ref x0), .val (.ref x1), .val (.ref x2), .val (.ref x3)] [] := by first | (simp [entryFrame, mkF, argsToLocals, Value.category]; done) | rfl
theorem d8_0 : decode prog_32_method_1_code 0 = .ok (.aload_n 0, 1) := by decide +kernel
theorem d8_1 : decode prog_32_method_1_code 1 = .ok (.invokespecial 1, 3) := by decide +kernel
theorem d8_4 : decode prog_32_method_1_code 4 = .ok (.aload_n 0, 1) := by decide +kernel
theorem d8_5 : decode prog_32_method_1_code 5 = .ok (.aload_n 1, 1) := by decide +kernel
theorem d8_6 : decode prog_32_method_1_code 6 = .ok (.putfield 7, 3) := by decide +kernel
theorem d8_9 : decode prog_32_method_1_code 9 = .ok (.aload_n 0, 1) := by decide +kernel
theorem d8_10 : decode prog_32_method_1_code 10 = .ok (.aload_n 2, 1) := by decide +kernel
theorem d8_11 : decode prog_32_method_1_code 11 = .ok (.putfield 13, 3) := by decide +kernel
theorem d8_14 : decode prog_32_method_1_code 14 = .ok (.aload_n 0, 1) := by decide +kernel
theorem d8_15 : decode prog_32_method_1_code 15 = .ok (.aload_n 3, 1) := by decide +kernel
theorem d8_16 : decode prog_32_method_1_code 16 = .ok (.putfield 17, 3) := by decide +kernel
theorem d8_19 : decode prog_32_method_1_code 19 = .ok (.return_, 1) := by decide +kernel
theorem pn_7 : plainName "com/example/arbiter/arbiter/store/JobStore$Claim" = true := by first | (simp [plainName, overriddenIn]; done) | decide +kernel
def QrmA14 (Z : State) (G : Gs) (xa1 : Addr) (xa2 : Addr) (xa3 : Addr) (h0 : Heap) (n0 : Nat) (v : Option Value) (h : Heap) (L : List Loc) : Prop := v = none ∧ Fr n0 L ∧ Keep h0 h [xa1] ∧ Exa Z h xa1 "com/example/arbiter/arbiter/store/JobStore$Claim" ∧ Fld Z h xa1 "com/example/arbiter/arbiter/store/JobStore$Claim" "end" "Lcom/example/arbiter/arbiter/store/JobStore$Position;" (.ref xa3) ∧ Fld Z h xa1 "com/example/arbiter/arbiter/store/JobStore$Claim" "jobs" "Ljava/util/List;" (.ref xa2) ∧ Fld Z h xa1 "com/example/arbiter/arbiter/store/JobStore$Claim" "readAt" "Ljava/time/Instant;" (.ref G.a1)
set_option maxRecDepth 65536 in
set_option maxHeartbeats 40000000 in
theorem rmA14 (l : Launch) (Z : State) (a0 : Array Value) (hw : HW a0 Z) (G : Gs) (ST : StartF Z G) (ws : List Jvm.Cond) (xa1 : Addr) (xa2 : Addr) (xa3 : Addr) (h0 : Heap) (n0 : Nat) (X00 : Old Z n0 h0) (xE_xa1 : Exa Z h0 xa1 "com/example/arbiter/arbiter/store/JobStore$Claim") (xF_xa1_end : Fld Z h0 xa1 "com/example/arbiter/arbiter/store/JobStore$Claim" "end" "Lcom/example/arbiter/arbiter/store/JobStore$Position;" .null) (xF_xa1_jobs : Fld Z h0 xa1 "com/example/arbiter/arbiter/store/JobStore$Claim" "jobs" "Ljava/util/List;" .null) (xF_xa1_readAt : Fld Z h0 xa1 "com/example/arbiter/arbiter/store/JobStore$Claim" "readAt" "Ljava/time/Instant;" .null) (xg_xa1 : n0 ≤ xa1) :
    MetFree l (⟨"com/example/arbiter/arbiter/store/JobStore$Claim", "<init>", "(Ljava/util/List;Lcom/example/arbiter/arbiter/store/JobStore$Position;Ljava/time/Instant;)V"⟩ : MethodName) (head1 (Jvm.Cond.code (⟨"com/example/arbiter/arbiter/store/JobStore$Claim", "<init>", "(Ljava/util/List;Lcom/example/arbiter/arbiter/store/JobStore$Position;Ljava/time/Instant;)V"⟩ : MethodName) prog_32_method_1_code 4 none :: ws) ({ frames := 2, cells := 0, slots := 0, locals := 24 } : Room)) (fun a U => a = #[(.ref xa1), (.ref xa2), (.ref xa3), (.ref G.a1)] ∧ Z.Warmed39 U.vm ∧ U.heap = h0) (fun _ _ _ _ _ => True) (fun _ U o U' => ∃ v L, o = .returned v ∧ QrmA14 Z G xa1 xa2 xa3 h0 n0 v U'.heap L ∧ FrameEnd U o U' L ({ frames := 2, cells := 0, slots := 0, locals := 24 } : Room).cells ({ frames := 2, cells := 0, slots := 0, locals := 24 } : Room).slots) := by
  refine MetFree.of_bodySF (plainFor_of_name pn_7) hisR ?_
  intro p e s m args below meth c s₁ Bd hml0 hP hK
  obtain ⟨rfl, hZ, hh⟩ := hP
  have hx := Bd.exec
  have hby := Bd.bytes
  have hml : c.maxLocals = 4 := hml0
  have hown : s.vm.findClass "com/example/arbiter/arbiter/store/JobStore$Claim" = some m.cls := findClass_of_methodNamed Bd.named
  have hnm := (name_of_methodNamed Bd.named Bd.method).1
  have X0 : Stand p l e ({ frames := 2, cells := 0, slots := 0, locals := 24 } : Room) s m #[(.ref xa1), (.ref xa2), (.ref xa3), (.ref G.a1)] below meth c s₁ [] 0 0 := Stand.of_body Bd
  have e0 : s₁.heap = h0 := by rw [← hh, Bd.state]; rfl
  have N0 := Fr.nil n0
  have Z0 : n0 ≤ h0.size := by have q := X00.2.1; rw [X00.1] at q; exact q
  obtain ⟨TG, hTG, hT2⟩ : ∃ P : State → Prop, (∀ t, P t → Steps p.tables e below (s₁.setTop (entryFrame m #[(.ref xa1), (.ref xa2), (.ref xa3), (.ref G.a1)] 4)) t) ∧ (∀ t, Steps p.tables e below (s₁.setTop (entryFrame m #[(.ref xa1), (.ref xa2), (.ref xa3), (.ref G.a1)] 4)) t → P t) := ⟨_, fun t k => k, fun t k => k⟩
  have pre0 : ∀ t, Sx p e below s₁ m 0 #[xvr xa1, xvr xa2, xvr xa3, xvr G.a1] [] t → TG t := fun t k => hT2 t (castTop (ef_rmA14 m xa1 xa2 xa3 G.a1 ) k)
  obtain ⟨_, _, ⟨T173, L173, k173, n173⟩, -, X173, ⟨Lc173, hQ173, l173, y173, z173⟩, st173⟩ := X0.specialBack hx (y := (⟨"java/lang/Record", "<init>", "()V"⟩ : MethodName)) rfl hown (mvT hZ (w_60 hw)) (mvT hZ (w_20 hw)) (mvT hZ (w_23 hw)) (by decide) (backOf (W := 0) (rmA10 l Z a0 hw G ST [] xa1 h0 n0 X00 ) hZ (w_23 hw) (w_22 hw) (by decide) (by decide)) (g := (mkF m 1 #[xvr xa1, xvr xa2, xvr xa3, xvr G.a1] [xwr xa1])) rfl (by rw [hml]; rfl) (Steps.refl _) (a := xa1) (argsL := []) (rest := []) (lenOf pd_3 rfl) rfl (by show 2 * 0 + _ ≤ _; exact Nat.le_of_eq rfl) (hb hby d8_1) (fun _ _ => ⟨rfl, e0, (by decide : 0 + 0 ≤ _), (by decide : 0 + 0 ≤ _)⟩)
  dsimp only [Pt.U, Pt.locs, Pt.cells, Pt.slots] at X173 l173 y173 z173 st173 hQ173
  subst l173 y173 z173
  obtain ⟨rfl, N173q, e173⟩ := hQ173
  have N173 := Fr.app N0 N173q
  obtain ⟨T174, h174, X174, e174, W174, st174⟩ := putF X173 hx hZ hown (host := "") (Or.inl (w_61 hw)) Via.refl e173 xF_xa1_jobs xE_xa1 (Or.inr ⟨(w_62 hw), rfl, hnm⟩) (w_30 hw) (ty := (.object "java/util/List")) (by decide) rfl rfl (g := (mkF m 6 #[xvr xa1, xvr xa2, xvr xa3, xvr G.a1] [xwr xa2, xwr xa1])) rfl rfl (hb hby d8_6)
  have Fw174 := xF_xa1_jobs.same W174
  have N174 := Fr.snoc X174 N173 xg_xa1
  have f175 := (xF_xa1_end.other W174 (Or.inr (slot_ne (Or.inr (w_64 hw)) (Or.inr (w_62 hw)) (by decide) (t := (.object "com/example/arbiter/arbiter/store/JobStore$Position")) (t' := (.object "java/util/List")) (by decide) (by decide))))
  have f176 := (xE_xa1.wr W174)
  obtain ⟨T177, h177, X177, e177, W177, st177⟩ := putF X174 hx hZ hown (host := "") (Or.inl (w_63 hw)) Via.refl e174 f175 f176 (Or.inr ⟨(w_64 hw), rfl, hnm⟩) (w_30 hw) (ty := (.object "com/example/arbiter/arbiter/store/JobStore$Position")) (by decide) rfl rfl (g := (mkF m 11 #[xvr xa1, xvr xa2, xvr xa3, xvr G.a1] [xwr xa3, xwr xa1])) rfl rfl (hb hby d8_11)
  have Fw177 := f175.same W177
  have N177 := Fr.snoc X177 N174 xg_xa1
  have f178 := ((xF_xa1_readAt.other W174 (Or.inr (slot_ne (Or.inr (w_66 hw)) (Or.inr (w_62 hw)) (by decide) (t := (.object "java/time/Instant")) (t' := (.object "java/util/List")) (by decide) (by decide)))).other W177 (Or.inr (slot_ne (Or.inr (w_66 hw)) (Or.inr (w_64 hw)) (by decide) (t := (.object "java/time/Instant")) (t' := (.object "com/example/arbiter/arbiter/store/JobStore$Position")) (by decide) (by decide))))
  have f179 := (f176.wr W177)
  obtain ⟨T180, h180, X180, e180, W180, st180⟩ := putF X177 hx hZ hown (host := "") (Or.inl (w_65 hw)) Via.refl e177 f178 f179 (Or.inr ⟨(w_66 hw), rfl, hnm⟩) (w_30 hw) (ty := (.object "java/time/Instant")) (by decide) rfl rfl (g := (mkF m 16 #[xvr xa1, xvr xa2, xvr xa3, xvr G.a1] [xwr G.a1, xwr xa1])) rfl rfl (hb hby d8_16)
  have Fw180 := f178.same W180
  have N180 := Fr.snoc X180 N177 xg_xa1
  have f181 := (f179.wr W180)
  have f182 := (Fw177.other W180 (Or.inr (slot_ne (Or.inr (w_64 hw)) (Or.inr (w_66 hw)) (by decide) (t := (.object "com/example/arbiter/arbiter/store/JobStore$Position")) (t' := (.object "java/time/Instant")) (by decide) (by decide))))
  have f183 := ((Fw174.other W177 (Or.inr (slot_ne (Or.inr (w_62 hw)) (Or.inr (w_64 hw)) (by decide) (t := (.object "java/util/List")) (t' := (.object "com/example/arbiter/arbiter/store/JobStore$Position")) (by decide) (by decide)))).other W180 (Or.inr (slot_ne (Or.inr (w_62 hw)) (Or.inr (w_66 hw)) (by decide) (t := (.object "java/util/List")) (t' := (.object "java/time/Instant")) (by decide) (by decide))))
  obtain ⟨fs, hr, hrun, hended, hW, hsame⟩ := X180.leave (v := none) (fun _ => rfl)
  refine ⟨_, _, hTG _ (pre0 _ ?_), hrun, hended, _, _, rfl, ?_, ⟨_, rfl⟩, hW, hsame.mono (by decide) (by decide)⟩
  · refine y_aloadN X0 hx 1 (hb hby d8_0) rfl rfl rfl ?_
    refine st173.trans ?_
    show Sx p e below T173 m 4 #[xvr xa1, xvr xa2, xvr xa3, xvr G.a1] [] _
    refine y_aloadN X173 hx 5 (hb hby d8_4) rfl rfl rfl ?_
    refine y_aloadN X173 hx 6 (hb hby d8_5) rfl rfl rfl ?_
    refine st174 _ ?_
    show Sx p e below T174 m 9 #[xvr xa1, xvr xa2, xvr xa3, xvr G.a1] [] _
    refine y_aloadN X174 hx 10 (hb hby d8_9) rfl rfl rfl ?_
    refine y_aloadN X174 hx 11 (hb hby d8_10) rfl rfl rfl ?_
    refine st177 _ ?_
    show Sx p e below T177 m 14 #[xvr xa1, xvr xa2, xvr xa3, xvr G.a1] [] _
    refine y_aloadN X177 hx 15 (hb hby d8_14) rfl rfl rfl ?_
    refine y_aloadN X177 hx 16 (hb hby d8_15) rfl rfl rfl ?_
    refine st180 _ ?_
    show Sx p e below T180 m 19 #[xvr xa1, xvr xa2, xvr xa3, xvr G.a1] [] _
    exact X180.returnOut hx Bd.returns (hb hby d8_19) hr
  · show QrmA14 Z G xa1 xa2 xa3 h0 n0 _ T180.heap _
    rw [e180]
    exact ⟨rfl, N180, ((((Keep.refl h0 [xa1]).wr W174 (Or.inl (List.mem_of_getElem? (i := 0) rfl))).wr W177 (Or.inl (List.mem_of_getElem? (i := 0) rfl))).wr W180 (Or.inl (List.mem_of_getElem? (i := 0) rfl))), f181, f182, f183, Fw180⟩
theorem pd_6 : parseMethodDescriptor "(Ljava/util/List;Lcom/example/arbiter/arbiter/store/JobStore$Position;Ljava/time/Instant;)V" = some ⟨[(.object "java/util/List"), (.object "com/example/arbiter/arbiter/store/JobStore$Position"), (.object "java/time/Instant")], none⟩ := by decide +kernel
theorem ef_rmA15 (m : MethodId) (x0 : Addr) (x2 : Addr) (x3 : Int64) (x4 : Int64)  : entryFrame m #[(.ref x0), .null, (.ref x2), (.long x3), (.long x4)] 8 = mkF m 0 #[.val (.ref x0), .val .null, .val (.ref x2), .val (.long x3), .second, .val (.long x4), .second, .unset] [] := by first | (simp [entryFrame, mkF, argsToLocals, Value.category]; done) | rfl
theorem d9_0 : decode prog_14_method_3_code 0 = .ok (.aload_n 1, 1) := by decide +kernel
theorem d9_1 : decode prog_14_method_3_code 1 = .ok (.ifnonnull 16, 3) := by decide +kernel
theorem d9_4 : decode prog_14_method_3_code 4 = .ok (.aload_n 0, 1) := by decide +kernel
theorem d9_5 : decode prog_14_method_3_code 5 = .ok (.lload_n 3, 1) := by decide +kernel
theorem d9_6 : decode prog_14_method_3_code 6 = .ok (.putfield 31, 3) := by decide +kernel
theorem d9_9 : decode prog_14_method_3_code 9 = .ok (.aload_n 0, 1) := by decide +kernel
theorem d9_10 : decode prog_14_method_3_code 10 = .ok (.lload 5, 2) := by decide +kernel
theorem d9_12 : decode prog_14_method_3_code 12 = .ok (.lload_n 3, 1) := by decide +kernel
theorem d9_13 : decode prog_14_method_3_code 13 = .ok (.lsub, 1) := by decide +kernel
theorem d9_14 : decode prog_14_method_3_code 14 = .ok (.putfield 21, 3) := by decide +kernel
theorem d9_17 : decode prog_14_method_3_code 17 = .ok (.aload_n 2, 1) := by decide +kernel
theorem d9_18 : decode prog_14_method_3_code 18 = .ok (.invokevirtual 38, 3) := by decide +kernel
theorem ef_rmA16 (m : MethodId) (x0 : Addr)  : entryFrame m #[(.ref x0)] 1 = mkF m 0 #[.val (.ref x0)] [] := by first | (simp [entryFrame, mkF, argsToLocals, Value.category]; done) | rfl
theorem d10_0 : decode prog_32_method_7_code 0 = .ok (.aload_n 0, 1) := by decide +kernel
theorem d10_1 : decode prog_32_method_7_code 1 = .ok (.getfield 17, 3) := by decide +kernel
theorem d10_4 : decode prog_32_method_7_code 4 = .ok (.areturn, 1) := by decide +kernel
def QrmA16 (Z : State) (G : Gs) (xa1 : Addr) (h0 : Heap) (n0 : Nat) (v : Option Value) (h : Heap) (L : List Loc) : Prop := v = some (.ref G.a1) ∧ Fr n0 L ∧ h = h0
set_option maxRecDepth 65536 in
set_option maxHeartbeats 40000000 in
theorem rmA16 (l : Launch) (Z : State) (a0 : Array Value) (hw : HW a0 Z) (G : Gs) (ST : StartF Z G) (ws : List Jvm.Cond) (xa1 : Addr) (h0 : Heap) (n0 : Nat) (X00 : Old Z n0 h0) (xF_xa1_readAt : Fld Z h0 xa1 "com/example/arbiter/arbiter/store/JobStore$Claim" "readAt" "Ljava/time/Instant;" (.ref G.a1)) :
    MetFree l (⟨"com/example/arbiter/arbiter/store/JobStore$Claim", "readAt", "()Ljava/time/Instant;"⟩ : MethodName) (head1 (Jvm.Cond.code (⟨"com/example/arbiter/arbiter/store/JobStore$Claim", "readAt", "()Ljava/time/Instant;"⟩ : MethodName) prog_32_method_7_code 1 (some (.object "java/time/Instant")) :: ws) ({ frames := 0, cells := 0, slots := 0, locals := 0 } : Room)) (fun a U => a = #[(.ref xa1)] ∧ Z.Warmed39 U.vm ∧ U.heap = h0) (fun _ _ _ _ _ => True) (fun _ U o U' => ∃ v L, o = .returned v ∧ QrmA16 Z G xa1 h0 n0 v U'.heap L ∧ FrameEnd U o U' L ({ frames := 0, cells := 0, slots := 0, locals := 0 } : Room).cells ({ frames := 0, cells := 0, slots := 0, locals := 0 } : Room).slots) := by
  refine MetFree.of_bodySF (plainFor_of_name pn_7) hisR ?_
  intro p e s m args below meth c s₁ Bd hml0 hP hK
  obtain ⟨rfl, hZ, hh⟩ := hP
  have hx := Bd.exec
  have hby := Bd.bytes
  have hml : c.maxLocals = 1 := hml0
  have hown : s.vm.findClass "com/example/arbiter/arbiter/store/JobStore$Claim" = some m.cls := findClass_of_methodNamed Bd.named
  have hnm := (name_of_methodNamed Bd.named Bd.method).1
  have X0 : Stand p l e ({ frames := 0, cells := 0, slots := 0, locals := 0 } : Room) s m #[(.ref xa1)] below meth c s₁ [] 0 0 := Stand.of_body Bd
  have e0 : s₁.heap = h0 := by rw [← hh, Bd.state]; rfl
  have N0 := Fr.nil n0
  have Z0 : n0 ≤ h0.size := by have q := X00.2.1; rw [X00.1] at q; exact q
  obtain ⟨TG, hTG, hT2⟩ : ∃ P : State → Prop, (∀ t, P t → Steps p.tables e below (s₁.setTop (entryFrame m #[(.ref xa1)] 1)) t) ∧ (∀ t, Steps p.tables e below (s₁.setTop (entryFrame m #[(.ref xa1)] 1)) t → P t) := ⟨_, fun t k => k, fun t k => k⟩
  have pre0 : ∀ t, Sx p e below s₁ m 0 #[xvr xa1] [] t → TG t := fun t k => hT2 t (castTop (ef_rmA16 m xa1 ) k)
  obtain ⟨T197, X197, e197, st197⟩ := getF X0 hx hZ hown (host := "") (Or.inl (w_65 hw)) Via.refl e0 xF_xa1_readAt (g := (mkF m 1 #[xvr xa1] [xwr xa1])) rfl rfl (hb hby d10_1)
  obtain ⟨fs, hr, hrun, hended, hW, hsame⟩ := X197.leave (v := some (.ref G.a1)) (fun h => by rw [Bd.returns] at h; cases h)
  refine ⟨_, _, hTG _ (pre0 _ ?_), hrun, hended, _, _, rfl, ?_, ⟨_, rfl⟩, hW, hsame.mono (by decide) (by decide)⟩
  · refine y_aloadN X0 hx 1 (hb hby d10_0) rfl rfl rfl ?_
    refine st197 _ ?_
    show Sx p e below T197 m 4 #[xvr xa1] [xwr G.a1] _
    exact retOut X197 hx Bd.returns rfl (Or.inr (Or.inr (Or.inr (Or.inr ⟨rfl, rfl, rfl⟩)))) (hb hby d10_4) hr
  · show QrmA16 Z G xa1 h0 n0 _ T197.heap _
    rw [e197]
    exact ⟨rfl, N0, rfl⟩
theorem pd_7 : parseMethodDescriptor "()Ljava/time/Instant;" = some ⟨[], some (.object "java/time/Instant")⟩ := by decide +kernel
theorem d9_21 : decode prog_14_method_3_code 21 = .ok (.getstatic 44, 3) := by decide +kernel
theorem d9_24 : decode prog_14_method_3_code 24 = .ok (.invokevirtual 47, 3) := by decide +kernel
theorem ef_rmA17 (m : MethodId) (x0 : Addr) (x1 : Addr)  : entryFrame m #[(.ref x0), (.ref x1)] 2 = mkF m 0 #[.val (.ref x0), .val (.ref x1)] [] := by first | (simp [entryFrame, mkF, argsToLocals, Value.category]; done) | rfl
theorem d11_0 : decode jdk_2320_method_26_code 0 = .ok (.aload_n 1, 1) := by decide +kernel
theorem d11_1 : decode jdk_2320_method_26_code 1 = .ok (.aload_n 0, 1) := by decide +kernel
theorem d11_2 : decode jdk_2320_method_26_code 2 = .ok (.invokeinterface 279 2, 5) := by decide +kernel
theorem ef_rmA18 (m : MethodId) (x0 : Addr) (x1 : Addr)  : entryFrame m #[(.ref x0), (.ref x1)] 2 = mkF m 0 #[.val (.ref x0), .val (.ref x1)] [] := by first | (simp [entryFrame, mkF, argsToLocals, Value.category]; done) | rfl
theorem d12_0 : decode jdk_2316_method_52_code 0 = .ok (.aload_n 0, 1) := by decide +kernel
theorem d12_1 : decode jdk_2316_method_52_code 1 = .ok (.getfield 221, 3) := by decide +kernel
theorem d12_4 : decode jdk_2316_method_52_code 4 = .ok (.lconst 0, 1) := by decide +kernel
theorem d12_5 : decode jdk_2316_method_52_code 5 = .ok (.lcmp, 1) := by decide +kernel
theorem d12_6 : decode jdk_2316_method_52_code 6 = .ok (.ifCond .eq 17, 3) := by decide +kernel
theorem d12_23 : decode jdk_2316_method_52_code 23 = .ok (.aload_n 0, 1) := by decide +kernel
theorem d12_24 : decode jdk_2316_method_52_code 24 = .ok (.getfield 224, 3) := by decide +kernel
theorem d12_27 : decode jdk_2316_method_52_code 27 = .ok (.ifCond .eq 18, 3) := by decide +kernel
theorem d12_30 : decode jdk_2316_method_52_code 30 = .ok (.aload_n 1, 1) := by decide +kernel
theorem d12_31 : decode jdk_2316_method_52_code 31 = .ok (.aload_n 0, 1) := by decide +kernel
theorem d12_32 : decode jdk_2316_method_52_code 32 = .ok (.getfield 224, 3) := by decide +kernel
theorem d12_35 : decode jdk_2316_method_52_code 35 = .ok (.i2l, 1) := by decide +kernel
theorem d12_36 : decode jdk_2316_method_52_code 36 = .ok (.getstatic 184, 3) := by decide +kernel
theorem d12_39 : decode jdk_2316_method_52_code 39 = .ok (.invokeinterface 390 4, 5) := by decide +kernel
theorem ef_rmA19 (m : MethodId) (x0 : Addr) (x1 : Int64) (x2 : Addr)  : entryFrame m #[(.ref x0), (.long x1), (.ref x2)] 4 = mkF m 0 #[.val (.ref x0), .val (.long x1), .second, .val (.ref x2)] [] := by first | (simp [entryFrame, mkF, argsToLocals, Value.category]; done) | rfl
theorem d13_0 : decode jdk_2320_method_51_code 0 = .ok (.aload_n 0, 1) := by decide +kernel
theorem d13_1 : decode jdk_2320_method_51_code 1 = .ok (.lload_n 1, 1) := by decide +kernel
theorem d13_2 : decode jdk_2320_method_51_code 2 = .ok (.aload_n 3, 1) := by decide +kernel
theorem d13_3 : decode jdk_2320_method_51_code 3 = .ok (.invokevirtual 407, 3) := by decide +kernel
theorem ef_rmA20 (m : MethodId) (x0 : Addr) (x1 : Int64) (x2 : Addr)  : entryFrame m #[(.ref x0), (.long x1), (.ref x2)] 4 = mkF m 0 #[.val (.ref x0), .val (.long x1), .second, .val (.ref x2)] [] := by first | (simp [entryFrame, mkF, argsToLocals, Value.category]; done) | rfl
theorem d14_0 : decode jdk_2320_method_27_code 0 = .ok (.lload_n 1, 1) := by decide +kernel
theorem d14_1 : decode jdk_2320_method_27_code 1 = .ok (.ldc2_w 284, 3) := by decide +kernel
theorem d14_4 : decode jdk_2320_method_27_code 4 = .ok (.lcmp, 1) := by decide +kernel
theorem d14_5 : decode jdk_2320_method_27_code 5 = .ok (.ifCond .ne 19, 3) := by decide +kernel
theorem d14_24 : decode jdk_2320_method_27_code 24 = .ok (.aload_n 0, 1) := by decide +kernel
theorem d14_25 : decode jdk_2320_method_27_code 25 = .ok (.lload_n 1, 1) := by decide +kernel
theorem d14_26 : decode jdk_2320_method_27_code 26 = .ok (.lneg, 1) := by decide +kernel
theorem d14_27 : decode jdk_2320_method_27_code 27 = .ok (.aload_n 3, 1) := by decide +kernel
theorem d14_28 : decode jdk_2320_method_27_code 28 = .ok (.invokevirtual 288, 3) := by decide +kernel
theorem ef_rmA21 (m : MethodId) (x0 : Addr) (x1 : Int64) (x2 : Addr)  : entryFrame m #[(.ref x0), (.long x1), (.ref x2)] 5 = mkF m 0 #[.val (.ref x0), .val (.long x1), .second, .val (.ref x2), .unset] [] := by first | (simp [entryFrame, mkF, argsToLocals, Value.category]; done) | rfl
theorem d15_0 : decode jdk_2320_method_21_code 0 = .ok (.aload_n 3, 1) := by decide +kernel
theorem d15_1 : decode jdk_2320_method_21_code 1 = .ok (.instanceof 160, 3) := by decide +kernel
theorem d15_4 : decode jdk_2320_method_21_code 4 = .ok (.ifCond .eq 193, 3) := by decide +kernel
theorem d15_7 : decode jdk_2320_method_21_code 7 = .ok (.aload_n 3, 1) := by decide +kernel
theorem d15_8 : decode jdk_2320_method_21_code 8 = .ok (.checkcast 160, 3) := by decide +kernel
theorem d15_11 : decode jdk_2320_method_21_code 11 = .ok (.astore 4, 2) := by decide +kernel
theorem d15_13 : decode jdk_2320_method_21_code 13 = .ok (.getstatic 253, 3) := by decide +kernel
theorem d15_16 : decode jdk_2320_method_21_code 16 = .ok (.aload 4, 2) := by decide +kernel
theorem d15_18 : decode jdk_2320_method_21_code 18 = .ok (.invokevirtual 256, 3) := by decide +kernel
theorem ef_rmA22 (m : MethodId) (x0 : Addr)  : entryFrame m #[(.ref x0)] 1 = mkF m 0 #[.val (.ref x0)] [] := by first | (simp [entryFrame, mkF, argsToLocals, Value.category]; done) | rfl
theorem d16_0 : decode jdk_37_method_2_code 0 = .ok (.aload_n 0, 1) := by decide +kernel
theorem d16_1 : decode jdk_37_method_2_code 1 = .ok (.getfield 7, 3) := by decide +kernel
theorem d16_4 : decode jdk_37_method_2_code 4 = .ok (.ireturn, 1) := by decide +kernel
theorem pn_8 : plainName "java/lang/Enum" = true := by first | (simp [plainName, overriddenIn]; done) | decide +kernel
def QrmA22 (Z : State) (G : Gs)  (h0 : Heap) (n0 : Nat) (v : Option Value) (h : Heap) (L : List Loc) : Prop := v = some (.int (0 : Int32)) ∧ Fr n0 L ∧ h = h0
set_option maxRecDepth 65536 in
set_option maxHeartbeats 40000000 in
theorem rmA22 (l : Launch) (Z : State) (a0 : Array Value) (hw : HW a0 Z) (G : Gs) (ST : StartF Z G) (ws : List Jvm.Cond)  (h0 : Heap) (n0 : Nat) (X00 : Old Z n0 h0) :
    MetFree l (⟨"java/lang/Enum", "ordinal", "()I"⟩ : MethodName) (head1 (Jvm.Cond.code (⟨"java/lang/Enum", "ordinal", "()I"⟩ : MethodName) jdk_37_method_2_code 1 (some .int) :: ws) ({ frames := 0, cells := 0, slots := 0, locals := 0 } : Room)) (fun a U => a = #[(.ref G.a4)] ∧ Z.Warmed39 U.vm ∧ U.heap = h0) (fun _ _ _ _ _ => True) (fun _ U o U' => ∃ v L, o = .returned v ∧ QrmA22 Z G  h0 n0 v U'.heap L ∧ FrameEnd U o U' L ({ frames := 0, cells := 0, slots := 0, locals := 0 } : Room).cells ({ frames := 0, cells := 0, slots := 0, locals := 0 } : Room).slots) := by
  refine MetFree.of_bodySF (plainFor_of_name pn_8) hisR ?_
  intro p e s m args below meth c s₁ Bd hml0 hP hK
  obtain ⟨rfl, hZ, hh⟩ := hP
  have hx := Bd.exec
  have hby := Bd.bytes
  have hml : c.maxLocals = 1 := hml0
  have hown : s.vm.findClass "java/lang/Enum" = some m.cls := findClass_of_methodNamed Bd.named
  have hnm := (name_of_methodNamed Bd.named Bd.method).1
  have X0 : Stand p l e ({ frames := 0, cells := 0, slots := 0, locals := 0 } : Room) s m #[(.ref G.a4)] below meth c s₁ [] 0 0 := Stand.of_body Bd
  have e0 : s₁.heap = h0 := by rw [← hh, Bd.state]; rfl
  have N0 := Fr.nil n0
  have Z0 : n0 ≤ h0.size := by have q := X00.2.1; rw [X00.1] at q; exact q
  obtain ⟨TG, hTG, hT2⟩ : ∃ P : State → Prop, (∀ t, P t → Steps p.tables e below (s₁.setTop (entryFrame m #[(.ref G.a4)] 1)) t) ∧ (∀ t, Steps p.tables e below (s₁.setTop (entryFrame m #[(.ref G.a4)] 1)) t → P t) := ⟨_, fun t k => k, fun t k => k⟩
  have pre0 : ∀ t, Sx p e below s₁ m 0 #[xvr G.a4] [] t → TG t := fun t k => hT2 t (castTop (ef_rmA22 m G.a4 ) k)
  obtain ⟨T211, X211, e211, st211⟩ := getF X0 hx hZ hown (host := "") (Or.inl (w_135 hw)) Via.refl e0 (ST.c12.ext X00.2) (g := (mkF m 1 #[xvr G.a4] [xwr G.a4])) rfl rfl (hb hby d16_1)
  obtain ⟨fs, hr, hrun, hended, hW, hsame⟩ := X211.leave (v := some (.int (0 : Int32))) (fun h => by rw [Bd.returns] at h; cases h)
  refine ⟨_, _, hTG _ (pre0 _ ?_), hrun, hended, _, _, rfl, ?_, ⟨_, rfl⟩, hW, hsame.mono (by decide) (by decide)⟩
  · refine y_aloadN X0 hx 1 (hb hby d16_0) rfl rfl rfl ?_
    refine st211 _ ?_
    show Sx p e below T211 m 4 #[xvr G.a4] [xwi (0 : Int32)] _
    exact retOut X211 hx Bd.returns rfl (Or.inl ⟨rfl, Or.inl rfl, _, rfl⟩) (hb hby d16_4) hr
  · show QrmA22 Z G  h0 n0 _ T211.heap _
    rw [e211]
    exact ⟨rfl, N0, rfl⟩
theorem pd_8 : parseMethodDescriptor "()I" = some ⟨[], some .int⟩ := by decide +kernel
theorem d15_21 : decode jdk_2320_method_21_code 21 = .ok (.iaload, 1) := by decide +kernel
theorem d15_22 : decode jdk_2320_method_21_code 22 = .ok (.tableswitch 146 1 8 #[46, 54, 75, 83, 91, 104, 118, 132], 46) := by decide +kernel
theorem d15_68 : decode jdk_2320_method_21_code 68 = .ok (.aload_n 0, 1) := by decide +kernel
theorem d15_69 : decode jdk_2320_method_21_code 69 = .ok (.lload_n 1, 1) := by decide +kernel
theorem d15_70 : decode jdk_2320_method_21_code 70 = .ok (.invokevirtual 244, 3) := by decide +kernel
theorem ef_rmA23 (m : MethodId) (x0 : Addr) (x1 : Int64)  : entryFrame m #[(.ref x0), (.long x1)] 3 = mkF m 0 #[.val (.ref x0), .val (.long x1), .second] [] := by first | (simp [entryFrame, mkF, argsToLocals, Value.category]; done) | rfl
theorem d17_0 : decode jdk_2320_method_24_code 0 = .ok (.aload_n 0, 1) := by decide +kernel
theorem d17_1 : decode jdk_2320_method_24_code 1 = .ok (.lconst 0, 1) := by decide +kernel
theorem d17_2 : decode jdk_2320_method_24_code 2 = .ok (.lload_n 1, 1) := by decide +kernel
theorem d17_3 : decode jdk_2320_method_24_code 3 = .ok (.invokevirtual 261, 3) := by decide +kernel
theorem ef_rmA24 (m : MethodId) (x0 : Addr) (x1 : Int64) (x2 : Int64)  : entryFrame m #[(.ref x0), (.long x1), (.long x2)] 9 = mkF m 0 #[.val (.ref x0), .val (.long x1), .second, .val (.long x2), .second, .unset, .unset, .unset, .unset] [] := by first | (simp [entryFrame, mkF, argsToLocals, Value.category]; done) | rfl
theorem d18_0 : decode jdk_2320_method_25_code 0 = .ok (.lload_n 1, 1) := by decide +kernel
theorem d18_1 : decode jdk_2320_method_25_code 1 = .ok (.lload_n 3, 1) := by decide +kernel
theorem d18_2 : decode jdk_2320_method_25_code 2 = .ok (.lor, 1) := by decide +kernel
theorem d18_3 : decode jdk_2320_method_25_code 3 = .ok (.lconst 0, 1) := by decide +kernel
theorem d18_4 : decode jdk_2320_method_25_code 4 = .ok (.lcmp, 1) := by decide +kernel
theorem d18_5 : decode jdk_2320_method_25_code 5 = .ok (.ifCond .ne 5, 3) := by decide +kernel
theorem d18_10 : decode jdk_2320_method_25_code 10 = .ok (.aload_n 0, 1) := by decide +kernel
theorem d18_11 : decode jdk_2320_method_25_code 11 = .ok (.getfield 140, 3) := by decide +kernel
theorem d18_14 : decode jdk_2320_method_25_code 14 = .ok (.lload_n 1, 1) := by decide +kernel
theorem d18_15 : decode jdk_2320_method_25_code 15 = .ok (.invokestatic 34, 3) := by decide +kernel
theorem ef_rmA25 (m : MethodId) (x0 : Int64) (x1 : Int64)  : entryFrame m #[(.long x0), (.long x1)] 6 = mkF m 0 #[.val (.long x0), .second, .val (.long x1), .second, .unset, .unset] [] := by first | (simp [entryFrame, mkF, argsToLocals, Value.category]; done) | rfl
def QrmA25 (Z : State) (G : Gs)  (h0 : Heap) (n0 : Nat) (v : Option Value) (h : Heap) (L : List Loc) : Prop := v = some (.long (31556889864403199 : Int64)) ∧ Fr n0 L ∧ h = h0
set_option maxRecDepth 65536 in
set_option maxHeartbeats 40000000 in
theorem rmA25 (l : Launch) (Z : State) (a0 : Array Value) (hw : HW a0 Z) (G : Gs) (ST : StartF Z G) (ws : List Jvm.Cond)  (h0 : Heap) (n0 : Nat) (X00 : Old Z n0 h0) :
    MetFree l (⟨"java/lang/Math", "addExact", "(JJ)J"⟩ : MethodName) (head1 (Jvm.Cond.code (⟨"java/lang/Math", "addExact", "(JJ)J"⟩ : MethodName) jdk_29_method_25_code 6 (some .long) :: ws) ({ frames := 0, cells := 0, slots := 0, locals := 0 } : Room)) (fun a U => a = #[(.long (31556889864403199 : Int64)), (.long (0 : Int64))] ∧ Z.Warmed39 U.vm ∧ U.heap = h0) (fun _ _ _ _ _ => True) (fun _ U o U' => ∃ v L, o = .returned v ∧ QrmA25 Z G  h0 n0 v U'.heap L ∧ FrameEnd U o U' L ({ frames := 0, cells := 0, slots := 0, locals := 0 } : Room).cells ({ frames := 0, cells := 0, slots := 0, locals := 0 } : Room).slots) := by
  refine MetFree.of_bodySF (Jvm.Free.JP.mathPlain rfl (by decide +kernel)) hisR ?_
  intro p e s m args below meth c s₁ Bd hml0 hP hK
  obtain ⟨rfl, hZ, hh⟩ := hP
  have hx := Bd.exec
  have hby := Bd.bytes
  have hml : c.maxLocals = 6 := hml0
  have hown : s.vm.findClass "java/lang/Math" = some m.cls := findClass_of_methodNamed Bd.named
  have hnm := (name_of_methodNamed Bd.named Bd.method).1
  have X0 : Stand p l e ({ frames := 0, cells := 0, slots := 0, locals := 0 } : Room) s m #[(.long (31556889864403199 : Int64)), (.long (0 : Int64))] below meth c s₁ [] 0 0 := Stand.of_body Bd
  have e0 : s₁.heap = h0 := by rw [← hh, Bd.state]; rfl
  have N0 := Fr.nil n0
  have Z0 : n0 ≤ h0.size := by have q := X00.2.1; rw [X00.1] at q; exact q
  obtain ⟨TG, hTG, hT2⟩ : ∃ P : State → Prop, (∀ t, P t → Steps p.tables e below (s₁.setTop (entryFrame m #[(.long (31556889864403199 : Int64)), (.long (0 : Int64))] 6)) t) ∧ (∀ t, Steps p.tables e below (s₁.setTop (entryFrame m #[(.long (31556889864403199 : Int64)), (.long (0 : Int64))] 6)) t → P t) := ⟨_, fun t k => k, fun t k => k⟩
  have pre0 : ∀ t, Sx p e below s₁ m 0 #[xvj (31556889864403199 : Int64), xse, xvj (0 : Int64), xse, xun, xun] [] t → TG t := fun t k => hT2 t (castTop (ef_rmA25 m (31556889864403199 : Int64) (0 : Int64) ) k)
  obtain ⟨fs, hr, hrun, hended, hW, hsame⟩ := X0.leave (v := some (.long (31556889864403199 : Int64))) (fun h => by rw [Bd.returns] at h; cases h)
  refine ⟨_, _, hTG _ (pre0 _ ?_), hrun, hended, _, _, rfl, ?_, ⟨_, rfl⟩, hW, hsame.mono (by decide) (by decide)⟩
  · refine y_lloadN X0 hx 1 (hb hby d19_0) rfl rfl ?_
    refine y_lloadN X0 hx 2 (hb hby d19_1) rfl rfl ?_
    refine y_ladd X0 hx 3 (hb hby d19_2) rfl ?_
    rw [show ((31556889864403199 : Int64) + (0 : Int64)) = (31556889864403199 : Int64) from by decide]
    refine XS.lstore X0.here hx rfl (hb hby d19_3) rfl (l' := #[xvj (31556889864403199 : Int64), xse, xvj (0 : Int64), xse, xvj (31556889864403199 : Int64), xse]) rfl ?_
    show Sx p e below s₁ m 5 #[xvj (31556889864403199 : Int64), xse, xvj (0 : Int64), xse, xvj (31556889864403199 : Int64), xse] [] _
    refine y_lloadN X0 hx 6 (hb hby d19_5) rfl rfl ?_
    refine y_lload X0 hx 8 (hb hby d19_6) rfl rfl ?_
    refine y_lxor X0 hx 9 (hb hby d19_8) rfl ?_
    rw [show ((31556889864403199 : Int64) ^^^ (31556889864403199 : Int64)) = (0 : Int64) from by decide]
    refine y_lloadN X0 hx 10 (hb hby d19_9) rfl rfl ?_
    refine y_lload X0 hx 12 (hb hby d19_10) rfl rfl ?_
    refine y_lxor X0 hx 13 (hb hby d19_12) rfl ?_
    rw [show ((0 : Int64) ^^^ (31556889864403199 : Int64)) = (31556889864403199 : Int64) from by decide]
    refine y_land X0 hx 14 (hb hby d19_13) rfl ?_
    rw [show ((0 : Int64) &&& (31556889864403199 : Int64)) = (0 : Int64) from by decide]
    refine XS.lconst X0.here hx rfl (hb hby d19_14) ?_
    show Sx p e below s₁ m 15 #[xvj (31556889864403199 : Int64), xse, xvj (0 : Int64), xse, xvj (31556889864403199 : Int64), xse] [xwj (0 : Int64), xwj (0 : Int64)] _
    refine XT.lcmp X0.here hx rfl (hb hby d19_15) rfl ?_
    show Sx p e below s₁ m 16 #[xvj (31556889864403199 : Int64), xse, xvj (0 : Int64), xse, xvj (31556889864403199 : Int64), xse] [(.int (XT.cmpL (0 : Int64) (0 : Int64)))] _
    refine y_ifYes X0 hx 29 (hb hby d19_16) (XT.ll_ge_t (by decide)) (by decide) (by decide) ?_
    refine y_lload X0 hx 31 (hb hby d19_29) rfl rfl ?_
    show Sx p e below s₁ m 31 #[xvj (31556889864403199 : Int64), xse, xvj (0 : Int64), xse, xvj (31556889864403199 : Int64), xse] [xwj (31556889864403199 : Int64)] _
    exact retOut X0 hx Bd.returns rfl (Or.inr (Or.inl ⟨rfl, rfl, _, rfl⟩)) (hb hby d19_31) hr
  · show QrmA25 Z G  h0 n0 _ s₁.heap _
    rw [e0]
    exact ⟨rfl, N0, rfl⟩
theorem d18_18 : decode jdk_2320_method_25_code 18 = .ok (.lstore 5, 2) := by decide +kernel
theorem d18_20 : decode jdk_2320_method_25_code 20 = .ok (.lload 5, 2) := by decide +kernel
theorem d18_22 : decode jdk_2320_method_25_code 22 = .ok (.lload_n 3, 1) := by decide +kernel
theorem d18_23 : decode jdk_2320_method_25_code 23 = .ok (.ldc2_w 26, 3) := by decide +kernel
theorem d18_26 : decode jdk_2320_method_25_code 26 = .ok (.ldiv, 1) := by decide +kernel
theorem d18_27 : decode jdk_2320_method_25_code 27 = .ok (.invokestatic 34, 3) := by decide +kernel
theorem d18_30 : decode jdk_2320_method_25_code 30 = .ok (.lstore 5, 2) := by decide +kernel
theorem d18_32 : decode jdk_2320_method_25_code 32 = .ok (.lload_n 3, 1) := by decide +kernel
theorem d18_33 : decode jdk_2320_method_25_code 33 = .ok (.ldc2_w 26, 3) := by decide +kernel
theorem d18_36 : decode jdk_2320_method_25_code 36 = .ok (.lrem, 1) := by decide +kernel
theorem d18_37 : decode jdk_2320_method_25_code 37 = .ok (.lstore_n 3, 1) := by decide +kernel
theorem d18_38 : decode jdk_2320_method_25_code 38 = .ok (.aload_n 0, 1) := by decide +kernel
theorem d18_39 : decode jdk_2320_method_25_code 39 = .ok (.getfield 144, 3) := by decide +kernel
theorem d18_42 : decode jdk_2320_method_25_code 42 = .ok (.i2l, 1) := by decide +kernel
theorem d18_43 : decode jdk_2320_method_25_code 43 = .ok (.lload_n 3, 1) := by decide +kernel
theorem d18_44 : decode jdk_2320_method_25_code 44 = .ok (.ladd, 1) := by decide +kernel
theorem d18_45 : decode jdk_2320_method_25_code 45 = .ok (.lstore 7, 2) := by decide +kernel
theorem d18_47 : decode jdk_2320_method_25_code 47 = .ok (.lload 5, 2) := by decide +kernel
theorem d18_49 : decode jdk_2320_method_25_code 49 = .ok (.lload 7, 2) := by decide +kernel
theorem d18_51 : decode jdk_2320_method_25_code 51 = .ok (.invokestatic 68, 3) := by decide +kernel
theorem ef_rmA26 (m : MethodId) (x0 : Int64) (x1 : Int64)  : entryFrame m #[(.long x0), (.long x1)] 7 = mkF m 0 #[.val (.long x0), .second, .val (.long x1), .second, .unset, .unset, .unset] [] := by first | (simp [entryFrame, mkF, argsToLocals, Value.category]; done) | rfl
theorem d20_0 : decode jdk_2320_method_4_code 0 = .ok (.lload_n 0, 1) := by decide +kernel
theorem d20_1 : decode jdk_2320_method_4_code 1 = .ok (.lload_n 2, 1) := by decide +kernel
theorem d20_2 : decode jdk_2320_method_4_code 2 = .ok (.ldc2_w 26, 3) := by decide +kernel
theorem d20_5 : decode jdk_2320_method_4_code 5 = .ok (.invokestatic 28, 3) := by decide +kernel
theorem ef_rmA27 (m : MethodId) (x0 : Int64) (x1 : Int64)  : entryFrame m #[(.long x0), (.long x1)] 6 = mkF m 0 #[.val (.long x0), .second, .val (.long x1), .second, .unset, .unset] [] := by first | (simp [entryFrame, mkF, argsToLocals, Value.category]; done) | rfl
theorem d21_0 : decode jdk_29_method_49_code 0 = .ok (.lload_n 0, 1) := by decide +kernel
theorem d21_1 : decode jdk_29_method_49_code 1 = .ok (.lload_n 2, 1) := by decide +kernel
theorem d21_2 : decode jdk_29_method_49_code 2 = .ok (.ldiv, 1) := by decide +kernel
theorem d21_3 : decode jdk_29_method_49_code 3 = .ok (.lstore 4, 2) := by decide +kernel
theorem d21_5 : decode jdk_29_method_49_code 5 = .ok (.lload_n 0, 1) := by decide +kernel
theorem d21_6 : decode jdk_29_method_49_code 6 = .ok (.lload_n 2, 1) := by decide +kernel
theorem d21_7 : decode jdk_29_method_49_code 7 = .ok (.lxor, 1) := by decide +kernel
theorem d21_8 : decode jdk_29_method_49_code 8 = .ok (.lconst 0, 1) := by decide +kernel
theorem d21_9 : decode jdk_29_method_49_code 9 = .ok (.lcmp, 1) := by decide +kernel
theorem d21_10 : decode jdk_29_method_49_code 10 = .ok (.ifCond .ge 17, 3) := by decide +kernel
theorem d21_27 : decode jdk_29_method_49_code 27 = .ok (.lload 4, 2) := by decide +kernel
theorem d21_29 : decode jdk_29_method_49_code 29 = .ok (.lreturn, 1) := by decide +kernel
def QrmA27 (Z : State) (G : Gs)  (h0 : Heap) (n0 : Nat) (v : Option Value) (h : Heap) (L : List Loc) : Prop := v = some (.long (0 : Int64)) ∧ Fr n0 L ∧ h = h0
set_option maxRecDepth 65536 in
set_option maxHeartbeats 40000000 in
theorem rmA27 (l : Launch) (Z : State) (a0 : Array Value) (hw : HW a0 Z) (G : Gs) (ST : StartF Z G) (ws : List Jvm.Cond)  (h0 : Heap) (n0 : Nat) (X00 : Old Z n0 h0) :
    MetFree l (⟨"java/lang/Math", "floorDiv", "(JJ)J"⟩ : MethodName) (head1 (Jvm.Cond.code (⟨"java/lang/Math", "floorDiv", "(JJ)J"⟩ : MethodName) jdk_29_method_49_code 6 (some .long) :: ws) ({ frames := 0, cells := 0, slots := 0, locals := 0 } : Room)) (fun a U => a = #[(.long (899999999 : Int64)), (.long (1000000000 : Int64))] ∧ Z.Warmed39 U.vm ∧ U.heap = h0) (fun _ _ _ _ _ => True) (fun _ U o U' => ∃ v L, o = .returned v ∧ QrmA27 Z G  h0 n0 v U'.heap L ∧ FrameEnd U o U' L ({ frames := 0, cells := 0, slots := 0, locals := 0 } : Room).cells ({ frames := 0, cells := 0, slots := 0, locals := 0 } : Room).slots) := by
  refine MetFree.of_bodySF (Jvm.Free.JP.mathPlain rfl (by decide +kernel)) hisR ?_
  intro p e s m args below meth c s₁ Bd hml0 hP hK
  obtain ⟨rfl, hZ, hh⟩ := hP
  have hx := Bd.exec
  have hby := Bd.bytes
  have hml : c.maxLocals = 6 := hml0
  have hown : s.vm.findClass "java/lang/Math" = some m.cls := findClass_of_methodNamed Bd.named
  have hnm := (name_of_methodNamed Bd.named Bd.method).1
  have X0 : Stand p l e ({ frames := 0, cells := 0, slots := 0, locals := 0 } : Room) s m #[(.long (899999999 : Int64)), (.long (1000000000 : Int64))] below meth c s₁ [] 0 0 := Stand.of_body Bd
  have e0 : s₁.heap = h0 := by rw [← hh, Bd.state]; rfl
  have N0 := Fr.nil n0
  have Z0 : n0 ≤ h0.size := by have q := X00.2.1; rw [X00.1] at q; exact q
  obtain ⟨TG, hTG, hT2⟩ : ∃ P : State → Prop, (∀ t, P t → Steps p.tables e below (s₁.setTop (entryFrame m #[(.long (899999999 : Int64)), (.long (1000000000 : Int64))] 6)) t) ∧ (∀ t, Steps p.tables e below (s₁.setTop (entryFrame m #[(.long (899999999 : Int64)), (.long (1000000000 : Int64))] 6)) t → P t) := ⟨_, fun t k => k, fun t k => k⟩
  have pre0 : ∀ t, Sx p e below s₁ m 0 #[xvj (899999999 : Int64), xse, xvj (1000000000 : Int64), xse, xun, xun] [] t → TG t := fun t k => hT2 t (castTop (ef_rmA27 m (899999999 : Int64) (1000000000 : Int64) ) k)
  obtain ⟨fs, hr, hrun, hended, hW, hsame⟩ := X0.leave (v := some (.long (0 : Int64))) (fun h => by rw [Bd.returns] at h; cases h)
  refine ⟨_, _, hTG _ (pre0 _ ?_), hrun, hended, _, _, rfl, ?_, ⟨_, rfl⟩, hW, hsame.mono (by decide) (by decide)⟩
  · refine y_lloadN X0 hx 1 (hb hby d21_0) rfl rfl ?_
    refine y_lloadN X0 hx 2 (hb hby d21_1) rfl rfl ?_
    refine XT.ldiv X0.here hx rfl (hb hby d21_2) rfl (by decide) ?_
    rw [show ((899999999 : Int64) / (1000000000 : Int64)) = (0 : Int64) from by decide]
    show Sx p e below s₁ m 3 #[xvj (899999999 : Int64), xse, xvj (1000000000 : Int64), xse, xun, xun] [xwj (0 : Int64)] _
    refine XS.lstore X0.here hx rfl (hb hby d21_3) rfl (l' := #[xvj (899999999 : Int64), xse, xvj (1000000000 : Int64), xse, xvj (0 : Int64), xse]) rfl ?_
    show Sx p e below s₁ m 5 #[xvj (899999999 : Int64), xse, xvj (1000000000 : Int64), xse, xvj (0 : Int64), xse] [] _
    refine y_lloadN X0 hx 6 (hb hby d21_5) rfl rfl ?_
    refine y_lloadN X0 hx 7 (hb hby d21_6) rfl rfl ?_
    refine y_lxor X0 hx 8 (hb hby d21_7) rfl ?_
    rw [show ((899999999 : Int64) ^^^ (1000000000 : Int64)) = (238953215 : Int64) from by decide]
    refine XS.lconst X0.here hx rfl (hb hby d21_8) ?_
    show Sx p e below s₁ m 9 #[xvj (899999999 : Int64), xse, xvj (1000000000 : Int64), xse, xvj (0 : Int64), xse] [xwj (0 : Int64), xwj (238953215 : Int64)] _
    refine XT.lcmp X0.here hx rfl (hb hby d21_9) rfl ?_
    show Sx p e below s₁ m 10 #[xvj (899999999 : Int64), xse, xvj (1000000000 : Int64), xse, xvj (0 : Int64), xse] [(.int (XT.cmpL (238953215 : Int64) (0 : Int64)))] _
    refine y_ifYes X0 hx 27 (hb hby d21_10) (XT.ll_ge_t (by decide)) (by decide) (by decide) ?_
    refine y_lload X0 hx 29 (hb hby d21_27) rfl rfl ?_
    show Sx p e below s₁ m 29 #[xvj (899999999 : Int64), xse, xvj (1000000000 : Int64), xse, xvj (0 : Int64), xse] [xwj (0 : Int64)] _
    exact retOut X0 hx Bd.returns rfl (Or.inr (Or.inl ⟨rfl, rfl, _, rfl⟩)) (hb hby d21_29) hr
  · show QrmA27 Z G  h0 n0 _ s₁.heap _
    rw [e0]
    exact ⟨rfl, N0, rfl⟩
theorem d20_8 : decode jdk_2320_method_4_code 8 = .ok (.invokestatic 34, 3) := by decide +kernel
theorem d20_11 : decode jdk_2320_method_4_code 11 = .ok (.lstore 4, 2) := by decide +kernel
theorem d20_13 : decode jdk_2320_method_4_code 13 = .ok (.lload_n 2, 1) := by decide +kernel
theorem d20_14 : decode jdk_2320_method_4_code 14 = .ok (.ldc2_w 26, 3) := by decide +kernel
theorem d20_17 : decode jdk_2320_method_4_code 17 = .ok (.invokestatic 37, 3) := by decide +kernel
theorem ef_rmA28 (m : MethodId) (x0 : Int64) (x1 : Int64)  : entryFrame m #[(.long x0), (.long x1)] 6 = mkF m 0 #[.val (.long x0), .second, .val (.long x1), .second, .unset, .unset] [] := by first | (simp [entryFrame, mkF, argsToLocals, Value.category]; done) | rfl
theorem d22_0 : decode jdk_29_method_52_code 0 = .ok (.lload_n 0, 1) := by decide +kernel
theorem d22_1 : decode jdk_29_method_52_code 1 = .ok (.lload_n 2, 1) := by decide +kernel
theorem d22_2 : decode jdk_29_method_52_code 2 = .ok (.lrem, 1) := by decide +kernel
theorem d22_3 : decode jdk_29_method_52_code 3 = .ok (.lstore 4, 2) := by decide +kernel
theorem d22_5 : decode jdk_29_method_52_code 5 = .ok (.lload_n 0, 1) := by decide +kernel
theorem d22_6 : decode jdk_29_method_52_code 6 = .ok (.lload_n 2, 1) := by decide +kernel
theorem d22_7 : decode jdk_29_method_52_code 7 = .ok (.lxor, 1) := by decide +kernel
theorem d22_8 : decode jdk_29_method_52_code 8 = .ok (.lconst 0, 1) := by decide +kernel
theorem d22_9 : decode jdk_29_method_52_code 9 = .ok (.lcmp, 1) := by decide +kernel
theorem d22_10 : decode jdk_29_method_52_code 10 = .ok (.ifCond .ge 15, 3) := by decide +kernel
theorem d22_25 : decode jdk_29_method_52_code 25 = .ok (.lload 4, 2) := by decide +kernel
theorem d22_27 : decode jdk_29_method_52_code 27 = .ok (.lreturn, 1) := by decide +kernel
def QrmA28 (Z : State) (G : Gs)  (h0 : Heap) (n0 : Nat) (v : Option Value) (h : Heap) (L : List Loc) : Prop := v = some (.long (899999999 : Int64)) ∧ Fr n0 L ∧ h = h0
set_option maxRecDepth 65536 in
set_option maxHeartbeats 40000000 in
theorem rmA28 (l : Launch) (Z : State) (a0 : Array Value) (hw : HW a0 Z) (G : Gs) (ST : StartF Z G) (ws : List Jvm.Cond)  (h0 : Heap) (n0 : Nat) (X00 : Old Z n0 h0) :
    MetFree l (⟨"java/lang/Math", "floorMod", "(JJ)J"⟩ : MethodName) (head1 (Jvm.Cond.code (⟨"java/lang/Math", "floorMod", "(JJ)J"⟩ : MethodName) jdk_29_method_52_code 6 (some .long) :: ws) ({ frames := 0, cells := 0, slots := 0, locals := 0 } : Room)) (fun a U => a = #[(.long (899999999 : Int64)), (.long (1000000000 : Int64))] ∧ Z.Warmed39 U.vm ∧ U.heap = h0) (fun _ _ _ _ _ => True) (fun _ U o U' => ∃ v L, o = .returned v ∧ QrmA28 Z G  h0 n0 v U'.heap L ∧ FrameEnd U o U' L ({ frames := 0, cells := 0, slots := 0, locals := 0 } : Room).cells ({ frames := 0, cells := 0, slots := 0, locals := 0 } : Room).slots) := by
  refine MetFree.of_bodySF (Jvm.Free.JP.mathPlain rfl (by decide +kernel)) hisR ?_
  intro p e s m args below meth c s₁ Bd hml0 hP hK
  obtain ⟨rfl, hZ, hh⟩ := hP
  have hx := Bd.exec
  have hby := Bd.bytes
  have hml : c.maxLocals = 6 := hml0
  have hown : s.vm.findClass "java/lang/Math" = some m.cls := findClass_of_methodNamed Bd.named
  have hnm := (name_of_methodNamed Bd.named Bd.method).1
  have X0 : Stand p l e ({ frames := 0, cells := 0, slots := 0, locals := 0 } : Room) s m #[(.long (899999999 : Int64)), (.long (1000000000 : Int64))] below meth c s₁ [] 0 0 := Stand.of_body Bd
  have e0 : s₁.heap = h0 := by rw [← hh, Bd.state]; rfl
  have N0 := Fr.nil n0
  have Z0 : n0 ≤ h0.size := by have q := X00.2.1; rw [X00.1] at q; exact q
  obtain ⟨TG, hTG, hT2⟩ : ∃ P : State → Prop, (∀ t, P t → Steps p.tables e below (s₁.setTop (entryFrame m #[(.long (899999999 : Int64)), (.long (1000000000 : Int64))] 6)) t) ∧ (∀ t, Steps p.tables e below (s₁.setTop (entryFrame m #[(.long (899999999 : Int64)), (.long (1000000000 : Int64))] 6)) t → P t) := ⟨_, fun t k => k, fun t k => k⟩
  have pre0 : ∀ t, Sx p e below s₁ m 0 #[xvj (899999999 : Int64), xse, xvj (1000000000 : Int64), xse, xun, xun] [] t → TG t := fun t k => hT2 t (castTop (ef_rmA28 m (899999999 : Int64) (1000000000 : Int64) ) k)
  obtain ⟨fs, hr, hrun, hended, hW, hsame⟩ := X0.leave (v := some (.long (899999999 : Int64))) (fun h => by rw [Bd.returns] at h; cases h)
  refine ⟨_, _, hTG _ (pre0 _ ?_), hrun, hended, _, _, rfl, ?_, ⟨_, rfl⟩, hW, hsame.mono (by decide) (by decide)⟩
  · refine y_lloadN X0 hx 1 (hb hby d22_0) rfl rfl ?_
    refine y_lloadN X0 hx 2 (hb hby d22_1) rfl rfl ?_
    refine XT.lrem X0.here hx rfl (hb hby d22_2) rfl (by decide) ?_
    rw [lrem_mod]
    rw [show ((899999999 : Int64) % (1000000000 : Int64)) = (899999999 : Int64) from by decide]
    show Sx p e below s₁ m 3 #[xvj (899999999 : Int64), xse, xvj (1000000000 : Int64), xse, xun, xun] [xwj (899999999 : Int64)] _
    refine XS.lstore X0.here hx rfl (hb hby d22_3) rfl (l' := #[xvj (899999999 : Int64), xse, xvj (1000000000 : Int64), xse, xvj (899999999 : Int64), xse]) rfl ?_
    show Sx p e below s₁ m 5 #[xvj (899999999 : Int64), xse, xvj (1000000000 : Int64), xse, xvj (899999999 : Int64), xse] [] _
    refine y_lloadN X0 hx 6 (hb hby d22_5) rfl rfl ?_
    refine y_lloadN X0 hx 7 (hb hby d22_6) rfl rfl ?_
    refine y_lxor X0 hx 8 (hb hby d22_7) rfl ?_
    rw [show ((899999999 : Int64) ^^^ (1000000000 : Int64)) = (238953215 : Int64) from by decide]
    refine XS.lconst X0.here hx rfl (hb hby d22_8) ?_
    show Sx p e below s₁ m 9 #[xvj (899999999 : Int64), xse, xvj (1000000000 : Int64), xse, xvj (899999999 : Int64), xse] [xwj (0 : Int64), xwj (238953215 : Int64)] _
    refine XT.lcmp X0.here hx rfl (hb hby d22_9) rfl ?_
    show Sx p e below s₁ m 10 #[xvj (899999999 : Int64), xse, xvj (1000000000 : Int64), xse, xvj (899999999 : Int64), xse] [(.int (XT.cmpL (238953215 : Int64) (0 : Int64)))] _
    refine y_ifYes X0 hx 25 (hb hby d22_10) (XT.ll_ge_t (by decide)) (by decide) (by decide) ?_
    refine y_lload X0 hx 27 (hb hby d22_25) rfl rfl ?_
    show Sx p e below s₁ m 27 #[xvj (899999999 : Int64), xse, xvj (1000000000 : Int64), xse, xvj (899999999 : Int64), xse] [xwj (899999999 : Int64)] _
    exact retOut X0 hx Bd.returns rfl (Or.inr (Or.inl ⟨rfl, rfl, _, rfl⟩)) (hb hby d22_27) hr
  · show QrmA28 Z G  h0 n0 _ s₁.heap _
    rw [e0]
    exact ⟨rfl, N0, rfl⟩
theorem d20_20 : decode jdk_2320_method_4_code 20 = .ok (.l2i, 1) := by decide +kernel
theorem d20_21 : decode jdk_2320_method_4_code 21 = .ok (.istore 6, 2) := by decide +kernel
theorem d20_23 : decode jdk_2320_method_4_code 23 = .ok (.lload 4, 2) := by decide +kernel
theorem d20_25 : decode jdk_2320_method_4_code 25 = .ok (.iload 6, 2) := by decide +kernel
theorem d20_27 : decode jdk_2320_method_4_code 27 = .ok (.invokestatic 20, 3) := by decide +kernel
theorem ef_rmA29 (m : MethodId) (x0 : Int64) (x1 : Int32)  : entryFrame m #[(.long x0), (.int x1)] 3 = mkF m 0 #[.val (.long x0), .second, .val (.int x1)] [] := by first | (simp [entryFrame, mkF, argsToLocals, Value.category]; done) | rfl
theorem d23_0 : decode jdk_2320_method_8_code 0 = .ok (.lload_n 0, 1) := by decide +kernel
theorem d23_1 : decode jdk_2320_method_8_code 1 = .ok (.iload_n 2, 1) := by decide +kernel
theorem d23_2 : decode jdk_2320_method_8_code 2 = .ok (.i2l, 1) := by decide +kernel
theorem d23_3 : decode jdk_2320_method_8_code 3 = .ok (.lor, 1) := by decide +kernel
theorem d23_4 : decode jdk_2320_method_8_code 4 = .ok (.lconst 0, 1) := by decide +kernel
theorem d23_5 : decode jdk_2320_method_8_code 5 = .ok (.lcmp, 1) := by decide +kernel
theorem d23_6 : decode jdk_2320_method_8_code 6 = .ok (.ifCond .ne 7, 3) := by decide +kernel
theorem d23_13 : decode jdk_2320_method_8_code 13 = .ok (.lload_n 0, 1) := by decide +kernel
theorem d23_14 : decode jdk_2320_method_8_code 14 = .ok (.ldc2_w 125, 3) := by decide +kernel
theorem d23_17 : decode jdk_2320_method_8_code 17 = .ok (.lcmp, 1) := by decide +kernel
theorem d23_18 : decode jdk_2320_method_8_code 18 = .ok (.ifCond .lt 11, 3) := by decide +kernel
theorem d23_21 : decode jdk_2320_method_8_code 21 = .ok (.lload_n 0, 1) := by decide +kernel
theorem d23_22 : decode jdk_2320_method_8_code 22 = .ok (.ldc2_w 127, 3) := by decide +kernel
theorem d23_25 : decode jdk_2320_method_8_code 25 = .ok (.lcmp, 1) := by decide +kernel
theorem d23_26 : decode jdk_2320_method_8_code 26 = .ok (.ifCond .le 13, 3) := by decide +kernel
theorem d23_39 : decode jdk_2320_method_8_code 39 = .ok (.new 21, 3) := by decide +kernel
theorem d23_42 : decode jdk_2320_method_8_code 42 = .ok (.dup, 1) := by decide +kernel
theorem d23_43 : decode jdk_2320_method_8_code 43 = .ok (.lload_n 0, 1) := by decide +kernel
theorem d23_44 : decode jdk_2320_method_8_code 44 = .ok (.iload_n 2, 1) := by decide +kernel
theorem d23_45 : decode jdk_2320_method_8_code 45 = .ok (.invokespecial 134, 3) := by decide +kernel
theorem ef_rmA30 (m : MethodId) (x0 : Addr) (x1 : Int64) (x2 : Int32)  : entryFrame m #[(.ref x0), (.long x1), (.int x2)] 4 = mkF m 0 #[.val (.ref x0), .val (.long x1), .second, .val (.int x2)] [] := by first | (simp [entryFrame, mkF, argsToLocals, Value.category]; done) | rfl
theorem d24_0 : decode jdk_2320_method_9_code 0 = .ok (.aload_n 0, 1) := by decide +kernel
theorem d24_1 : decode jdk_2320_method_9_code 1 = .ok (.invokespecial 137, 3) := by decide +kernel
theorem d24_4 : decode jdk_2320_method_9_code 4 = .ok (.aload_n 0, 1) := by decide +kernel
theorem d24_5 : decode jdk_2320_method_9_code 5 = .ok (.lload_n 1, 1) := by decide +kernel
theorem d24_6 : decode jdk_2320_method_9_code 6 = .ok (.putfield 140, 3) := by decide +kernel
theorem d24_9 : decode jdk_2320_method_9_code 9 = .ok (.aload_n 0, 1) := by decide +kernel
theorem d24_10 : decode jdk_2320_method_9_code 10 = .ok (.iload_n 3, 1) := by decide +kernel
theorem d24_11 : decode jdk_2320_method_9_code 11 = .ok (.putfield 144, 3) := by decide +kernel
theorem d24_14 : decode jdk_2320_method_9_code 14 = .ok (.return_, 1) := by decide +kernel
theorem pn_9 : plainName "java/time/Instant" = true := by first | (simp [plainName, overriddenIn]; done) | decide +kernel
def QrmA30 (Z : State) (G : Gs) (xa1 : Addr) (h0 : Heap) (n0 : Nat) (v : Option Value) (h : Heap) (L : List Loc) : Prop := v = none ∧ Fr n0 L ∧ Keep h0 h [xa1] ∧ Exa Z h xa1 "java/time/Instant" ∧ Fld Z h xa1 "java/time/Instant" "nanos" "I" (.int (899999999 : Int32)) ∧ Fld Z h xa1 "java/time/Instant" "seconds" "J" (.long (31556889864403199 : Int64))
set_option maxRecDepth 65536 in
set_option maxHeartbeats 40000000 in
theorem rmA30 (l : Launch) (Z : State) (a0 : Array Value) (hw : HW a0 Z) (G : Gs) (ST : StartF Z G) (ws : List Jvm.Cond) (xa1 : Addr) (h0 : Heap) (n0 : Nat) (X00 : Old Z n0 h0) (xE_xa1 : Exa Z h0 xa1 "java/time/Instant") (xF_xa1_nanos : Fld Z h0 xa1 "java/time/Instant" "nanos" "I" (.int (0 : Int32))) (xF_xa1_seconds : Fld Z h0 xa1 "java/time/Instant" "seconds" "J" (.long (0 : Int64))) (xg_xa1 : n0 ≤ xa1) :
    MetFree l (⟨"java/time/Instant", "<init>", "(JI)V"⟩ : MethodName) (head1 (Jvm.Cond.code (⟨"java/time/Instant", "<init>", "(JI)V"⟩ : MethodName) jdk_2320_method_9_code 4 none :: ws) ({ frames := 1, cells := 0, slots := 0, locals := 12 } : Room)) (fun a U => a = #[(.ref xa1), (.long (31556889864403199 : Int64)), (.int (899999999 : Int32))] ∧ Z.Warmed39 U.vm ∧ U.heap = h0) (fun _ _ _ _ _ => True) (fun _ U o U' => ∃ v L, o = .returned v ∧ QrmA30 Z G xa1 h0 n0 v U'.heap L ∧ FrameEnd U o U' L ({ frames := 1, cells := 0, slots := 0, locals := 12 } : Room).cells ({ frames := 1, cells := 0, slots := 0, locals := 12 } : Room).slots) := by
  refine MetFree.of_bodySF (plainFor_of_name pn_9) hisR ?_
  intro p e s m args below meth c s₁ Bd hml0 hP hK
  obtain ⟨rfl, hZ, hh⟩ := hP
  have hx := Bd.exec
  have hby := Bd.bytes
  have hml : c.maxLocals = 4 := hml0
  have hown : s.vm.findClass "java/time/Instant" = some m.cls := findClass_of_methodNamed Bd.named
  have hnm := (name_of_methodNamed Bd.named Bd.method).1
  have X0 : Stand p l e ({ frames := 1, cells := 0, slots := 0, locals := 12 } : Room) s m #[(.ref xa1), (.long (31556889864403199 : Int64)), (.int (899999999 : Int32))] below meth c s₁ [] 0 0 := Stand.of_body Bd
  have e0 : s₁.heap = h0 := by rw [← hh, Bd.state]; rfl
  have N0 := Fr.nil n0
  have Z0 : n0 ≤ h0.size := by have q := X00.2.1; rw [X00.1] at q; exact q
  obtain ⟨TG, hTG, hT2⟩ : ∃ P : State → Prop, (∀ t, P t → Steps p.tables e below (s₁.setTop (entryFrame m #[(.ref xa1), (.long (31556889864403199 : Int64)), (.int (899999999 : Int32))] 4)) t) ∧ (∀ t, Steps p.tables e below (s₁.setTop (entryFrame m #[(.ref xa1), (.long (31556889864403199 : Int64)), (.int (899999999 : Int32))] 4)) t → P t) := ⟨_, fun t k => k, fun t k => k⟩
  have pre0 : ∀ t, Sx p e below s₁ m 0 #[xvr xa1, xvj (31556889864403199 : Int64), xse, xvi (899999999 : Int32)] [] t → TG t := fun t k => hT2 t (castTop (ef_rmA30 m xa1 (31556889864403199 : Int64) (899999999 : Int32) ) k)
  obtain ⟨T223, X223, e223, st223⟩ := initO X0 hx hZ hown (w_176 hw) (w_9 hw) (w_10 hw) e0 (g := (mkF m 1 #[xvr xa1, xvj (31556889864403199 : Int64), xse, xvi (899999999 : Int32)] [xwr xa1])) rfl (by rw [hml]; rfl) rfl (hb hby d24_1) (by decide) (W := 0) (by show 2 * 0 + _ ≤ _; exact Nat.le_of_eq rfl) (by decide)
  obtain ⟨T224, h224, X224, e224, W224, st224⟩ := putF X223 hx hZ hown (host := "") (Or.inl (w_147 hw)) Via.refl e223 xF_xa1_seconds xE_xa1 (Or.inr ⟨(w_148 hw), rfl, hnm⟩) (w_171 hw) (ty := .long) (by decide) rfl rfl (g := (mkF m 6 #[xvr xa1, xvj (31556889864403199 : Int64), xse, xvi (899999999 : Int32)] [xwj (31556889864403199 : Int64), xwr xa1])) rfl rfl (hb hby d24_6)
  have Fw224 := xF_xa1_seconds.same W224
  have N224 := Fr.snoc X224 N0 xg_xa1
  have f225 := (xF_xa1_nanos.other W224 (Or.inr (slot_ne (Or.inr (w_155 hw)) (Or.inr (w_148 hw)) (by decide) (t := .int) (t' := .long) (by decide) (by decide))))
  have f226 := (xE_xa1.wr W224)
  obtain ⟨T227, h227, X227, e227, W227, st227⟩ := putF X224 hx hZ hown (host := "") (Or.inl (w_154 hw)) Via.refl e224 f225 f226 (Or.inr ⟨(w_155 hw), rfl, hnm⟩) (w_171 hw) (ty := .int) (by decide) rfl rfl (g := (mkF m 11 #[xvr xa1, xvj (31556889864403199 : Int64), xse, xvi (899999999 : Int32)] [xwi (899999999 : Int32), xwr xa1])) rfl rfl (hb hby d24_11)
  have Fw227 := f225.same W227
  have N227 := Fr.snoc X227 N224 xg_xa1
  have f228 := (f226.wr W227)
  have f229 := (Fw224.other W227 (Or.inr (slot_ne (Or.inr (w_148 hw)) (Or.inr (w_155 hw)) (by decide) (t := .long) (t' := .int) (by decide) (by decide))))
  obtain ⟨fs, hr, hrun, hended, hW, hsame⟩ := X227.leave (v := none) (fun _ => rfl)
  refine ⟨_, _, hTG _ (pre0 _ ?_), hrun, hended, _, _, rfl, ?_, ⟨_, rfl⟩, hW, hsame.mono (by decide) (by decide)⟩
  · refine y_aloadN X0 hx 1 (hb hby d24_0) rfl rfl rfl ?_
    refine st223 _ ?_
    show Sx p e below T223 m 4 #[xvr xa1, xvj (31556889864403199 : Int64), xse, xvi (899999999 : Int32)] [] _
    refine y_aloadN X223 hx 5 (hb hby d24_4) rfl rfl rfl ?_
    refine y_lloadN X223 hx 6 (hb hby d24_5) rfl rfl ?_
    refine st224 _ ?_
    show Sx p e below T224 m 9 #[xvr xa1, xvj (31556889864403199 : Int64), xse, xvi (899999999 : Int32)] [] _
    refine y_aloadN X224 hx 10 (hb hby d24_9) rfl rfl rfl ?_
    refine y_iloadN X224 hx 11 (hb hby d24_10) rfl rfl ?_
    refine st227 _ ?_
    show Sx p e below T227 m 14 #[xvr xa1, xvj (31556889864403199 : Int64), xse, xvi (899999999 : Int32)] [] _
    exact X227.returnOut hx Bd.returns (hb hby d24_14) hr
  · show QrmA30 Z G xa1 h0 n0 _ T227.heap _
    rw [e227]
    exact ⟨rfl, N227, (((Keep.refl h0 [xa1]).wr W224 (Or.inl (List.mem_of_getElem? (i := 0) rfl))).wr W227 (Or.inl (List.mem_of_getElem? (i := 0) rfl))), f228, Fw227, f229⟩
theorem pd_9 : parseMethodDescriptor "(JI)V" = some ⟨[.long, .int], none⟩ := by decide +kernel
theorem d23_48 : decode jdk_2320_method_8_code 48 = .ok (.areturn, 1) := by decide +kernel
def QrmA29 (Z : State) (G : Gs)  (h0 : Heap) (n0 : Nat) (v : Option Value) (h : Heap) (L : List Loc) : Prop := ∃ (yo1 : Addr), v = some (.ref yo1) ∧ Fr n0 L ∧ Keep h0 h [] ∧ h0.size ≤ yo1 ∧ Exa Z h yo1 "java/time/Instant" ∧ Fld Z h yo1 "java/time/Instant" "nanos" "I" (.int (899999999 : Int32)) ∧ Fld Z h yo1 "java/time/Instant" "seconds" "J" (.long (31556889864403199 : Int64))
set_option maxRecDepth 65536 in
set_option maxHeartbeats 40000000 in
theorem rmA29 (l : Launch) (Z : State) (a0 : Array Value) (hw : HW a0 Z) (G : Gs) (ST : StartF Z G) (ws : List Jvm.Cond)  (h0 : Heap) (n0 : Nat) (X00 : Old Z n0 h0) :
    MetFree l (⟨"java/time/Instant", "create", "(JI)Ljava/time/Instant;"⟩ : MethodName) (head1 (Jvm.Cond.code (⟨"java/time/Instant", "create", "(JI)Ljava/time/Instant;"⟩ : MethodName) jdk_2320_method_8_code 3 (some (.object "java/time/Instant")) :: ws) ({ frames := 2, cells := 1, slots := 2, locals := 28 } : Room)) (fun a U => a = #[(.long (31556889864403199 : Int64)), (.int (899999999 : Int32))] ∧ Z.Warmed39 U.vm ∧ U.heap = h0) (fun _ _ _ _ _ => True) (fun _ U o U' => ∃ v L, o = .returned v ∧ QrmA29 Z G  h0 n0 v U'.heap L ∧ FrameEnd U o U' L ({ frames := 2, cells := 1, slots := 2, locals := 28 } : Room).cells ({ frames := 2, cells := 1, slots := 2, locals := 28 } : Room).slots) := by
  refine MetFree.of_bodySF (plainFor_of_name pn_9) hisR ?_
  intro p e s m args below meth c s₁ Bd hml0 hP hK
  obtain ⟨rfl, hZ, hh⟩ := hP
  have hx := Bd.exec
  have hby := Bd.bytes
  have hml : c.maxLocals = 3 := hml0
  have hown : s.vm.findClass "java/time/Instant" = some m.cls := findClass_of_methodNamed Bd.named
  have hnm := (name_of_methodNamed Bd.named Bd.method).1
  have X0 : Stand p l e ({ frames := 2, cells := 1, slots := 2, locals := 28 } : Room) s m #[(.long (31556889864403199 : Int64)), (.int (899999999 : Int32))] below meth c s₁ [] 0 0 := Stand.of_body Bd
  have e0 : s₁.heap = h0 := by rw [← hh, Bd.state]; rfl
  have N0 := Fr.nil n0
  have Z0 : n0 ≤ h0.size := by have q := X00.2.1; rw [X00.1] at q; exact q
  obtain ⟨TG, hTG, hT2⟩ : ∃ P : State → Prop, (∀ t, P t → Steps p.tables e below (s₁.setTop (entryFrame m #[(.long (31556889864403199 : Int64)), (.int (899999999 : Int32))] 3)) t) ∧ (∀ t, Steps p.tables e below (s₁.setTop (entryFrame m #[(.long (31556889864403199 : Int64)), (.int (899999999 : Int32))] 3)) t → P t) := ⟨_, fun t k => k, fun t k => k⟩
  have pre0 : ∀ t, Sx p e below s₁ m 0 #[xvj (31556889864403199 : Int64), xse, xvi (899999999 : Int32)] [] t → TG t := fun t k => hT2 t (castTop (ef_rmA29 m (31556889864403199 : Int64) (899999999 : Int32) ) k)
  obtain ⟨T222, h222, X222, e222, E222, A222, D222, -, st222⟩ := newO X0 hx hZ hown (w_170 hw) (w_171 hw) (w_15 hw) e0 (g := (mkF m 39 #[xvj (31556889864403199 : Int64), xse, xvi (899999999 : Int32)] [])) rfl (hb hby d23_39) (by decide) (by decide)
  obtain ⟨b222, g222⟩ : ∃ z, z = h0.size := ⟨_, rfl⟩
  rw [← g222] at A222 D222 st222
  have Fb222_seconds : Fld Z h222 b222 "java/time/Instant" "seconds" "J" (.long (0 : Int64)) := D222 (Or.inr (w_148 hw)) (ty := .long) (by decide)
  have Fb222_nanos : Fld Z h222 b222 "java/time/Instant" "nanos" "I" (.int (0 : Int32)) := D222 (Or.inr (w_155 hw)) (ty := .int) (by decide)
  have Ol230 : Old Z n0 h222 := (X00.ext E222)
  obtain ⟨_, _, ⟨T231, L231, k231, n231⟩, -, X231, ⟨Lc231, hQ231, l231, y231, z231⟩, st231⟩ := X222.specialBack hx (y := (⟨"java/time/Instant", "<init>", "(JI)V"⟩ : MethodName)) rfl hown (mvT hZ (w_172 hw)) (mvT hZ (w_173 hw)) (mvT hZ (w_175 hw)) (by decide) (backOf (W := 1) (rmA30 l Z a0 hw G ST [] b222 h222 n0 Ol230 A222 Fb222_nanos Fb222_seconds (Nat.le_trans Z0 (Nat.le_trans (Nat.le_refl _) (Nat.le_of_eq g222.symm)))) hZ (w_175 hw) (w_15 hw) (by decide) (by decide)) (g := (mkF m 45 #[xvj (31556889864403199 : Int64), xse, xvi (899999999 : Int32)] [xwi (899999999 : Int32), xwj (31556889864403199 : Int64), xwr b222, xwr b222])) rfl (by rw [hml]; rfl) (Steps.refl _) (a := b222) (argsL := [(.long (31556889864403199 : Int64)), (.int (899999999 : Int32))]) (rest := [(.ref b222)]) (lenOf pd_9 rfl) rfl (by show 2 * 0 + _ ≤ _; exact Nat.le_of_eq rfl) (hb hby d23_45) (fun _ _ => ⟨rfl, e222, (by decide : 1 + 0 ≤ _), (by decide : 2 + 0 ≤ _)⟩)
  dsimp only [Pt.U, Pt.locs, Pt.cells, Pt.slots] at X231 l231 y231 z231 st231 hQ231
  subst l231 y231 z231
  obtain ⟨hp231, e231⟩ : ∃ z, T231.heap = z := ⟨_, rfl⟩
  rw [e231] at hQ231
  obtain ⟨rfl, N231q, K231, p232, p233, p234⟩ := hQ231
  have N231 := Fr.app N0 N231q
  obtain ⟨fs, hr, hrun, hended, hW, hsame⟩ := X231.leave (v := some (.ref b222)) (fun h => by rw [Bd.returns] at h; cases h)
  refine ⟨_, _, hTG _ (pre0 _ ?_), hrun, hended, _, _, rfl, ?_, ⟨_, rfl⟩, hW, hsame.mono (by decide) (by decide)⟩
  · refine y_lloadN X0 hx 1 (hb hby d23_0) rfl rfl ?_
    refine y_iloadN X0 hx 2 (hb hby d23_1) rfl rfl ?_
    refine XS.i2l X0.here hx rfl (hb hby d23_2) rfl ?_
    rw [show ((899999999 : Int32).toInt64) = (899999999 : Int64) from by decide]
    show Sx p e below s₁ m 3 #[xvj (31556889864403199 : Int64), xse, xvi (899999999 : Int32)] [xwj (899999999 : Int64), xwj (31556889864403199 : Int64)] _
    refine y_lor X0 hx 4 (hb hby d23_3) rfl ?_
    rw [show ((31556889864403199 : Int64) ||| (899999999 : Int64)) = (31556889950419199 : Int64) from by decide]
    refine XS.lconst X0.here hx rfl (hb hby d23_4) ?_
    show Sx p e below s₁ m 5 #[xvj (31556889864403199 : Int64), xse, xvi (899999999 : Int32)] [xwj (0 : Int64), xwj (31556889950419199 : Int64)] _
    refine XT.lcmp X0.here hx rfl (hb hby d23_5) rfl ?_
    show Sx p e below s₁ m 6 #[xvj (31556889864403199 : Int64), xse, xvi (899999999 : Int32)] [(.int (XT.cmpL (31556889950419199 : Int64) (0 : Int64)))] _
    refine y_ifYes X0 hx 13 (hb hby d23_6) (XT.ll_ne_t (by decide)) (by decide) (by decide) ?_
    refine y_lloadN X0 hx 14 (hb hby d23_13) rfl rfl ?_
    refine X0.ldc2Long hx hown (mvT hZ (w_168 hw)) (g := (mkF m 14 #[xvj (31556889864403199 : Int64), xse, xvi (899999999 : Int32)] [xwj (31556889864403199 : Int64)])) rfl (hb hby d23_14) _ ?_
    show Sx p e below s₁ m 17 #[xvj (31556889864403199 : Int64), xse, xvi (899999999 : Int32)] [xwj (-31557014167219200 : Int64), xwj (31556889864403199 : Int64)] _
    refine XT.lcmp X0.here hx rfl (hb hby d23_17) rfl ?_
    show Sx p e below s₁ m 18 #[xvj (31556889864403199 : Int64), xse, xvi (899999999 : Int32)] [(.int (XT.cmpL (31556889864403199 : Int64) (-31557014167219200 : Int64)))] _
    refine y_ifNo X0 hx 21 (hb hby d23_18) (XT.ll_lt_f (by decide)) rfl ?_
    refine y_lloadN X0 hx 22 (hb hby d23_21) rfl rfl ?_
    refine X0.ldc2Long hx hown (mvT hZ (w_169 hw)) (g := (mkF m 22 #[xvj (31556889864403199 : Int64), xse, xvi (899999999 : Int32)] [xwj (31556889864403199 : Int64)])) rfl (hb hby d23_22) _ ?_
    show Sx p e below s₁ m 25 #[xvj (31556889864403199 : Int64), xse, xvi (899999999 : Int32)] [xwj (31556889864403199 : Int64), xwj (31556889864403199 : Int64)] _
    refine XT.lcmp X0.here hx rfl (hb hby d23_25) rfl ?_
    show Sx p e below s₁ m 26 #[xvj (31556889864403199 : Int64), xse, xvi (899999999 : Int32)] [(.int (XT.cmpL (31556889864403199 : Int64) (31556889864403199 : Int64)))] _
    refine y_ifYes X0 hx 39 (hb hby d23_26) (XT.ll_le_t (by decide)) (by decide) (by decide) ?_
    refine st222 _ ?_
    show Sx p e below T222 m 42 #[xvj (31556889864403199 : Int64), xse, xvi (899999999 : Int32)] [xwr b222] _
    refine y_dup X222 hx 43 (hb hby d23_42) rfl rfl ?_
    refine y_lloadN X222 hx 44 (hb hby d23_43) rfl rfl ?_
    refine y_iloadN X222 hx 45 (hb hby d23_44) rfl rfl ?_
    refine st231.trans ?_
    show Sx p e below T231 m 48 #[xvj (31556889864403199 : Int64), xse, xvi (899999999 : Int32)] [xwr b222] _
    exact retOut X231 hx Bd.returns rfl (Or.inr (Or.inr (Or.inr (Or.inr ⟨rfl, rfl, rfl⟩)))) (hb hby d23_48) hr
  · show QrmA29 Z G  h0 n0 _ T231.heap _
    rw [e231]
    exact ⟨b222, rfl, N231, (((Keep.refl h0 []).ext E222).trans K231 (allS (Or.inr (Nat.le_trans (Nat.le_refl _) (Nat.le_of_eq g222.symm))) all0)), (Nat.le_trans (Nat.le_refl _) (Nat.le_of_eq g222.symm)), p232, p233, p234⟩
theorem pd_10 : parseMethodDescriptor "(JI)Ljava/time/Instant;" = some ⟨[.long, .int], some (.object "java/time/Instant")⟩ := by decide +kernel
theorem d20_30 : decode jdk_2320_method_4_code 30 = .ok (.areturn, 1) := by decide +kernel
def QrmA26 (Z : State) (G : Gs)  (h0 : Heap) (n0 : Nat) (v : Option Value) (h : Heap) (L : List Loc) : Prop := ∃ (yo1 : Addr), v = some (.ref yo1) ∧ Fr n0 L ∧ Keep h0 h [] ∧ h0.size ≤ yo1 ∧ Exa Z h yo1 "java/time/Instant" ∧ Fld Z h yo1 "java/time/Instant" "nanos" "I" (.int (899999999 : Int32)) ∧ Fld Z h yo1 "java/time/Instant" "seconds" "J" (.long (31556889864403199 : Int64))
set_option maxRecDepth 65536 in
set_option maxHeartbeats 40000000 in
theorem rmA26 (l : Launch) (Z : State) (a0 : Array Value) (hw : HW a0 Z) (G : Gs) (ST : StartF Z G) (ws : List Jvm.Cond)  (h0 : Heap) (n0 : Nat) (X00 : Old Z n0 h0) :
    MetFree l (⟨"java/time/Instant", "ofEpochSecond", "(JJ)Ljava/time/Instant;"⟩ : MethodName) (head1 (Jvm.Cond.code (⟨"java/time/Instant", "ofEpochSecond", "(JJ)Ljava/time/Instant;"⟩ : MethodName) jdk_2320_method_4_code 7 (some (.object "java/time/Instant")) :: ws) ({ frames := 3, cells := 1, slots := 2, locals := 42 } : Room)) (fun a U => a = #[(.long (31556889864403199 : Int64)), (.long (899999999 : Int64))] ∧ Z.Warmed39 U.vm ∧ U.heap = h0) (fun _ _ _ _ _ => True) (fun _ U o U' => ∃ v L, o = .returned v ∧ QrmA26 Z G  h0 n0 v U'.heap L ∧ FrameEnd U o U' L ({ frames := 3, cells := 1, slots := 2, locals := 42 } : Room).cells ({ frames := 3, cells := 1, slots := 2, locals := 42 } : Room).slots) := by
  refine MetFree.of_bodySF (plainFor_of_name pn_9) hisR ?_
  intro p e s m args below meth c s₁ Bd hml0 hP hK
  obtain ⟨rfl, hZ, hh⟩ := hP
  have hx := Bd.exec
  have hby := Bd.bytes
  have hml : c.maxLocals = 7 := hml0
  have hown : s.vm.findClass "java/time/Instant" = some m.cls := findClass_of_methodNamed Bd.named
  have hnm := (name_of_methodNamed Bd.named Bd.method).1
  have X0 : Stand p l e ({ frames := 3, cells := 1, slots := 2, locals := 42 } : Room) s m #[(.long (31556889864403199 : Int64)), (.long (899999999 : Int64))] below meth c s₁ [] 0 0 := Stand.of_body Bd
  have e0 : s₁.heap = h0 := by rw [← hh, Bd.state]; rfl
  have N0 := Fr.nil n0
  have Z0 : n0 ≤ h0.size := by have q := X00.2.1; rw [X00.1] at q; exact q
  obtain ⟨TG, hTG, hT2⟩ : ∃ P : State → Prop, (∀ t, P t → Steps p.tables e below (s₁.setTop (entryFrame m #[(.long (31556889864403199 : Int64)), (.long (899999999 : Int64))] 7)) t) ∧ (∀ t, Steps p.tables e below (s₁.setTop (entryFrame m #[(.long (31556889864403199 : Int64)), (.long (899999999 : Int64))] 7)) t → P t) := ⟨_, fun t k => k, fun t k => k⟩
  have pre0 : ∀ t, Sx p e below s₁ m 0 #[xvj (31556889864403199 : Int64), xse, xvj (899999999 : Int64), xse, xun, xun, xun] [] t → TG t := fun t k => hT2 t (castTop (ef_rmA26 m (31556889864403199 : Int64) (899999999 : Int64) ) k)
  obtain ⟨_, _, ⟨T219, L219, k219, n219⟩, -, X219, ⟨Lc219, hQ219, l219, y219, z219⟩, st219⟩ := Jvm.LawKit.callS X0 hx (y := (⟨"java/lang/Math", "floorDiv", "(JJ)J"⟩ : MethodName)) hown (mvT hZ (w_159 hw)) (mvT hZ (w_160 hw)) (mvT hZ (w_151 hw)) (mvT hZ (w_161 hw)) (by decide) (backOf (W := 2) (rmA27 l Z a0 hw G ST []  h0 n0 X00 ) hZ (w_161 hw) (w_151 hw) (by decide) (by decide)) (g := (mkF m 5 #[xvj (31556889864403199 : Int64), xse, xvj (899999999 : Int64), xse, xun, xun, xun] [xwj (1000000000 : Int64), xwj (899999999 : Int64), xwj (31556889864403199 : Int64)])) rfl (by rw [hml]; rfl) (argsL := [(.long (899999999 : Int64)), (.long (1000000000 : Int64))]) (rest := [(.long (31556889864403199 : Int64))]) (lenOf pd_1 rfl) rfl (by show 2 * 0 + _ ≤ _; exact Nat.le_of_eq rfl) (hb hby d20_5) (fun _ _ => ⟨rfl, e0, (by decide : 0 + 0 ≤ _), (by decide : 0 + 0 ≤ _)⟩)
  dsimp only [Pt.U, Pt.locs, Pt.cells, Pt.slots] at X219 l219 y219 z219 st219 hQ219
  subst l219 y219 z219
  obtain ⟨rfl, N219q, e219⟩ := hQ219
  have N219 := Fr.app N0 N219q
  obtain ⟨_, _, ⟨T220, L220, k220, n220⟩, -, X220, ⟨Lc220, hQ220, l220, y220, z220⟩, st220⟩ := Jvm.LawKit.callS X219 hx (y := (⟨"java/lang/Math", "addExact", "(JJ)J"⟩ : MethodName)) hown (mvT hZ (w_149 hw)) (mvT hZ (w_150 hw)) (mvT hZ (w_151 hw)) (mvT hZ (w_152 hw)) (by decide) (backOf (W := 0) (rmA25 l Z a0 hw G ST []  h0 n0 X00 ) hZ (w_152 hw) (w_151 hw) (by decide) (by decide)) (g := (mkF m 8 #[xvj (31556889864403199 : Int64), xse, xvj (899999999 : Int64), xse, xun, xun, xun] [xwj (0 : Int64), xwj (31556889864403199 : Int64)])) rfl (by rw [hml]; rfl) (argsL := [(.long (31556889864403199 : Int64)), (.long (0 : Int64))]) (rest := []) (lenOf pd_1 rfl) rfl (by show 2 * 0 + _ ≤ _; exact Nat.le_of_eq rfl) (hb hby d20_8) (fun _ _ => ⟨rfl, e219, (by decide : 0 + 0 ≤ _), (by decide : 0 + 0 ≤ _)⟩)
  dsimp only [Pt.U, Pt.locs, Pt.cells, Pt.slots] at X220 l220 y220 z220 st220 hQ220
  subst l220 y220 z220
  obtain ⟨rfl, N220q, e220⟩ := hQ220
  have N220 := Fr.app N219 N220q
  obtain ⟨_, _, ⟨T221, L221, k221, n221⟩, -, X221, ⟨Lc221, hQ221, l221, y221, z221⟩, st221⟩ := Jvm.LawKit.callS X220 hx (y := (⟨"java/lang/Math", "floorMod", "(JJ)J"⟩ : MethodName)) hown (mvT hZ (w_162 hw)) (mvT hZ (w_163 hw)) (mvT hZ (w_151 hw)) (mvT hZ (w_164 hw)) (by decide) (backOf (W := 0) (rmA28 l Z a0 hw G ST []  h0 n0 X00 ) hZ (w_164 hw) (w_151 hw) (by decide) (by decide)) (g := (mkF m 17 #[xvj (31556889864403199 : Int64), xse, xvj (899999999 : Int64), xse, xvj (31556889864403199 : Int64), xse, xun] [xwj (1000000000 : Int64), xwj (899999999 : Int64)])) rfl (by rw [hml]; rfl) (argsL := [(.long (899999999 : Int64)), (.long (1000000000 : Int64))]) (rest := []) (lenOf pd_1 rfl) rfl (by show 2 * 0 + _ ≤ _; exact Nat.le_of_eq rfl) (hb hby d20_17) (fun _ _ => ⟨rfl, e220, (by decide : 0 + 0 ≤ _), (by decide : 0 + 0 ≤ _)⟩)
  dsimp only [Pt.U, Pt.locs, Pt.cells, Pt.slots] at X221 l221 y221 z221 st221 hQ221
  subst l221 y221 z221
  obtain ⟨rfl, N221q, e221⟩ := hQ221
  have N221 := Fr.app N220 N221q
  obtain ⟨_, _, ⟨T235, L235, k235, n235⟩, -, X235, ⟨Lc235, hQ235, l235, y235, z235⟩, st235⟩ := Jvm.LawKit.callS X221 hx (y := (⟨"java/time/Instant", "create", "(JI)Ljava/time/Instant;"⟩ : MethodName)) hown (mvT hZ (w_165 hw)) (mvT hZ (w_166 hw)) (mvT hZ (w_15 hw)) (mvT hZ (w_167 hw)) (by decide) (backOf (W := 0) (rmA29 l Z a0 hw G ST []  h0 n0 X00 ) hZ (w_167 hw) (w_15 hw) (by decide) (by decide)) (g := (mkF m 27 #[xvj (31556889864403199 : Int64), xse, xvj (899999999 : Int64), xse, xvj (31556889864403199 : Int64), xse, xvi (899999999 : Int32)] [xwi (899999999 : Int32), xwj (31556889864403199 : Int64)])) rfl (by rw [hml]; rfl) (argsL := [(.long (31556889864403199 : Int64)), (.int (899999999 : Int32))]) (rest := []) (lenOf pd_10 rfl) rfl (by show 2 * 0 + _ ≤ _; exact Nat.le_of_eq rfl) (hb hby d20_27) (fun _ _ => ⟨rfl, e221, (by decide : 0 + 1 ≤ _), (by decide : 0 + 2 ≤ _)⟩)
  dsimp only [Pt.U, Pt.locs, Pt.cells, Pt.slots] at X235 l235 y235 z235 st235 hQ235
  subst l235 y235 z235
  obtain ⟨hp235, e235⟩ : ∃ z, T235.heap = z := ⟨_, rfl⟩
  rw [e235] at hQ235
  obtain ⟨o236, rfl, N235q, K235, p237, p238, p239, p240⟩ := hQ235
  have N235 := Fr.app N221 N235q
  obtain ⟨fs, hr, hrun, hended, hW, hsame⟩ := X235.leave (v := some (.ref o236)) (fun h => by rw [Bd.returns] at h; cases h)
  refine ⟨_, _, hTG _ (pre0 _ ?_), hrun, hended, _, _, rfl, ?_, ⟨_, rfl⟩, hW, hsame.mono (by decide) (by decide)⟩
  · refine y_lloadN X0 hx 1 (hb hby d20_0) rfl rfl ?_
    refine y_lloadN X0 hx 2 (hb hby d20_1) rfl rfl ?_
    refine X0.ldc2Long hx hown (mvT hZ (w_153 hw)) (g := (mkF m 2 #[xvj (31556889864403199 : Int64), xse, xvj (899999999 : Int64), xse, xun, xun, xun] [xwj (899999999 : Int64), xwj (31556889864403199 : Int64)])) rfl (hb hby d20_2) _ ?_
    show Sx p e below s₁ m 5 #[xvj (31556889864403199 : Int64), xse, xvj (899999999 : Int64), xse, xun, xun, xun] [xwj (1000000000 : Int64), xwj (899999999 : Int64), xwj (31556889864403199 : Int64)] _
    refine st219 _ ?_
    show Sx p e below T219 m 8 #[xvj (31556889864403199 : Int64), xse, xvj (899999999 : Int64), xse, xun, xun, xun] [xwj (0 : Int64), xwj (31556889864403199 : Int64)] _
    refine st220 _ ?_
    show Sx p e below T220 m 11 #[xvj (31556889864403199 : Int64), xse, xvj (899999999 : Int64), xse, xun, xun, xun] [xwj (31556889864403199 : Int64)] _
    refine XS.lstore X220.here hx rfl (hb hby d20_11) rfl (l' := #[xvj (31556889864403199 : Int64), xse, xvj (899999999 : Int64), xse, xvj (31556889864403199 : Int64), xse, xun]) rfl ?_
    show Sx p e below T220 m 13 #[xvj (31556889864403199 : Int64), xse, xvj (899999999 : Int64), xse, xvj (31556889864403199 : Int64), xse, xun] [] _
    refine y_lloadN X220 hx 14 (hb hby d20_13) rfl rfl ?_
    refine X220.ldc2Long hx hown (mvT hZ (w_153 hw)) (g := (mkF m 14 #[xvj (31556889864403199 : Int64), xse, xvj (899999999 : Int64), xse, xvj (31556889864403199 : Int64), xse, xun] [xwj (899999999 : Int64)])) rfl (hb hby d20_14) _ ?_
    show Sx p e below T220 m 17 #[xvj (31556889864403199 : Int64), xse, xvj (899999999 : Int64), xse, xvj (31556889864403199 : Int64), xse, xun] [xwj (1000000000 : Int64), xwj (899999999 : Int64)] _
    refine st221 _ ?_
    show Sx p e below T221 m 20 #[xvj (31556889864403199 : Int64), xse, xvj (899999999 : Int64), xse, xvj (31556889864403199 : Int64), xse, xun] [xwj (899999999 : Int64)] _
    refine XS.l2i X221.here hx rfl (hb hby d20_20) rfl ?_
    rw [show ((899999999 : Int64).toInt32) = (899999999 : Int32) from by decide]
    show Sx p e below T221 m 21 #[xvj (31556889864403199 : Int64), xse, xvj (899999999 : Int64), xse, xvj (31556889864403199 : Int64), xse, xun] [xwi (899999999 : Int32)] _
    refine XS.istore X221.here hx rfl (hb hby d20_21) rfl (l' := #[xvj (31556889864403199 : Int64), xse, xvj (899999999 : Int64), xse, xvj (31556889864403199 : Int64), xse, xvi (899999999 : Int32)]) rfl ?_
    show Sx p e below T221 m 23 #[xvj (31556889864403199 : Int64), xse, xvj (899999999 : Int64), xse, xvj (31556889864403199 : Int64), xse, xvi (899999999 : Int32)] [] _
    refine y_lload X221 hx 25 (hb hby d20_23) rfl rfl ?_
    refine y_iload X221 hx 27 (hb hby d20_25) rfl rfl ?_
    refine st235 _ ?_
    show Sx p e below T235 m 30 #[xvj (31556889864403199 : Int64), xse, xvj (899999999 : Int64), xse, xvj (31556889864403199 : Int64), xse, xvi (899999999 : Int32)] [xwr o236] _
    exact retOut X235 hx Bd.returns rfl (Or.inr (Or.inr (Or.inr (Or.inr ⟨rfl, rfl, rfl⟩)))) (hb hby d20_30) hr
  · show QrmA26 Z G  h0 n0 _ T235.heap _
    rw [e235]
    exact ⟨o236, rfl, N235, ((Keep.refl h0 []).trans K235 all0), (Nat.le_trans (Nat.le_refl _) p237), p238, p239, p240⟩
theorem pd_11 : parseMethodDescriptor "(JJ)Ljava/time/Instant;" = some ⟨[.long, .long], some (.object "java/time/Instant")⟩ := by decide +kernel
theorem d18_54 : decode jdk_2320_method_25_code 54 = .ok (.areturn, 1) := by decide +kernel
def QrmA24 (Z : State) (G : Gs)  (h0 : Heap) (n0 : Nat) (v : Option Value) (h : Heap) (L : List Loc) : Prop := ∃ (yo1 : Addr), v = some (.ref yo1) ∧ Fr n0 L ∧ Keep h0 h [] ∧ h0.size ≤ yo1 ∧ Exa Z h yo1 "java/time/Instant" ∧ Fld Z h yo1 "java/time/Instant" "nanos" "I" (.int (899999999 : Int32)) ∧ Fld Z h yo1 "java/time/Instant" "seconds" "J" (.long (31556889864403199 : Int64))
set_option maxRecDepth 65536 in
set_option maxHeartbeats 40000000 in
theorem rmA24 (l : Launch) (Z : State) (a0 : Array Value) (hw : HW a0 Z) (G : Gs) (ST : StartF Z G) (ws : List Jvm.Cond)  (h0 : Heap) (n0 : Nat) (X00 : Old Z n0 h0) :
    MetFree l (⟨"java/time/Instant", "plus", "(JJ)Ljava/time/Instant;"⟩ : MethodName) (head1 (Jvm.Cond.code (⟨"java/time/Instant", "plus", "(JJ)Ljava/time/Instant;"⟩ : MethodName) jdk_2320_method_25_code 9 (some (.object "java/time/Instant")) :: ws) ({ frames := 4, cells := 1, slots := 2, locals := 60 } : Room)) (fun a U => a = #[(.ref G.a1), (.long (0 : Int64)), (.long (-100000000 : Int64))] ∧ Z.Warmed39 U.vm ∧ U.heap = h0) (fun _ _ _ _ _ => True) (fun _ U o U' => ∃ v L, o = .returned v ∧ QrmA24 Z G  h0 n0 v U'.heap L ∧ FrameEnd U o U' L ({ frames := 4, cells := 1, slots := 2, locals := 60 } : Room).cells ({ frames := 4, cells := 1, slots := 2, locals := 60 } : Room).slots) := by
  refine MetFree.of_bodySF (plainFor_of_name pn_9) hisR ?_
  intro p e s m args below meth c s₁ Bd hml0 hP hK
  obtain ⟨rfl, hZ, hh⟩ := hP
  have hx := Bd.exec
  have hby := Bd.bytes
  have hml : c.maxLocals = 9 := hml0
  have hown : s.vm.findClass "java/time/Instant" = some m.cls := findClass_of_methodNamed Bd.named
  have hnm := (name_of_methodNamed Bd.named Bd.method).1
  have X0 : Stand p l e ({ frames := 4, cells := 1, slots := 2, locals := 60 } : Room) s m #[(.ref G.a1), (.long (0 : Int64)), (.long (-100000000 : Int64))] below meth c s₁ [] 0 0 := Stand.of_body Bd
  have e0 : s₁.heap = h0 := by rw [← hh, Bd.state]; rfl
  have N0 := Fr.nil n0
  have Z0 : n0 ≤ h0.size := by have q := X00.2.1; rw [X00.1] at q; exact q
  obtain ⟨TG, hTG, hT2⟩ : ∃ P : State → Prop, (∀ t, P t → Steps p.tables e below (s₁.setTop (entryFrame m #[(.ref G.a1), (.long (0 : Int64)), (.long (-100000000 : Int64))] 9)) t) ∧ (∀ t, Steps p.tables e below (s₁.setTop (entryFrame m #[(.ref G.a1), (.long (0 : Int64)), (.long (-100000000 : Int64))] 9)) t → P t) := ⟨_, fun t k => k, fun t k => k⟩
  have pre0 : ∀ t, Sx p e below s₁ m 0 #[xvr G.a1, xvj (0 : Int64), xse, xvj (-100000000 : Int64), xse, xun, xun, xun, xun] [] t → TG t := fun t k => hT2 t (castTop (ef_rmA24 m G.a1 (0 : Int64) (-100000000 : Int64) ) k)
  obtain ⟨T215, X215, e215, st215⟩ := getF X0 hx hZ hown (host := "") (Or.inl (w_147 hw)) Via.refl e0 (ST.c6.ext X00.2) (g := (mkF m 11 #[xvr G.a1, xvj (0 : Int64), xse, xvj (-100000000 : Int64), xse, xun, xun, xun, xun] [xwr G.a1])) rfl rfl (hb hby d18_11)
  obtain ⟨_, _, ⟨T216, L216, k216, n216⟩, -, X216, ⟨Lc216, hQ216, l216, y216, z216⟩, st216⟩ := Jvm.LawKit.callS X215 hx (y := (⟨"java/lang/Math", "addExact", "(JJ)J"⟩ : MethodName)) hown (mvT hZ (w_149 hw)) (mvT hZ (w_150 hw)) (mvT hZ (w_151 hw)) (mvT hZ (w_152 hw)) (by decide) (backOf (W := 0) (rmA25 l Z a0 hw G ST []  h0 n0 X00 ) hZ (w_152 hw) (w_151 hw) (by decide) (by decide)) (g := (mkF m 15 #[xvr G.a1, xvj (0 : Int64), xse, xvj (-100000000 : Int64), xse, xun, xun, xun, xun] [xwj (0 : Int64), xwj (31556889864403199 : Int64)])) rfl (by rw [hml]; rfl) (argsL := [(.long (31556889864403199 : Int64)), (.long (0 : Int64))]) (rest := []) (lenOf pd_1 rfl) rfl (by show 2 * 0 + _ ≤ _; exact Nat.le_of_eq rfl) (hb hby d18_15) (fun _ _ => ⟨rfl, e215, (by decide : 0 + 0 ≤ _), (by decide : 0 + 0 ≤ _)⟩)
  dsimp only [Pt.U, Pt.locs, Pt.cells, Pt.slots] at X216 l216 y216 z216 st216 hQ216
  subst l216 y216 z216
  obtain ⟨rfl, N216q, e216⟩ := hQ216
  have N216 := Fr.app N0 N216q
  obtain ⟨_, _, ⟨T217, L217, k217, n217⟩, -, X217, ⟨Lc217, hQ217, l217, y217, z217⟩, st217⟩ := Jvm.LawKit.callS X216 hx (y := (⟨"java/lang/Math", "addExact", "(JJ)J"⟩ : MethodName)) hown (mvT hZ (w_149 hw)) (mvT hZ (w_150 hw)) (mvT hZ (w_151 hw)) (mvT hZ (w_152 hw)) (by decide) (backOf (W := 0) (rmA25 l Z a0 hw G ST []  h0 n0 X00 ) hZ (w_152 hw) (w_151 hw) (by decide) (by decide)) (g := (mkF m 27 #[xvr G.a1, xvj (0 : Int64), xse, xvj (-100000000 : Int64), xse, xvj (31556889864403199 : Int64), xse, xun, xun] [xwj (0 : Int64), xwj (31556889864403199 : Int64)])) rfl (by rw [hml]; rfl) (argsL := [(.long (31556889864403199 : Int64)), (.long (0 : Int64))]) (rest := []) (lenOf pd_1 rfl) rfl (by show 2 * 0 + _ ≤ _; exact Nat.le_of_eq rfl) (hb hby d18_27) (fun _ _ => ⟨rfl, e216, (by decide : 0 + 0 ≤ _), (by decide : 0 + 0 ≤ _)⟩)
  dsimp only [Pt.U, Pt.locs, Pt.cells, Pt.slots] at X217 l217 y217 z217 st217 hQ217
  subst l217 y217 z217
  obtain ⟨rfl, N217q, e217⟩ := hQ217
  have N217 := Fr.app N216 N217q
  obtain ⟨T218, X218, e218, st218⟩ := getF X217 hx hZ hown (host := "") (Or.inl (w_154 hw)) Via.refl e217 (ST.c7.ext X00.2) (g := (mkF m 39 #[xvr G.a1, xvj (0 : Int64), xse, xvj (-100000000 : Int64), xse, xvj (31556889864403199 : Int64), xse, xun, xun] [xwr G.a1])) rfl rfl (hb hby d18_39)
  obtain ⟨_, _, ⟨T241, L241, k241, n241⟩, -, X241, ⟨Lc241, hQ241, l241, y241, z241⟩, st241⟩ := Jvm.LawKit.callS X218 hx (y := (⟨"java/time/Instant", "ofEpochSecond", "(JJ)Ljava/time/Instant;"⟩ : MethodName)) hown (mvT hZ (w_156 hw)) (mvT hZ (w_157 hw)) (mvT hZ (w_15 hw)) (mvT hZ (w_158 hw)) (by decide) (backOf (W := 0) (rmA26 l Z a0 hw G ST []  h0 n0 X00 ) hZ (w_158 hw) (w_15 hw) (by decide) (by decide)) (g := (mkF m 51 #[xvr G.a1, xvj (0 : Int64), xse, xvj (-100000000 : Int64), xse, xvj (31556889864403199 : Int64), xse, xvj (899999999 : Int64), xse] [xwj (899999999 : Int64), xwj (31556889864403199 : Int64)])) rfl (by rw [hml]; rfl) (argsL := [(.long (31556889864403199 : Int64)), (.long (899999999 : Int64))]) (rest := []) (lenOf pd_11 rfl) rfl (by show 2 * 0 + _ ≤ _; exact Nat.le_of_eq rfl) (hb hby d18_51) (fun _ _ => ⟨rfl, e218, (by decide : 0 + 1 ≤ _), (by decide : 0 + 2 ≤ _)⟩)
  dsimp only [Pt.U, Pt.locs, Pt.cells, Pt.slots] at X241 l241 y241 z241 st241 hQ241
  subst l241 y241 z241
  obtain ⟨hp241, e241⟩ : ∃ z, T241.heap = z := ⟨_, rfl⟩
  rw [e241] at hQ241
  obtain ⟨o242, rfl, N241q, K241, p243, p244, p245, p246⟩ := hQ241
  have N241 := Fr.app N217 N241q
  obtain ⟨fs, hr, hrun, hended, hW, hsame⟩ := X241.leave (v := some (.ref o242)) (fun h => by rw [Bd.returns] at h; cases h)
  refine ⟨_, _, hTG _ (pre0 _ ?_), hrun, hended, _, _, rfl, ?_, ⟨_, rfl⟩, hW, hsame.mono (by decide) (by decide)⟩
  · refine y_lloadN X0 hx 1 (hb hby d18_0) rfl rfl ?_
    refine y_lloadN X0 hx 2 (hb hby d18_1) rfl rfl ?_
    refine y_lor X0 hx 3 (hb hby d18_2) rfl ?_
    rw [show ((0 : Int64) ||| (-100000000 : Int64)) = (-100000000 : Int64) from by decide]
    refine XS.lconst X0.here hx rfl (hb hby d18_3) ?_
    show Sx p e below s₁ m 4 #[xvr G.a1, xvj (0 : Int64), xse, xvj (-100000000 : Int64), xse, xun, xun, xun, xun] [xwj (0 : Int64), xwj (-100000000 : Int64)] _
    refine XT.lcmp X0.here hx rfl (hb hby d18_4) rfl ?_
    show Sx p e below s₁ m 5 #[xvr G.a1, xvj (0 : Int64), xse, xvj (-100000000 : Int64), xse, xun, xun, xun, xun] [(.int (XT.cmpL (-100000000 : Int64) (0 : Int64)))] _
    refine y_ifYes X0 hx 10 (hb hby d18_5) (XT.ll_ne_t (by decide)) (by decide) (by decide) ?_
    refine y_aloadN X0 hx 11 (hb hby d18_10) rfl rfl rfl ?_
    refine st215 _ ?_
    show Sx p e below T215 m 14 #[xvr G.a1, xvj (0 : Int64), xse, xvj (-100000000 : Int64), xse, xun, xun, xun, xun] [xwj (31556889864403199 : Int64)] _
    refine y_lloadN X215 hx 15 (hb hby d18_14) rfl rfl ?_
    refine st216 _ ?_
    show Sx p e below T216 m 18 #[xvr G.a1, xvj (0 : Int64), xse, xvj (-100000000 : Int64), xse, xun, xun, xun, xun] [xwj (31556889864403199 : Int64)] _
    refine XS.lstore X216.here hx rfl (hb hby d18_18) rfl (l' := #[xvr G.a1, xvj (0 : Int64), xse, xvj (-100000000 : Int64), xse, xvj (31556889864403199 : Int64), xse, xun, xun]) rfl ?_
    show Sx p e below T216 m 20 #[xvr G.a1, xvj (0 : Int64), xse, xvj (-100000000 : Int64), xse, xvj (31556889864403199 : Int64), xse, xun, xun] [] _
    refine y_lload X216 hx 22 (hb hby d18_20) rfl rfl ?_
    refine y_lloadN X216 hx 23 (hb hby d18_22) rfl rfl ?_
    refine X216.ldc2Long hx hown (mvT hZ (w_153 hw)) (g := (mkF m 23 #[xvr G.a1, xvj (0 : Int64), xse, xvj (-100000000 : Int64), xse, xvj (31556889864403199 : Int64), xse, xun, xun] [xwj (-100000000 : Int64), xwj (31556889864403199 : Int64)])) rfl (hb hby d18_23) _ ?_
    show Sx p e below T216 m 26 #[xvr G.a1, xvj (0 : Int64), xse, xvj (-100000000 : Int64), xse, xvj (31556889864403199 : Int64), xse, xun, xun] [xwj (1000000000 : Int64), xwj (-100000000 : Int64), xwj (31556889864403199 : Int64)] _
    refine XT.ldiv X216.here hx rfl (hb hby d18_26) rfl (by decide) ?_
    rw [show ((-100000000 : Int64) / (1000000000 : Int64)) = (0 : Int64) from by decide]
    show Sx p e below T216 m 27 #[xvr G.a1, xvj (0 : Int64), xse, xvj (-100000000 : Int64), xse, xvj (31556889864403199 : Int64), xse, xun, xun] [xwj (0 : Int64), xwj (31556889864403199 : Int64)] _
    refine st217 _ ?_
    show Sx p e below T217 m 30 #[xvr G.a1, xvj (0 : Int64), xse, xvj (-100000000 : Int64), xse, xvj (31556889864403199 : Int64), xse, xun, xun] [xwj (31556889864403199 : Int64)] _
    refine XS.lstore X217.here hx rfl (hb hby d18_30) rfl (l' := #[xvr G.a1, xvj (0 : Int64), xse, xvj (-100000000 : Int64), xse, xvj (31556889864403199 : Int64), xse, xun, xun]) rfl ?_
    show Sx p e below T217 m 32 #[xvr G.a1, xvj (0 : Int64), xse, xvj (-100000000 : Int64), xse, xvj (31556889864403199 : Int64), xse, xun, xun] [] _
    refine y_lloadN X217 hx 33 (hb hby d18_32) rfl rfl ?_
    refine X217.ldc2Long hx hown (mvT hZ (w_153 hw)) (g := (mkF m 33 #[xvr G.a1, xvj (0 : Int64), xse, xvj (-100000000 : Int64), xse, xvj (31556889864403199 : Int64), xse, xun, xun] [xwj (-100000000 : Int64)])) rfl (hb hby d18_33) _ ?_
    show Sx p e below T217 m 36 #[xvr G.a1, xvj (0 : Int64), xse, xvj (-100000000 : Int64), xse, xvj (31556889864403199 : Int64), xse, xun, xun] [xwj (1000000000 : Int64), xwj (-100000000 : Int64)] _
    refine XT.lrem X217.here hx rfl (hb hby d18_36) rfl (by decide) ?_
    rw [lrem_mod]
    rw [show ((-100000000 : Int64) % (1000000000 : Int64)) = (-100000000 : Int64) from by decide]
    show Sx p e below T217 m 37 #[xvr G.a1, xvj (0 : Int64), xse, xvj (-100000000 : Int64), xse, xvj (31556889864403199 : Int64), xse, xun, xun] [xwj (-100000000 : Int64)] _
    refine XS.lstoreN X217.here hx rfl (hb hby d18_37) rfl (l' := #[xvr G.a1, xvj (0 : Int64), xse, xvj (-100000000 : Int64), xse, xvj (31556889864403199 : Int64), xse, xun, xun]) rfl ?_
    show Sx p e below T217 m 38 #[xvr G.a1, xvj (0 : Int64), xse, xvj (-100000000 : Int64), xse, xvj (31556889864403199 : Int64), xse, xun, xun] [] _
    refine y_aloadN X217 hx 39 (hb hby d18_38) rfl rfl rfl ?_
    refine st218 _ ?_
    show Sx p e below T218 m 42 #[xvr G.a1, xvj (0 : Int64), xse, xvj (-100000000 : Int64), xse, xvj (31556889864403199 : Int64), xse, xun, xun] [xwi (999999999 : Int32)] _
    refine XS.i2l X218.here hx rfl (hb hby d18_42) rfl ?_
    rw [show ((999999999 : Int32).toInt64) = (999999999 : Int64) from by decide]
    show Sx p e below T218 m 43 #[xvr G.a1, xvj (0 : Int64), xse, xvj (-100000000 : Int64), xse, xvj (31556889864403199 : Int64), xse, xun, xun] [xwj (999999999 : Int64)] _
    refine y_lloadN X218 hx 44 (hb hby d18_43) rfl rfl ?_
    refine y_ladd X218 hx 45 (hb hby d18_44) rfl ?_
    rw [show ((999999999 : Int64) + (-100000000 : Int64)) = (899999999 : Int64) from by decide]
    refine XS.lstore X218.here hx rfl (hb hby d18_45) rfl (l' := #[xvr G.a1, xvj (0 : Int64), xse, xvj (-100000000 : Int64), xse, xvj (31556889864403199 : Int64), xse, xvj (899999999 : Int64), xse]) rfl ?_
    show Sx p e below T218 m 47 #[xvr G.a1, xvj (0 : Int64), xse, xvj (-100000000 : Int64), xse, xvj (31556889864403199 : Int64), xse, xvj (899999999 : Int64), xse] [] _
    refine y_lload X218 hx 49 (hb hby d18_47) rfl rfl ?_
    refine y_lload X218 hx 51 (hb hby d18_49) rfl rfl ?_
    refine st241 _ ?_
    show Sx p e below T241 m 54 #[xvr G.a1, xvj (0 : Int64), xse, xvj (-100000000 : Int64), xse, xvj (31556889864403199 : Int64), xse, xvj (899999999 : Int64), xse] [xwr o242] _
    exact retOut X241 hx Bd.returns rfl (Or.inr (Or.inr (Or.inr (Or.inr ⟨rfl, rfl, rfl⟩)))) (hb hby d18_54) hr
  · show QrmA24 Z G  h0 n0 _ T241.heap _
    rw [e241]
    exact ⟨o242, rfl, N241, ((Keep.refl h0 []).trans K241 all0), (Nat.le_trans (Nat.le_refl _) p243), p244, p245, p246⟩
theorem d17_6 : decode jdk_2320_method_24_code 6 = .ok (.areturn, 1) := by decide +kernel
def QrmA23 (Z : State) (G : Gs)  (h0 : Heap) (n0 : Nat) (v : Option Value) (h : Heap) (L : List Loc) : Prop := ∃ (yo1 : Addr), v = some (.ref yo1) ∧ Fr n0 L ∧ Keep h0 h [] ∧ h0.size ≤ yo1 ∧ Exa Z h yo1 "java/time/Instant" ∧ Fld Z h yo1 "java/time/Instant" "nanos" "I" (.int (899999999 : Int32)) ∧ Fld Z h yo1 "java/time/Instant" "seconds" "J" (.long (31556889864403199 : Int64))
set_option maxRecDepth 65536 in
set_option maxHeartbeats 40000000 in
theorem rmA23 (l : Launch) (Z : State) (a0 : Array Value) (hw : HW a0 Z) (G : Gs) (ST : StartF Z G) (ws : List Jvm.Cond)  (h0 : Heap) (n0 : Nat) (X00 : Old Z n0 h0) :
    MetFree l (⟨"java/time/Instant", "plusNanos", "(J)Ljava/time/Instant;"⟩ : MethodName) (head1 (Jvm.Cond.code (⟨"java/time/Instant", "plusNanos", "(J)Ljava/time/Instant;"⟩ : MethodName) jdk_2320_method_24_code 3 (some (.object "java/time/Instant")) :: ws) ({ frames := 5, cells := 1, slots := 2, locals := 80 } : Room)) (fun a U => a = #[(.ref G.a1), (.long (-100000000 : Int64))] ∧ Z.Warmed39 U.vm ∧ U.heap = h0) (fun _ _ _ _ _ => True) (fun _ U o U' => ∃ v L, o = .returned v ∧ QrmA23 Z G  h0 n0 v U'.heap L ∧ FrameEnd U o U' L ({ frames := 5, cells := 1, slots := 2, locals := 80 } : Room).cells ({ frames := 5, cells := 1, slots := 2, locals := 80 } : Room).slots) := by
  refine MetFree.of_bodySF (plainFor_of_name pn_9) hisR ?_
  intro p e s m args below meth c s₁ Bd hml0 hP hK
  obtain ⟨rfl, hZ, hh⟩ := hP
  have hx := Bd.exec
  have hby := Bd.bytes
  have hml : c.maxLocals = 3 := hml0
  have hown : s.vm.findClass "java/time/Instant" = some m.cls := findClass_of_methodNamed Bd.named
  have hnm := (name_of_methodNamed Bd.named Bd.method).1
  have X0 : Stand p l e ({ frames := 5, cells := 1, slots := 2, locals := 80 } : Room) s m #[(.ref G.a1), (.long (-100000000 : Int64))] below meth c s₁ [] 0 0 := Stand.of_body Bd
  have e0 : s₁.heap = h0 := by rw [← hh, Bd.state]; rfl
  have N0 := Fr.nil n0
  have Z0 : n0 ≤ h0.size := by have q := X00.2.1; rw [X00.1] at q; exact q
  obtain ⟨TG, hTG, hT2⟩ : ∃ P : State → Prop, (∀ t, P t → Steps p.tables e below (s₁.setTop (entryFrame m #[(.ref G.a1), (.long (-100000000 : Int64))] 3)) t) ∧ (∀ t, Steps p.tables e below (s₁.setTop (entryFrame m #[(.ref G.a1), (.long (-100000000 : Int64))] 3)) t → P t) := ⟨_, fun t k => k, fun t k => k⟩
  have pre0 : ∀ t, Sx p e below s₁ m 0 #[xvr G.a1, xvj (-100000000 : Int64), xse] [] t → TG t := fun t k => hT2 t (castTop (ef_rmA23 m G.a1 (-100000000 : Int64) ) k)
  obtain ⟨cq248, q248, q248'⟩ := (ST.c5.ext X00.2).cell
  obtain ⟨_, _, ⟨T247, L247, k247, n247⟩, -, X247, ⟨Lc247, hQ247, l247, y247, z247⟩, st247⟩ := X0.privateBack hx (y := (⟨"java/time/Instant", "plus", "(JJ)Ljava/time/Instant;"⟩ : MethodName)) hown (mvT hZ (w_142 hw)) (mvT hZ (w_143 hw)) (mvT hZ (w_145 hw)) (Cond.privateMethod_at (mvP hZ (w_144 hw) (args := #[]))) (mvT hZ (w_146 hw)) (by decide) (backOf (W := 0) (rmA24 l Z a0 hw G ST []  h0 n0 X00 ) hZ (w_146 hw) (w_15 hw) (by decide) (by decide)) (g := (mkF m 3 #[xvr G.a1, xvj (-100000000 : Int64), xse] [xwj (-100000000 : Int64), xwj (0 : Int64), xwr G.a1])) rfl (by rw [hml]; rfl) (Steps.refl _) (a := G.a1) (by rw [e0]; exact q248) q248' (argsL := [(.long (0 : Int64)), (.long (-100000000 : Int64))]) (rest := []) (lenOf pd_11 rfl) rfl (by show 2 * 0 + _ ≤ _; exact Nat.le_of_eq rfl) (hb hby d17_3) (fun _ _ => ⟨rfl, e0, (by decide : 0 + 1 ≤ _), (by decide : 0 + 2 ≤ _)⟩)
  dsimp only [Pt.U, Pt.locs, Pt.cells, Pt.slots] at X247 l247 y247 z247 st247 hQ247
  subst l247 y247 z247
  obtain ⟨hp247, e247⟩ : ∃ z, T247.heap = z := ⟨_, rfl⟩
  rw [e247] at hQ247
  obtain ⟨o249, rfl, N247q, K247, p250, p251, p252, p253⟩ := hQ247
  have N247 := Fr.app N0 N247q
  obtain ⟨fs, hr, hrun, hended, hW, hsame⟩ := X247.leave (v := some (.ref o249)) (fun h => by rw [Bd.returns] at h; cases h)
  refine ⟨_, _, hTG _ (pre0 _ ?_), hrun, hended, _, _, rfl, ?_, ⟨_, rfl⟩, hW, hsame.mono (by decide) (by decide)⟩
  · refine y_aloadN X0 hx 1 (hb hby d17_0) rfl rfl rfl ?_
    refine XS.lconst X0.here hx rfl (hb hby d17_1) ?_
    show Sx p e below s₁ m 2 #[xvr G.a1, xvj (-100000000 : Int64), xse] [xwj (0 : Int64), xwr G.a1] _
    refine y_lloadN X0 hx 3 (hb hby d17_2) rfl rfl ?_
    refine st247.trans ?_
    show Sx p e below T247 m 6 #[xvr G.a1, xvj (-100000000 : Int64), xse] [xwr o249] _
    exact retOut X247 hx Bd.returns rfl (Or.inr (Or.inr (Or.inr (Or.inr ⟨rfl, rfl, rfl⟩)))) (hb hby d17_6) hr
  · show QrmA23 Z G  h0 n0 _ T247.heap _
    rw [e247]
    exact ⟨o249, rfl, N247, ((Keep.refl h0 []).trans K247 all0), (Nat.le_trans (Nat.le_refl _) p250), p251, p252, p253⟩
theorem pd_12 : parseMethodDescriptor "(J)Ljava/time/Instant;" = some ⟨[.long], some (.object "java/time/Instant")⟩ := by decide +kernel
theorem d15_73 : decode jdk_2320_method_21_code 73 = .ok (.goto 123, 3) := by decide +kernel
theorem d15_196 : decode jdk_2320_method_21_code 196 = .ok (.areturn, 1) := by decide +kernel
def QrmA21 (Z : State) (G : Gs)  (h0 : Heap) (n0 : Nat) (v : Option Value) (h : Heap) (L : List Loc) : Prop := ∃ (yo1 : Addr), v = some (.ref yo1) ∧ Fr n0 L ∧ Keep h0 h [] ∧ h0.size ≤ yo1 ∧ Exa Z h yo1 "java/time/Instant" ∧ Fld Z h yo1 "java/time/Instant" "nanos" "I" (.int (899999999 : Int32)) ∧ Fld Z h yo1 "java/time/Instant" "seconds" "J" (.long (31556889864403199 : Int64))
set_option maxRecDepth 65536 in
set_option maxHeartbeats 40000000 in
theorem rmA21 (l : Launch) (Z : State) (a0 : Array Value) (hw : HW a0 Z) (G : Gs) (ST : StartF Z G) (ws : List Jvm.Cond)  (h0 : Heap) (n0 : Nat) (X00 : Old Z n0 h0) :
    MetFree l (⟨"java/time/Instant", "plus", "(JLjava/time/temporal/TemporalUnit;)Ljava/time/Instant;"⟩ : MethodName) (head1 (Jvm.Cond.code (⟨"java/time/Instant", "plus", "(JLjava/time/temporal/TemporalUnit;)Ljava/time/Instant;"⟩ : MethodName) jdk_2320_method_21_code 5 (some (.object "java/time/Instant")) :: ws) ({ frames := 6, cells := 1, slots := 2, locals := 94 } : Room)) (fun a U => a = #[(.ref G.a1), (.long (-100000000 : Int64)), (.ref G.a4)] ∧ Z.Warmed39 U.vm ∧ U.heap = h0) (fun _ _ _ _ _ => True) (fun _ U o U' => ∃ v L, o = .returned v ∧ QrmA21 Z G  h0 n0 v U'.heap L ∧ FrameEnd U o U' L ({ frames := 6, cells := 1, slots := 2, locals := 94 } : Room).cells ({ frames := 6, cells := 1, slots := 2, locals := 94 } : Room).slots) := by
  refine MetFree.of_bodySF (plainFor_of_name pn_9) hisR ?_
  intro p e s m args below meth c s₁ Bd hml0 hP hK
  obtain ⟨rfl, hZ, hh⟩ := hP
  have hx := Bd.exec
  have hby := Bd.bytes
  have hml : c.maxLocals = 5 := hml0
  have hown : s.vm.findClass "java/time/Instant" = some m.cls := findClass_of_methodNamed Bd.named
  have hnm := (name_of_methodNamed Bd.named Bd.method).1
  have X0 : Stand p l e ({ frames := 6, cells := 1, slots := 2, locals := 94 } : Room) s m #[(.ref G.a1), (.long (-100000000 : Int64)), (.ref G.a4)] below meth c s₁ [] 0 0 := Stand.of_body Bd
  have e0 : s₁.heap = h0 := by rw [← hh, Bd.state]; rfl
  have N0 := Fr.nil n0
  have Z0 : n0 ≤ h0.size := by have q := X00.2.1; rw [X00.1] at q; exact q
  obtain ⟨TG, hTG, hT2⟩ : ∃ P : State → Prop, (∀ t, P t → Steps p.tables e below (s₁.setTop (entryFrame m #[(.ref G.a1), (.long (-100000000 : Int64)), (.ref G.a4)] 5)) t) ∧ (∀ t, Steps p.tables e below (s₁.setTop (entryFrame m #[(.ref G.a1), (.long (-100000000 : Int64)), (.ref G.a4)] 5)) t → P t) := ⟨_, fun t k => k, fun t k => k⟩
  have pre0 : ∀ t, Sx p e below s₁ m 0 #[xvr G.a1, xvj (-100000000 : Int64), xse, xvr G.a4, xun] [] t → TG t := fun t k => hT2 t (castTop (ef_rmA21 m G.a1 (-100000000 : Int64) G.a4 ) k)
  obtain ⟨T208, X208, e208, st208⟩ := instY X0 hx hZ hown (w_124 hw) e0 (Ins.self (ST.c11.ext X00.2)) (g := (mkF m 1 #[xvr G.a1, xvj (-100000000 : Int64), xse, xvr G.a4, xun] [xwr G.a4])) rfl rfl (hb hby d15_1)
  obtain ⟨T209, X209, e209, st209⟩ := castY X208 hx hZ hown (w_124 hw) e208 (Ins.self (ST.c11.ext X00.2)) (g := (mkF m 8 #[xvr G.a1, xvj (-100000000 : Int64), xse, xvr G.a4, xun] [xwr G.a4])) rfl rfl (hb hby d15_8)
  obtain ⟨T210, X210, e210, st210⟩ := getS2 X209 hx hZ hown (host := "") (Or.inl (w_126 hw)) Via.refl e209 (ST.c13.ext X00.2) (g := (mkF m 13 #[xvr G.a1, xvj (-100000000 : Int64), xse, xvr G.a4, xvr G.a4] [])) rfl (hb hby d15_13)
  obtain ⟨cq213, kq213, q213a, q213b, q213c⟩ := isOf hZ e210 (ST.c11.ext X00.2)
  obtain ⟨_, _, ⟨T212, L212, k212, n212⟩, -, X212, ⟨Lc212, hQ212, l212, y212, z212⟩, st212⟩ := X210.virtualBackUp hx (x := (⟨"java/time/temporal/ChronoUnit", "ordinal", "()I"⟩ : MethodName)) (y := (⟨"java/lang/Enum", "ordinal", "()I"⟩ : MethodName)) (owner := "java/lang/Enum") hown (mvT hZ (w_128 hw)) (mvT hZ (w_129 hw)) (mvT hZ (w_130 hw)) (by decide) (mvT hZ (w_132 hw)) (mvT hZ (w_131 hw)) (backOf (W := 1) (rmA22 l Z a0 hw G ST []  h0 n0 X00 ) hZ (w_134 hw) (w_133 hw) (by decide) (by decide)) q213a q213c (g := (mkF m 18 #[xvr G.a1, xvj (-100000000 : Int64), xse, xvr G.a4, xvr G.a4] [xwr G.a4, xwr G.a5])) rfl (by rw [hml]; rfl) (Steps.refl _) (argsL := []) (rest := [(.ref G.a5)]) (lenOf pd_8 rfl) rfl (by show 2 * 0 + _ ≤ _; exact Nat.le_of_eq rfl) (hb hby d15_18) (fun _ _ => ⟨rfl, e210, (by decide : 0 + 0 ≤ _), (by decide : 0 + 0 ≤ _)⟩)
  dsimp only [Pt.U, Pt.locs, Pt.cells, Pt.slots] at X212 l212 y212 z212 st212 hQ212
  subst l212 y212 z212
  obtain ⟨rfl, N212q, e212⟩ := hQ212
  have N212 := Fr.app N0 N212q
  obtain ⟨cl214, Ar214, q214, S214, M214, H214, G214⟩ := id (ST.c14.ext X00.2)
  have in214 : ¬ ((0 : Int32) < 0 ∨ cl214.slots.size ≤ ((0 : Int32)).toNatClampNeg) := inb_of S214 ⟨by decide, by decide⟩
  obtain ⟨cq255, kq255, q255a, q255b, q255c⟩ := isOf hZ e212 (ST.c5.ext X00.2)
  obtain ⟨_, _, ⟨T254, L254, k254, n254⟩, -, X254, ⟨Lc254, hQ254, l254, y254, z254⟩, st254⟩ := X212.virtualBack hx (y := (⟨"java/time/Instant", "plusNanos", "(J)Ljava/time/Instant;"⟩ : MethodName)) (z := (⟨"java/time/Instant", "plusNanos", "(J)Ljava/time/Instant;"⟩ : MethodName)) hown (mvT hZ (w_137 hw)) (mvT hZ (w_138 hw)) (notFace_of_selects (args := #[]) (mvT hZ (w_140 hw))) (mvT hZ (w_140 hw)) (mvT hZ (w_139 hw)) (by decide) (backOf (W := 0) (rmA23 l Z a0 hw G ST []  h0 n0 X00 ) hZ (w_141 hw) (w_15 hw) (by decide) (by decide)) q255a q255c (g := (mkF m 70 #[xvr G.a1, xvj (-100000000 : Int64), xse, xvr G.a4, xvr G.a4] [xwj (-100000000 : Int64), xwr G.a1])) rfl (by rw [hml]; rfl) (Steps.refl _) (argsL := [(.long (-100000000 : Int64))]) (rest := []) (lenOf pd_12 rfl) rfl (by show 2 * 0 + _ ≤ _; exact Nat.le_of_eq rfl) (hb hby d15_70) (fun _ _ => ⟨rfl, e212, (by decide : 0 + 1 ≤ _), (by decide : 0 + 2 ≤ _)⟩)
  dsimp only [Pt.U, Pt.locs, Pt.cells, Pt.slots] at X254 l254 y254 z254 st254 hQ254
  subst l254 y254 z254
  obtain ⟨hp254, e254⟩ : ∃ z, T254.heap = z := ⟨_, rfl⟩
  rw [e254] at hQ254
  obtain ⟨o256, rfl, N254q, K254, p257, p258, p259, p260⟩ := hQ254
  have N254 := Fr.app N212 N254q
  obtain ⟨fs, hr, hrun, hended, hW, hsame⟩ := X254.leave (v := some (.ref o256)) (fun h => by rw [Bd.returns] at h; cases h)
  refine ⟨_, _, hTG _ (pre0 _ ?_), hrun, hended, _, _, rfl, ?_, ⟨_, rfl⟩, hW, hsame.mono (by decide) (by decide)⟩
  · refine y_aloadN X0 hx 1 (hb hby d15_0) rfl rfl rfl ?_
    refine st208 _ ?_
    show Sx p e below T208 m 4 #[xvr G.a1, xvj (-100000000 : Int64), xse, xvr G.a4, xun] [xwi (1 : Int32)] _
    refine y_ifNo X208 hx 7 (hb hby d15_4) (XT.i0_eq_f (by decide)) rfl ?_
    refine y_aloadN X208 hx 8 (hb hby d15_7) rfl rfl rfl ?_
    refine st209 _ ?_
    show Sx p e below T209 m 11 #[xvr G.a1, xvj (-100000000 : Int64), xse, xvr G.a4, xun] [xwr G.a4] _
    refine XS.astore X209.here hx rfl (hb hby d15_11) rfl rfl (l' := #[xvr G.a1, xvj (-100000000 : Int64), xse, xvr G.a4, xvr G.a4]) rfl ?_
    show Sx p e below T209 m 13 #[xvr G.a1, xvj (-100000000 : Int64), xse, xvr G.a4, xvr G.a4] [] _
    refine st210 _ ?_
    show Sx p e below T210 m 16 #[xvr G.a1, xvj (-100000000 : Int64), xse, xvr G.a4, xvr G.a4] [xwr G.a5] _
    refine y_aload X210 hx 18 (hb hby d15_16) rfl rfl rfl ?_
    refine st212.trans ?_
    show Sx p e below T212 m 21 #[xvr G.a1, xvj (-100000000 : Int64), xse, xvr G.a4, xvr G.a4] [xwi (0 : Int32), xwr G.a5] _
    refine X212.iaload hx (j := (0 : Int32)) (v := (.int (1 : Int32))) (by rw [e212]; exact Ar214.1) (State.isArrayOf_alike hZ.alike Ar214.2.1) Ar214.2.2 in214 (Has.at H214 in214 rfl) (g := (mkF m 21 #[xvr G.a1, xvj (-100000000 : Int64), xse, xvr G.a4, xvr G.a4] [xwi (0 : Int32), xwr G.a5])) rfl rfl (hb hby d15_21) _ ?_
    show Sx p e below T212 m 22 #[xvr G.a1, xvj (-100000000 : Int64), xse, xvr G.a4, xvr G.a4] [xwi (1 : Int32)] _
    refine XS.tswIn X212.here hx rfl (pc0 := 22) (pc' := 68) rfl (hb hby d15_22) rfl (by decide) rfl (by decide) (by decide) ?_
    show Sx p e below T212 m 68 #[xvr G.a1, xvj (-100000000 : Int64), xse, xvr G.a4, xvr G.a4] [] _
    refine y_aloadN X212 hx 69 (hb hby d15_68) rfl rfl rfl ?_
    refine y_lloadN X212 hx 70 (hb hby d15_69) rfl rfl ?_
    refine st254.trans ?_
    show Sx p e below T254 m 73 #[xvr G.a1, xvj (-100000000 : Int64), xse, xvr G.a4, xvr G.a4] [xwr o256] _
    refine y_goto X254 hx 196 (hb hby d15_73) (by decide) (by decide) ?_
    show Sx p e below T254 m 196 #[xvr G.a1, xvj (-100000000 : Int64), xse, xvr G.a4, xvr G.a4] [xwr o256] _
    exact retOut X254 hx Bd.returns rfl (Or.inr (Or.inr (Or.inr (Or.inr ⟨rfl, rfl, rfl⟩)))) (hb hby d15_196) hr
  · show QrmA21 Z G  h0 n0 _ T254.heap _
    rw [e254]
    exact ⟨o256, rfl, N254, ((Keep.refl h0 []).trans K254 all0), (Nat.le_trans (Nat.le_refl _) p257), p258, p259, p260⟩
theorem pd_13 : parseMethodDescriptor "(JLjava/time/temporal/TemporalUnit;)Ljava/time/Instant;" = some ⟨[.long, (.object "java/time/temporal/TemporalUnit")], some (.object "java/time/Instant")⟩ := by decide +kernel
theorem d14_31 : decode jdk_2320_method_27_code 31 = .ok (.areturn, 1) := by decide +kernel
def QrmA20 (Z : State) (G : Gs)  (h0 : Heap) (n0 : Nat) (v : Option Value) (h : Heap) (L : List Loc) : Prop := ∃ (yo1 : Addr), v = some (.ref yo1) ∧ Fr n0 L ∧ Keep h0 h [] ∧ h0.size ≤ yo1 ∧ Exa Z h yo1 "java/time/Instant" ∧ Fld Z h yo1 "java/time/Instant" "nanos" "I" (.int (899999999 : Int32)) ∧ Fld Z h yo1 "java/time/Instant" "seconds" "J" (.long (31556889864403199 : Int64))
set_option maxRecDepth 65536 in
set_option maxHeartbeats 40000000 in
theorem rmA20 (l : Launch) (Z : State) (a0 : Array Value) (hw : HW a0 Z) (G : Gs) (ST : StartF Z G) (ws : List Jvm.Cond)  (h0 : Heap) (n0 : Nat) (X00 : Old Z n0 h0) :
    MetFree l (⟨"java/time/Instant", "minus", "(JLjava/time/temporal/TemporalUnit;)Ljava/time/Instant;"⟩ : MethodName) (head1 (Jvm.Cond.code (⟨"java/time/Instant", "minus", "(JLjava/time/temporal/TemporalUnit;)Ljava/time/Instant;"⟩ : MethodName) jdk_2320_method_27_code 4 (some (.object "java/time/Instant")) :: ws) ({ frames := 7, cells := 1, slots := 2, locals := 110 } : Room)) (fun a U => a = #[(.ref G.a1), (.long (100000000 : Int64)), (.ref G.a4)] ∧ Z.Warmed39 U.vm ∧ U.heap = h0) (fun _ _ _ _ _ => True) (fun _ U o U' => ∃ v L, o = .returned v ∧ QrmA20 Z G  h0 n0 v U'.heap L ∧ FrameEnd U o U' L ({ frames := 7, cells := 1, slots := 2, locals := 110 } : Room).cells ({ frames := 7, cells := 1, slots := 2, locals := 110 } : Room).slots) := by
  refine MetFree.of_bodySF (plainFor_of_name pn_9) hisR ?_
  intro p e s m args below meth c s₁ Bd hml0 hP hK
  obtain ⟨rfl, hZ, hh⟩ := hP
  have hx := Bd.exec
  have hby := Bd.bytes
  have hml : c.maxLocals = 4 := hml0
  have hown : s.vm.findClass "java/time/Instant" = some m.cls := findClass_of_methodNamed Bd.named
  have hnm := (name_of_methodNamed Bd.named Bd.method).1
  have X0 : Stand p l e ({ frames := 7, cells := 1, slots := 2, locals := 110 } : Room) s m #[(.ref G.a1), (.long (100000000 : Int64)), (.ref G.a4)] below meth c s₁ [] 0 0 := Stand.of_body Bd
  have e0 : s₁.heap = h0 := by rw [← hh, Bd.state]; rfl
  have N0 := Fr.nil n0
  have Z0 : n0 ≤ h0.size := by have q := X00.2.1; rw [X00.1] at q; exact q
  obtain ⟨TG, hTG, hT2⟩ : ∃ P : State → Prop, (∀ t, P t → Steps p.tables e below (s₁.setTop (entryFrame m #[(.ref G.a1), (.long (100000000 : Int64)), (.ref G.a4)] 4)) t) ∧ (∀ t, Steps p.tables e below (s₁.setTop (entryFrame m #[(.ref G.a1), (.long (100000000 : Int64)), (.ref G.a4)] 4)) t → P t) := ⟨_, fun t k => k, fun t k => k⟩
  have pre0 : ∀ t, Sx p e below s₁ m 0 #[xvr G.a1, xvj (100000000 : Int64), xse, xvr G.a4] [] t → TG t := fun t k => hT2 t (castTop (ef_rmA20 m G.a1 (100000000 : Int64) G.a4 ) k)
  obtain ⟨cq262, kq262, q262a, q262b, q262c⟩ := isOf hZ e0 (ST.c5.ext X00.2)
  obtain ⟨_, _, ⟨T261, L261, k261, n261⟩, -, X261, ⟨Lc261, hQ261, l261, y261, z261⟩, st261⟩ := X0.virtualBack hx (y := (⟨"java/time/Instant", "plus", "(JLjava/time/temporal/TemporalUnit;)Ljava/time/Instant;"⟩ : MethodName)) (z := (⟨"java/time/Instant", "plus", "(JLjava/time/temporal/TemporalUnit;)Ljava/time/Instant;"⟩ : MethodName)) hown (mvT hZ (w_119 hw)) (mvT hZ (w_120 hw)) (notFace_of_selects (args := #[]) (mvT hZ (w_122 hw))) (mvT hZ (w_122 hw)) (mvT hZ (w_121 hw)) (by decide) (backOf (W := 0) (rmA21 l Z a0 hw G ST []  h0 n0 X00 ) hZ (w_123 hw) (w_15 hw) (by decide) (by decide)) q262a q262c (g := (mkF m 28 #[xvr G.a1, xvj (100000000 : Int64), xse, xvr G.a4] [xwr G.a4, xwj (-100000000 : Int64), xwr G.a1])) rfl (by rw [hml]; rfl) (Steps.refl _) (argsL := [(.long (-100000000 : Int64)), (.ref G.a4)]) (rest := []) (lenOf pd_13 rfl) rfl (by show 2 * 0 + _ ≤ _; exact Nat.le_of_eq rfl) (hb hby d14_28) (fun _ _ => ⟨rfl, e0, (by decide : 0 + 1 ≤ _), (by decide : 0 + 2 ≤ _)⟩)
  dsimp only [Pt.U, Pt.locs, Pt.cells, Pt.slots] at X261 l261 y261 z261 st261 hQ261
  subst l261 y261 z261
  obtain ⟨hp261, e261⟩ : ∃ z, T261.heap = z := ⟨_, rfl⟩
  rw [e261] at hQ261
  obtain ⟨o263, rfl, N261q, K261, p264, p265, p266, p267⟩ := hQ261
  have N261 := Fr.app N0 N261q
  obtain ⟨fs, hr, hrun, hended, hW, hsame⟩ := X261.leave (v := some (.ref o263)) (fun h => by rw [Bd.returns] at h; cases h)
  refine ⟨_, _, hTG _ (pre0 _ ?_), hrun, hended, _, _, rfl, ?_, ⟨_, rfl⟩, hW, hsame.mono (by decide) (by decide)⟩
  · refine y_lloadN X0 hx 1 (hb hby d14_0) rfl rfl ?_
    refine X0.ldc2Long hx hown (mvT hZ (w_118 hw)) (g := (mkF m 1 #[xvr G.a1, xvj (100000000 : Int64), xse, xvr G.a4] [xwj (100000000 : Int64)])) rfl (hb hby d14_1) _ ?_
    show Sx p e below s₁ m 4 #[xvr G.a1, xvj (100000000 : Int64), xse, xvr G.a4] [xwj (-9223372036854775808 : Int64), xwj (100000000 : Int64)] _
    refine XT.lcmp X0.here hx rfl (hb hby d14_4) rfl ?_
    show Sx p e below s₁ m 5 #[xvr G.a1, xvj (100000000 : Int64), xse, xvr G.a4] [(.int (XT.cmpL (100000000 : Int64) (-9223372036854775808 : Int64)))] _
    refine y_ifYes X0 hx 24 (hb hby d14_5) (XT.ll_ne_t (by decide)) (by decide) (by decide) ?_
    refine y_aloadN X0 hx 25 (hb hby d14_24) rfl rfl rfl ?_
    refine y_lloadN X0 hx 26 (hb hby d14_25) rfl rfl ?_
    refine XS.lneg X0.here hx rfl (hb hby d14_26) rfl ?_
    rw [show (-(100000000 : Int64)) = (-100000000 : Int64) from by decide]
    show Sx p e below s₁ m 27 #[xvr G.a1, xvj (100000000 : Int64), xse, xvr G.a4] [xwj (-100000000 : Int64), xwr G.a1] _
    refine y_aloadN X0 hx 28 (hb hby d14_27) rfl rfl rfl ?_
    refine st261.trans ?_
    show Sx p e below T261 m 31 #[xvr G.a1, xvj (100000000 : Int64), xse, xvr G.a4] [xwr o263] _
    exact retOut X261 hx Bd.returns rfl (Or.inr (Or.inr (Or.inr (Or.inr ⟨rfl, rfl, rfl⟩)))) (hb hby d14_31) hr
  · show QrmA20 Z G  h0 n0 _ T261.heap _
    rw [e261]
    exact ⟨o263, rfl, N261, ((Keep.refl h0 []).trans K261 all0), (Nat.le_trans (Nat.le_refl _) p264), p265, p266, p267⟩
theorem d13_6 : decode jdk_2320_method_51_code 6 = .ok (.areturn, 1) := by decide +kernel
def QrmA19 (Z : State) (G : Gs)  (h0 : Heap) (n0 : Nat) (v : Option Value) (h : Heap) (L : List Loc) : Prop := ∃ (yo1 : Addr), v = some (.ref yo1) ∧ Fr n0 L ∧ Keep h0 h [] ∧ h0.size ≤ yo1 ∧ Exa Z h yo1 "java/time/Instant" ∧ Fld Z h yo1 "java/time/Instant" "nanos" "I" (.int (899999999 : Int32)) ∧ Fld Z h yo1 "java/time/Instant" "seconds" "J" (.long (31556889864403199 : Int64))
set_option maxRecDepth 65536 in
set_option maxHeartbeats 40000000 in
theorem rmA19 (l : Launch) (Z : State) (a0 : Array Value) (hw : HW a0 Z) (G : Gs) (ST : StartF Z G) (ws : List Jvm.Cond)  (h0 : Heap) (n0 : Nat) (X00 : Old Z n0 h0) :
    MetFree l (⟨"java/time/Instant", "minus", "(JLjava/time/temporal/TemporalUnit;)Ljava/time/temporal/Temporal;"⟩ : MethodName) (head1 (Jvm.Cond.code (⟨"java/time/Instant", "minus", "(JLjava/time/temporal/TemporalUnit;)Ljava/time/temporal/Temporal;"⟩ : MethodName) jdk_2320_method_51_code 4 (some (.object "java/time/temporal/Temporal")) :: ws) ({ frames := 8, cells := 1, slots := 2, locals := 125 } : Room)) (fun a U => a = #[(.ref G.a1), (.long (100000000 : Int64)), (.ref G.a4)] ∧ Z.Warmed39 U.vm ∧ U.heap = h0) (fun _ _ _ _ _ => True) (fun _ U o U' => ∃ v L, o = .returned v ∧ QrmA19 Z G  h0 n0 v U'.heap L ∧ FrameEnd U o U' L ({ frames := 8, cells := 1, slots := 2, locals := 125 } : Room).cells ({ frames := 8, cells := 1, slots := 2, locals := 125 } : Room).slots) := by
  refine MetFree.of_bodySF (plainFor_of_name pn_9) hisR ?_
  intro p e s m args below meth c s₁ Bd hml0 hP hK
  obtain ⟨rfl, hZ, hh⟩ := hP
  have hx := Bd.exec
  have hby := Bd.bytes
  have hml : c.maxLocals = 4 := hml0
  have hown : s.vm.findClass "java/time/Instant" = some m.cls := findClass_of_methodNamed Bd.named
  have hnm := (name_of_methodNamed Bd.named Bd.method).1
  have X0 : Stand p l e ({ frames := 8, cells := 1, slots := 2, locals := 125 } : Room) s m #[(.ref G.a1), (.long (100000000 : Int64)), (.ref G.a4)] below meth c s₁ [] 0 0 := Stand.of_body Bd
  have e0 : s₁.heap = h0 := by rw [← hh, Bd.state]; rfl
  have N0 := Fr.nil n0
  have Z0 : n0 ≤ h0.size := by have q := X00.2.1; rw [X00.1] at q; exact q
  obtain ⟨TG, hTG, hT2⟩ : ∃ P : State → Prop, (∀ t, P t → Steps p.tables e below (s₁.setTop (entryFrame m #[(.ref G.a1), (.long (100000000 : Int64)), (.ref G.a4)] 4)) t) ∧ (∀ t, Steps p.tables e below (s₁.setTop (entryFrame m #[(.ref G.a1), (.long (100000000 : Int64)), (.ref G.a4)] 4)) t → P t) := ⟨_, fun t k => k, fun t k => k⟩
  have pre0 : ∀ t, Sx p e below s₁ m 0 #[xvr G.a1, xvj (100000000 : Int64), xse, xvr G.a4] [] t → TG t := fun t k => hT2 t (castTop (ef_rmA19 m G.a1 (100000000 : Int64) G.a4 ) k)
  obtain ⟨cq269, kq269, q269a, q269b, q269c⟩ := isOf hZ e0 (ST.c5.ext X00.2)
  obtain ⟨_, _, ⟨T268, L268, k268, n268⟩, -, X268, ⟨Lc268, hQ268, l268, y268, z268⟩, st268⟩ := X0.virtualBack hx (y := (⟨"java/time/Instant", "minus", "(JLjava/time/temporal/TemporalUnit;)Ljava/time/Instant;"⟩ : MethodName)) (z := (⟨"java/time/Instant", "minus", "(JLjava/time/temporal/TemporalUnit;)Ljava/time/Instant;"⟩ : MethodName)) hown (mvT hZ (w_113 hw)) (mvT hZ (w_114 hw)) (notFace_of_selects (args := #[]) (mvT hZ (w_116 hw))) (mvT hZ (w_116 hw)) (mvT hZ (w_115 hw)) (by decide) (backOf (W := 0) (rmA20 l Z a0 hw G ST []  h0 n0 X00 ) hZ (w_117 hw) (w_15 hw) (by decide) (by decide)) q269a q269c (g := (mkF m 3 #[xvr G.a1, xvj (100000000 : Int64), xse, xvr G.a4] [xwr G.a4, xwj (100000000 : Int64), xwr G.a1])) rfl (by rw [hml]; rfl) (Steps.refl _) (argsL := [(.long (100000000 : Int64)), (.ref G.a4)]) (rest := []) (lenOf pd_13 rfl) rfl (by show 2 * 0 + _ ≤ _; exact Nat.le_of_eq rfl) (hb hby d13_3) (fun _ _ => ⟨rfl, e0, (by decide : 0 + 1 ≤ _), (by decide : 0 + 2 ≤ _)⟩)
  dsimp only [Pt.U, Pt.locs, Pt.cells, Pt.slots] at X268 l268 y268 z268 st268 hQ268
  subst l268 y268 z268
  obtain ⟨hp268, e268⟩ : ∃ z, T268.heap = z := ⟨_, rfl⟩
  rw [e268] at hQ268
  obtain ⟨o270, rfl, N268q, K268, p271, p272, p273, p274⟩ := hQ268
  have N268 := Fr.app N0 N268q
  obtain ⟨fs, hr, hrun, hended, hW, hsame⟩ := X268.leave (v := some (.ref o270)) (fun h => by rw [Bd.returns] at h; cases h)
  refine ⟨_, _, hTG _ (pre0 _ ?_), hrun, hended, _, _, rfl, ?_, ⟨_, rfl⟩, hW, hsame.mono (by decide) (by decide)⟩
  · refine y_aloadN X0 hx 1 (hb hby d13_0) rfl rfl rfl ?_
    refine y_lloadN X0 hx 2 (hb hby d13_1) rfl rfl ?_
    refine y_aloadN X0 hx 3 (hb hby d13_2) rfl rfl rfl ?_
    refine st268.trans ?_
    show Sx p e below T268 m 6 #[xvr G.a1, xvj (100000000 : Int64), xse, xvr G.a4] [xwr o270] _
    exact retOut X268 hx Bd.returns rfl (Or.inr (Or.inr (Or.inr (Or.inr ⟨rfl, rfl, rfl⟩)))) (hb hby d13_6) hr
  · show QrmA19 Z G  h0 n0 _ T268.heap _
    rw [e268]
    exact ⟨o270, rfl, N268, ((Keep.refl h0 []).trans K268 all0), (Nat.le_trans (Nat.le_refl _) p271), p272, p273, p274⟩
theorem pd_14 : parseMethodDescriptor "(JLjava/time/temporal/TemporalUnit;)Ljava/time/temporal/Temporal;" = some ⟨[.long, (.object "java/time/temporal/TemporalUnit")], some (.object "java/time/temporal/Temporal")⟩ := by decide +kernel
theorem d12_44 : decode jdk_2316_method_52_code 44 = .ok (.astore_n 1, 1) := by decide +kernel
theorem d12_45 : decode jdk_2316_method_52_code 45 = .ok (.aload_n 1, 1) := by decide +kernel
theorem d12_46 : decode jdk_2316_method_52_code 46 = .ok (.areturn, 1) := by decide +kernel
def QrmA18 (Z : State) (G : Gs)  (h0 : Heap) (n0 : Nat) (v : Option Value) (h : Heap) (L : List Loc) : Prop := ∃ (yo1 : Addr), v = some (.ref yo1) ∧ Fr n0 L ∧ Keep h0 h [] ∧ h0.size ≤ yo1 ∧ Exa Z h yo1 "java/time/Instant" ∧ Fld Z h yo1 "java/time/Instant" "nanos" "I" (.int (899999999 : Int32)) ∧ Fld Z h yo1 "java/time/Instant" "seconds" "J" (.long (31556889864403199 : Int64))
set_option maxRecDepth 65536 in
set_option maxHeartbeats 40000000 in
theorem rmA18 (l : Launch) (Z : State) (a0 : Array Value) (hw : HW a0 Z) (G : Gs) (ST : StartF Z G) (ws : List Jvm.Cond)  (h0 : Heap) (n0 : Nat) (X00 : Old Z n0 h0) :
    MetFree l (⟨"java/time/Duration", "subtractFrom", "(Ljava/time/temporal/Temporal;)Ljava/time/temporal/Temporal;"⟩ : MethodName) (head1 (Jvm.Cond.code (⟨"java/time/Duration", "subtractFrom", "(Ljava/time/temporal/Temporal;)Ljava/time/temporal/Temporal;"⟩ : MethodName) jdk_2316_method_52_code 2 (some (.object "java/time/temporal/Temporal")) :: ws) ({ frames := 9, cells := 1, slots := 2, locals := 140 } : Room)) (fun a U => a = #[(.ref G.a7), (.ref G.a1)] ∧ Z.Warmed39 U.vm ∧ U.heap = h0) (fun _ _ _ _ _ => True) (fun _ U o U' => ∃ v L, o = .returned v ∧ QrmA18 Z G  h0 n0 v U'.heap L ∧ FrameEnd U o U' L ({ frames := 9, cells := 1, slots := 2, locals := 140 } : Room).cells ({ frames := 9, cells := 1, slots := 2, locals := 140 } : Room).slots) := by
  refine MetFree.of_bodySF (plainFor_of_name pn_0) hisR ?_
  intro p e s m args below meth c s₁ Bd hml0 hP hK
  obtain ⟨rfl, hZ, hh⟩ := hP
  have hx := Bd.exec
  have hby := Bd.bytes
  have hml : c.maxLocals = 2 := hml0
  have hown : s.vm.findClass "java/time/Duration" = some m.cls := findClass_of_methodNamed Bd.named
  have hnm := (name_of_methodNamed Bd.named Bd.method).1
  have X0 : Stand p l e ({ frames := 9, cells := 1, slots := 2, locals := 140 } : Room) s m #[(.ref G.a7), (.ref G.a1)] below meth c s₁ [] 0 0 := Stand.of_body Bd
  have e0 : s₁.heap = h0 := by rw [← hh, Bd.state]; rfl
  have N0 := Fr.nil n0
  have Z0 : n0 ≤ h0.size := by have q := X00.2.1; rw [X00.1] at q; exact q
  obtain ⟨TG, hTG, hT2⟩ : ∃ P : State → Prop, (∀ t, P t → Steps p.tables e below (s₁.setTop (entryFrame m #[(.ref G.a7), (.ref G.a1)] 2)) t) ∧ (∀ t, Steps p.tables e below (s₁.setTop (entryFrame m #[(.ref G.a7), (.ref G.a1)] 2)) t → P t) := ⟨_, fun t k => k, fun t k => k⟩
  have pre0 : ∀ t, Sx p e below s₁ m 0 #[xvr G.a7, xvr G.a1] [] t → TG t := fun t k => hT2 t (castTop (ef_rmA18 m G.a7 G.a1 ) k)
  obtain ⟨T204, X204, e204, st204⟩ := getF X0 hx hZ hown (host := "") (Or.inl (w_98 hw)) Via.refl e0 (ST.c17.ext X00.2) (g := (mkF m 1 #[xvr G.a7, xvr G.a1] [xwr G.a7])) rfl rfl (hb hby d12_1)
  obtain ⟨T205, X205, e205, st205⟩ := getF X204 hx hZ hown (host := "") (Or.inl (w_100 hw)) Via.refl e204 (ST.c18.ext X00.2) (g := (mkF m 24 #[xvr G.a7, xvr G.a1] [xwr G.a7])) rfl rfl (hb hby d12_24)
  obtain ⟨T206, X206, e206, st206⟩ := getF X205 hx hZ hown (host := "") (Or.inl (w_100 hw)) Via.refl e205 (ST.c18.ext X00.2) (g := (mkF m 32 #[xvr G.a7, xvr G.a1] [xwr G.a7, xwr G.a1])) rfl rfl (hb hby d12_32)
  obtain ⟨T207, X207, e207, st207⟩ := getS2 X206 hx hZ hown (host := "") (Or.inl (w_102 hw)) Via.refl e206 (ST.c10.ext X00.2) (g := (mkF m 36 #[xvr G.a7, xvr G.a1] [xwj (100000000 : Int64), xwr G.a1])) rfl (hb hby d12_36)
  obtain ⟨cq276, kq276, q276a, q276b, q276c⟩ := isOf hZ e207 (ST.c5.ext X00.2)
  obtain ⟨_, _, ⟨T275, L275, k275, n275⟩, -, X275, ⟨Lc275, hQ275, l275, y275, z275⟩, st275⟩ := X207.interfaceBack hx (xi := (⟨"java/time/temporal/Temporal", "minus", "(JLjava/time/temporal/TemporalUnit;)Ljava/time/temporal/Temporal;"⟩ : MethodName)) (y := (⟨"java/time/Instant", "minus", "(JLjava/time/temporal/TemporalUnit;)Ljava/time/temporal/Temporal;"⟩ : MethodName)) hown (mvT hZ (w_104 hw)) (mvT hZ (w_105 hw)) (mvT hZ (w_106 hw)) (mvT hZ (w_107 hw)) (mvT hZ (w_108 hw)) (mvT hZ (w_109 hw)) (mvT hZ (w_110 hw)) (mvT hZ (w_111 hw)) (by decide) (backOf (W := 0) (rmA19 l Z a0 hw G ST []  h0 n0 X00 ) hZ (w_112 hw) (w_15 hw) (by decide) (by decide)) q276a q276b q276c (g := (mkF m 39 #[xvr G.a7, xvr G.a1] [xwr G.a4, xwj (100000000 : Int64), xwr G.a1])) rfl (by rw [hml]; rfl) (Steps.refl _) (argsL := [(.long (100000000 : Int64)), (.ref G.a4)]) (rest := []) (lenOf pd_14 rfl) rfl (by show 2 * 0 + _ ≤ _; exact Nat.le_of_eq rfl) (hb hby d12_39) (fun _ _ => ⟨rfl, e207, (by decide : 0 + 1 ≤ _), (by decide : 0 + 2 ≤ _)⟩)
  dsimp only [Pt.U, Pt.locs, Pt.cells, Pt.slots] at X275 l275 y275 z275 st275 hQ275
  subst l275 y275 z275
  obtain ⟨hp275, e275⟩ : ∃ z, T275.heap = z := ⟨_, rfl⟩
  rw [e275] at hQ275
  obtain ⟨o277, rfl, N275q, K275, p278, p279, p280, p281⟩ := hQ275
  have N275 := Fr.app N0 N275q
  obtain ⟨fs, hr, hrun, hended, hW, hsame⟩ := X275.leave (v := some (.ref o277)) (fun h => by rw [Bd.returns] at h; cases h)
  refine ⟨_, _, hTG _ (pre0 _ ?_), hrun, hended, _, _, rfl, ?_, ⟨_, rfl⟩, hW, hsame.mono (by decide) (by decide)⟩
  · refine y_aloadN X0 hx 1 (hb hby d12_0) rfl rfl rfl ?_
    refine st204 _ ?_
    show Sx p e below T204 m 4 #[xvr G.a7, xvr G.a1] [xwj (0 : Int64)] _
    refine XS.lconst X204.here hx rfl (hb hby d12_4) ?_
    show Sx p e below T204 m 5 #[xvr G.a7, xvr G.a1] [xwj (0 : Int64), xwj (0 : Int64)] _
    refine XT.lcmp X204.here hx rfl (hb hby d12_5) rfl ?_
    show Sx p e below T204 m 6 #[xvr G.a7, xvr G.a1] [(.int (XT.cmpL (0 : Int64) (0 : Int64)))] _
    refine y_ifYes X204 hx 23 (hb hby d12_6) (XT.ll_eq_t (by decide)) (by decide) (by decide) ?_
    refine y_aloadN X204 hx 24 (hb hby d12_23) rfl rfl rfl ?_
    refine st205 _ ?_
    show Sx p e below T205 m 27 #[xvr G.a7, xvr G.a1] [xwi (100000000 : Int32)] _
    refine y_ifNo X205 hx 30 (hb hby d12_27) (XT.i0_eq_f (by decide)) rfl ?_
    refine y_aloadN X205 hx 31 (hb hby d12_30) rfl rfl rfl ?_
    refine y_aloadN X205 hx 32 (hb hby d12_31) rfl rfl rfl ?_
    refine st206 _ ?_
    show Sx p e below T206 m 35 #[xvr G.a7, xvr G.a1] [xwi (100000000 : Int32), xwr G.a1] _
    refine XS.i2l X206.here hx rfl (hb hby d12_35) rfl ?_
    rw [show ((100000000 : Int32).toInt64) = (100000000 : Int64) from by decide]
    show Sx p e below T206 m 36 #[xvr G.a7, xvr G.a1] [xwj (100000000 : Int64), xwr G.a1] _
    refine st207 _ ?_
    show Sx p e below T207 m 39 #[xvr G.a7, xvr G.a1] [xwr G.a4, xwj (100000000 : Int64), xwr G.a1] _
    refine st275.trans ?_
    show Sx p e below T275 m 44 #[xvr G.a7, xvr G.a1] [xwr o277] _
    refine XS.astoreN X275.here hx rfl (hb hby d12_44) rfl rfl (l' := #[xvr G.a7, xvr o277]) rfl ?_
    show Sx p e below T275 m 45 #[xvr G.a7, xvr o277] [] _
    refine y_aloadN X275 hx 46 (hb hby d12_45) rfl rfl rfl ?_
    show Sx p e below T275 m 46 #[xvr G.a7, xvr o277] [xwr o277] _
    exact retOut X275 hx Bd.returns rfl (Or.inr (Or.inr (Or.inr (Or.inr ⟨rfl, rfl, rfl⟩)))) (hb hby d12_46) hr
  · show QrmA18 Z G  h0 n0 _ T275.heap _
    rw [e275]
    exact ⟨o277, rfl, N275, ((Keep.refl h0 []).trans K275 all0), (Nat.le_trans (Nat.le_refl _) p278), p279, p280, p281⟩
theorem pd_15 : parseMethodDescriptor "(Ljava/time/temporal/Temporal;)Ljava/time/temporal/Temporal;" = some ⟨[(.object "java/time/temporal/Temporal")], some (.object "java/time/temporal/Temporal")⟩ := by decide +kernel
theorem d11_7 : decode jdk_2320_method_26_code 7 = .ok (.checkcast 21, 3) := by decide +kernel
theorem d11_10 : decode jdk_2320_method_26_code 10 = .ok (.areturn, 1) := by decide +kernel
def QrmA17 (Z : State) (G : Gs)  (h0 : Heap) (n0 : Nat) (v : Option Value) (h : Heap) (L : List Loc) : Prop := ∃ (yo1 : Addr), v = some (.ref yo1) ∧ Fr n0 L ∧ Keep h0 h [] ∧ h0.size ≤ yo1 ∧ Exa Z h yo1 "java/time/Instant" ∧ Fld Z h yo1 "java/time/Instant" "nanos" "I" (.int (899999999 : Int32)) ∧ Fld Z h yo1 "java/time/Instant" "seconds" "J" (.long (31556889864403199 : Int64))
set_option maxRecDepth 65536 in
set_option maxHeartbeats 40000000 in
theorem rmA17 (l : Launch) (Z : State) (a0 : Array Value) (hw : HW a0 Z) (G : Gs) (ST : StartF Z G) (ws : List Jvm.Cond)  (h0 : Heap) (n0 : Nat) (X00 : Old Z n0 h0) :
    MetFree l (⟨"java/time/Instant", "minus", "(Ljava/time/temporal/TemporalAmount;)Ljava/time/Instant;"⟩ : MethodName) (head1 (Jvm.Cond.code (⟨"java/time/Instant", "minus", "(Ljava/time/temporal/TemporalAmount;)Ljava/time/Instant;"⟩ : MethodName) jdk_2320_method_26_code 2 (some (.object "java/time/Instant")) :: ws) ({ frames := 10, cells := 1, slots := 2, locals := 153 } : Room)) (fun a U => a = #[(.ref G.a1), (.ref G.a7)] ∧ Z.Warmed39 U.vm ∧ U.heap = h0) (fun _ _ _ _ _ => True) (fun _ U o U' => ∃ v L, o = .returned v ∧ QrmA17 Z G  h0 n0 v U'.heap L ∧ FrameEnd U o U' L ({ frames := 10, cells := 1, slots := 2, locals := 153 } : Room).cells ({ frames := 10, cells := 1, slots := 2, locals := 153 } : Room).slots) := by
  refine MetFree.of_bodySF (plainFor_of_name pn_9) hisR ?_
  intro p e s m args below meth c s₁ Bd hml0 hP hK
  obtain ⟨rfl, hZ, hh⟩ := hP
  have hx := Bd.exec
  have hby := Bd.bytes
  have hml : c.maxLocals = 2 := hml0
  have hown : s.vm.findClass "java/time/Instant" = some m.cls := findClass_of_methodNamed Bd.named
  have hnm := (name_of_methodNamed Bd.named Bd.method).1
  have X0 : Stand p l e ({ frames := 10, cells := 1, slots := 2, locals := 153 } : Room) s m #[(.ref G.a1), (.ref G.a7)] below meth c s₁ [] 0 0 := Stand.of_body Bd
  have e0 : s₁.heap = h0 := by rw [← hh, Bd.state]; rfl
  have N0 := Fr.nil n0
  have Z0 : n0 ≤ h0.size := by have q := X00.2.1; rw [X00.1] at q; exact q
  obtain ⟨TG, hTG, hT2⟩ : ∃ P : State → Prop, (∀ t, P t → Steps p.tables e below (s₁.setTop (entryFrame m #[(.ref G.a1), (.ref G.a7)] 2)) t) ∧ (∀ t, Steps p.tables e below (s₁.setTop (entryFrame m #[(.ref G.a1), (.ref G.a7)] 2)) t → P t) := ⟨_, fun t k => k, fun t k => k⟩
  have pre0 : ∀ t, Sx p e below s₁ m 0 #[xvr G.a1, xvr G.a7] [] t → TG t := fun t k => hT2 t (castTop (ef_rmA17 m G.a1 G.a7 ) k)
  obtain ⟨cq283, kq283, q283a, q283b, q283c⟩ := isOf hZ e0 (ST.c16.ext X00.2)
  obtain ⟨_, _, ⟨T282, L282, k282, n282⟩, -, X282, ⟨Lc282, hQ282, l282, y282, z282⟩, st282⟩ := X0.interfaceBack hx (xi := (⟨"java/time/temporal/TemporalAmount", "subtractFrom", "(Ljava/time/temporal/Temporal;)Ljava/time/temporal/Temporal;"⟩ : MethodName)) (y := (⟨"java/time/Duration", "subtractFrom", "(Ljava/time/temporal/Temporal;)Ljava/time/temporal/Temporal;"⟩ : MethodName)) hown (mvT hZ (w_88 hw)) (mvT hZ (w_89 hw)) (mvT hZ (w_90 hw)) (mvT hZ (w_91 hw)) (mvT hZ (w_92 hw)) (mvT hZ (w_93 hw)) (mvT hZ (w_94 hw)) (mvT hZ (w_95 hw)) (by decide) (backOf (W := 0) (rmA18 l Z a0 hw G ST []  h0 n0 X00 ) hZ (w_97 hw) (w_96 hw) (by decide) (by decide)) q283a q283b q283c (g := (mkF m 2 #[xvr G.a1, xvr G.a7] [xwr G.a1, xwr G.a7])) rfl (by rw [hml]; rfl) (Steps.refl _) (argsL := [(.ref G.a1)]) (rest := []) (lenOf pd_15 rfl) rfl (by show 2 * 0 + _ ≤ _; exact Nat.le_of_eq rfl) (hb hby d11_2) (fun _ _ => ⟨rfl, e0, (by decide : 0 + 1 ≤ _), (by decide : 0 + 2 ≤ _)⟩)
  dsimp only [Pt.U, Pt.locs, Pt.cells, Pt.slots] at X282 l282 y282 z282 st282 hQ282
  subst l282 y282 z282
  obtain ⟨hp282, e282⟩ : ∃ z, T282.heap = z := ⟨_, rfl⟩
  rw [e282] at hQ282
  obtain ⟨o284, rfl, N282q, K282, p285, p286, p287, p288⟩ := hQ282
  have N282 := Fr.app N0 N282q
  obtain ⟨T289, X289, e289, st289⟩ := castY X282 hx hZ hown (w_170 hw) e282 (Ins.self p286) (g := (mkF m 7 #[xvr G.a1, xvr G.a7] [xwr o284])) rfl rfl (hb hby d11_7)
  obtain ⟨fs, hr, hrun, hended, hW, hsame⟩ := X289.leave (v := some (.ref o284)) (fun h => by rw [Bd.returns] at h; cases h)
  refine ⟨_, _, hTG _ (pre0 _ ?_), hrun, hended, _, _, rfl, ?_, ⟨_, rfl⟩, hW, hsame.mono (by decide) (by decide)⟩
  · refine y_aloadN X0 hx 1 (hb hby d11_0) rfl rfl rfl ?_
    refine y_aloadN X0 hx 2 (hb hby d11_1) rfl rfl rfl ?_
    refine st282.trans ?_
    show Sx p e below T282 m 7 #[xvr G.a1, xvr G.a7] [xwr o284] _
    refine st289 _ ?_
    show Sx p e below T289 m 10 #[xvr G.a1, xvr G.a7] [xwr o284] _
    exact retOut X289 hx Bd.returns rfl (Or.inr (Or.inr (Or.inr (Or.inr ⟨rfl, rfl, rfl⟩)))) (hb hby d11_10) hr
  · show QrmA17 Z G  h0 n0 _ T289.heap _
    rw [e289]
    exact ⟨o284, rfl, N282, ((Keep.refl h0 []).trans K282 all0), (Nat.le_trans (Nat.le_refl _) p285), p286, p287, p288⟩
theorem pd_16 : parseMethodDescriptor "(Ljava/time/temporal/TemporalAmount;)Ljava/time/Instant;" = some ⟨[(.object "java/time/temporal/TemporalAmount")], some (.object "java/time/Instant")⟩ := by decide +kernel
theorem d9_27 : decode prog_14_method_3_code 27 = .ok (.invokestatic 53, 3) := by decide +kernel
theorem ef_rmA31 (m : MethodId) (x0 : Addr)  : entryFrame m #[(.ref x0)] 1 = mkF m 0 #[.val (.ref x0)] [] := by first | (simp [entryFrame, mkF, argsToLocals, Value.category]; done) | rfl
theorem d25_0 : decode prog_33_method_2_code 0 = .ok (.new 8, 3) := by decide +kernel
theorem d25_3 : decode prog_33_method_2_code 3 = .ok (.dup, 1) := by decide +kernel
theorem d25_4 : decode prog_33_method_2_code 4 = .ok (.aload_n 0, 1) := by decide +kernel
theorem d25_5 : decode prog_33_method_2_code 5 = .ok (.ldc2_w 19, 3) := by decide +kernel
theorem d25_8 : decode prog_33_method_2_code 8 = .ok (.invokespecial 21, 3) := by decide +kernel
theorem ef_rmA32 (m : MethodId) (x0 : Addr) (x1 : Addr) (x2 : Int64)  : entryFrame m #[(.ref x0), (.ref x1), (.long x2)] 4 = mkF m 0 #[.val (.ref x0), .val (.ref x1), .val (.long x2), .second] [] := by first | (simp [entryFrame, mkF, argsToLocals, Value.category]; done) | rfl
def QrmA32 (Z : State) (G : Gs) (xa1 : Addr) (xa2 : Addr) (h0 : Heap) (n0 : Nat) (v : Option Value) (h : Heap) (L : List Loc) : Prop := v = none ∧ Fr n0 L ∧ Keep h0 h [xa1] ∧ Exa Z h xa1 "com/example/arbiter/arbiter/store/JobStore$Position" ∧ Fld Z h xa1 "com/example/arbiter/arbiter/store/JobStore$Position" "at" "Ljava/time/Instant;" (.ref xa2) ∧ Fld Z h xa1 "com/example/arbiter/arbiter/store/JobStore$Position" "id" "J" (.long (9223372036854775807 : Int64))
set_option maxRecDepth 65536 in
set_option maxHeartbeats 40000000 in
theorem rmA32 (l : Launch) (Z : State) (a0 : Array Value) (hw : HW a0 Z) (G : Gs) (ST : StartF Z G) (ws : List Jvm.Cond) (xa1 : Addr) (xa2 : Addr) (h0 : Heap) (n0 : Nat) (X00 : Old Z n0 h0) (xE_xa1 : Exa Z h0 xa1 "com/example/arbiter/arbiter/store/JobStore$Position") (xF_xa1_at : Fld Z h0 xa1 "com/example/arbiter/arbiter/store/JobStore$Position" "at" "Ljava/time/Instant;" .null) (xF_xa1_id : Fld Z h0 xa1 "com/example/arbiter/arbiter/store/JobStore$Position" "id" "J" (.long (0 : Int64))) (xg_xa1 : n0 ≤ xa1) :
    MetFree l (⟨"com/example/arbiter/arbiter/store/JobStore$Position", "<init>", "(Ljava/time/Instant;J)V"⟩ : MethodName) (head1 (Jvm.Cond.code (⟨"com/example/arbiter/arbiter/store/JobStore$Position", "<init>", "(Ljava/time/Instant;J)V"⟩ : MethodName) prog_33_method_1_code 4 none :: ws) ({ frames := 2, cells := 0, slots := 0, locals := 24 } : Room)) (fun a U => a = #[(.ref xa1), (.ref xa2), (.long (9223372036854775807 : Int64))] ∧ Z.Warmed39 U.vm ∧ U.heap = h0) (fun _ _ _ _ _ => True) (fun _ U o U' => ∃ v L, o = .returned v ∧ QrmA32 Z G xa1 xa2 h0 n0 v U'.heap L ∧ FrameEnd U o U' L ({ frames := 2, cells := 0, slots := 0, locals := 24 } : Room).cells ({ frames := 2, cells := 0, slots := 0, locals := 24 } : Room).slots) := by
  refine MetFree.of_bodySF (plainFor_of_name pn_3) hisR ?_
  intro p e s m args below meth c s₁ Bd hml0 hP hK
  obtain ⟨rfl, hZ, hh⟩ := hP
  have hx := Bd.exec
  have hby := Bd.bytes
  have hml : c.maxLocals = 4 := hml0
  have hown : s.vm.findClass "com/example/arbiter/arbiter/store/JobStore$Position" = some m.cls := findClass_of_methodNamed Bd.named
  have hnm := (name_of_methodNamed Bd.named Bd.method).1
  have X0 : Stand p l e ({ frames := 2, cells := 0, slots := 0, locals := 24 } : Room) s m #[(.ref xa1), (.ref xa2), (.long (9223372036854775807 : Int64))] below meth c s₁ [] 0 0 := Stand.of_body Bd
  have e0 : s₁.heap = h0 := by rw [← hh, Bd.state]; rfl
  have N0 := Fr.nil n0
  have Z0 : n0 ≤ h0.size := by have q := X00.2.1; rw [X00.1] at q; exact q
  obtain ⟨TG, hTG, hT2⟩ : ∃ P : State → Prop, (∀ t, P t → Steps p.tables e below (s₁.setTop (entryFrame m #[(.ref xa1), (.ref xa2), (.long (9223372036854775807 : Int64))] 4)) t) ∧ (∀ t, Steps p.tables e below (s₁.setTop (entryFrame m #[(.ref xa1), (.ref xa2), (.long (9223372036854775807 : Int64))] 4)) t → P t) := ⟨_, fun t k => k, fun t k => k⟩
  have pre0 : ∀ t, Sx p e below s₁ m 0 #[xvr xa1, xvr xa2, xvj (9223372036854775807 : Int64), xse] [] t → TG t := fun t k => hT2 t (castTop (ef_rmA32 m xa1 xa2 (9223372036854775807 : Int64) ) k)
  obtain ⟨_, _, ⟨T298, L298, k298, n298⟩, -, X298, ⟨Lc298, hQ298, l298, y298, z298⟩, st298⟩ := X0.specialBack hx (y := (⟨"java/lang/Record", "<init>", "()V"⟩ : MethodName)) rfl hown (mvT hZ (w_19 hw)) (mvT hZ (w_20 hw)) (mvT hZ (w_23 hw)) (by decide) (backOf (W := 0) (rmA10 l Z a0 hw G ST [] xa1 h0 n0 X00 ) hZ (w_23 hw) (w_22 hw) (by decide) (by decide)) (g := (mkF m 1 #[xvr xa1, xvr xa2, xvj (9223372036854775807 : Int64), xse] [xwr xa1])) rfl (by rw [hml]; rfl) (Steps.refl _) (a := xa1) (argsL := []) (rest := []) (lenOf pd_3 rfl) rfl (by show 2 * 0 + _ ≤ _; exact Nat.le_of_eq rfl) (hb hby d3_1) (fun _ _ => ⟨rfl, e0, (by decide : 0 + 0 ≤ _), (by decide : 0 + 0 ≤ _)⟩)
  dsimp only [Pt.U, Pt.locs, Pt.cells, Pt.slots] at X298 l298 y298 z298 st298 hQ298
  subst l298 y298 z298
  obtain ⟨rfl, N298q, e298⟩ := hQ298
  have N298 := Fr.app N0 N298q
  obtain ⟨T299, h299, X299, e299, W299, st299⟩ := putF X298 hx hZ hown (host := "") (Or.inl (w_25 hw)) Via.refl e298 xF_xa1_at xE_xa1 (Or.inr ⟨(w_26 hw), rfl, hnm⟩) (w_12 hw) (ty := (.object "java/time/Instant")) (by decide) rfl rfl (g := (mkF m 6 #[xvr xa1, xvr xa2, xvj (9223372036854775807 : Int64), xse] [xwr xa2, xwr xa1])) rfl rfl (hb hby d3_6)
  have Fw299 := xF_xa1_at.same W299
  have N299 := Fr.snoc X299 N298 xg_xa1
  have f300 := (xF_xa1_id.other W299 (Or.inr (slot_ne (Or.inr (w_28 hw)) (Or.inr (w_26 hw)) (by decide) (t := .long) (t' := (.object "java/time/Instant")) (by decide) (by decide))))
  have f301 := (xE_xa1.wr W299)
  obtain ⟨T302, h302, X302, e302, W302, st302⟩ := putF X299 hx hZ hown (host := "") (Or.inl (w_27 hw)) Via.refl e299 f300 f301 (Or.inr ⟨(w_28 hw), rfl, hnm⟩) (w_12 hw) (ty := .long) (by decide) rfl rfl (g := (mkF m 11 #[xvr xa1, xvr xa2, xvj (9223372036854775807 : Int64), xse] [xwj (9223372036854775807 : Int64), xwr xa1])) rfl rfl (hb hby d3_11)
  have Fw302 := f300.same W302
  have N302 := Fr.snoc X302 N299 xg_xa1
  have f303 := (f301.wr W302)
  have f304 := (Fw299.other W302 (Or.inr (slot_ne (Or.inr (w_26 hw)) (Or.inr (w_28 hw)) (by decide) (t := (.object "java/time/Instant")) (t' := .long) (by decide) (by decide))))
  obtain ⟨fs, hr, hrun, hended, hW, hsame⟩ := X302.leave (v := none) (fun _ => rfl)
  refine ⟨_, _, hTG _ (pre0 _ ?_), hrun, hended, _, _, rfl, ?_, ⟨_, rfl⟩, hW, hsame.mono (by decide) (by decide)⟩
  · refine y_aloadN X0 hx 1 (hb hby d3_0) rfl rfl rfl ?_
    refine st298.trans ?_
    show Sx p e below T298 m 4 #[xvr xa1, xvr xa2, xvj (9223372036854775807 : Int64), xse] [] _
    refine y_aloadN X298 hx 5 (hb hby d3_4) rfl rfl rfl ?_
    refine y_aloadN X298 hx 6 (hb hby d3_5) rfl rfl rfl ?_
    refine st299 _ ?_
    show Sx p e below T299 m 9 #[xvr xa1, xvr xa2, xvj (9223372036854775807 : Int64), xse] [] _
    refine y_aloadN X299 hx 10 (hb hby d3_9) rfl rfl rfl ?_
    refine y_lloadN X299 hx 11 (hb hby d3_10) rfl rfl ?_
    refine st302 _ ?_
    show Sx p e below T302 m 14 #[xvr xa1, xvr xa2, xvj (9223372036854775807 : Int64), xse] [] _
    exact X302.returnOut hx Bd.returns (hb hby d3_14) hr
  · show QrmA32 Z G xa1 xa2 h0 n0 _ T302.heap _
    rw [e302]
    exact ⟨rfl, N302, (((Keep.refl h0 [xa1]).wr W299 (Or.inl (List.mem_of_getElem? (i := 0) rfl))).wr W302 (Or.inl (List.mem_of_getElem? (i := 0) rfl))), f303, f304, Fw302⟩
theorem d25_11 : decode prog_33_method_2_code 11 = .ok (.areturn, 1) := by decide +kernel
def QrmA31 (Z : State) (G : Gs) (xa1 : Addr) (h0 : Heap) (n0 : Nat) (v : Option Value) (h : Heap) (L : List Loc) : Prop := ∃ (yo1 : Addr), v = some (.ref yo1) ∧ Fr n0 L ∧ Keep h0 h [] ∧ h0.size ≤ yo1 ∧ Exa Z h yo1 "com/example/arbiter/arbiter/store/JobStore$Position" ∧ Fld Z h yo1 "com/example/arbiter/arbiter/store/JobStore$Position" "at" "Ljava/time/Instant;" (.ref xa1) ∧ Fld Z h yo1 "com/example/arbiter/arbiter/store/JobStore$Position" "id" "J" (.long (9223372036854775807 : Int64))
set_option maxRecDepth 65536 in
set_option maxHeartbeats 40000000 in
theorem rmA31 (l : Launch) (Z : State) (a0 : Array Value) (hw : HW a0 Z) (G : Gs) (ST : StartF Z G) (ws : List Jvm.Cond) (xa1 : Addr) (h0 : Heap) (n0 : Nat) (X00 : Old Z n0 h0) :
    MetFree l (⟨"com/example/arbiter/arbiter/store/JobStore$Position", "after", "(Ljava/time/Instant;)Lcom/example/arbiter/arbiter/store/JobStore$Position;"⟩ : MethodName) (head1 (Jvm.Cond.code (⟨"com/example/arbiter/arbiter/store/JobStore$Position", "after", "(Ljava/time/Instant;)Lcom/example/arbiter/arbiter/store/JobStore$Position;"⟩ : MethodName) prog_33_method_2_code 1 (some (.object "com/example/arbiter/arbiter/store/JobStore$Position")) :: ws) ({ frames := 3, cells := 1, slots := 2, locals := 40 } : Room)) (fun a U => a = #[(.ref xa1)] ∧ Z.Warmed39 U.vm ∧ U.heap = h0) (fun _ _ _ _ _ => True) (fun _ U o U' => ∃ v L, o = .returned v ∧ QrmA31 Z G xa1 h0 n0 v U'.heap L ∧ FrameEnd U o U' L ({ frames := 3, cells := 1, slots := 2, locals := 40 } : Room).cells ({ frames := 3, cells := 1, slots := 2, locals := 40 } : Room).slots) := by
  refine MetFree.of_bodySF (plainFor_of_name pn_3) hisR ?_
  intro p e s m args below meth c s₁ Bd hml0 hP hK
  obtain ⟨rfl, hZ, hh⟩ := hP
  have hx := Bd.exec
  have hby := Bd.bytes
  have hml : c.maxLocals = 1 := hml0
  have hown : s.vm.findClass "com/example/arbiter/arbiter/store/JobStore$Position" = some m.cls := findClass_of_methodNamed Bd.named
  have hnm := (name_of_methodNamed Bd.named Bd.method).1
  have X0 : Stand p l e ({ frames := 3, cells := 1, slots := 2, locals := 40 } : Room) s m #[(.ref xa1)] below meth c s₁ [] 0 0 := Stand.of_body Bd
  have e0 : s₁.heap = h0 := by rw [← hh, Bd.state]; rfl
  have N0 := Fr.nil n0
  have Z0 : n0 ≤ h0.size := by have q := X00.2.1; rw [X00.1] at q; exact q
  obtain ⟨TG, hTG, hT2⟩ : ∃ P : State → Prop, (∀ t, P t → Steps p.tables e below (s₁.setTop (entryFrame m #[(.ref xa1)] 1)) t) ∧ (∀ t, Steps p.tables e below (s₁.setTop (entryFrame m #[(.ref xa1)] 1)) t → P t) := ⟨_, fun t k => k, fun t k => k⟩
  have pre0 : ∀ t, Sx p e below s₁ m 0 #[xvr xa1] [] t → TG t := fun t k => hT2 t (castTop (ef_rmA31 m xa1 ) k)
  obtain ⟨T297, h297, X297, e297, E297, A297, D297, -, st297⟩ := newO X0 hx hZ hown (w_180 hw) (w_12 hw) (w_13 hw) e0 (g := (mkF m 0 #[xvr xa1] [])) rfl (hb hby d25_0) (by decide) (by decide)
  obtain ⟨b297, g297⟩ : ∃ z, z = h0.size := ⟨_, rfl⟩
  rw [← g297] at A297 D297 st297
  have Fb297_at : Fld Z h297 b297 "com/example/arbiter/arbiter/store/JobStore$Position" "at" "Ljava/time/Instant;" .null := D297 (Or.inr (w_26 hw)) (ty := (.object "java/time/Instant")) (by decide)
  have Fb297_id : Fld Z h297 b297 "com/example/arbiter/arbiter/store/JobStore$Position" "id" "J" (.long (0 : Int64)) := D297 (Or.inr (w_28 hw)) (ty := .long) (by decide)
  have Ol305 : Old Z n0 h297 := (X00.ext E297)
  obtain ⟨_, _, ⟨T306, L306, k306, n306⟩, -, X306, ⟨Lc306, hQ306, l306, y306, z306⟩, st306⟩ := X297.specialBack hx (y := (⟨"com/example/arbiter/arbiter/store/JobStore$Position", "<init>", "(Ljava/time/Instant;J)V"⟩ : MethodName)) rfl hown (mvT hZ (w_182 hw)) (mvT hZ (w_17 hw)) (mvT hZ (w_18 hw)) (by decide) (backOf (W := 1) (rmA32 l Z a0 hw G ST [] b297 xa1 h297 n0 Ol305 A297 Fb297_at Fb297_id (Nat.le_trans Z0 (Nat.le_trans (Nat.le_refl _) (Nat.le_of_eq g297.symm)))) hZ (w_18 hw) (w_13 hw) (by decide) (by decide)) (g := (mkF m 8 #[xvr xa1] [xwj (9223372036854775807 : Int64), xwr xa1, xwr b297, xwr b297])) rfl (by rw [hml]; rfl) (Steps.refl _) (a := b297) (argsL := [(.ref xa1), (.long (9223372036854775807 : Int64))]) (rest := [(.ref b297)]) (lenOf pd_5 rfl) rfl (by show 2 * 0 + _ ≤ _; exact Nat.le_of_eq rfl) (hb hby d25_8) (fun _ _ => ⟨rfl, e297, (by decide : 1 + 0 ≤ _), (by decide : 2 + 0 ≤ _)⟩)
  dsimp only [Pt.U, Pt.locs, Pt.cells, Pt.slots] at X306 l306 y306 z306 st306 hQ306
  subst l306 y306 z306
  obtain ⟨hp306, e306⟩ : ∃ z, T306.heap = z := ⟨_, rfl⟩
  rw [e306] at hQ306
  obtain ⟨rfl, N306q, K306, p307, p308, p309⟩ := hQ306
  have N306 := Fr.app N0 N306q
  obtain ⟨fs, hr, hrun, hended, hW, hsame⟩ := X306.leave (v := some (.ref b297)) (fun h => by rw [Bd.returns] at h; cases h)
  refine ⟨_, _, hTG _ (pre0 _ ?_), hrun, hended, _, _, rfl, ?_, ⟨_, rfl⟩, hW, hsame.mono (by decide) (by decide)⟩
  · refine st297 _ ?_
    show Sx p e below T297 m 3 #[xvr xa1] [xwr b297] _
    refine y_dup X297 hx 4 (hb hby d25_3) rfl rfl ?_
    refine y_aloadN X297 hx 5 (hb hby d25_4) rfl rfl rfl ?_
    refine X297.ldc2Long hx hown (mvT hZ (w_181 hw)) (g := (mkF m 5 #[xvr xa1] [xwr xa1, xwr b297, xwr b297])) rfl (hb hby d25_5) _ ?_
    show Sx p e below T297 m 8 #[xvr xa1] [xwj (9223372036854775807 : Int64), xwr xa1, xwr b297, xwr b297] _
    refine st306.trans ?_
    show Sx p e below T306 m 11 #[xvr xa1] [xwr b297] _
    exact retOut X306 hx Bd.returns rfl (Or.inr (Or.inr (Or.inr (Or.inr ⟨rfl, rfl, rfl⟩)))) (hb hby d25_11) hr
  · show QrmA31 Z G xa1 h0 n0 _ T306.heap _
    rw [e306]
    exact ⟨b297, rfl, N306, (((Keep.refl h0 []).ext E297).trans K306 (allS (Or.inr (Nat.le_trans (Nat.le_refl _) (Nat.le_of_eq g297.symm))) all0)), (Nat.le_trans (Nat.le_refl _) (Nat.le_of_eq g297.symm)), p307, p308, p309⟩
theorem pd_17 : parseMethodDescriptor "(Ljava/time/Instant;)Lcom/example/arbiter/arbiter/store/JobStore$Position;" = some ⟨[(.object "java/time/Instant")], some (.object "com/example/arbiter/arbiter/store/JobStore$Position")⟩ := by decide +kernel
theorem d9_30 : decode prog_14_method_3_code 30 = .ok (.astore 7, 2) := by decide +kernel
theorem d9_32 : decode prog_14_method_3_code 32 = .ok (.aload_n 0, 1) := by decide +kernel
theorem d9_33 : decode prog_14_method_3_code 33 = .ok (.aload_n 2, 1) := by decide +kernel
theorem d9_34 : decode prog_14_method_3_code 34 = .ok (.invokevirtual 59, 3) := by decide +kernel
theorem ef_rmA33 (m : MethodId) (x0 : Addr)  : entryFrame m #[(.ref x0)] 1 = mkF m 0 #[.val (.ref x0)] [] := by first | (simp [entryFrame, mkF, argsToLocals, Value.category]; done) | rfl
theorem d26_0 : decode prog_32_method_6_code 0 = .ok (.aload_n 0, 1) := by decide +kernel
theorem d26_1 : decode prog_32_method_6_code 1 = .ok (.getfield 13, 3) := by decide +kernel
theorem d26_4 : decode prog_32_method_6_code 4 = .ok (.areturn, 1) := by decide +kernel
def QrmA33 (Z : State) (G : Gs) (xa1 : Addr) (xa2 : Addr) (h0 : Heap) (n0 : Nat) (v : Option Value) (h : Heap) (L : List Loc) : Prop := v = some (.ref xa2) ∧ Fr n0 L ∧ h = h0
set_option maxRecDepth 65536 in
set_option maxHeartbeats 40000000 in
theorem rmA33 (l : Launch) (Z : State) (a0 : Array Value) (hw : HW a0 Z) (G : Gs) (ST : StartF Z G) (ws : List Jvm.Cond) (xa1 : Addr) (xa2 : Addr) (h0 : Heap) (n0 : Nat) (X00 : Old Z n0 h0) (xF_xa1_end : Fld Z h0 xa1 "com/example/arbiter/arbiter/store/JobStore$Claim" "end" "Lcom/example/arbiter/arbiter/store/JobStore$Position;" (.ref xa2)) :
    MetFree l (⟨"com/example/arbiter/arbiter/store/JobStore$Claim", "end", "()Lcom/example/arbiter/arbiter/store/JobStore$Position;"⟩ : MethodName) (head1 (Jvm.Cond.code (⟨"com/example/arbiter/arbiter/store/JobStore$Claim", "end", "()Lcom/example/arbiter/arbiter/store/JobStore$Position;"⟩ : MethodName) prog_32_method_6_code 1 (some (.object "com/example/arbiter/arbiter/store/JobStore$Position")) :: ws) ({ frames := 0, cells := 0, slots := 0, locals := 0 } : Room)) (fun a U => a = #[(.ref xa1)] ∧ Z.Warmed39 U.vm ∧ U.heap = h0) (fun _ _ _ _ _ => True) (fun _ U o U' => ∃ v L, o = .returned v ∧ QrmA33 Z G xa1 xa2 h0 n0 v U'.heap L ∧ FrameEnd U o U' L ({ frames := 0, cells := 0, slots := 0, locals := 0 } : Room).cells ({ frames := 0, cells := 0, slots := 0, locals := 0 } : Room).slots) := by
  refine MetFree.of_bodySF (plainFor_of_name pn_7) hisR ?_
  intro p e s m args below meth c s₁ Bd hml0 hP hK
  obtain ⟨rfl, hZ, hh⟩ := hP
  have hx := Bd.exec
  have hby := Bd.bytes
  have hml : c.maxLocals = 1 := hml0
  have hown : s.vm.findClass "com/example/arbiter/arbiter/store/JobStore$Claim" = some m.cls := findClass_of_methodNamed Bd.named
  have hnm := (name_of_methodNamed Bd.named Bd.method).1
  have X0 : Stand p l e ({ frames := 0, cells := 0, slots := 0, locals := 0 } : Room) s m #[(.ref xa1)] below meth c s₁ [] 0 0 := Stand.of_body Bd
  have e0 : s₁.heap = h0 := by rw [← hh, Bd.state]; rfl
  have N0 := Fr.nil n0
  have Z0 : n0 ≤ h0.size := by have q := X00.2.1; rw [X00.1] at q; exact q
  obtain ⟨TG, hTG, hT2⟩ : ∃ P : State → Prop, (∀ t, P t → Steps p.tables e below (s₁.setTop (entryFrame m #[(.ref xa1)] 1)) t) ∧ (∀ t, Steps p.tables e below (s₁.setTop (entryFrame m #[(.ref xa1)] 1)) t → P t) := ⟨_, fun t k => k, fun t k => k⟩
  have pre0 : ∀ t, Sx p e below s₁ m 0 #[xvr xa1] [] t → TG t := fun t k => hT2 t (castTop (ef_rmA33 m xa1 ) k)
  obtain ⟨T317, X317, e317, st317⟩ := getF X0 hx hZ hown (host := "") (Or.inl (w_63 hw)) Via.refl e0 xF_xa1_end (g := (mkF m 1 #[xvr xa1] [xwr xa1])) rfl rfl (hb hby d26_1)
  obtain ⟨fs, hr, hrun, hended, hW, hsame⟩ := X317.leave (v := some (.ref xa2)) (fun h => by rw [Bd.returns] at h; cases h)
  refine ⟨_, _, hTG _ (pre0 _ ?_), hrun, hended, _, _, rfl, ?_, ⟨_, rfl⟩, hW, hsame.mono (by decide) (by decide)⟩
  · refine y_aloadN X0 hx 1 (hb hby d26_0) rfl rfl rfl ?_
    refine st317 _ ?_
    show Sx p e below T317 m 4 #[xvr xa1] [xwr xa2] _
    exact retOut X317 hx Bd.returns rfl (Or.inr (Or.inr (Or.inr (Or.inr ⟨rfl, rfl, rfl⟩)))) (hb hby d26_4) hr
  · show QrmA33 Z G xa1 xa2 h0 n0 _ T317.heap _
    rw [e317]
    exact ⟨rfl, N0, rfl⟩
theorem pd_18 : parseMethodDescriptor "()Lcom/example/arbiter/arbiter/store/JobStore$Position;" = some ⟨[], some (.object "com/example/arbiter/arbiter/store/JobStore$Position")⟩ := by decide +kernel
theorem d9_37 : decode prog_14_method_3_code 37 = .ok (.aload 7, 2) := by decide +kernel
theorem d9_39 : decode prog_14_method_3_code 39 = .ok (.invokevirtual 63, 3) := by decide +kernel
theorem ef_rmA34 (m : MethodId) (x0 : Addr) (x1 : Addr)  : entryFrame m #[(.ref x0), (.ref x1)] 3 = mkF m 0 #[.val (.ref x0), .val (.ref x1), .unset] [] := by first | (simp [entryFrame, mkF, argsToLocals, Value.category]; done) | rfl
theorem d27_0 : decode prog_33_method_3_code 0 = .ok (.aload_n 0, 1) := by decide +kernel
theorem d27_1 : decode prog_33_method_3_code 1 = .ok (.getfield 7, 3) := by decide +kernel
theorem d27_4 : decode prog_33_method_3_code 4 = .ok (.aload_n 1, 1) := by decide +kernel
theorem d27_5 : decode prog_33_method_3_code 5 = .ok (.getfield 7, 3) := by decide +kernel
theorem d27_8 : decode prog_33_method_3_code 8 = .ok (.invokevirtual 24, 3) := by decide +kernel
theorem ef_rmA35 (m : MethodId) (x0 : Addr) (x1 : Addr)  : entryFrame m #[(.ref x0), (.ref x1)] 3 = mkF m 0 #[.val (.ref x0), .val (.ref x1), .unset] [] := by first | (simp [entryFrame, mkF, argsToLocals, Value.category]; done) | rfl
theorem d28_0 : decode jdk_2320_method_41_code 0 = .ok (.aload_n 0, 1) := by decide +kernel
theorem d28_1 : decode jdk_2320_method_41_code 1 = .ok (.getfield 140, 3) := by decide +kernel
theorem d28_4 : decode jdk_2320_method_41_code 4 = .ok (.aload_n 1, 1) := by decide +kernel
theorem d28_5 : decode jdk_2320_method_41_code 5 = .ok (.getfield 140, 3) := by decide +kernel
theorem d28_8 : decode jdk_2320_method_41_code 8 = .ok (.invokestatic 367, 3) := by decide +kernel
theorem ef_rmA36 (m : MethodId) (x0 : Int64) (x1 : Int64)  : entryFrame m #[(.long x0), (.long x1)] 4 = mkF m 0 #[.val (.long x0), .second, .val (.long x1), .second] [] := by first | (simp [entryFrame, mkF, argsToLocals, Value.category]; done) | rfl
theorem d29_0 : decode jdk_35_method_42_code 0 = .ok (.lload_n 0, 1) := by decide +kernel
theorem d29_1 : decode jdk_35_method_42_code 1 = .ok (.lload_n 2, 1) := by decide +kernel
theorem d29_2 : decode jdk_35_method_42_code 2 = .ok (.lcmp, 1) := by decide +kernel
theorem d29_3 : decode jdk_35_method_42_code 3 = .ok (.ifCond .ge 7, 3) := by decide +kernel
theorem d29_6 : decode jdk_35_method_42_code 6 = .ok (.iconst (-1), 1) := by decide +kernel
theorem d29_7 : decode jdk_35_method_42_code 7 = .ok (.goto 14, 3) := by decide +kernel
theorem d29_21 : decode jdk_35_method_42_code 21 = .ok (.ireturn, 1) := by decide +kernel
theorem pn_10 : plainName "java/lang/Long" = true := by first | (simp [plainName, overriddenIn]; done) | decide +kernel
def QrmA36 (Z : State) (G : Gs)  (h0 : Heap) (n0 : Nat) (v : Option Value) (h : Heap) (L : List Loc) : Prop := v = some (.int (-1 : Int32)) ∧ Fr n0 L ∧ h = h0
set_option maxRecDepth 65536 in
set_option maxHeartbeats 40000000 in
theorem rmA36 (l : Launch) (Z : State) (a0 : Array Value) (hw : HW a0 Z) (G : Gs) (ST : StartF Z G) (ws : List Jvm.Cond)  (h0 : Heap) (n0 : Nat) (X00 : Old Z n0 h0) :
    MetFree l (⟨"java/lang/Long", "compare", "(JJ)I"⟩ : MethodName) (head1 (Jvm.Cond.code (⟨"java/lang/Long", "compare", "(JJ)I"⟩ : MethodName) jdk_35_method_42_code 4 (some .int) :: ws) ({ frames := 0, cells := 0, slots := 0, locals := 0 } : Room)) (fun a U => a = #[(.long (0 : Int64)), (.long (31556889864403199 : Int64))] ∧ Z.Warmed39 U.vm ∧ U.heap = h0) (fun _ _ _ _ _ => True) (fun _ U o U' => ∃ v L, o = .returned v ∧ QrmA36 Z G  h0 n0 v U'.heap L ∧ FrameEnd U o U' L ({ frames := 0, cells := 0, slots := 0, locals := 0 } : Room).cells ({ frames := 0, cells := 0, slots := 0, locals := 0 } : Room).slots) := by
  refine MetFree.of_bodySF (plainFor_of_name pn_10) hisR ?_
  intro p e s m args below meth c s₁ Bd hml0 hP hK
  obtain ⟨rfl, hZ, hh⟩ := hP
  have hx := Bd.exec
  have hby := Bd.bytes
  have hml : c.maxLocals = 4 := hml0
  have hown : s.vm.findClass "java/lang/Long" = some m.cls := findClass_of_methodNamed Bd.named
  have hnm := (name_of_methodNamed Bd.named Bd.method).1
  have X0 : Stand p l e ({ frames := 0, cells := 0, slots := 0, locals := 0 } : Room) s m #[(.long (0 : Int64)), (.long (31556889864403199 : Int64))] below meth c s₁ [] 0 0 := Stand.of_body Bd
  have e0 : s₁.heap = h0 := by rw [← hh, Bd.state]; rfl
  have N0 := Fr.nil n0
  have Z0 : n0 ≤ h0.size := by have q := X00.2.1; rw [X00.1] at q; exact q
  obtain ⟨TG, hTG, hT2⟩ : ∃ P : State → Prop, (∀ t, P t → Steps p.tables e below (s₁.setTop (entryFrame m #[(.long (0 : Int64)), (.long (31556889864403199 : Int64))] 4)) t) ∧ (∀ t, Steps p.tables e below (s₁.setTop (entryFrame m #[(.long (0 : Int64)), (.long (31556889864403199 : Int64))] 4)) t → P t) := ⟨_, fun t k => k, fun t k => k⟩
  have pre0 : ∀ t, Sx p e below s₁ m 0 #[xvj (0 : Int64), xse, xvj (31556889864403199 : Int64), xse] [] t → TG t := fun t k => hT2 t (castTop (ef_rmA36 m (0 : Int64) (31556889864403199 : Int64) ) k)
  obtain ⟨fs, hr, hrun, hended, hW, hsame⟩ := X0.leave (v := some (.int (-1 : Int32))) (fun h => by rw [Bd.returns] at h; cases h)
  refine ⟨_, _, hTG _ (pre0 _ ?_), hrun, hended, _, _, rfl, ?_, ⟨_, rfl⟩, hW, hsame.mono (by decide) (by decide)⟩
  · refine y_lloadN X0 hx 1 (hb hby d29_0) rfl rfl ?_
    refine y_lloadN X0 hx 2 (hb hby d29_1) rfl rfl ?_
    refine XT.lcmp X0.here hx rfl (hb hby d29_2) rfl ?_
    show Sx p e below s₁ m 3 #[xvj (0 : Int64), xse, xvj (31556889864403199 : Int64), xse] [(.int (XT.cmpL (0 : Int64) (31556889864403199 : Int64)))] _
    refine y_ifNo X0 hx 6 (hb hby d29_3) (XT.ll_ge_f (by decide)) rfl ?_
    refine y_iconst X0 hx (-1 : Int32) 7 (hb hby d29_6) rfl rfl ?_
    refine y_goto X0 hx 21 (hb hby d29_7) (by decide) (by decide) ?_
    show Sx p e below s₁ m 21 #[xvj (0 : Int64), xse, xvj (31556889864403199 : Int64), xse] [xwi (-1 : Int32)] _
    exact retOut X0 hx Bd.returns rfl (Or.inl ⟨rfl, Or.inl rfl, _, rfl⟩) (hb hby d29_21) hr
  · show QrmA36 Z G  h0 n0 _ s₁.heap _
    rw [e0]
    exact ⟨rfl, N0, rfl⟩
theorem pd_19 : parseMethodDescriptor "(JJ)I" = some ⟨[.long, .long], some .int⟩ := by decide +kernel
theorem d28_11 : decode jdk_2320_method_41_code 11 = .ok (.istore_n 2, 1) := by decide +kernel
theorem d28_12 : decode jdk_2320_method_41_code 12 = .ok (.iload_n 2, 1) := by decide +kernel
theorem d28_13 : decode jdk_2320_method_41_code 13 = .ok (.ifCond .eq 5, 3) := by decide +kernel
theorem d28_16 : decode jdk_2320_method_41_code 16 = .ok (.iload_n 2, 1) := by decide +kernel
theorem d28_17 : decode jdk_2320_method_41_code 17 = .ok (.ireturn, 1) := by decide +kernel
def QrmA35 (Z : State) (G : Gs) (xa1 : Addr) (h0 : Heap) (n0 : Nat) (v : Option Value) (h : Heap) (L : List Loc) : Prop := v = some (.int (-1 : Int32)) ∧ Fr n0 L ∧ h = h0
set_option maxRecDepth 65536 in
set_option maxHeartbeats 40000000 in
theorem rmA35 (l : Launch) (Z : State) (a0 : Array Value) (hw : HW a0 Z) (G : Gs) (ST : StartF Z G) (ws : List Jvm.Cond) (xa1 : Addr) (h0 : Heap) (n0 : Nat) (X00 : Old Z n0 h0) (xF_xa1_seconds : Fld Z h0 xa1 "java/time/Instant" "seconds" "J" (.long (31556889864403199 : Int64))) :
    MetFree l (⟨"java/time/Instant", "compareTo", "(Ljava/time/Instant;)I"⟩ : MethodName) (head1 (Jvm.Cond.code (⟨"java/time/Instant", "compareTo", "(Ljava/time/Instant;)I"⟩ : MethodName) jdk_2320_method_41_code 3 (some .int) :: ws) ({ frames := 1, cells := 0, slots := 0, locals := 15 } : Room)) (fun a U => a = #[(.ref G.a0), (.ref xa1)] ∧ Z.Warmed39 U.vm ∧ U.heap = h0) (fun _ _ _ _ _ => True) (fun _ U o U' => ∃ v L, o = .returned v ∧ QrmA35 Z G xa1 h0 n0 v U'.heap L ∧ FrameEnd U o U' L ({ frames := 1, cells := 0, slots := 0, locals := 15 } : Room).cells ({ frames := 1, cells := 0, slots := 0, locals := 15 } : Room).slots) := by
  refine MetFree.of_bodySF (plainFor_of_name pn_9) hisR ?_
  intro p e s m args below meth c s₁ Bd hml0 hP hK
  obtain ⟨rfl, hZ, hh⟩ := hP
  have hx := Bd.exec
  have hby := Bd.bytes
  have hml : c.maxLocals = 3 := hml0
  have hown : s.vm.findClass "java/time/Instant" = some m.cls := findClass_of_methodNamed Bd.named
  have hnm := (name_of_methodNamed Bd.named Bd.method).1
  have X0 : Stand p l e ({ frames := 1, cells := 0, slots := 0, locals := 15 } : Room) s m #[(.ref G.a0), (.ref xa1)] below meth c s₁ [] 0 0 := Stand.of_body Bd
  have e0 : s₁.heap = h0 := by rw [← hh, Bd.state]; rfl
  have N0 := Fr.nil n0
  have Z0 : n0 ≤ h0.size := by have q := X00.2.1; rw [X00.1] at q; exact q
  obtain ⟨TG, hTG, hT2⟩ : ∃ P : State → Prop, (∀ t, P t → Steps p.tables e below (s₁.setTop (entryFrame m #[(.ref G.a0), (.ref xa1)] 3)) t) ∧ (∀ t, Steps p.tables e below (s₁.setTop (entryFrame m #[(.ref G.a0), (.ref xa1)] 3)) t → P t) := ⟨_, fun t k => k, fun t k => k⟩
  have pre0 : ∀ t, Sx p e below s₁ m 0 #[xvr G.a0, xvr xa1, xun] [] t → TG t := fun t k => hT2 t (castTop (ef_rmA35 m G.a0 xa1 ) k)
  obtain ⟨T325, X325, e325, st325⟩ := getF X0 hx hZ hown (host := "") (Or.inl (w_147 hw)) Via.refl e0 (ST.c2.ext X00.2) (g := (mkF m 1 #[xvr G.a0, xvr xa1, xun] [xwr G.a0])) rfl rfl (hb hby d28_1)
  obtain ⟨T326, X326, e326, st326⟩ := getF X325 hx hZ hown (host := "") (Or.inl (w_147 hw)) Via.refl e325 xF_xa1_seconds (g := (mkF m 5 #[xvr G.a0, xvr xa1, xun] [xwr xa1, xwj (0 : Int64)])) rfl rfl (hb hby d28_5)
  obtain ⟨_, _, ⟨T327, L327, k327, n327⟩, -, X327, ⟨Lc327, hQ327, l327, y327, z327⟩, st327⟩ := Jvm.LawKit.callS X326 hx (y := (⟨"java/lang/Long", "compare", "(JJ)I"⟩ : MethodName)) hown (mvT hZ (w_198 hw)) (mvT hZ (w_199 hw)) (mvT hZ (w_200 hw)) (mvT hZ (w_201 hw)) (by decide) (backOf (W := 0) (rmA36 l Z a0 hw G ST []  h0 n0 X00 ) hZ (w_201 hw) (w_200 hw) (by decide) (by decide)) (g := (mkF m 8 #[xvr G.a0, xvr xa1, xun] [xwj (31556889864403199 : Int64), xwj (0 : Int64)])) rfl (by rw [hml]; rfl) (argsL := [(.long (0 : Int64)), (.long (31556889864403199 : Int64))]) (rest := []) (lenOf pd_19 rfl) rfl (by show 2 * 0 + _ ≤ _; exact Nat.le_of_eq rfl) (hb hby d28_8) (fun _ _ => ⟨rfl, e326, (by decide : 0 + 0 ≤ _), (by decide : 0 + 0 ≤ _)⟩)
  dsimp only [Pt.U, Pt.locs, Pt.cells, Pt.slots] at X327 l327 y327 z327 st327 hQ327
  subst l327 y327 z327
  obtain ⟨rfl, N327q, e327⟩ := hQ327
  have N327 := Fr.app N0 N327q
  obtain ⟨fs, hr, hrun, hended, hW, hsame⟩ := X327.leave (v := some (.int (-1 : Int32))) (fun h => by rw [Bd.returns] at h; cases h)
  refine ⟨_, _, hTG _ (pre0 _ ?_), hrun, hended, _, _, rfl, ?_, ⟨_, rfl⟩, hW, hsame.mono (by decide) (by decide)⟩
  · refine y_aloadN X0 hx 1 (hb hby d28_0) rfl rfl rfl ?_
    refine st325 _ ?_
    show Sx p e below T325 m 4 #[xvr G.a0, xvr xa1, xun] [xwj (0 : Int64)] _
    refine y_aloadN X325 hx 5 (hb hby d28_4) rfl rfl rfl ?_
    refine st326 _ ?_
    show Sx p e below T326 m 8 #[xvr G.a0, xvr xa1, xun] [xwj (31556889864403199 : Int64), xwj (0 : Int64)] _
    refine st327 _ ?_
    show Sx p e below T327 m 11 #[xvr G.a0, xvr xa1, xun] [xwi (-1 : Int32)] _
    refine XS.istoreN X327.here hx rfl (hb hby d28_11) rfl (l' := #[xvr G.a0, xvr xa1, xvi (-1 : Int32)]) rfl ?_
    show Sx p e below T327 m 12 #[xvr G.a0, xvr xa1, xvi (-1 : Int32)] [] _
    refine y_iloadN X327 hx 13 (hb hby d28_12) rfl rfl ?_
    refine y_ifNo X327 hx 16 (hb hby d28_13) (XT.i0_eq_f (by decide)) rfl ?_
    refine y_iloadN X327 hx 17 (hb hby d28_16) rfl rfl ?_
    show Sx p e below T327 m 17 #[xvr G.a0, xvr xa1, xvi (-1 : Int32)] [xwi (-1 : Int32)] _
    exact retOut X327 hx Bd.returns rfl (Or.inl ⟨rfl, Or.inl rfl, _, rfl⟩) (hb hby d28_17) hr
  · show QrmA35 Z G xa1 h0 n0 _ T327.heap _
    rw [e327]
    exact ⟨rfl, N327, rfl⟩
theorem pd_20 : parseMethodDescriptor "(Ljava/time/Instant;)I" = some ⟨[(.object "java/time/Instant")], some .int⟩ := by decide +kernel
theorem d27_11 : decode prog_33_method_3_code 11 = .ok (.istore_n 2, 1) := by decide +kernel
theorem d27_12 : decode prog_33_method_3_code 12 = .ok (.iload_n 2, 1) := by decide +kernel
theorem d27_13 : decode prog_33_method_3_code 13 = .ok (.ifCond .eq 7, 3) := by decide +kernel
theorem d27_16 : decode prog_33_method_3_code 16 = .ok (.iload_n 2, 1) := by decide +kernel
theorem d27_17 : decode prog_33_method_3_code 17 = .ok (.goto 14, 3) := by decide +kernel
theorem d27_31 : decode prog_33_method_3_code 31 = .ok (.ireturn, 1) := by decide +kernel
def QrmA34 (Z : State) (G : Gs) (xa1 : Addr) (xa2 : Addr) (xa3 : Addr) (h0 : Heap) (n0 : Nat) (v : Option Value) (h : Heap) (L : List Loc) : Prop := v = some (.int (-1 : Int32)) ∧ Fr n0 L ∧ h = h0
set_option maxRecDepth 65536 in
set_option maxHeartbeats 40000000 in
theorem rmA34 (l : Launch) (Z : State) (a0 : Array Value) (hw : HW a0 Z) (G : Gs) (ST : StartF Z G) (ws : List Jvm.Cond) (xa1 : Addr) (xa2 : Addr) (xa3 : Addr) (h0 : Heap) (n0 : Nat) (X00 : Old Z n0 h0) (xF_xa1_at : Fld Z h0 xa1 "com/example/arbiter/arbiter/store/JobStore$Position" "at" "Ljava/time/Instant;" (.ref G.a0)) (xF_xa2_at : Fld Z h0 xa2 "com/example/arbiter/arbiter/store/JobStore$Position" "at" "Ljava/time/Instant;" (.ref xa3)) (xF_xa3_seconds : Fld Z h0 xa3 "java/time/Instant" "seconds" "J" (.long (31556889864403199 : Int64))) :
    MetFree l (⟨"com/example/arbiter/arbiter/store/JobStore$Position", "compareTo", "(Lcom/example/arbiter/arbiter/store/JobStore$Position;)I"⟩ : MethodName) (head1 (Jvm.Cond.code (⟨"com/example/arbiter/arbiter/store/JobStore$Position", "compareTo", "(Lcom/example/arbiter/arbiter/store/JobStore$Position;)I"⟩ : MethodName) prog_33_method_3_code 3 (some .int) :: ws) ({ frames := 2, cells := 0, slots := 0, locals := 29 } : Room)) (fun a U => a = #[(.ref xa1), (.ref xa2)] ∧ Z.Warmed39 U.vm ∧ U.heap = h0) (fun _ _ _ _ _ => True) (fun _ U o U' => ∃ v L, o = .returned v ∧ QrmA34 Z G xa1 xa2 xa3 h0 n0 v U'.heap L ∧ FrameEnd U o U' L ({ frames := 2, cells := 0, slots := 0, locals := 29 } : Room).cells ({ frames := 2, cells := 0, slots := 0, locals := 29 } : Room).slots) := by
  refine MetFree.of_bodySF (plainFor_of_name pn_3) hisR ?_
  intro p e s m args below meth c s₁ Bd hml0 hP hK
  obtain ⟨rfl, hZ, hh⟩ := hP
  have hx := Bd.exec
  have hby := Bd.bytes
  have hml : c.maxLocals = 3 := hml0
  have hown : s.vm.findClass "com/example/arbiter/arbiter/store/JobStore$Position" = some m.cls := findClass_of_methodNamed Bd.named
  have hnm := (name_of_methodNamed Bd.named Bd.method).1
  have X0 : Stand p l e ({ frames := 2, cells := 0, slots := 0, locals := 29 } : Room) s m #[(.ref xa1), (.ref xa2)] below meth c s₁ [] 0 0 := Stand.of_body Bd
  have e0 : s₁.heap = h0 := by rw [← hh, Bd.state]; rfl
  have N0 := Fr.nil n0
  have Z0 : n0 ≤ h0.size := by have q := X00.2.1; rw [X00.1] at q; exact q
  obtain ⟨TG, hTG, hT2⟩ : ∃ P : State → Prop, (∀ t, P t → Steps p.tables e below (s₁.setTop (entryFrame m #[(.ref xa1), (.ref xa2)] 3)) t) ∧ (∀ t, Steps p.tables e below (s₁.setTop (entryFrame m #[(.ref xa1), (.ref xa2)] 3)) t → P t) := ⟨_, fun t k => k, fun t k => k⟩
  have pre0 : ∀ t, Sx p e below s₁ m 0 #[xvr xa1, xvr xa2, xun] [] t → TG t := fun t k => hT2 t (castTop (ef_rmA34 m xa1 xa2 ) k)
  obtain ⟨T323, X323, e323, st323⟩ := getF X0 hx hZ hown (host := "") (Or.inl (w_25 hw)) Via.refl e0 xF_xa1_at (g := (mkF m 1 #[xvr xa1, xvr xa2, xun] [xwr xa1])) rfl rfl (hb hby d27_1)
  obtain ⟨T324, X324, e324, st324⟩ := getF X323 hx hZ hown (host := "") (Or.inl (w_25 hw)) Via.refl e323 xF_xa2_at (g := (mkF m 5 #[xvr xa1, xvr xa2, xun] [xwr xa2, xwr G.a0])) rfl rfl (hb hby d27_5)
  obtain ⟨cq329, kq329, q329a, q329b, q329c⟩ := isOf hZ e324 (ST.c1.ext X00.2)
  obtain ⟨_, _, ⟨T328, L328, k328, n328⟩, -, X328, ⟨Lc328, hQ328, l328, y328, z328⟩, st328⟩ := X324.virtualBack hx (y := (⟨"java/time/Instant", "compareTo", "(Ljava/time/Instant;)I"⟩ : MethodName)) (z := (⟨"java/time/Instant", "compareTo", "(Ljava/time/Instant;)I"⟩ : MethodName)) hown (mvT hZ (w_193 hw)) (mvT hZ (w_194 hw)) (notFace_of_selects (args := #[]) (mvT hZ (w_196 hw))) (mvT hZ (w_196 hw)) (mvT hZ (w_195 hw)) (by decide) (backOf (W := 0) (rmA35 l Z a0 hw G ST [] xa3 h0 n0 X00 xF_xa3_seconds) hZ (w_197 hw) (w_15 hw) (by decide) (by decide)) q329a q329c (g := (mkF m 8 #[xvr xa1, xvr xa2, xun] [xwr xa3, xwr G.a0])) rfl (by rw [hml]; rfl) (Steps.refl _) (argsL := [(.ref xa3)]) (rest := []) (lenOf pd_20 rfl) rfl (by show 2 * 0 + _ ≤ _; exact Nat.le_of_eq rfl) (hb hby d27_8) (fun _ _ => ⟨rfl, e324, (by decide : 0 + 0 ≤ _), (by decide : 0 + 0 ≤ _)⟩)
  dsimp only [Pt.U, Pt.locs, Pt.cells, Pt.slots] at X328 l328 y328 z328 st328 hQ328
  subst l328 y328 z328
  obtain ⟨rfl, N328q, e328⟩ := hQ328
  have N328 := Fr.app N0 N328q
  obtain ⟨fs, hr, hrun, hended, hW, hsame⟩ := X328.leave (v := some (.int (-1 : Int32))) (fun h => by rw [Bd.returns] at h; cases h)
  refine ⟨_, _, hTG _ (pre0 _ ?_), hrun, hended, _, _, rfl, ?_, ⟨_, rfl⟩, hW, hsame.mono (by decide) (by decide)⟩
  · refine y_aloadN X0 hx 1 (hb hby d27_0) rfl rfl rfl ?_
    refine st323 _ ?_
    show Sx p e below T323 m 4 #[xvr xa1, xvr xa2, xun] [xwr G.a0] _
    refine y_aloadN X323 hx 5 (hb hby d27_4) rfl rfl rfl ?_
    refine st324 _ ?_
    show Sx p e below T324 m 8 #[xvr xa1, xvr xa2, xun] [xwr xa3, xwr G.a0] _
    refine st328.trans ?_
    show Sx p e below T328 m 11 #[xvr xa1, xvr xa2, xun] [xwi (-1 : Int32)] _
    refine XS.istoreN X328.here hx rfl (hb hby d27_11) rfl (l' := #[xvr xa1, xvr xa2, xvi (-1 : Int32)]) rfl ?_
    show Sx p e below T328 m 12 #[xvr xa1, xvr xa2, xvi (-1 : Int32)] [] _
    refine y_iloadN X328 hx 13 (hb hby d27_12) rfl rfl ?_
    refine y_ifNo X328 hx 16 (hb hby d27_13) (XT.i0_eq_f (by decide)) rfl ?_
    refine y_iloadN X328 hx 17 (hb hby d27_16) rfl rfl ?_
    refine y_goto X328 hx 31 (hb hby d27_17) (by decide) (by decide) ?_
    show Sx p e below T328 m 31 #[xvr xa1, xvr xa2, xvi (-1 : Int32)] [xwi (-1 : Int32)] _
    exact retOut X328 hx Bd.returns rfl (Or.inl ⟨rfl, Or.inl rfl, _, rfl⟩) (hb hby d27_31) hr
  · show QrmA34 Z G xa1 xa2 xa3 h0 n0 _ T328.heap _
    rw [e328]
    exact ⟨rfl, N328, rfl⟩
theorem pd_21 : parseMethodDescriptor "(Lcom/example/arbiter/arbiter/store/JobStore$Position;)I" = some ⟨[(.object "com/example/arbiter/arbiter/store/JobStore$Position")], some .int⟩ := by decide +kernel
theorem d9_42 : decode prog_14_method_3_code 42 = .ok (.ifCond .ge 10, 3) := by decide +kernel
theorem d9_45 : decode prog_14_method_3_code 45 = .ok (.aload_n 2, 1) := by decide +kernel
theorem d9_46 : decode prog_14_method_3_code 46 = .ok (.invokevirtual 59, 3) := by decide +kernel
theorem d9_49 : decode prog_14_method_3_code 49 = .ok (.goto 5, 3) := by decide +kernel
theorem d9_54 : decode prog_14_method_3_code 54 = .ok (.putfield 34, 3) := by decide +kernel
theorem d9_57 : decode prog_14_method_3_code 57 = .ok (.return_, 1) := by decide +kernel
def QrmA15 (Z : State) (G : Gs) (xa1 : Addr) (xa2 : Addr) (xi1 : Int64) (xi2 : Int64) (xa3 : Addr) (h0 : Heap) (n0 : Nat) (v : Option Value) (h : Heap) (L : List Loc) : Prop := v = none ∧ Fr n0 L ∧ Keep h0 h [xa1] ∧ Exa Z h xa1 "com/example/arbiter/arbiter/service/ClaimCursor" ∧ Fld Z h xa1 "com/example/arbiter/arbiter/service/ClaimCursor" "next" "Lcom/example/arbiter/arbiter/store/JobStore$Position;" (.ref xa3) ∧ Fld Z h xa1 "com/example/arbiter/arbiter/service/ClaimCursor" "oldestReadAt" "J" (.long xi1) ∧ Fld Z h xa1 "com/example/arbiter/arbiter/service/ClaimCursor" "oldestReadNanos" "J" (.long (xi2 - xi1))
set_option maxRecDepth 65536 in
set_option maxHeartbeats 40000000 in
theorem rmA15 (l : Launch) (Z : State) (a0 : Array Value) (hw : HW a0 Z) (G : Gs) (ST : StartF Z G) (ws : List Jvm.Cond) (xa1 : Addr) (xa2 : Addr) (xi1 : Int64) (xi2 : Int64) (xa3 : Addr) (h0 : Heap) (n0 : Nat) (X00 : Old Z n0 h0) (xE_xa1 : Exa Z h0 xa1 "com/example/arbiter/arbiter/service/ClaimCursor") (xF_xa1_next : Fld Z h0 xa1 "com/example/arbiter/arbiter/service/ClaimCursor" "next" "Lcom/example/arbiter/arbiter/store/JobStore$Position;" .null) (xF_xa1_oldestReadAt : Fld Z h0 xa1 "com/example/arbiter/arbiter/service/ClaimCursor" "oldestReadAt" "J" (.long (0 : Int64))) (xF_xa1_oldestReadNanos : Fld Z h0 xa1 "com/example/arbiter/arbiter/service/ClaimCursor" "oldestReadNanos" "J" (.long (0 : Int64))) (xg_xa1 : n0 ≤ xa1) (xE_xa2 : Exa Z h0 xa2 "com/example/arbiter/arbiter/store/JobStore$Claim") (xF_xa2_end : Fld Z h0 xa2 "com/example/arbiter/arbiter/store/JobStore$Claim" "end" "Lcom/example/arbiter/arbiter/store/JobStore$Position;" (.ref xa3)) (xF_xa2_readAt : Fld Z h0 xa2 "com/example/arbiter/arbiter/store/JobStore$Claim" "readAt" "Ljava/time/Instant;" (.ref G.a1)) (xE_xa3 : Exa Z h0 xa3 "com/example/arbiter/arbiter/store/JobStore$Position") (xF_xa3_at : Fld Z h0 xa3 "com/example/arbiter/arbiter/store/JobStore$Position" "at" "Ljava/time/Instant;" (.ref G.a0)) (xn_xa2_xa1 : xa2 ≠ xa1) (xn_xa3_xa1 : xa3 ≠ xa1) :
    MetFree l (⟨"com/example/arbiter/arbiter/service/ClaimCursor", "moved", "(Lcom/example/arbiter/arbiter/store/JobStore$Position;Lcom/example/arbiter/arbiter/store/JobStore$Claim;JJ)V"⟩ : MethodName) (head1 (Jvm.Cond.code (⟨"com/example/arbiter/arbiter/service/ClaimCursor", "moved", "(Lcom/example/arbiter/arbiter/store/JobStore$Position;Lcom/example/arbiter/arbiter/store/JobStore$Claim;JJ)V"⟩ : MethodName) prog_14_method_3_code 8 none :: ws) ({ frames := 11, cells := 2, slots := 4, locals := 166 } : Room)) (fun a U => a = #[(.ref xa1), .null, (.ref xa2), (.long xi1), (.long xi2)] ∧ Z.Warmed39 U.vm ∧ U.heap = h0) (fun _ _ _ _ _ => True) (fun _ U o U' => ∃ v L, o = .returned v ∧ QrmA15 Z G xa1 xa2 xi1 xi2 xa3 h0 n0 v U'.heap L ∧ FrameEnd U o U' L ({ frames := 11, cells := 2, slots := 4, locals := 166 } : Room).cells ({ frames := 11, cells := 2, slots := 4, locals := 166 } : Room).slots) := by
  refine MetFree.of_bodySF (plainFor_of_name pn_1) hisR ?_
  intro p e s m args below meth c s₁ Bd hml0 hP hK
  obtain ⟨rfl, hZ, hh⟩ := hP
  have hx := Bd.exec
  have hby := Bd.bytes
  have hml : c.maxLocals = 8 := hml0
  have hown : s.vm.findClass "com/example/arbiter/arbiter/service/ClaimCursor" = some m.cls := findClass_of_methodNamed Bd.named
  have hnm := (name_of_methodNamed Bd.named Bd.method).1
  have X0 : Stand p l e ({ frames := 11, cells := 2, slots := 4, locals := 166 } : Room) s m #[(.ref xa1), .null, (.ref xa2), (.long xi1), (.long xi2)] below meth c s₁ [] 0 0 := Stand.of_body Bd
  have e0 : s₁.heap = h0 := by rw [← hh, Bd.state]; rfl
  have N0 := Fr.nil n0
  have Z0 : n0 ≤ h0.size := by have q := X00.2.1; rw [X00.1] at q; exact q
  obtain ⟨TG, hTG, hT2⟩ : ∃ P : State → Prop, (∀ t, P t → Steps p.tables e below (s₁.setTop (entryFrame m #[(.ref xa1), .null, (.ref xa2), (.long xi1), (.long xi2)] 8)) t) ∧ (∀ t, Steps p.tables e below (s₁.setTop (entryFrame m #[(.ref xa1), .null, (.ref xa2), (.long xi1), (.long xi2)] 8)) t → P t) := ⟨_, fun t k => k, fun t k => k⟩
  have pre0 : ∀ t, Sx p e below s₁ m 0 #[xvr xa1, .val .null, xvr xa2, xvj xi1, xse, xvj xi2, xse, xun] [] t → TG t := fun t k => hT2 t (castTop (ef_rmA15 m xa1 xa2 xi1 xi2 ) k)
  obtain ⟨T193, h193, X193, e193, W193, st193⟩ := putF X0 hx hZ hown (host := "") (Or.inl (w_72 hw)) Via.refl e0 xF_xa1_oldestReadAt xE_xa1 (Or.inl (w_73 hw)) (w_3 hw) (ty := .long) (by decide) rfl rfl (g := (mkF m 6 #[xvr xa1, .val .null, xvr xa2, xvj xi1, xse, xvj xi2, xse, xun] [xwj xi1, xwr xa1])) rfl rfl (hb hby d9_6)
  have Fw193 := xF_xa1_oldestReadAt.same W193
  have N193 := Fr.snoc X193 N0 xg_xa1
  have f194 := (xF_xa1_oldestReadNanos.other W193 (Or.inr (slot_ne (Or.inl (w_75 hw)) (Or.inl (w_73 hw)) (by decide) (t := .long) (t' := .long) (by decide) (by decide))))
  have f195 := (xE_xa1.wr W193)
  obtain ⟨T196, h196, X196, e196, W196, st196⟩ := putF X193 hx hZ hown (host := "") (Or.inl (w_74 hw)) Via.refl e193 f194 f195 (Or.inl (w_75 hw)) (w_3 hw) (ty := .long) (by decide) rfl rfl (g := (mkF m 14 #[xvr xa1, .val .null, xvr xa2, xvj xi1, xse, xvj xi2, xse, xun] [xwj (xi2 - xi1), xwr xa1])) rfl rfl (hb hby d9_14)
  have Fw196 := f194.same W196
  have N196 := Fr.snoc X196 N193 xg_xa1
  have f198 := ((xF_xa2_readAt.other W193 (Or.inl xn_xa2_xa1)).other W196 (Or.inl xn_xa2_xa1))
  have Ol199 : Old Z n0 h196 := ((X00.wr W193 xg_xa1).wr W196 xg_xa1)
  have f201 := ((xE_xa2.wr W193).wr W196)
  obtain ⟨cq202, kq202, q202a, q202b, q202c⟩ := isOf hZ e196 f201
  obtain ⟨_, _, ⟨T200, L200, k200, n200⟩, -, X200, ⟨Lc200, hQ200, l200, y200, z200⟩, st200⟩ := X196.virtualBack hx (y := (⟨"com/example/arbiter/arbiter/store/JobStore$Claim", "readAt", "()Ljava/time/Instant;"⟩ : MethodName)) (z := (⟨"com/example/arbiter/arbiter/store/JobStore$Claim", "readAt", "()Ljava/time/Instant;"⟩ : MethodName)) hown (mvT hZ (w_76 hw)) (mvT hZ (w_77 hw)) (notFace_of_selects (args := #[]) (mvT hZ (w_79 hw))) (mvT hZ (w_79 hw)) (mvT hZ (w_78 hw)) (by decide) (backOf (W := 0) (rmA16 l Z a0 hw G ST [] xa2 h196 n0 Ol199 f198) hZ (w_80 hw) (w_31 hw) (by decide) (by decide)) q202a q202c (g := (mkF m 18 #[xvr xa1, .val .null, xvr xa2, xvj xi1, xse, xvj xi2, xse, xun] [xwr xa2])) rfl (by rw [hml]; rfl) (Steps.refl _) (argsL := []) (rest := []) (lenOf pd_7 rfl) rfl (by show 2 * 0 + _ ≤ _; exact Nat.le_of_eq rfl) (hb hby d9_18) (fun _ _ => ⟨rfl, e196, (by decide : 0 + 0 ≤ _), (by decide : 0 + 0 ≤ _)⟩)
  dsimp only [Pt.U, Pt.locs, Pt.cells, Pt.slots] at X200 l200 y200 z200 st200 hQ200
  subst l200 y200 z200
  obtain ⟨rfl, N200q, e200⟩ := hQ200
  have N200 := Fr.app N196 N200q
  obtain ⟨T203, X203, e203, st203⟩ := getS2 X200 hx hZ hown (host := "") (Or.inl (w_81 hw)) Via.refl e200 (ST.c15.ext Ol199.2) (g := (mkF m 21 #[xvr xa1, .val .null, xvr xa2, xvj xi1, xse, xvj xi2, xse, xun] [xwr G.a1])) rfl (hb hby d9_21)
  obtain ⟨cq291, kq291, q291a, q291b, q291c⟩ := isOf hZ e203 (ST.c5.ext Ol199.2)
  obtain ⟨_, _, ⟨T290, L290, k290, n290⟩, -, X290, ⟨Lc290, hQ290, l290, y290, z290⟩, st290⟩ := X203.virtualBack hx (y := (⟨"java/time/Instant", "minus", "(Ljava/time/temporal/TemporalAmount;)Ljava/time/Instant;"⟩ : MethodName)) (z := (⟨"java/time/Instant", "minus", "(Ljava/time/temporal/TemporalAmount;)Ljava/time/Instant;"⟩ : MethodName)) hown (mvT hZ (w_83 hw)) (mvT hZ (w_84 hw)) (notFace_of_selects (args := #[]) (mvT hZ (w_86 hw))) (mvT hZ (w_86 hw)) (mvT hZ (w_85 hw)) (by decide) (backOf (W := 0) (rmA17 l Z a0 hw G ST []  h196 n0 Ol199 ) hZ (w_87 hw) (w_15 hw) (by decide) (by decide)) q291a q291c (g := (mkF m 24 #[xvr xa1, .val .null, xvr xa2, xvj xi1, xse, xvj xi2, xse, xun] [xwr G.a7, xwr G.a1])) rfl (by rw [hml]; rfl) (Steps.refl _) (argsL := [(.ref G.a7)]) (rest := []) (lenOf pd_16 rfl) rfl (by show 2 * 0 + _ ≤ _; exact Nat.le_of_eq rfl) (hb hby d9_24) (fun _ _ => ⟨rfl, e203, (by decide : 0 + 1 ≤ _), (by decide : 0 + 2 ≤ _)⟩)
  dsimp only [Pt.U, Pt.locs, Pt.cells, Pt.slots] at X290 l290 y290 z290 st290 hQ290
  subst l290 y290 z290
  obtain ⟨hp290, e290⟩ : ∃ z, T290.heap = z := ⟨_, rfl⟩
  rw [e290] at hQ290
  obtain ⟨o292, rfl, N290q, K290, p293, p294, p295, p296⟩ := hQ290
  have N290 := Fr.app N200 N290q
  have Ol310 : Old Z n0 hp290 := (Ol199.keep K290 all0)
  obtain ⟨_, _, ⟨T311, L311, k311, n311⟩, -, X311, ⟨Lc311, hQ311, l311, y311, z311⟩, st311⟩ := Jvm.LawKit.callS X290 hx (y := (⟨"com/example/arbiter/arbiter/store/JobStore$Position", "after", "(Ljava/time/Instant;)Lcom/example/arbiter/arbiter/store/JobStore$Position;"⟩ : MethodName)) hown (mvT hZ (w_177 hw)) (mvT hZ (w_178 hw)) (mvT hZ (w_13 hw)) (mvT hZ (w_179 hw)) (by decide) (backOf (W := 0) (rmA31 l Z a0 hw G ST [] o292 hp290 n0 Ol310 ) hZ (w_179 hw) (w_13 hw) (by decide) (by decide)) (g := (mkF m 27 #[xvr xa1, .val .null, xvr xa2, xvj xi1, xse, xvj xi2, xse, xun] [xwr o292])) rfl (by rw [hml]; rfl) (argsL := [(.ref o292)]) (rest := []) (lenOf pd_17 rfl) rfl (by show 2 * 0 + _ ≤ _; exact Nat.le_of_eq rfl) (hb hby d9_27) (fun _ _ => ⟨rfl, e290, (by decide : 1 + 1 ≤ _), (by decide : 2 + 2 ≤ _)⟩)
  dsimp only [Pt.U, Pt.locs, Pt.cells, Pt.slots] at X311 l311 y311 z311 st311 hQ311
  subst l311 y311 z311
  obtain ⟨hp311, e311⟩ : ∃ z, T311.heap = z := ⟨_, rfl⟩
  rw [e311] at hQ311
  obtain ⟨o312, rfl, N311q, K311, p313, p314, p315, p316⟩ := hQ311
  have N311 := Fr.app N290 N311q
  have f318 := ((((xF_xa2_end.other W193 (Or.inl xn_xa2_xa1)).other W196 (Or.inl xn_xa2_xa1)).keep K290 nin0).keep K311 nin0)
  have Ol319 : Old Z n0 hp311 := (Ol310.keep K311 all0)
  have f321 := ((f201.keep K290).keep K311)
  obtain ⟨cq322, kq322, q322a, q322b, q322c⟩ := isOf hZ e311 f321
  obtain ⟨_, _, ⟨T320, L320, k320, n320⟩, -, X320, ⟨Lc320, hQ320, l320, y320, z320⟩, st320⟩ := X311.virtualBack hx (y := (⟨"com/example/arbiter/arbiter/store/JobStore$Claim", "end", "()Lcom/example/arbiter/arbiter/store/JobStore$Position;"⟩ : MethodName)) (z := (⟨"com/example/arbiter/arbiter/store/JobStore$Claim", "end", "()Lcom/example/arbiter/arbiter/store/JobStore$Position;"⟩ : MethodName)) hown (mvT hZ (w_183 hw)) (mvT hZ (w_184 hw)) (notFace_of_selects (args := #[]) (mvT hZ (w_186 hw))) (mvT hZ (w_186 hw)) (mvT hZ (w_185 hw)) (by decide) (backOf (W := 1) (rmA33 l Z a0 hw G ST [] xa2 xa3 hp311 n0 Ol319 f318) hZ (w_187 hw) (w_31 hw) (by decide) (by decide)) q322a q322c (g := (mkF m 34 #[xvr xa1, .val .null, xvr xa2, xvj xi1, xse, xvj xi2, xse, xvr o312] [xwr xa2, xwr xa1])) rfl (by rw [hml]; rfl) (Steps.refl _) (argsL := []) (rest := [(.ref xa1)]) (lenOf pd_18 rfl) rfl (by show 2 * 0 + _ ≤ _; exact Nat.le_of_eq rfl) (hb hby d9_34) (fun _ _ => ⟨rfl, e311, (by decide : 2 + 0 ≤ _), (by decide : 4 + 0 ≤ _)⟩)
  dsimp only [Pt.U, Pt.locs, Pt.cells, Pt.slots] at X320 l320 y320 z320 st320 hQ320
  subst l320 y320 z320
  obtain ⟨rfl, N320q, e320⟩ := hQ320
  have N320 := Fr.app N311 N320q
  have f330 := ((((xF_xa3_at.other W193 (Or.inl xn_xa3_xa1)).other W196 (Or.inl xn_xa3_xa1)).keep K290 nin0).keep K311 nin0)
  have f331 := (p296.keep K311 nin0)
  have f333 := ((((xE_xa3.wr W193).wr W196).keep K290).keep K311)
  obtain ⟨cq334, kq334, q334a, q334b, q334c⟩ := isOf hZ e320 f333
  obtain ⟨_, _, ⟨T332, L332, k332, n332⟩, -, X332, ⟨Lc332, hQ332, l332, y332, z332⟩, st332⟩ := X320.virtualBack hx (y := (⟨"com/example/arbiter/arbiter/store/JobStore$Position", "compareTo", "(Lcom/example/arbiter/arbiter/store/JobStore$Position;)I"⟩ : MethodName)) (z := (⟨"com/example/arbiter/arbiter/store/JobStore$Position", "compareTo", "(Lcom/example/arbiter/arbiter/store/JobStore$Position;)I"⟩ : MethodName)) hown (mvT hZ (w_188 hw)) (mvT hZ (w_189 hw)) (notFace_of_selects (args := #[]) (mvT hZ (w_191 hw))) (mvT hZ (w_191 hw)) (mvT hZ (w_190 hw)) (by decide) (backOf (W := 1) (rmA34 l Z a0 hw G ST [] xa3 o312 o292 hp311 n0 Ol319 f330 p315 f331) hZ (w_192 hw) (w_13 hw) (by decide) (by decide)) q334a q334c (g := (mkF m 39 #[xvr xa1, .val .null, xvr xa2, xvj xi1, xse, xvj xi2, xse, xvr o312] [xwr o312, xwr xa3, xwr xa1])) rfl (by rw [hml]; rfl) (Steps.refl _) (argsL := [(.ref o312)]) (rest := [(.ref xa1)]) (lenOf pd_21 rfl) rfl (by show 2 * 0 + _ ≤ _; exact Nat.le_of_eq rfl) (hb hby d9_39) (fun _ _ => ⟨rfl, e320, (by decide : 2 + 0 ≤ _), (by decide : 4 + 0 ≤ _)⟩)
  dsimp only [Pt.U, Pt.locs, Pt.cells, Pt.slots] at X332 l332 y332 z332 st332 hQ332
  subst l332 y332 z332
  obtain ⟨rfl, N332q, e332⟩ := hQ332
  have N332 := Fr.app N320 N332q
  obtain ⟨cq336, kq336, q336a, q336b, q336c⟩ := isOf hZ e332 f321
  obtain ⟨_, _, ⟨T335, L335, k335, n335⟩, -, X335, ⟨Lc335, hQ335, l335, y335, z335⟩, st335⟩ := X332.virtualBack hx (y := (⟨"com/example/arbiter/arbiter/store/JobStore$Claim", "end", "()Lcom/example/arbiter/arbiter/store/JobStore$Position;"⟩ : MethodName)) (z := (⟨"com/example/arbiter/arbiter/store/JobStore$Claim", "end", "()Lcom/example/arbiter/arbiter/store/JobStore$Position;"⟩ : MethodName)) hown (mvT hZ (w_183 hw)) (mvT hZ (w_184 hw)) (notFace_of_selects (args := #[]) (mvT hZ (w_186 hw))) (mvT hZ (w_186 hw)) (mvT hZ (w_185 hw)) (by decide) (backOf (W := 1) (rmA33 l Z a0 hw G ST [] xa2 xa3 hp311 n0 Ol319 f318) hZ (w_187 hw) (w_31 hw) (by decide) (by decide)) q336a q336c (g := (mkF m 46 #[xvr xa1, .val .null, xvr xa2, xvj xi1, xse, xvj xi2, xse, xvr o312] [xwr xa2, xwr xa1])) rfl (by rw [hml]; rfl) (Steps.refl _) (argsL := []) (rest := [(.ref xa1)]) (lenOf pd_18 rfl) rfl (by show 2 * 0 + _ ≤ _; exact Nat.le_of_eq rfl) (hb hby d9_46) (fun _ _ => ⟨rfl, e332, (by decide : 2 + 0 ≤ _), (by decide : 4 + 0 ≤ _)⟩)
  dsimp only [Pt.U, Pt.locs, Pt.cells, Pt.slots] at X335 l335 y335 z335 st335 hQ335
  subst l335 y335 z335
  obtain ⟨rfl, N335q, e335⟩ := hQ335
  have N335 := Fr.app N332 N335q
  have f337 := ((((xF_xa1_next.other W193 (Or.inr (slot_ne (Or.inl (w_203 hw)) (Or.inl (w_73 hw)) (by decide) (t := (.object "com/example/arbiter/arbiter/store/JobStore$Position")) (t' := .long) (by decide) (by decide)))).other W196 (Or.inr (slot_ne (Or.inl (w_203 hw)) (Or.inl (w_75 hw)) (by decide) (t := (.object "com/example/arbiter/arbiter/store/JobStore$Position")) (t' := .long) (by decide) (by decide)))).keep K290 nin0).keep K311 nin0)
  have f338 := (((f195.wr W196).keep K290).keep K311)
  obtain ⟨T339, h339, X339, e339, W339, st339⟩ := putF X335 hx hZ hown (host := "") (Or.inl (w_202 hw)) Via.refl e335 f337 f338 (Or.inl (w_203 hw)) (w_3 hw) (ty := (.object "com/example/arbiter/arbiter/store/JobStore$Position")) (by decide) rfl rfl (g := (mkF m 54 #[xvr xa1, .val .null, xvr xa2, xvj xi1, xse, xvj xi2, xse, xvr o312] [xwr xa3, xwr xa1])) rfl rfl (hb hby d9_54)
  have Fw339 := f337.same W339
  have N339 := Fr.snoc X339 N335 xg_xa1
  have f340 := (f338.wr W339)
  have f341 := ((((Fw193.other W196 (Or.inr (slot_ne (Or.inl (w_73 hw)) (Or.inl (w_75 hw)) (by decide) (t := .long) (t' := .long) (by decide) (by decide)))).keep K290 nin0).keep K311 nin0).other W339 (Or.inr (slot_ne (Or.inl (w_73 hw)) (Or.inl (w_203 hw)) (by decide) (t := .long) (t' := (.object "com/example/arbiter/arbiter/store/JobStore$Position")) (by decide) (by decide))))
  have f342 := (((Fw196.keep K290 nin0).keep K311 nin0).other W339 (Or.inr (slot_ne (Or.inl (w_75 hw)) (Or.inl (w_203 hw)) (by decide) (t := .long) (t' := (.object "com/example/arbiter/arbiter/store/JobStore$Position")) (by decide) (by decide))))
  obtain ⟨fs, hr, hrun, hended, hW, hsame⟩ := X339.leave (v := none) (fun _ => rfl)
  refine ⟨_, _, hTG _ (pre0 _ ?_), hrun, hended, _, _, rfl, ?_, ⟨_, rfl⟩, hW, hsame.mono (by decide) (by decide)⟩
  · refine y_aloadN X0 hx 1 (hb hby d9_0) rfl rfl rfl ?_
    refine XS.ifnonnullNo X0.here hx rfl (hb hby d9_1) rfl ?_
    show Sx p e below s₁ m 4 #[xvr xa1, .val .null, xvr xa2, xvj xi1, xse, xvj xi2, xse, xun] [] _
    refine y_aloadN X0 hx 5 (hb hby d9_4) rfl rfl rfl ?_
    refine y_lloadN X0 hx 6 (hb hby d9_5) rfl rfl ?_
    refine st193 _ ?_
    show Sx p e below T193 m 9 #[xvr xa1, .val .null, xvr xa2, xvj xi1, xse, xvj xi2, xse, xun] [] _
    refine y_aloadN X193 hx 10 (hb hby d9_9) rfl rfl rfl ?_
    refine y_lload X193 hx 12 (hb hby d9_10) rfl rfl ?_
    refine y_lloadN X193 hx 13 (hb hby d9_12) rfl rfl ?_
    refine y_lsub X193 hx 14 (hb hby d9_13) rfl ?_
    refine st196 _ ?_
    show Sx p e below T196 m 17 #[xvr xa1, .val .null, xvr xa2, xvj xi1, xse, xvj xi2, xse, xun] [] _
    refine y_aloadN X196 hx 18 (hb hby d9_17) rfl rfl rfl ?_
    refine st200.trans ?_
    show Sx p e below T200 m 21 #[xvr xa1, .val .null, xvr xa2, xvj xi1, xse, xvj xi2, xse, xun] [xwr G.a1] _
    refine st203 _ ?_
    show Sx p e below T203 m 24 #[xvr xa1, .val .null, xvr xa2, xvj xi1, xse, xvj xi2, xse, xun] [xwr G.a7, xwr G.a1] _
    refine st290.trans ?_
    show Sx p e below T290 m 27 #[xvr xa1, .val .null, xvr xa2, xvj xi1, xse, xvj xi2, xse, xun] [xwr o292] _
    refine st311 _ ?_
    show Sx p e below T311 m 30 #[xvr xa1, .val .null, xvr xa2, xvj xi1, xse, xvj xi2, xse, xun] [xwr o312] _
    refine XS.astore X311.here hx rfl (hb hby d9_30) rfl rfl (l' := #[xvr xa1, .val .null, xvr xa2, xvj xi1, xse, xvj xi2, xse, xvr o312]) rfl ?_
    show Sx p e below T311 m 32 #[xvr xa1, .val .null, xvr xa2, xvj xi1, xse, xvj xi2, xse, xvr o312] [] _
    refine y_aloadN X311 hx 33 (hb hby d9_32) rfl rfl rfl ?_
    refine y_aloadN X311 hx 34 (hb hby d9_33) rfl rfl rfl ?_
    refine st320.trans ?_
    show Sx p e below T320 m 37 #[xvr xa1, .val .null, xvr xa2, xvj xi1, xse, xvj xi2, xse, xvr o312] [xwr xa3, xwr xa1] _
    refine y_aload X320 hx 39 (hb hby d9_37) rfl rfl rfl ?_
    refine st332.trans ?_
    show Sx p e below T332 m 42 #[xvr xa1, .val .null, xvr xa2, xvj xi1, xse, xvj xi2, xse, xvr o312] [xwi (-1 : Int32), xwr xa1] _
    refine y_ifNo X332 hx 45 (hb hby d9_42) (XT.i0_ge_f (by decide)) rfl ?_
    refine y_aloadN X332 hx 46 (hb hby d9_45) rfl rfl rfl ?_
    refine st335.trans ?_
    show Sx p e below T335 m 49 #[xvr xa1, .val .null, xvr xa2, xvj xi1, xse, xvj xi2, xse, xvr o312] [xwr xa3, xwr xa1] _
    refine y_goto X335 hx 54 (hb hby d9_49) (by decide) (by decide) ?_
    refine st339 _ ?_
    show Sx p e below T339 m 57 #[xvr xa1, .val .null, xvr xa2, xvj xi1, xse, xvj xi2, xse, xvr o312] [] _
    exact X339.returnOut hx Bd.returns (hb hby d9_57) hr
  · show QrmA15 Z G xa1 xa2 xi1 xi2 xa3 h0 n0 _ T339.heap _
    rw [e339]
    exact ⟨rfl, N339, ((((((Keep.refl h0 [xa1]).wr W193 (Or.inl (List.mem_of_getElem? (i := 0) rfl))).wr W196 (Or.inl (List.mem_of_getElem? (i := 0) rfl))).trans K290 all0).trans K311 all0).wr W339 (Or.inl (List.mem_of_getElem? (i := 0) rfl))), f340, Fw339, f341, f342⟩
theorem pd_22 : parseMethodDescriptor "(Lcom/example/arbiter/arbiter/store/JobStore$Position;Lcom/example/arbiter/arbiter/store/JobStore$Claim;JJ)V" = some ⟨[(.object "com/example/arbiter/arbiter/store/JobStore$Position"), (.object "com/example/arbiter/arbiter/store/JobStore$Claim"), .long, .long], none⟩ := by decide +kernel
theorem ef_rmA37 (m : MethodId) (x0 : Addr) (x1 : Addr) (x2 : Int64)  : entryFrame m #[(.ref x0), (.ref x1), (.long x2)] 4 = mkF m 0 #[.val (.ref x0), .val (.ref x1), .val (.long x2), .second] [] := by first | (simp [entryFrame, mkF, argsToLocals, Value.category]; done) | rfl
def QrmA37 (Z : State) (G : Gs) (xa1 : Addr) (h0 : Heap) (n0 : Nat) (v : Option Value) (h : Heap) (L : List Loc) : Prop := v = none ∧ Fr n0 L ∧ Keep h0 h [xa1] ∧ Exa Z h xa1 "com/example/arbiter/arbiter/store/JobStore$Position" ∧ Fld Z h xa1 "com/example/arbiter/arbiter/store/JobStore$Position" "at" "Ljava/time/Instant;" (.ref G.a0) ∧ Fld Z h xa1 "com/example/arbiter/arbiter/store/JobStore$Position" "id" "J" (.long (2 : Int64))
set_option maxRecDepth 65536 in
set_option maxHeartbeats 40000000 in
theorem rmA37 (l : Launch) (Z : State) (a0 : Array Value) (hw : HW a0 Z) (G : Gs) (ST : StartF Z G) (ws : List Jvm.Cond) (xa1 : Addr) (h0 : Heap) (n0 : Nat) (X00 : Old Z n0 h0) (xE_xa1 : Exa Z h0 xa1 "com/example/arbiter/arbiter/store/JobStore$Position") (xF_xa1_at : Fld Z h0 xa1 "com/example/arbiter/arbiter/store/JobStore$Position" "at" "Ljava/time/Instant;" .null) (xF_xa1_id : Fld Z h0 xa1 "com/example/arbiter/arbiter/store/JobStore$Position" "id" "J" (.long (0 : Int64))) (xg_xa1 : n0 ≤ xa1) :
    MetFree l (⟨"com/example/arbiter/arbiter/store/JobStore$Position", "<init>", "(Ljava/time/Instant;J)V"⟩ : MethodName) (head1 (Jvm.Cond.code (⟨"com/example/arbiter/arbiter/store/JobStore$Position", "<init>", "(Ljava/time/Instant;J)V"⟩ : MethodName) prog_33_method_1_code 4 none :: ws) ({ frames := 2, cells := 0, slots := 0, locals := 24 } : Room)) (fun a U => a = #[(.ref xa1), (.ref G.a0), (.long (2 : Int64))] ∧ Z.Warmed39 U.vm ∧ U.heap = h0) (fun _ _ _ _ _ => True) (fun _ U o U' => ∃ v L, o = .returned v ∧ QrmA37 Z G xa1 h0 n0 v U'.heap L ∧ FrameEnd U o U' L ({ frames := 2, cells := 0, slots := 0, locals := 24 } : Room).cells ({ frames := 2, cells := 0, slots := 0, locals := 24 } : Room).slots) := by
  refine MetFree.of_bodySF (plainFor_of_name pn_3) hisR ?_
  intro p e s m args below meth c s₁ Bd hml0 hP hK
  obtain ⟨rfl, hZ, hh⟩ := hP
  have hx := Bd.exec
  have hby := Bd.bytes
  have hml : c.maxLocals = 4 := hml0
  have hown : s.vm.findClass "com/example/arbiter/arbiter/store/JobStore$Position" = some m.cls := findClass_of_methodNamed Bd.named
  have hnm := (name_of_methodNamed Bd.named Bd.method).1
  have X0 : Stand p l e ({ frames := 2, cells := 0, slots := 0, locals := 24 } : Room) s m #[(.ref xa1), (.ref G.a0), (.long (2 : Int64))] below meth c s₁ [] 0 0 := Stand.of_body Bd
  have e0 : s₁.heap = h0 := by rw [← hh, Bd.state]; rfl
  have N0 := Fr.nil n0
  have Z0 : n0 ≤ h0.size := by have q := X00.2.1; rw [X00.1] at q; exact q
  obtain ⟨TG, hTG, hT2⟩ : ∃ P : State → Prop, (∀ t, P t → Steps p.tables e below (s₁.setTop (entryFrame m #[(.ref xa1), (.ref G.a0), (.long (2 : Int64))] 4)) t) ∧ (∀ t, Steps p.tables e below (s₁.setTop (entryFrame m #[(.ref xa1), (.ref G.a0), (.long (2 : Int64))] 4)) t → P t) := ⟨_, fun t k => k, fun t k => k⟩
  have pre0 : ∀ t, Sx p e below s₁ m 0 #[xvr xa1, xvr G.a0, xvj (2 : Int64), xse] [] t → TG t := fun t k => hT2 t (castTop (ef_rmA37 m xa1 G.a0 (2 : Int64) ) k)
  obtain ⟨_, _, ⟨T375, L375, k375, n375⟩, -, X375, ⟨Lc375, hQ375, l375, y375, z375⟩, st375⟩ := X0.specialBack hx (y := (⟨"java/lang/Record", "<init>", "()V"⟩ : MethodName)) rfl hown (mvT hZ (w_19 hw)) (mvT hZ (w_20 hw)) (mvT hZ (w_23 hw)) (by decide) (backOf (W := 0) (rmA10 l Z a0 hw G ST [] xa1 h0 n0 X00 ) hZ (w_23 hw) (w_22 hw) (by decide) (by decide)) (g := (mkF m 1 #[xvr xa1, xvr G.a0, xvj (2 : Int64), xse] [xwr xa1])) rfl (by rw [hml]; rfl) (Steps.refl _) (a := xa1) (argsL := []) (rest := []) (lenOf pd_3 rfl) rfl (by show 2 * 0 + _ ≤ _; exact Nat.le_of_eq rfl) (hb hby d3_1) (fun _ _ => ⟨rfl, e0, (by decide : 0 + 0 ≤ _), (by decide : 0 + 0 ≤ _)⟩)
  dsimp only [Pt.U, Pt.locs, Pt.cells, Pt.slots] at X375 l375 y375 z375 st375 hQ375
  subst l375 y375 z375
  obtain ⟨rfl, N375q, e375⟩ := hQ375
  have N375 := Fr.app N0 N375q
  obtain ⟨T376, h376, X376, e376, W376, st376⟩ := putF X375 hx hZ hown (host := "") (Or.inl (w_25 hw)) Via.refl e375 xF_xa1_at xE_xa1 (Or.inr ⟨(w_26 hw), rfl, hnm⟩) (w_12 hw) (ty := (.object "java/time/Instant")) (by decide) rfl rfl (g := (mkF m 6 #[xvr xa1, xvr G.a0, xvj (2 : Int64), xse] [xwr G.a0, xwr xa1])) rfl rfl (hb hby d3_6)
  have Fw376 := xF_xa1_at.same W376
  have N376 := Fr.snoc X376 N375 xg_xa1
  have f377 := (xF_xa1_id.other W376 (Or.inr (slot_ne (Or.inr (w_28 hw)) (Or.inr (w_26 hw)) (by decide) (t := .long) (t' := (.object "java/time/Instant")) (by decide) (by decide))))
  have f378 := (xE_xa1.wr W376)
  obtain ⟨T379, h379, X379, e379, W379, st379⟩ := putF X376 hx hZ hown (host := "") (Or.inl (w_27 hw)) Via.refl e376 f377 f378 (Or.inr ⟨(w_28 hw), rfl, hnm⟩) (w_12 hw) (ty := .long) (by decide) rfl rfl (g := (mkF m 11 #[xvr xa1, xvr G.a0, xvj (2 : Int64), xse] [xwj (2 : Int64), xwr xa1])) rfl rfl (hb hby d3_11)
  have Fw379 := f377.same W379
  have N379 := Fr.snoc X379 N376 xg_xa1
  have f380 := (f378.wr W379)
  have f381 := (Fw376.other W379 (Or.inr (slot_ne (Or.inr (w_26 hw)) (Or.inr (w_28 hw)) (by decide) (t := (.object "java/time/Instant")) (t' := .long) (by decide) (by decide))))
  obtain ⟨fs, hr, hrun, hended, hW, hsame⟩ := X379.leave (v := none) (fun _ => rfl)
  refine ⟨_, _, hTG _ (pre0 _ ?_), hrun, hended, _, _, rfl, ?_, ⟨_, rfl⟩, hW, hsame.mono (by decide) (by decide)⟩
  · refine y_aloadN X0 hx 1 (hb hby d3_0) rfl rfl rfl ?_
    refine st375.trans ?_
    show Sx p e below T375 m 4 #[xvr xa1, xvr G.a0, xvj (2 : Int64), xse] [] _
    refine y_aloadN X375 hx 5 (hb hby d3_4) rfl rfl rfl ?_
    refine y_aloadN X375 hx 6 (hb hby d3_5) rfl rfl rfl ?_
    refine st376 _ ?_
    show Sx p e below T376 m 9 #[xvr xa1, xvr G.a0, xvj (2 : Int64), xse] [] _
    refine y_aloadN X376 hx 10 (hb hby d3_9) rfl rfl rfl ?_
    refine y_lloadN X376 hx 11 (hb hby d3_10) rfl rfl ?_
    refine st379 _ ?_
    show Sx p e below T379 m 14 #[xvr xa1, xvr G.a0, xvj (2 : Int64), xse] [] _
    exact X379.returnOut hx Bd.returns (hb hby d3_14) hr
  · show QrmA37 Z G xa1 h0 n0 _ T379.heap _
    rw [e379]
    exact ⟨rfl, N379, (((Keep.refl h0 [xa1]).wr W376 (Or.inl (List.mem_of_getElem? (i := 0) rfl))).wr W379 (Or.inl (List.mem_of_getElem? (i := 0) rfl))), f380, f381, Fw379⟩
theorem ef_rmA38 (m : MethodId) (x0 : Addr) (x1 : Addr) (x2 : Addr) (x3 : Int64) (x4 : Int64)  : entryFrame m #[(.ref x0), (.ref x1), (.ref x2), (.long x3), (.long x4)] 8 = mkF m 0 #[.val (.ref x0), .val (.ref x1), .val (.ref x2), .val (.long x3), .second, .val (.long x4), .second, .unset] [] := by first | (simp [entryFrame, mkF, argsToLocals, Value.category]; done) | rfl
def QrmA38 (Z : State) (G : Gs) (xa1 : Addr) (xa2 : Addr) (xa3 : Addr) (xi1 : Int64) (xi2 : Int64) (xi3 : Int64) (xi4 : Int64) (xa4 : Addr) (h0 : Heap) (n0 : Nat) (v : Option Value) (h : Heap) (L : List Loc) : Prop := v = none ∧ Fr n0 L ∧ Keep h0 h [xa1] ∧ Exa Z h xa1 "com/example/arbiter/arbiter/service/ClaimCursor" ∧ Fld Z h xa1 "com/example/arbiter/arbiter/service/ClaimCursor" "next" "Lcom/example/arbiter/arbiter/store/JobStore$Position;" (.ref xa4) ∧ Fld Z h xa1 "com/example/arbiter/arbiter/service/ClaimCursor" "oldestReadAt" "J" (.long xi3) ∧ Fld Z h xa1 "com/example/arbiter/arbiter/service/ClaimCursor" "oldestReadNanos" "J" (.long xi4)
set_option maxRecDepth 65536 in
set_option maxHeartbeats 40000000 in
theorem rmA38 (l : Launch) (Z : State) (a0 : Array Value) (hw : HW a0 Z) (G : Gs) (ST : StartF Z G) (ws : List Jvm.Cond) (xa1 : Addr) (xa2 : Addr) (xa3 : Addr) (xi1 : Int64) (xi2 : Int64) (xi3 : Int64) (xi4 : Int64) (xa4 : Addr) (h0 : Heap) (n0 : Nat) (X00 : Old Z n0 h0) (xE_xa1 : Exa Z h0 xa1 "com/example/arbiter/arbiter/service/ClaimCursor") (xF_xa1_next : Fld Z h0 xa1 "com/example/arbiter/arbiter/service/ClaimCursor" "next" "Lcom/example/arbiter/arbiter/store/JobStore$Position;" (.ref xa2)) (xF_xa1_oldestReadAt : Fld Z h0 xa1 "com/example/arbiter/arbiter/service/ClaimCursor" "oldestReadAt" "J" (.long xi3)) (xF_xa1_oldestReadNanos : Fld Z h0 xa1 "com/example/arbiter/arbiter/service/ClaimCursor" "oldestReadNanos" "J" (.long xi4)) (xg_xa1 : n0 ≤ xa1) (xE_xa3 : Exa Z h0 xa3 "com/example/arbiter/arbiter/store/JobStore$Claim") (xF_xa3_end : Fld Z h0 xa3 "com/example/arbiter/arbiter/store/JobStore$Claim" "end" "Lcom/example/arbiter/arbiter/store/JobStore$Position;" (.ref xa4)) (xF_xa3_readAt : Fld Z h0 xa3 "com/example/arbiter/arbiter/store/JobStore$Claim" "readAt" "Ljava/time/Instant;" (.ref G.a1)) (xE_xa4 : Exa Z h0 xa4 "com/example/arbiter/arbiter/store/JobStore$Position") (xF_xa4_at : Fld Z h0 xa4 "com/example/arbiter/arbiter/store/JobStore$Position" "at" "Ljava/time/Instant;" (.ref G.a0)) :
    MetFree l (⟨"com/example/arbiter/arbiter/service/ClaimCursor", "moved", "(Lcom/example/arbiter/arbiter/store/JobStore$Position;Lcom/example/arbiter/arbiter/store/JobStore$Claim;JJ)V"⟩ : MethodName) (head1 (Jvm.Cond.code (⟨"com/example/arbiter/arbiter/service/ClaimCursor", "moved", "(Lcom/example/arbiter/arbiter/store/JobStore$Position;Lcom/example/arbiter/arbiter/store/JobStore$Claim;JJ)V"⟩ : MethodName) prog_14_method_3_code 8 none :: ws) ({ frames := 11, cells := 2, slots := 4, locals := 166 } : Room)) (fun a U => a = #[(.ref xa1), (.ref xa2), (.ref xa3), (.long xi1), (.long xi2)] ∧ Z.Warmed39 U.vm ∧ U.heap = h0) (fun _ _ _ _ _ => True) (fun _ U o U' => ∃ v L, o = .returned v ∧ QrmA38 Z G xa1 xa2 xa3 xi1 xi2 xi3 xi4 xa4 h0 n0 v U'.heap L ∧ FrameEnd U o U' L ({ frames := 11, cells := 2, slots := 4, locals := 166 } : Room).cells ({ frames := 11, cells := 2, slots := 4, locals := 166 } : Room).slots) := by
  refine MetFree.of_bodySF (plainFor_of_name pn_1) hisR ?_
  intro p e s m args below meth c s₁ Bd hml0 hP hK
  obtain ⟨rfl, hZ, hh⟩ := hP
  have hx := Bd.exec
  have hby := Bd.bytes
  have hml : c.maxLocals = 8 := hml0
  have hown : s.vm.findClass "com/example/arbiter/arbiter/service/ClaimCursor" = some m.cls := findClass_of_methodNamed Bd.named
  have hnm := (name_of_methodNamed Bd.named Bd.method).1
  have X0 : Stand p l e ({ frames := 11, cells := 2, slots := 4, locals := 166 } : Room) s m #[(.ref xa1), (.ref xa2), (.ref xa3), (.long xi1), (.long xi2)] below meth c s₁ [] 0 0 := Stand.of_body Bd
  have e0 : s₁.heap = h0 := by rw [← hh, Bd.state]; rfl
  have N0 := Fr.nil n0
  have Z0 : n0 ≤ h0.size := by have q := X00.2.1; rw [X00.1] at q; exact q
  obtain ⟨TG, hTG, hT2⟩ : ∃ P : State → Prop, (∀ t, P t → Steps p.tables e below (s₁.setTop (entryFrame m #[(.ref xa1), (.ref xa2), (.ref xa3), (.long xi1), (.long xi2)] 8)) t) ∧ (∀ t, Steps p.tables e below (s₁.setTop (entryFrame m #[(.ref xa1), (.ref xa2), (.ref xa3), (.long xi1), (.long xi2)] 8)) t → P t) := ⟨_, fun t k => k, fun t k => k⟩
  have pre0 : ∀ t, Sx p e below s₁ m 0 #[xvr xa1, xvr xa2, xvr xa3, xvj xi1, xse, xvj xi2, xse, xun] [] t → TG t := fun t k => hT2 t (castTop (ef_rmA38 m xa1 xa2 xa3 xi1 xi2 ) k)
  obtain ⟨cq405, kq405, q405a, q405b, q405c⟩ := isOf hZ e0 xE_xa3
  obtain ⟨_, _, ⟨T404, L404, k404, n404⟩, -, X404, ⟨Lc404, hQ404, l404, y404, z404⟩, st404⟩ := X0.virtualBack hx (y := (⟨"com/example/arbiter/arbiter/store/JobStore$Claim", "readAt", "()Ljava/time/Instant;"⟩ : MethodName)) (z := (⟨"com/example/arbiter/arbiter/store/JobStore$Claim", "readAt", "()Ljava/time/Instant;"⟩ : MethodName)) hown (mvT hZ (w_76 hw)) (mvT hZ (w_77 hw)) (notFace_of_selects (args := #[]) (mvT hZ (w_79 hw))) (mvT hZ (w_79 hw)) (mvT hZ (w_78 hw)) (by decide) (backOf (W := 0) (rmA16 l Z a0 hw G ST [] xa3 h0 n0 X00 xF_xa3_readAt) hZ (w_80 hw) (w_31 hw) (by decide) (by decide)) q405a q405c (g := (mkF m 18 #[xvr xa1, xvr xa2, xvr xa3, xvj xi1, xse, xvj xi2, xse, xun] [xwr xa3])) rfl (by rw [hml]; rfl) (Steps.refl _) (argsL := []) (rest := []) (lenOf pd_7 rfl) rfl (by show 2 * 0 + _ ≤ _; exact Nat.le_of_eq rfl) (hb hby d9_18) (fun _ _ => ⟨rfl, e0, (by decide : 0 + 0 ≤ _), (by decide : 0 + 0 ≤ _)⟩)
  dsimp only [Pt.U, Pt.locs, Pt.cells, Pt.slots] at X404 l404 y404 z404 st404 hQ404
  subst l404 y404 z404
  obtain ⟨rfl, N404q, e404⟩ := hQ404
  have N404 := Fr.app N0 N404q
  obtain ⟨T406, X406, e406, st406⟩ := getS2 X404 hx hZ hown (host := "") (Or.inl (w_81 hw)) Via.refl e404 (ST.c15.ext X00.2) (g := (mkF m 21 #[xvr xa1, xvr xa2, xvr xa3, xvj xi1, xse, xvj xi2, xse, xun] [xwr G.a1])) rfl (hb hby d9_21)
  obtain ⟨cq408, kq408, q408a, q408b, q408c⟩ := isOf hZ e406 (ST.c5.ext X00.2)
  obtain ⟨_, _, ⟨T407, L407, k407, n407⟩, -, X407, ⟨Lc407, hQ407, l407, y407, z407⟩, st407⟩ := X406.virtualBack hx (y := (⟨"java/time/Instant", "minus", "(Ljava/time/temporal/TemporalAmount;)Ljava/time/Instant;"⟩ : MethodName)) (z := (⟨"java/time/Instant", "minus", "(Ljava/time/temporal/TemporalAmount;)Ljava/time/Instant;"⟩ : MethodName)) hown (mvT hZ (w_83 hw)) (mvT hZ (w_84 hw)) (notFace_of_selects (args := #[]) (mvT hZ (w_86 hw))) (mvT hZ (w_86 hw)) (mvT hZ (w_85 hw)) (by decide) (backOf (W := 0) (rmA17 l Z a0 hw G ST []  h0 n0 X00 ) hZ (w_87 hw) (w_15 hw) (by decide) (by decide)) q408a q408c (g := (mkF m 24 #[xvr xa1, xvr xa2, xvr xa3, xvj xi1, xse, xvj xi2, xse, xun] [xwr G.a7, xwr G.a1])) rfl (by rw [hml]; rfl) (Steps.refl _) (argsL := [(.ref G.a7)]) (rest := []) (lenOf pd_16 rfl) rfl (by show 2 * 0 + _ ≤ _; exact Nat.le_of_eq rfl) (hb hby d9_24) (fun _ _ => ⟨rfl, e406, (by decide : 0 + 1 ≤ _), (by decide : 0 + 2 ≤ _)⟩)
  dsimp only [Pt.U, Pt.locs, Pt.cells, Pt.slots] at X407 l407 y407 z407 st407 hQ407
  subst l407 y407 z407
  obtain ⟨hp407, e407⟩ : ∃ z, T407.heap = z := ⟨_, rfl⟩
  rw [e407] at hQ407
  obtain ⟨o409, rfl, N407q, K407, p410, p411, p412, p413⟩ := hQ407
  have N407 := Fr.app N404 N407q
  have Ol414 : Old Z n0 hp407 := (X00.keep K407 all0)
  obtain ⟨_, _, ⟨T415, L415, k415, n415⟩, -, X415, ⟨Lc415, hQ415, l415, y415, z415⟩, st415⟩ := Jvm.LawKit.callS X407 hx (y := (⟨"com/example/arbiter/arbiter/store/JobStore$Position", "after", "(Ljava/time/Instant;)Lcom/example/arbiter/arbiter/store/JobStore$Position;"⟩ : MethodName)) hown (mvT hZ (w_177 hw)) (mvT hZ (w_178 hw)) (mvT hZ (w_13 hw)) (mvT hZ (w_179 hw)) (by decide) (backOf (W := 0) (rmA31 l Z a0 hw G ST [] o409 hp407 n0 Ol414 ) hZ (w_179 hw) (w_13 hw) (by decide) (by decide)) (g := (mkF m 27 #[xvr xa1, xvr xa2, xvr xa3, xvj xi1, xse, xvj xi2, xse, xun] [xwr o409])) rfl (by rw [hml]; rfl) (argsL := [(.ref o409)]) (rest := []) (lenOf pd_17 rfl) rfl (by show 2 * 0 + _ ≤ _; exact Nat.le_of_eq rfl) (hb hby d9_27) (fun _ _ => ⟨rfl, e407, (by decide : 1 + 1 ≤ _), (by decide : 2 + 2 ≤ _)⟩)
  dsimp only [Pt.U, Pt.locs, Pt.cells, Pt.slots] at X415 l415 y415 z415 st415 hQ415
  subst l415 y415 z415
  obtain ⟨hp415, e415⟩ : ∃ z, T415.heap = z := ⟨_, rfl⟩
  rw [e415] at hQ415
  obtain ⟨o416, rfl, N415q, K415, p417, p418, p419, p420⟩ := hQ415
  have N415 := Fr.app N407 N415q
  have f421 := ((xF_xa3_end.keep K407 nin0).keep K415 nin0)
  have Ol422 : Old Z n0 hp415 := (Ol414.keep K415 all0)
  have f424 := ((xE_xa3.keep K407).keep K415)
  obtain ⟨cq425, kq425, q425a, q425b, q425c⟩ := isOf hZ e415 f424
  obtain ⟨_, _, ⟨T423, L423, k423, n423⟩, -, X423, ⟨Lc423, hQ423, l423, y423, z423⟩, st423⟩ := X415.virtualBack hx (y := (⟨"com/example/arbiter/arbiter/store/JobStore$Claim", "end", "()Lcom/example/arbiter/arbiter/store/JobStore$Position;"⟩ : MethodName)) (z := (⟨"com/example/arbiter/arbiter/store/JobStore$Claim", "end", "()Lcom/example/arbiter/arbiter/store/JobStore$Position;"⟩ : MethodName)) hown (mvT hZ (w_183 hw)) (mvT hZ (w_184 hw)) (notFace_of_selects (args := #[]) (mvT hZ (w_186 hw))) (mvT hZ (w_186 hw)) (mvT hZ (w_185 hw)) (by decide) (backOf (W := 1) (rmA33 l Z a0 hw G ST [] xa3 xa4 hp415 n0 Ol422 f421) hZ (w_187 hw) (w_31 hw) (by decide) (by decide)) q425a q425c (g := (mkF m 34 #[xvr xa1, xvr xa2, xvr xa3, xvj xi1, xse, xvj xi2, xse, xvr o416] [xwr xa3, xwr xa1])) rfl (by rw [hml]; rfl) (Steps.refl _) (argsL := []) (rest := [(.ref xa1)]) (lenOf pd_18 rfl) rfl (by show 2 * 0 + _ ≤ _; exact Nat.le_of_eq rfl) (hb hby d9_34) (fun _ _ => ⟨rfl, e415, (by decide : 2 + 0 ≤ _), (by decide : 4 + 0 ≤ _)⟩)
  dsimp only [Pt.U, Pt.locs, Pt.cells, Pt.slots] at X423 l423 y423 z423 st423 hQ423
  subst l423 y423 z423
  obtain ⟨rfl, N423q, e423⟩ := hQ423
  have N423 := Fr.app N415 N423q
  have f426 := ((xF_xa4_at.keep K407 nin0).keep K415 nin0)
  have f427 := (p413.keep K415 nin0)
  have f429 := ((xE_xa4.keep K407).keep K415)
  obtain ⟨cq430, kq430, q430a, q430b, q430c⟩ := isOf hZ e423 f429
  obtain ⟨_, _, ⟨T428, L428, k428, n428⟩, -, X428, ⟨Lc428, hQ428, l428, y428, z428⟩, st428⟩ := X423.virtualBack hx (y := (⟨"com/example/arbiter/arbiter/store/JobStore$Position", "compareTo", "(Lcom/example/arbiter/arbiter/store/JobStore$Position;)I"⟩ : MethodName)) (z := (⟨"com/example/arbiter/arbiter/store/JobStore$Position", "compareTo", "(Lcom/example/arbiter/arbiter/store/JobStore$Position;)I"⟩ : MethodName)) hown (mvT hZ (w_188 hw)) (mvT hZ (w_189 hw)) (notFace_of_selects (args := #[]) (mvT hZ (w_191 hw))) (mvT hZ (w_191 hw)) (mvT hZ (w_190 hw)) (by decide) (backOf (W := 1) (rmA34 l Z a0 hw G ST [] xa4 o416 o409 hp415 n0 Ol422 f426 p419 f427) hZ (w_192 hw) (w_13 hw) (by decide) (by decide)) q430a q430c (g := (mkF m 39 #[xvr xa1, xvr xa2, xvr xa3, xvj xi1, xse, xvj xi2, xse, xvr o416] [xwr o416, xwr xa4, xwr xa1])) rfl (by rw [hml]; rfl) (Steps.refl _) (argsL := [(.ref o416)]) (rest := [(.ref xa1)]) (lenOf pd_21 rfl) rfl (by show 2 * 0 + _ ≤ _; exact Nat.le_of_eq rfl) (hb hby d9_39) (fun _ _ => ⟨rfl, e423, (by decide : 2 + 0 ≤ _), (by decide : 4 + 0 ≤ _)⟩)
  dsimp only [Pt.U, Pt.locs, Pt.cells, Pt.slots] at X428 l428 y428 z428 st428 hQ428
  subst l428 y428 z428
  obtain ⟨rfl, N428q, e428⟩ := hQ428
  have N428 := Fr.app N423 N428q
  obtain ⟨cq432, kq432, q432a, q432b, q432c⟩ := isOf hZ e428 f424
  obtain ⟨_, _, ⟨T431, L431, k431, n431⟩, -, X431, ⟨Lc431, hQ431, l431, y431, z431⟩, st431⟩ := X428.virtualBack hx (y := (⟨"com/example/arbiter/arbiter/store/JobStore$Claim", "end", "()Lcom/example/arbiter/arbiter/store/JobStore$Position;"⟩ : MethodName)) (z := (⟨"com/example/arbiter/arbiter/store/JobStore$Claim", "end", "()Lcom/example/arbiter/arbiter/store/JobStore$Position;"⟩ : MethodName)) hown (mvT hZ (w_183 hw)) (mvT hZ (w_184 hw)) (notFace_of_selects (args := #[]) (mvT hZ (w_186 hw))) (mvT hZ (w_186 hw)) (mvT hZ (w_185 hw)) (by decide) (backOf (W := 1) (rmA33 l Z a0 hw G ST [] xa3 xa4 hp415 n0 Ol422 f421) hZ (w_187 hw) (w_31 hw) (by decide) (by decide)) q432a q432c (g := (mkF m 46 #[xvr xa1, xvr xa2, xvr xa3, xvj xi1, xse, xvj xi2, xse, xvr o416] [xwr xa3, xwr xa1])) rfl (by rw [hml]; rfl) (Steps.refl _) (argsL := []) (rest := [(.ref xa1)]) (lenOf pd_18 rfl) rfl (by show 2 * 0 + _ ≤ _; exact Nat.le_of_eq rfl) (hb hby d9_46) (fun _ _ => ⟨rfl, e428, (by decide : 2 + 0 ≤ _), (by decide : 4 + 0 ≤ _)⟩)
  dsimp only [Pt.U, Pt.locs, Pt.cells, Pt.slots] at X431 l431 y431 z431 st431 hQ431
  subst l431 y431 z431
  obtain ⟨rfl, N431q, e431⟩ := hQ431
  have N431 := Fr.app N428 N431q
  have f433 := ((xF_xa1_next.keep K407 nin0).keep K415 nin0)
  have f434 := ((xE_xa1.keep K407).keep K415)
  obtain ⟨T435, h435, X435, e435, W435, st435⟩ := putF X431 hx hZ hown (host := "") (Or.inl (w_202 hw)) Via.refl e431 f433 f434 (Or.inl (w_203 hw)) (w_3 hw) (ty := (.object "com/example/arbiter/arbiter/store/JobStore$Position")) (by decide) rfl rfl (g := (mkF m 54 #[xvr xa1, xvr xa2, xvr xa3, xvj xi1, xse, xvj xi2, xse, xvr o416] [xwr xa4, xwr xa1])) rfl rfl (hb hby d9_54)
  have Fw435 := f433.same W435
  have N435 := Fr.snoc X435 N431 xg_xa1
  have f436 := (f434.wr W435)
  have f437 := (((xF_xa1_oldestReadAt.keep K407 nin0).keep K415 nin0).other W435 (Or.inr (slot_ne (Or.inl (w_73 hw)) (Or.inl (w_203 hw)) (by decide) (t := .long) (t' := (.object "com/example/arbiter/arbiter/store/JobStore$Position")) (by decide) (by decide))))
  have f438 := (((xF_xa1_oldestReadNanos.keep K407 nin0).keep K415 nin0).other W435 (Or.inr (slot_ne (Or.inl (w_75 hw)) (Or.inl (w_203 hw)) (by decide) (t := .long) (t' := (.object "com/example/arbiter/arbiter/store/JobStore$Position")) (by decide) (by decide))))
  obtain ⟨fs, hr, hrun, hended, hW, hsame⟩ := X435.leave (v := none) (fun _ => rfl)
  refine ⟨_, _, hTG _ (pre0 _ ?_), hrun, hended, _, _, rfl, ?_, ⟨_, rfl⟩, hW, hsame.mono (by decide) (by decide)⟩
  · refine y_aloadN X0 hx 1 (hb hby d9_0) rfl rfl rfl ?_
    refine XS.ifnonnullYes X0.here hx rfl (pc0 := 1) (pc' := 17) rfl (hb hby d9_1) rfl (by decide) (by decide) ?_
    show Sx p e below s₁ m 17 #[xvr xa1, xvr xa2, xvr xa3, xvj xi1, xse, xvj xi2, xse, xun] [] _
    refine y_aloadN X0 hx 18 (hb hby d9_17) rfl rfl rfl ?_
    refine st404.trans ?_
    show Sx p e below T404 m 21 #[xvr xa1, xvr xa2, xvr xa3, xvj xi1, xse, xvj xi2, xse, xun] [xwr G.a1] _
    refine st406 _ ?_
    show Sx p e below T406 m 24 #[xvr xa1, xvr xa2, xvr xa3, xvj xi1, xse, xvj xi2, xse, xun] [xwr G.a7, xwr G.a1] _
    refine st407.trans ?_
    show Sx p e below T407 m 27 #[xvr xa1, xvr xa2, xvr xa3, xvj xi1, xse, xvj xi2, xse, xun] [xwr o409] _
    refine st415 _ ?_
    show Sx p e below T415 m 30 #[xvr xa1, xvr xa2, xvr xa3, xvj xi1, xse, xvj xi2, xse, xun] [xwr o416] _
    refine XS.astore X415.here hx rfl (hb hby d9_30) rfl rfl (l' := #[xvr xa1, xvr xa2, xvr xa3, xvj xi1, xse, xvj xi2, xse, xvr o416]) rfl ?_
    show Sx p e below T415 m 32 #[xvr xa1, xvr xa2, xvr xa3, xvj xi1, xse, xvj xi2, xse, xvr o416] [] _
    refine y_aloadN X415 hx 33 (hb hby d9_32) rfl rfl rfl ?_
    refine y_aloadN X415 hx 34 (hb hby d9_33) rfl rfl rfl ?_
    refine st423.trans ?_
    show Sx p e below T423 m 37 #[xvr xa1, xvr xa2, xvr xa3, xvj xi1, xse, xvj xi2, xse, xvr o416] [xwr xa4, xwr xa1] _
    refine y_aload X423 hx 39 (hb hby d9_37) rfl rfl rfl ?_
    refine st428.trans ?_
    show Sx p e below T428 m 42 #[xvr xa1, xvr xa2, xvr xa3, xvj xi1, xse, xvj xi2, xse, xvr o416] [xwi (-1 : Int32), xwr xa1] _
    refine y_ifNo X428 hx 45 (hb hby d9_42) (XT.i0_ge_f (by decide)) rfl ?_
    refine y_aloadN X428 hx 46 (hb hby d9_45) rfl rfl rfl ?_
    refine st431.trans ?_
    show Sx p e below T431 m 49 #[xvr xa1, xvr xa2, xvr xa3, xvj xi1, xse, xvj xi2, xse, xvr o416] [xwr xa4, xwr xa1] _
    refine y_goto X431 hx 54 (hb hby d9_49) (by decide) (by decide) ?_
    refine st435 _ ?_
    show Sx p e below T435 m 57 #[xvr xa1, xvr xa2, xvr xa3, xvj xi1, xse, xvj xi2, xse, xvr o416] [] _
    exact X435.returnOut hx Bd.returns (hb hby d9_57) hr
  · show QrmA38 Z G xa1 xa2 xa3 xi1 xi2 xi3 xi4 xa4 h0 n0 _ T435.heap _
    rw [e435]
    exact ⟨rfl, N435, ((((Keep.refl h0 [xa1]).trans K407 all0).trans K415 all0).wr W435 (Or.inl (List.mem_of_getElem? (i := 0) rfl))), f436, Fw435, f437, f438⟩
theorem pn_11 : plainName "com/example/arbiter/arbiter/service/ClaimCursorFromPinLaw" = true := by first | (simp [plainName, overriddenIn]; done) | decide +kernel
def Qrm0 (Z : State) (G : Gs) (q0 : Int64) (q1 : Int64) (q2 : Int64) (q3 : Int64) (q4 : Int64) (q5 : Int64) (h0 : Heap) (n0 : Nat) (v : Option Value) (h : Heap) (L : List Loc) : Prop := v = some (.int (1 : Int32)) ∧ Fr n0 L ∧ Keep h0 h []
set_option maxRecDepth 65536 in
set_option maxHeartbeats 40000000 in
theorem rm0 (l : Launch) (Z : State) (a0 : Array Value) (hw : HW a0 Z) (G : Gs) (ST : StartF Z G) (ws : List Jvm.Cond) (q0 : Int64) (q1 : Int64) (q2 : Int64) (q3 : Int64) (q4 : Int64) (q5 : Int64) (h0 : Heap) (n0 : Nat) (X00 : Old Z n0 h0) :
    MetFree l x (head1 (Jvm.Cond.code x code maxLocals ret :: ws) room_1) (fun a U => a = #[(.long q0), (.long q1), (.long q2), (.long q3), (.long q4), (.long q5)] ∧ Z.Warmed39 U.vm ∧ U.heap = h0) (fun _ _ _ _ _ => True) (fun _ U o U' => ∃ v L, o = .returned v ∧ Qrm0 Z G q0 q1 q2 q3 q4 q5 h0 n0 v U'.heap L ∧ FrameEnd U o U' L 11 27) := by
  refine MetFree.of_bodySF (plainFor_of_name pn_11) hisR ?_
  intro p e s m args below meth c s₁ Bd hml0 hP hK
  obtain ⟨rfl, hZ, hh⟩ := hP
  have hx := Bd.exec
  have hby := Bd.bytes
  have hml : c.maxLocals = 25 := hml0
  have hown : s.vm.findClass "com/example/arbiter/arbiter/service/ClaimCursorFromPinLaw" = some m.cls := findClass_of_methodNamed Bd.named
  have hnm := (name_of_methodNamed Bd.named Bd.method).1
  have X0 : Stand p l e room_1 s m #[(.long q0), (.long q1), (.long q2), (.long q3), (.long q4), (.long q5)] below meth c s₁ [] 0 0 := Stand.of_body Bd
  have e0 : s₁.heap = h0 := by rw [← hh, Bd.state]; rfl
  have N0 := Fr.nil n0
  have Z0 : n0 ≤ h0.size := by have q := X00.2.1; rw [X00.1] at q; exact q
  obtain ⟨TG, hTG, hT2⟩ : ∃ P : State → Prop, (∀ t, P t → Steps p.tables e below (s₁.setTop (entryFrame m #[(.long q0), (.long q1), (.long q2), (.long q3), (.long q4), (.long q5)] maxLocals)) t) ∧ (∀ t, Steps p.tables e below (s₁.setTop (entryFrame m #[(.long q0), (.long q1), (.long q2), (.long q3), (.long q4), (.long q5)] maxLocals)) t → P t) := ⟨_, fun t k => k, fun t k => k⟩
  have pre0 : ∀ t, Sx p e below s₁ m 0 #[xvj q0, xse, xvj q1, xse, xvj q2, xse, xvj q3, xse, xvj q4, xse, xvj q5, xse, xun, xun, xun, xun, xun, xun, xun, xun, xun, xun, xun, xun, xun] [] t → TG t := fun t k => hT2 t (castTop (ef_rm0 m q0 q1 q2 q3 q4 q5 ) k)
  obtain ⟨md, e_md⟩ : ∃ z, z = ((q5 &&& (3 : Int64)).toInt32) := ⟨_, rfl⟩
  obtain ⟨T118, h118, X118, e118, E118, A118, D118, -, st118⟩ := newO X0 hx hZ hown (w_2 hw) (w_3 hw) (w_4 hw) e0 (g := (mkF m 22 #[xvj q0, xse, xvj q1, xse, xvj q2, xse, xvj q3, xse, xvj q4, xse, xvj q5, xse, xvi md, xvj (q1 &&& (288230376151711743 : Int64)), xse, xvj (q0 + q2), xse, xun, xun, xun, xun, xun, xun, xun, xun] [])) rfl (hb hby at_22) (by decide) (by decide)
  obtain ⟨b118, g118⟩ : ∃ z, z = h0.size := ⟨_, rfl⟩
  rw [← g118] at A118 D118 st118
  have Fb118_oldestReadAt : Fld Z h118 b118 "com/example/arbiter/arbiter/service/ClaimCursor" "oldestReadAt" "J" (.long (0 : Int64)) := D118 (Or.inl (w_73 hw)) (ty := .long) (by decide)
  have Fb118_oldestReadNanos : Fld Z h118 b118 "com/example/arbiter/arbiter/service/ClaimCursor" "oldestReadNanos" "J" (.long (0 : Int64)) := D118 (Or.inl (w_75 hw)) (ty := .long) (by decide)
  have Fb118_next : Fld Z h118 b118 "com/example/arbiter/arbiter/service/ClaimCursor" "next" "Lcom/example/arbiter/arbiter/store/JobStore$Position;" .null := D118 (Or.inl (w_203 hw)) (ty := (.object "com/example/arbiter/arbiter/store/JobStore$Position")) (by decide)
  have Ol120 : Old Z n0 h118 := (X00.ext E118)
  obtain ⟨_, _, ⟨T121, L121, k121, n121⟩, -, X121, ⟨Lc121, hQ121, l121, y121, z121⟩, st121⟩ := X118.specialBack hx (y := (⟨"com/example/arbiter/arbiter/service/ClaimCursor", "<init>", "()V"⟩ : MethodName)) rfl hown (mvT hZ (w_5 hw)) (mvT hZ (w_6 hw)) (mvT hZ (w_7 hw)) (by decide) (backOf (W := 1) (rmA6 l Z a0 hw G ST [] b118 h118 n0 Ol120 ) hZ (w_7 hw) (w_4 hw) (by decide) (by decide)) (g := (mkF m 26 #[xvj q0, xse, xvj q1, xse, xvj q2, xse, xvj q3, xse, xvj q4, xse, xvj q5, xse, xvi md, xvj (q1 &&& (288230376151711743 : Int64)), xse, xvj (q0 + q2), xse, xun, xun, xun, xun, xun, xun, xun, xun] [xwr b118, xwr b118])) rfl (by rw [hml]; rfl) (Steps.refl _) (a := b118) (argsL := []) (rest := [(.ref b118)]) (lenOf pd_3 rfl) rfl (by show 2 * 0 + _ ≤ _; exact Nat.le_of_eq rfl) (hb hby at_26) (fun _ _ => ⟨rfl, e118, (by decide : 1 + 0 ≤ _), (by decide : 3 + 0 ≤ _)⟩)
  dsimp only [Pt.U, Pt.locs, Pt.cells, Pt.slots] at X121 l121 y121 z121 st121 hQ121
  subst l121 y121 z121
  obtain ⟨rfl, N121q, e121⟩ := hQ121
  have N121 := Fr.app N0 N121q
  have c122 : ∀ t, Sx p e below T121 m 33 #[xvj q0, xse, xvj q1, xse, xvj q2, xse, xvj q3, xse, xvj q4, xse, xvj q5, xse, xvi md, xvj (q1 &&& (288230376151711743 : Int64)), xse, xvj (q0 + q2), xse, xvr b118, xun, xun, xun, xun, xun, xun, xun] [xwi md] t → TG t := fun t k => pre0 t (by
    refine y_lload X0 hx 2 (hb hby at_0) rfl rfl ?_
    refine X0.ldc2Long hx hown (mvT hZ (w_0 hw)) (g := (mkF m 2 #[xvj q0, xse, xvj q1, xse, xvj q2, xse, xvj q3, xse, xvj q4, xse, xvj q5, xse, xun, xun, xun, xun, xun, xun, xun, xun, xun, xun, xun, xun, xun] [xwj q5])) rfl (hb hby at_2) _ ?_
    show Sx p e below s₁ m 5 #[xvj q0, xse, xvj q1, xse, xvj q2, xse, xvj q3, xse, xvj q4, xse, xvj q5, xse, xun, xun, xun, xun, xun, xun, xun, xun, xun, xun, xun, xun, xun] [xwj (3 : Int64), xwj q5] _
    refine y_land X0 hx 6 (hb hby at_5) rfl ?_
    refine XS.l2i X0.here hx rfl (hb hby at_6) rfl ?_
    show Sx p e below s₁ m 7 #[xvj q0, xse, xvj q1, xse, xvj q2, xse, xvj q3, xse, xvj q4, xse, xvj q5, xse, xun, xun, xun, xun, xun, xun, xun, xun, xun, xun, xun, xun, xun] [xwi ((q5 &&& (3 : Int64)).toInt32)] _
    rw [← e_md]
    refine XS.istore X0.here hx rfl (hb hby at_7) rfl (l' := #[xvj q0, xse, xvj q1, xse, xvj q2, xse, xvj q3, xse, xvj q4, xse, xvj q5, xse, xvi md, xun, xun, xun, xun, xun, xun, xun, xun, xun, xun, xun, xun]) rfl ?_
    show Sx p e below s₁ m 9 #[xvj q0, xse, xvj q1, xse, xvj q2, xse, xvj q3, xse, xvj q4, xse, xvj q5, xse, xvi md, xun, xun, xun, xun, xun, xun, xun, xun, xun, xun, xun, xun] [] _
    refine y_lloadN X0 hx 10 (hb hby at_9) rfl rfl ?_
    refine X0.ldc2Long hx hown (mvT hZ (w_1 hw)) (g := (mkF m 10 #[xvj q0, xse, xvj q1, xse, xvj q2, xse, xvj q3, xse, xvj q4, xse, xvj q5, xse, xvi md, xun, xun, xun, xun, xun, xun, xun, xun, xun, xun, xun, xun] [xwj q1])) rfl (hb hby at_10) _ ?_
    show Sx p e below s₁ m 13 #[xvj q0, xse, xvj q1, xse, xvj q2, xse, xvj q3, xse, xvj q4, xse, xvj q5, xse, xvi md, xun, xun, xun, xun, xun, xun, xun, xun, xun, xun, xun, xun] [xwj (288230376151711743 : Int64), xwj q1] _
    refine y_land X0 hx 14 (hb hby at_13) rfl ?_
    refine XS.lstore X0.here hx rfl (hb hby at_14) rfl (l' := #[xvj q0, xse, xvj q1, xse, xvj q2, xse, xvj q3, xse, xvj q4, xse, xvj q5, xse, xvi md, xvj (q1 &&& (288230376151711743 : Int64)), xse, xun, xun, xun, xun, xun, xun, xun, xun, xun, xun]) rfl ?_
    show Sx p e below s₁ m 16 #[xvj q0, xse, xvj q1, xse, xvj q2, xse, xvj q3, xse, xvj q4, xse, xvj q5, xse, xvi md, xvj (q1 &&& (288230376151711743 : Int64)), xse, xun, xun, xun, xun, xun, xun, xun, xun, xun, xun] [] _
    refine y_lloadN X0 hx 17 (hb hby at_16) rfl rfl ?_
    refine y_lload X0 hx 19 (hb hby at_17) rfl rfl ?_
    refine y_ladd X0 hx 20 (hb hby at_19) rfl ?_
    refine XS.lstore X0.here hx rfl (hb hby at_20) rfl (l' := #[xvj q0, xse, xvj q1, xse, xvj q2, xse, xvj q3, xse, xvj q4, xse, xvj q5, xse, xvi md, xvj (q1 &&& (288230376151711743 : Int64)), xse, xvj (q0 + q2), xse, xun, xun, xun, xun, xun, xun, xun, xun]) rfl ?_
    show Sx p e below s₁ m 22 #[xvj q0, xse, xvj q1, xse, xvj q2, xse, xvj q3, xse, xvj q4, xse, xvj q5, xse, xvi md, xvj (q1 &&& (288230376151711743 : Int64)), xse, xvj (q0 + q2), xse, xun, xun, xun, xun, xun, xun, xun, xun] [] _
    refine st118 _ ?_
    show Sx p e below T118 m 25 #[xvj q0, xse, xvj q1, xse, xvj q2, xse, xvj q3, xse, xvj q4, xse, xvj q5, xse, xvi md, xvj (q1 &&& (288230376151711743 : Int64)), xse, xvj (q0 + q2), xse, xun, xun, xun, xun, xun, xun, xun, xun] [xwr b118] _
    refine y_dup X118 hx 26 (hb hby at_25) rfl rfl ?_
    refine st121.trans ?_
    show Sx p e below T121 m 29 #[xvj q0, xse, xvj q1, xse, xvj q2, xse, xvj q3, xse, xvj q4, xse, xvj q5, xse, xvi md, xvj (q1 &&& (288230376151711743 : Int64)), xse, xvj (q0 + q2), xse, xun, xun, xun, xun, xun, xun, xun, xun] [xwr b118] _
    refine XS.astore X121.here hx rfl (hb hby at_29) rfl rfl (l' := #[xvj q0, xse, xvj q1, xse, xvj q2, xse, xvj q3, xse, xvj q4, xse, xvj q5, xse, xvi md, xvj (q1 &&& (288230376151711743 : Int64)), xse, xvj (q0 + q2), xse, xvr b118, xun, xun, xun, xun, xun, xun, xun]) rfl ?_
    show Sx p e below T121 m 31 #[xvj q0, xse, xvj q1, xse, xvj q2, xse, xvj q3, xse, xvj q4, xse, xvj q5, xse, xvi md, xvj (q1 &&& (288230376151711743 : Int64)), xse, xvj (q0 + q2), xse, xvr b118, xun, xun, xun, xun, xun, xun, xun] [] _
    refine y_iload X121 hx 33 (hb hby at_31) rfl rfl ?_
    exact k)
  by_cases hc123 : md = (0 : Int32)
  · obtain ⟨cq134, kq134, q134a, q134b, q134c⟩ := isOf hZ e121 A118
    obtain ⟨_, _, ⟨T133, L133, k133, n133⟩, -, X133, ⟨Lc133, hQ133, l133, y133, z133⟩, st133⟩ := X121.virtualBack hx (y := (⟨"com/example/arbiter/arbiter/service/ClaimCursor", "from", "(J)Lcom/example/arbiter/arbiter/store/JobStore$Position;"⟩ : MethodName)) (z := (⟨"com/example/arbiter/arbiter/service/ClaimCursor", "from", "(J)Lcom/example/arbiter/arbiter/store/JobStore$Position;"⟩ : MethodName)) hown (mvT hZ (w_205 hw)) (mvT hZ (w_206 hw)) (notFace_of_selects (args := #[]) (mvT hZ (w_208 hw))) (mvT hZ (w_208 hw)) (mvT hZ (w_207 hw)) (by decide) (backOf (W := 0) (rmA7 l Z a0 hw G ST [] b118 (q0 + q2) h118 n0 Ol120 Fb118_next Fb118_oldestReadAt Fb118_oldestReadNanos) hZ (w_209 hw) (w_4 hw) (by decide) (by decide)) q134a q134c (g := (mkF m 40 #[xvj q0, xse, xvj q1, xse, xvj q2, xse, xvj q3, xse, xvj q4, xse, xvj q5, xse, xvi md, xvj (q1 &&& (288230376151711743 : Int64)), xse, xvj (q0 + q2), xse, xvr b118, xun, xun, xun, xun, xun, xun, xun] [xwj (q0 + q2), xwr b118])) rfl (by rw [hml]; rfl) (Steps.refl _) (argsL := [(.long (q0 + q2))]) (rest := []) (lenOf pd_4 rfl) rfl (by show 2 * 0 + _ ≤ _; exact Nat.le_of_eq rfl) (hb hby at_40) (fun _ _ => ⟨rfl, e121, (by decide : 1 + 0 ≤ _), (by decide : 3 + 0 ≤ _)⟩)
    dsimp only [Pt.U, Pt.locs, Pt.cells, Pt.slots] at X133 l133 y133 z133 st133 hQ133
    subst l133 y133 z133
    obtain ⟨rfl, N133q, e133⟩ := hQ133
    have N133 := Fr.app N121 N133q
    obtain ⟨fs, hr, hrun, hended, hW, hsame⟩ := X133.leave (v := some (.int (1 : Int32))) (fun h => by rw [Bd.returns] at h; cases h)
    refine ⟨_, _, hTG _ (c122 _ ?_), hrun, hended, _, _, rfl, ?_, ⟨_, rfl⟩, hW, hsame.mono (by decide) (by decide)⟩
    · refine y_ifNo X121 hx 36 (hb hby at_33) (XT.i0_ne_f hc123) rfl ?_
      refine y_aload X121 hx 38 (hb hby at_36) rfl rfl rfl ?_
      refine y_lload X121 hx 40 (hb hby at_38) rfl rfl ?_
      refine st133.trans ?_
      show Sx p e below T133 m 43 #[xvj q0, xse, xvj q1, xse, xvj q2, xse, xvj q3, xse, xvj q4, xse, xvj q5, xse, xvi md, xvj (q1 &&& (288230376151711743 : Int64)), xse, xvj (q0 + q2), xse, xvr b118, xun, xun, xun, xun, xun, xun, xun] [.null] _
      refine XS.astore X133.here hx rfl (hb hby at_43) rfl rfl (l' := #[xvj q0, xse, xvj q1, xse, xvj q2, xse, xvj q3, xse, xvj q4, xse, xvj q5, xse, xvi md, xvj (q1 &&& (288230376151711743 : Int64)), xse, xvj (q0 + q2), xse, xvr b118, .val .null, xun, xun, xun, xun, xun, xun]) rfl ?_
      show Sx p e below T133 m 45 #[xvj q0, xse, xvj q1, xse, xvj q2, xse, xvj q3, xse, xvj q4, xse, xvj q5, xse, xvi md, xvj (q1 &&& (288230376151711743 : Int64)), xse, xvj (q0 + q2), xse, xvr b118, .val .null, xun, xun, xun, xun, xun, xun] [] _
      refine y_aload X133 hx 47 (hb hby at_45) rfl rfl rfl ?_
      refine XS.ifnonnullNo X133.here hx rfl (hb hby at_47) rfl ?_
      show Sx p e below T133 m 50 #[xvj q0, xse, xvj q1, xse, xvj q2, xse, xvj q3, xse, xvj q4, xse, xvj q5, xse, xvi md, xvj (q1 &&& (288230376151711743 : Int64)), xse, xvj (q0 + q2), xse, xvr b118, .val .null, xun, xun, xun, xun, xun, xun] [] _
      refine y_iconst X133 hx (1 : Int32) 51 (hb hby at_50) rfl rfl ?_
      refine y_goto X133 hx 55 (hb hby at_51) (by decide) (by decide) ?_
      show Sx p e below T133 m 55 #[xvj q0, xse, xvj q1, xse, xvj q2, xse, xvj q3, xse, xvj q4, xse, xvj q5, xse, xvi md, xvj (q1 &&& (288230376151711743 : Int64)), xse, xvj (q0 + q2), xse, xvr b118, .val .null, xun, xun, xun, xun, xun, xun] [xwi (1 : Int32)] _
      exact retN X133 hx (t := .boolean) Bd.returns (by simp) (hb hby at_55) (hr)
    · show Qrm0 Z G q0 q1 q2 q3 q4 q5 h0 n0 _ T133.heap _
      rw [e133]
      exact ⟨rfl, N133, ((Keep.refl h0 []).ext E118)⟩
  · obtain ⟨T135, h135, X135, e135, E135, A135, D135, -, st135⟩ := newO X121 hx hZ hown (w_11 hw) (w_12 hw) (w_13 hw) e121 (g := (mkF m 56 #[xvj q0, xse, xvj q1, xse, xvj q2, xse, xvj q3, xse, xvj q4, xse, xvj q5, xse, xvi md, xvj (q1 &&& (288230376151711743 : Int64)), xse, xvj (q0 + q2), xse, xvr b118, xun, xun, xun, xun, xun, xun, xun] [])) rfl (hb hby at_56) (by decide) (by decide)
    obtain ⟨b135, g135⟩ : ∃ z, z = h118.size := ⟨_, rfl⟩
    rw [← g135] at A135 D135 st135
    have Fb135_at : Fld Z h135 b135 "com/example/arbiter/arbiter/store/JobStore$Position" "at" "Ljava/time/Instant;" .null := D135 (Or.inr (w_26 hw)) (ty := (.object "java/time/Instant")) (by decide)
    have Fb135_id : Fld Z h135 b135 "com/example/arbiter/arbiter/store/JobStore$Position" "id" "J" (.long (0 : Int64)) := D135 (Or.inr (w_28 hw)) (ty := .long) (by decide)
    have Ol136 : Old Z n0 h135 := (Ol120.ext E135)
    obtain ⟨T137, X137, e137, st137⟩ := getS2 X135 hx hZ hown (host := "") (Or.inl (w_14 hw)) Via.refl e135 (ST.c0.ext Ol136.2) (g := (mkF m 60 #[xvj q0, xse, xvj q1, xse, xvj q2, xse, xvj q3, xse, xvj q4, xse, xvj q5, xse, xvi md, xvj (q1 &&& (288230376151711743 : Int64)), xse, xvj (q0 + q2), xse, xvr b118, xun, xun, xun, xun, xun, xun, xun] [xwr b135, xwr b135])) rfl (hb hby at_60)
    obtain ⟨_, _, ⟨T146, L146, k146, n146⟩, -, X146, ⟨Lc146, hQ146, l146, y146, z146⟩, st146⟩ := X137.specialBack hx (y := (⟨"com/example/arbiter/arbiter/store/JobStore$Position", "<init>", "(Ljava/time/Instant;J)V"⟩ : MethodName)) rfl hown (mvT hZ (w_16 hw)) (mvT hZ (w_17 hw)) (mvT hZ (w_18 hw)) (by decide) (backOf (W := 1) (rmA9 l Z a0 hw G ST [] b135 h135 n0 Ol136 A135 Fb135_at Fb135_id (Nat.le_trans Z0 (Nat.le_trans E118.1 (Nat.le_of_eq g135.symm)))) hZ (w_18 hw) (w_13 hw) (by decide) (by decide)) (g := (mkF m 64 #[xvj q0, xse, xvj q1, xse, xvj q2, xse, xvj q3, xse, xvj q4, xse, xvj q5, xse, xvi md, xvj (q1 &&& (288230376151711743 : Int64)), xse, xvj (q0 + q2), xse, xvr b118, xun, xun, xun, xun, xun, xun, xun] [xwj (1 : Int64), xwr G.a0, xwr b135, xwr b135])) rfl (by rw [hml]; rfl) (Steps.refl _) (a := b135) (argsL := [(.ref G.a0), (.long (1 : Int64))]) (rest := [(.ref b135)]) (lenOf pd_5 rfl) rfl (by show 2 * 0 + _ ≤ _; exact Nat.le_of_eq rfl) (hb hby at_64) (fun _ _ => ⟨rfl, e137, (by decide : 2 + 0 ≤ _), (by decide : 5 + 0 ≤ _)⟩)
    dsimp only [Pt.U, Pt.locs, Pt.cells, Pt.slots] at X146 l146 y146 z146 st146 hQ146
    subst l146 y146 z146
    obtain ⟨hp146, e146⟩ : ∃ z, T146.heap = z := ⟨_, rfl⟩
    rw [e146] at hQ146
    obtain ⟨rfl, N146q, K146, p147, p148, p149⟩ := hQ146
    have N146 := Fr.app N121 N146q
    obtain ⟨T150, h150, X150, e150, E150, A150, D150, -, st150⟩ := newO X146 hx hZ hown (w_29 hw) (w_30 hw) (w_31 hw) e146 (g := (mkF m 69 #[xvj q0, xse, xvj q1, xse, xvj q2, xse, xvj q3, xse, xvj q4, xse, xvj q5, xse, xvi md, xvj (q1 &&& (288230376151711743 : Int64)), xse, xvj (q0 + q2), xse, xvr b118, xvr b135, xun, xun, xun, xun, xun, xun] [])) rfl (hb hby at_69) (by decide) (by decide)
    obtain ⟨b150, g150⟩ : ∃ z, z = hp146.size := ⟨_, rfl⟩
    rw [← g150] at A150 D150 st150
    have Fb150_jobs : Fld Z h150 b150 "com/example/arbiter/arbiter/store/JobStore$Claim" "jobs" "Ljava/util/List;" .null := D150 (Or.inr (w_62 hw)) (ty := (.object "java/util/List")) (by decide)
    have Fb150_end : Fld Z h150 b150 "com/example/arbiter/arbiter/store/JobStore$Claim" "end" "Lcom/example/arbiter/arbiter/store/JobStore$Position;" .null := D150 (Or.inr (w_64 hw)) (ty := (.object "com/example/arbiter/arbiter/store/JobStore$Position")) (by decide)
    have Fb150_readAt : Fld Z h150 b150 "com/example/arbiter/arbiter/store/JobStore$Claim" "readAt" "Ljava/time/Instant;" .null := D150 (Or.inr (w_66 hw)) (ty := (.object "java/time/Instant")) (by decide)
    obtain ⟨T151, h151, X151, e151, E151, A151, D151, -, st151⟩ := newO X150 hx hZ hown (w_32 hw) (w_33 hw) (w_34 hw) e150 (g := (mkF m 73 #[xvj q0, xse, xvj q1, xse, xvj q2, xse, xvj q3, xse, xvj q4, xse, xvj q5, xse, xvi md, xvj (q1 &&& (288230376151711743 : Int64)), xse, xvj (q0 + q2), xse, xvr b118, xvr b135, xun, xun, xun, xun, xun, xun] [xwr b150, xwr b150])) rfl (hb hby at_73) (by decide) (by decide)
    obtain ⟨b151, g151⟩ : ∃ z, z = h150.size := ⟨_, rfl⟩
    rw [← g151] at A151 D151 st151
    have Fb151_modCount : Fld Z h151 b151 "java/util/AbstractList" "modCount" "I" (.int (0 : Int32)) := D151 (Or.inl (w_52 hw)) (ty := .int) (by decide)
    have Fb151_elementData : Fld Z h151 b151 "java/util/ArrayList" "elementData" "[Ljava/lang/Object;" .null := D151 (Or.inl (w_55 hw)) (ty := (.array (.object "java/lang/Object"))) (by decide)
    have Ol166 : Old Z n0 h151 := (((Ol136.keep K146 (allS (Nat.le_trans Z0 (Nat.le_trans E118.1 (Nat.le_of_eq g135.symm))) all0)).ext E150).ext E151)
    obtain ⟨_, _, ⟨T167, L167, k167, n167⟩, -, X167, ⟨Lc167, hQ167, l167, y167, z167⟩, st167⟩ := X151.specialBack hx (y := (⟨"java/util/ArrayList", "<init>", "()V"⟩ : MethodName)) rfl hown (mvT hZ (w_35 hw)) (mvT hZ (w_36 hw)) (mvT hZ (w_37 hw)) (by decide) (backOf (W := 3) (rmA11 l Z a0 hw G ST [] b151 h151 n0 Ol166 A151 Fb151_modCount Fb151_elementData (Nat.le_trans Z0 (Nat.le_trans (Nat.le_trans (Nat.le_trans (Nat.le_trans E118.1 E135.1) K146.1) E150.1) (Nat.le_of_eq g151.symm)))) hZ (w_37 hw) (w_34 hw) (by decide) (by decide)) (g := (mkF m 77 #[xvj q0, xse, xvj q1, xse, xvj q2, xse, xvj q3, xse, xvj q4, xse, xvj q5, xse, xvi md, xvj (q1 &&& (288230376151711743 : Int64)), xse, xvj (q0 + q2), xse, xvr b118, xvr b135, xun, xun, xun, xun, xun, xun] [xwr b151, xwr b151, xwr b150, xwr b150])) rfl (by rw [hml]; rfl) (Steps.refl _) (a := b151) (argsL := []) (rest := [(.ref b151), (.ref b150), (.ref b150)]) (lenOf pd_3 rfl) rfl (by show 2 * 0 + _ ≤ _; exact Nat.le_of_eq rfl) (hb hby at_77) (fun _ _ => ⟨rfl, e151, (by decide : 4 + 0 ≤ _), (by decide : 11 + 0 ≤ _)⟩)
    dsimp only [Pt.U, Pt.locs, Pt.cells, Pt.slots] at X167 l167 y167 z167 st167 hQ167
    subst l167 y167 z167
    obtain ⟨hp167, e167⟩ : ∃ z, T167.heap = z := ⟨_, rfl⟩
    rw [e167] at hQ167
    obtain ⟨rfl, N167q, K167, p168, p169, p170⟩ := hQ167
    have N167 := Fr.app N146 N167q
    have Ol171 : Old Z n0 hp167 := (Ol166.keep K167 (allS (Nat.le_trans Z0 (Nat.le_trans (Nat.le_trans (Nat.le_trans (Nat.le_trans E118.1 E135.1) K146.1) E150.1) (Nat.le_of_eq g151.symm))) all0))
    obtain ⟨T172, X172, e172, st172⟩ := getS2 X167 hx hZ hown (host := "") (Or.inl (w_56 hw)) Via.refl e167 (ST.c4.ext Ol171.2) (g := (mkF m 82 #[xvj q0, xse, xvj q1, xse, xvj q2, xse, xvj q3, xse, xvj q4, xse, xvj q5, xse, xvi md, xvj (q1 &&& (288230376151711743 : Int64)), xse, xvj (q0 + q2), xse, xvr b118, xvr b135, xun, xun, xun, xun, xun, xun] [xwr b135, xwr b151, xwr b150, xwr b150])) rfl (hb hby at_82)
    have f184 := ((A150.ext E151).keep K167)
    have f185 := ((Fb150_end.ext E151).keep K167 (ninS (Nat.ne_of_lt (Nat.lt_of_lt_of_le (Nat.lt_of_lt_of_le A150.lt (Nat.le_refl _)) (Nat.le_of_eq g151.symm))) nin0))
    have f186 := ((Fb150_jobs.ext E151).keep K167 (ninS (Nat.ne_of_lt (Nat.lt_of_lt_of_le (Nat.lt_of_lt_of_le A150.lt (Nat.le_refl _)) (Nat.le_of_eq g151.symm))) nin0))
    have f187 := ((Fb150_readAt.ext E151).keep K167 (ninS (Nat.ne_of_lt (Nat.lt_of_lt_of_le (Nat.lt_of_lt_of_le A150.lt (Nat.le_refl _)) (Nat.le_of_eq g151.symm))) nin0))
    obtain ⟨_, _, ⟨T188, L188, k188, n188⟩, -, X188, ⟨Lc188, hQ188, l188, y188, z188⟩, st188⟩ := X172.specialBack hx (y := (⟨"com/example/arbiter/arbiter/store/JobStore$Claim", "<init>", "(Ljava/util/List;Lcom/example/arbiter/arbiter/store/JobStore$Position;Ljava/time/Instant;)V"⟩ : MethodName)) rfl hown (mvT hZ (w_57 hw)) (mvT hZ (w_58 hw)) (mvT hZ (w_59 hw)) (by decide) (backOf (W := 1) (rmA14 l Z a0 hw G ST [] b150 b151 b135 hp167 n0 Ol171 f184 f185 f186 f187 (Nat.le_trans Z0 (Nat.le_trans (Nat.le_trans (Nat.le_trans E118.1 E135.1) K146.1) (Nat.le_of_eq g150.symm)))) hZ (w_59 hw) (w_31 hw) (by decide) (by decide)) (g := (mkF m 85 #[xvj q0, xse, xvj q1, xse, xvj q2, xse, xvj q3, xse, xvj q4, xse, xvj q5, xse, xvi md, xvj (q1 &&& (288230376151711743 : Int64)), xse, xvj (q0 + q2), xse, xvr b118, xvr b135, xun, xun, xun, xun, xun, xun] [xwr G.a1, xwr b135, xwr b151, xwr b150, xwr b150])) rfl (by rw [hml]; rfl) (Steps.refl _) (a := b150) (argsL := [(.ref b151), (.ref b135), (.ref G.a1)]) (rest := [(.ref b150)]) (lenOf pd_6 rfl) rfl (by show 2 * 0 + _ ≤ _; exact Nat.le_of_eq rfl) (hb hby at_85) (fun _ _ => ⟨rfl, e172, (by decide : 4 + 0 ≤ _), (by decide : 11 + 0 ≤ _)⟩)
    dsimp only [Pt.U, Pt.locs, Pt.cells, Pt.slots] at X188 l188 y188 z188 st188 hQ188
    subst l188 y188 z188
    obtain ⟨hp188, e188⟩ : ∃ z, T188.heap = z := ⟨_, rfl⟩
    rw [e188] at hQ188
    obtain ⟨rfl, N188q, K188, p189, p190, p191, p192⟩ := hQ188
    have N188 := Fr.app N167 N188q
    have f343 := ((((((A118.ext E135).keep K146).ext E150).ext E151).keep K167).keep K188)
    have f344 := ((((((Fb118_next.ext E135).keep K146 (ninS (Nat.ne_of_lt (Nat.lt_of_lt_of_le (Nat.lt_of_lt_of_le A118.lt (Nat.le_refl _)) (Nat.le_of_eq g135.symm))) nin0)).ext E150).ext E151).keep K167 (ninS (Nat.ne_of_lt (Nat.lt_of_lt_of_le (Nat.lt_of_lt_of_le A118.lt (Nat.le_trans (Nat.le_trans E135.1 K146.1) E150.1)) (Nat.le_of_eq g151.symm))) nin0)).keep K188 (ninS (Nat.ne_of_lt (Nat.lt_of_lt_of_le (Nat.lt_of_lt_of_le A118.lt (Nat.le_trans E135.1 K146.1)) (Nat.le_of_eq g150.symm))) nin0))
    have f345 := ((((((Fb118_oldestReadAt.ext E135).keep K146 (ninS (Nat.ne_of_lt (Nat.lt_of_lt_of_le (Nat.lt_of_lt_of_le A118.lt (Nat.le_refl _)) (Nat.le_of_eq g135.symm))) nin0)).ext E150).ext E151).keep K167 (ninS (Nat.ne_of_lt (Nat.lt_of_lt_of_le (Nat.lt_of_lt_of_le A118.lt (Nat.le_trans (Nat.le_trans E135.1 K146.1) E150.1)) (Nat.le_of_eq g151.symm))) nin0)).keep K188 (ninS (Nat.ne_of_lt (Nat.lt_of_lt_of_le (Nat.lt_of_lt_of_le A118.lt (Nat.le_trans E135.1 K146.1)) (Nat.le_of_eq g150.symm))) nin0))
    have f346 := ((((((Fb118_oldestReadNanos.ext E135).keep K146 (ninS (Nat.ne_of_lt (Nat.lt_of_lt_of_le (Nat.lt_of_lt_of_le A118.lt (Nat.le_refl _)) (Nat.le_of_eq g135.symm))) nin0)).ext E150).ext E151).keep K167 (ninS (Nat.ne_of_lt (Nat.lt_of_lt_of_le (Nat.lt_of_lt_of_le A118.lt (Nat.le_trans (Nat.le_trans E135.1 K146.1) E150.1)) (Nat.le_of_eq g151.symm))) nin0)).keep K188 (ninS (Nat.ne_of_lt (Nat.lt_of_lt_of_le (Nat.lt_of_lt_of_le A118.lt (Nat.le_trans E135.1 K146.1)) (Nat.le_of_eq g150.symm))) nin0))
    have f347 := ((((p147.ext E150).ext E151).keep K167).keep K188)
    have f348 := ((((p148.ext E150).ext E151).keep K167 (ninS (Nat.ne_of_lt (Nat.lt_of_lt_of_le (Nat.lt_of_lt_of_le A135.lt (Nat.le_trans K146.1 E150.1)) (Nat.le_of_eq g151.symm))) nin0)).keep K188 (ninS (Nat.ne_of_lt (Nat.lt_of_lt_of_le (Nat.lt_of_lt_of_le A135.lt K146.1) (Nat.le_of_eq g150.symm))) nin0))
    have Ol349 : Old Z n0 hp188 := (Ol171.keep K188 (allS (Nat.le_trans Z0 (Nat.le_trans (Nat.le_trans (Nat.le_trans E118.1 E135.1) K146.1) (Nat.le_of_eq g150.symm))) all0))
    obtain ⟨cq351, kq351, q351a, q351b, q351c⟩ := isOf hZ e188 f343
    obtain ⟨_, _, ⟨T350, L350, k350, n350⟩, -, X350, ⟨Lc350, hQ350, l350, y350, z350⟩, st350⟩ := X188.virtualBack hx (y := (⟨"com/example/arbiter/arbiter/service/ClaimCursor", "moved", "(Lcom/example/arbiter/arbiter/store/JobStore$Position;Lcom/example/arbiter/arbiter/store/JobStore$Claim;JJ)V"⟩ : MethodName)) (z := (⟨"com/example/arbiter/arbiter/service/ClaimCursor", "moved", "(Lcom/example/arbiter/arbiter/store/JobStore$Position;Lcom/example/arbiter/arbiter/store/JobStore$Claim;JJ)V"⟩ : MethodName)) hown (mvT hZ (w_67 hw)) (mvT hZ (w_68 hw)) (notFace_of_selects (args := #[]) (mvT hZ (w_70 hw))) (mvT hZ (w_70 hw)) (mvT hZ (w_69 hw)) (by decide) (backOf (W := 0) (rmA15 l Z a0 hw G ST [] b118 b150 q0 (q0 + (q1 &&& (288230376151711743 : Int64))) b135 hp188 n0 Ol349 f343 f344 f345 f346 (Nat.le_trans Z0 (Nat.le_trans (Nat.le_refl _) (Nat.le_of_eq g118.symm))) p189 p190 p192 f347 f348 (Ne.symm (Nat.ne_of_lt (Nat.lt_of_lt_of_le (Nat.lt_of_lt_of_le A118.lt (Nat.le_trans E135.1 K146.1)) (Nat.le_of_eq g150.symm)))) (Ne.symm (Nat.ne_of_lt (Nat.lt_of_lt_of_le (Nat.lt_of_lt_of_le A118.lt (Nat.le_refl _)) (Nat.le_of_eq g135.symm))))) hZ (w_71 hw) (w_4 hw) (by decide) (by decide)) q351a q351c (g := (mkF m 100 #[xvj q0, xse, xvj q1, xse, xvj q2, xse, xvj q3, xse, xvj q4, xse, xvj q5, xse, xvi md, xvj (q1 &&& (288230376151711743 : Int64)), xse, xvj (q0 + q2), xse, xvr b118, xvr b135, xvr b150, xun, xun, xun, xun, xun] [xwj (q0 + (q1 &&& (288230376151711743 : Int64))), xwj q0, xwr b150, .null, xwr b118])) rfl (by rw [hml]; rfl) (Steps.refl _) (argsL := [.null, (.ref b150), (.long q0), (.long (q0 + (q1 &&& (288230376151711743 : Int64))))]) (rest := []) (lenOf pd_22 rfl) rfl (by show 2 * 0 + _ ≤ _; exact Nat.le_of_eq rfl) (hb hby at_100) (fun _ _ => ⟨rfl, e188, (by decide : 4 + 2 ≤ _), (by decide : 11 + 4 ≤ _)⟩)
    dsimp only [Pt.U, Pt.locs, Pt.cells, Pt.slots] at X350 l350 y350 z350 st350 hQ350
    subst l350 y350 z350
    obtain ⟨hp350, e350⟩ : ∃ z, T350.heap = z := ⟨_, rfl⟩
    rw [e350] at hQ350
    obtain ⟨rfl, N350q, K350, p352, p353, p354, p355⟩ := hQ350
    have N350 := Fr.app N188 N350q
    have c356 : ∀ t, Sx p e below T350 m 110 #[xvj q0, xse, xvj q1, xse, xvj q2, xse, xvj q3, xse, xvj q4, xse, xvj q5, xse, xvi md, xvj (q1 &&& (288230376151711743 : Int64)), xse, xvj (q0 + q2), xse, xvr b118, xvr b135, xvr b150, xvr b135, xun, xun, xun, xun] [xwi (2 : Int32), xwi md] t → TG t := fun t k => c122 t (by
      refine y_ifYes X121 hx 56 (hb hby at_33) (XT.i0_ne_t hc123) (by decide) (by decide) ?_
      refine st135 _ ?_
      show Sx p e below T135 m 59 #[xvj q0, xse, xvj q1, xse, xvj q2, xse, xvj q3, xse, xvj q4, xse, xvj q5, xse, xvi md, xvj (q1 &&& (288230376151711743 : Int64)), xse, xvj (q0 + q2), xse, xvr b118, xun, xun, xun, xun, xun, xun, xun] [xwr b135] _
      refine y_dup X135 hx 60 (hb hby at_59) rfl rfl ?_
      refine st137 _ ?_
      show Sx p e below T137 m 63 #[xvj q0, xse, xvj q1, xse, xvj q2, xse, xvj q3, xse, xvj q4, xse, xvj q5, xse, xvi md, xvj (q1 &&& (288230376151711743 : Int64)), xse, xvj (q0 + q2), xse, xvr b118, xun, xun, xun, xun, xun, xun, xun] [xwr G.a0, xwr b135, xwr b135] _
      refine XS.lconst X137.here hx rfl (hb hby at_63) ?_
      show Sx p e below T137 m 64 #[xvj q0, xse, xvj q1, xse, xvj q2, xse, xvj q3, xse, xvj q4, xse, xvj q5, xse, xvi md, xvj (q1 &&& (288230376151711743 : Int64)), xse, xvj (q0 + q2), xse, xvr b118, xun, xun, xun, xun, xun, xun, xun] [xwj (1 : Int64), xwr G.a0, xwr b135, xwr b135] _
      refine st146.trans ?_
      show Sx p e below T146 m 67 #[xvj q0, xse, xvj q1, xse, xvj q2, xse, xvj q3, xse, xvj q4, xse, xvj q5, xse, xvi md, xvj (q1 &&& (288230376151711743 : Int64)), xse, xvj (q0 + q2), xse, xvr b118, xun, xun, xun, xun, xun, xun, xun] [xwr b135] _
      refine XS.astore X146.here hx rfl (hb hby at_67) rfl rfl (l' := #[xvj q0, xse, xvj q1, xse, xvj q2, xse, xvj q3, xse, xvj q4, xse, xvj q5, xse, xvi md, xvj (q1 &&& (288230376151711743 : Int64)), xse, xvj (q0 + q2), xse, xvr b118, xvr b135, xun, xun, xun, xun, xun, xun]) rfl ?_
      show Sx p e below T146 m 69 #[xvj q0, xse, xvj q1, xse, xvj q2, xse, xvj q3, xse, xvj q4, xse, xvj q5, xse, xvi md, xvj (q1 &&& (288230376151711743 : Int64)), xse, xvj (q0 + q2), xse, xvr b118, xvr b135, xun, xun, xun, xun, xun, xun] [] _
      refine st150 _ ?_
      show Sx p e below T150 m 72 #[xvj q0, xse, xvj q1, xse, xvj q2, xse, xvj q3, xse, xvj q4, xse, xvj q5, xse, xvi md, xvj (q1 &&& (288230376151711743 : Int64)), xse, xvj (q0 + q2), xse, xvr b118, xvr b135, xun, xun, xun, xun, xun, xun] [xwr b150] _
      refine y_dup X150 hx 73 (hb hby at_72) rfl rfl ?_
      refine st151 _ ?_
      show Sx p e below T151 m 76 #[xvj q0, xse, xvj q1, xse, xvj q2, xse, xvj q3, xse, xvj q4, xse, xvj q5, xse, xvi md, xvj (q1 &&& (288230376151711743 : Int64)), xse, xvj (q0 + q2), xse, xvr b118, xvr b135, xun, xun, xun, xun, xun, xun] [xwr b151, xwr b150, xwr b150] _
      refine y_dup X151 hx 77 (hb hby at_76) rfl rfl ?_
      refine st167.trans ?_
      show Sx p e below T167 m 80 #[xvj q0, xse, xvj q1, xse, xvj q2, xse, xvj q3, xse, xvj q4, xse, xvj q5, xse, xvi md, xvj (q1 &&& (288230376151711743 : Int64)), xse, xvj (q0 + q2), xse, xvr b118, xvr b135, xun, xun, xun, xun, xun, xun] [xwr b151, xwr b150, xwr b150] _
      refine y_aload X167 hx 82 (hb hby at_80) rfl rfl rfl ?_
      refine st172 _ ?_
      show Sx p e below T172 m 85 #[xvj q0, xse, xvj q1, xse, xvj q2, xse, xvj q3, xse, xvj q4, xse, xvj q5, xse, xvi md, xvj (q1 &&& (288230376151711743 : Int64)), xse, xvj (q0 + q2), xse, xvr b118, xvr b135, xun, xun, xun, xun, xun, xun] [xwr G.a1, xwr b135, xwr b151, xwr b150, xwr b150] _
      refine st188.trans ?_
      show Sx p e below T188 m 88 #[xvj q0, xse, xvj q1, xse, xvj q2, xse, xvj q3, xse, xvj q4, xse, xvj q5, xse, xvi md, xvj (q1 &&& (288230376151711743 : Int64)), xse, xvj (q0 + q2), xse, xvr b118, xvr b135, xun, xun, xun, xun, xun, xun] [xwr b150] _
      refine XS.astore X188.here hx rfl (hb hby at_88) rfl rfl (l' := #[xvj q0, xse, xvj q1, xse, xvj q2, xse, xvj q3, xse, xvj q4, xse, xvj q5, xse, xvi md, xvj (q1 &&& (288230376151711743 : Int64)), xse, xvj (q0 + q2), xse, xvr b118, xvr b135, xvr b150, xun, xun, xun, xun, xun]) rfl ?_
      show Sx p e below T188 m 90 #[xvj q0, xse, xvj q1, xse, xvj q2, xse, xvj q3, xse, xvj q4, xse, xvj q5, xse, xvi md, xvj (q1 &&& (288230376151711743 : Int64)), xse, xvj (q0 + q2), xse, xvr b118, xvr b135, xvr b150, xun, xun, xun, xun, xun] [] _
      refine y_aload X188 hx 92 (hb hby at_90) rfl rfl rfl ?_
      refine y_aconst_null X188 hx 93 (hb hby at_92) rfl ?_
      refine y_aload X188 hx 95 (hb hby at_93) rfl rfl rfl ?_
      refine y_lloadN X188 hx 96 (hb hby at_95) rfl rfl ?_
      refine y_lloadN X188 hx 97 (hb hby at_96) rfl rfl ?_
      refine y_lload X188 hx 99 (hb hby at_97) rfl rfl ?_
      refine y_ladd X188 hx 100 (hb hby at_99) rfl ?_
      refine st350.trans ?_
      show Sx p e below T350 m 103 #[xvj q0, xse, xvj q1, xse, xvj q2, xse, xvj q3, xse, xvj q4, xse, xvj q5, xse, xvi md, xvj (q1 &&& (288230376151711743 : Int64)), xse, xvj (q0 + q2), xse, xvr b118, xvr b135, xvr b150, xun, xun, xun, xun, xun] [] _
      refine y_aload X350 hx 105 (hb hby at_103) rfl rfl rfl ?_
      refine XS.astore X350.here hx rfl (hb hby at_105) rfl rfl (l' := #[xvj q0, xse, xvj q1, xse, xvj q2, xse, xvj q3, xse, xvj q4, xse, xvj q5, xse, xvi md, xvj (q1 &&& (288230376151711743 : Int64)), xse, xvj (q0 + q2), xse, xvr b118, xvr b135, xvr b150, xvr b135, xun, xun, xun, xun]) rfl ?_
      show Sx p e below T350 m 107 #[xvj q0, xse, xvj q1, xse, xvj q2, xse, xvj q3, xse, xvj q4, xse, xvj q5, xse, xvi md, xvj (q1 &&& (288230376151711743 : Int64)), xse, xvj (q0 + q2), xse, xvr b118, xvr b135, xvr b150, xvr b135, xun, xun, xun, xun] [] _
      refine y_iload X350 hx 109 (hb hby at_107) rfl rfl ?_
      refine y_iconst X350 hx (2 : Int32) 110 (hb hby at_109) rfl rfl ?_
      exact k)
    by_cases hc357 : md < (2 : Int32)
    · have Ol358 : Old Z n0 hp350 := (Ol349.keep K350 (allS (Nat.le_trans Z0 (Nat.le_trans (Nat.le_refl _) (Nat.le_of_eq g118.symm))) all0))
      obtain ⟨cq360, kq360, q360a, q360b, q360c⟩ := isOf hZ e350 p352
      obtain ⟨_, _, ⟨T359, L359, k359, n359⟩, -, X359, ⟨Lc359, hQ359, l359, y359, z359⟩, st359⟩ := X350.virtualBack hx (y := (⟨"com/example/arbiter/arbiter/service/ClaimCursor", "from", "(J)Lcom/example/arbiter/arbiter/store/JobStore$Position;"⟩ : MethodName)) (z := (⟨"com/example/arbiter/arbiter/service/ClaimCursor", "from", "(J)Lcom/example/arbiter/arbiter/store/JobStore$Position;"⟩ : MethodName)) hown (mvT hZ (w_205 hw)) (mvT hZ (w_206 hw)) (notFace_of_selects (args := #[]) (mvT hZ (w_208 hw))) (mvT hZ (w_208 hw)) (mvT hZ (w_207 hw)) (by decide) (backOf (W := 0) (rmFrom l Z a0 hw G ST [] b118 (q0 + q2) q0 ((q0 + (q1 &&& (288230376151711743 : Int64))) - q0) b135 hp350 n0 Ol358 p354 p355 p353) hZ (w_209 hw) (w_4 hw) (by decide) (by decide)) q360a q360c (g := (mkF m 170 #[xvj q0, xse, xvj q1, xse, xvj q2, xse, xvj q3, xse, xvj q4, xse, xvj q5, xse, xvi md, xvj (q1 &&& (288230376151711743 : Int64)), xse, xvj (q0 + q2), xse, xvr b118, xvr b135, xvr b150, xvr b135, xun, xun, xun, xun] [xwj (q0 + q2), xwr b118])) rfl (by rw [hml]; rfl) (Steps.refl _) (argsL := [(.long (q0 + q2))]) (rest := []) (lenOf pd_4 rfl) rfl (by show 2 * 0 + _ ≤ _; exact Nat.le_of_eq rfl) (hb hby at_170) (fun _ _ => ⟨rfl, e350, (by decide : 6 + 0 ≤ _), (by decide : 15 + 0 ≤ _)⟩)
      dsimp only [Pt.U, Pt.locs, Pt.cells, Pt.slots] at X359 l359 y359 z359 st359 hQ359
      subst l359 y359 z359
      obtain ⟨o361, rfl, N359q, e359, p362, p363⟩ := hQ359
      have N359 := Fr.app N350 N359q
      have c364 : ∀ t, Sx p e below T359 m 173 #[xvj q0, xse, xvj q1, xse, xvj q2, xse, xvj q3, xse, xvj q4, xse, xvj q5, xse, xvi md, xvj (q1 &&& (288230376151711743 : Int64)), xse, xvj (q0 + q2), xse, xvr b118, xvr b135, xvr b150, xvr b135, xun, xun, xun, xun] [o361] t → TG t := fun t k => c356 t (by
        refine y_icmpYes X350 hx 166 (hb hby at_110) (XT.ii_lt_t hc357) (by decide) (by decide) ?_
        refine y_aload X350 hx 168 (hb hby at_166) rfl rfl rfl ?_
        refine y_lload X350 hx 170 (hb hby at_168) rfl rfl ?_
        refine st359.trans ?_
        exact k)
      rcases p363 with hk365 | hk365
      · have hq1 := own_e1 hk365.2
        have hq2 := own_e2 hk365.2
        obtain ⟨fs, hr, hrun, hended, hW, hsame⟩ := X359.leave (v := some (.int (1 : Int32))) (fun h => by rw [Bd.returns] at h; cases h)
        refine ⟨_, _, hTG _ (c364 _ ?_), hrun, hended, _, _, rfl, ?_, ⟨_, rfl⟩, hW, hsame.mono (by decide) (by decide)⟩
        · rw [hk365.1]
          refine XS.astore X359.here hx rfl (hb hby at_173) rfl rfl (l' := #[xvj q0, xse, xvj q1, xse, xvj q2, xse, xvj q3, xse, xvj q4, xse, xvj q5, xse, xvi md, xvj (q1 &&& (288230376151711743 : Int64)), xse, xvj (q0 + q2), xse, xvr b118, xvr b135, xvr b150, xvr b135, .val .null, xun, xun, xun]) rfl ?_
          show Sx p e below T359 m 175 #[xvj q0, xse, xvj q1, xse, xvj q2, xse, xvj q3, xse, xvj q4, xse, xvj q5, xse, xvi md, xvj (q1 &&& (288230376151711743 : Int64)), xse, xvj (q0 + q2), xse, xvr b118, xvr b135, xvr b150, xvr b135, .val .null, xun, xun, xun] [] _
          refine y_lload X359 hx 177 (hb hby at_175) rfl rfl ?_
          refine X359.ldc2Long hx hown (mvT hZ (w_229 hw)) (g := (mkF m 177 #[xvj q0, xse, xvj q1, xse, xvj q2, xse, xvj q3, xse, xvj q4, xse, xvj q5, xse, xvi md, xvj (q1 &&& (288230376151711743 : Int64)), xse, xvj (q0 + q2), xse, xvr b118, xvr b135, xvr b150, xvr b135, .val .null, xun, xun, xun] [xwj q2])) rfl (hb hby at_177) _ ?_
          show Sx p e below T359 m 180 #[xvj q0, xse, xvj q1, xse, xvj q2, xse, xvj q3, xse, xvj q4, xse, xvj q5, xse, xvi md, xvj (q1 &&& (288230376151711743 : Int64)), xse, xvj (q0 + q2), xse, xvr b118, xvr b135, xvr b150, xvr b135, .val .null, xun, xun, xun] [xwj (1000000000 : Int64), xwj q2] _
          refine XT.lcmp X359.here hx rfl (hb hby at_180) rfl ?_
          show Sx p e below T359 m 181 #[xvj q0, xse, xvj q1, xse, xvj q2, xse, xvj q3, xse, xvj q4, xse, xvj q5, xse, xvi md, xvj (q1 &&& (288230376151711743 : Int64)), xse, xvj (q0 + q2), xse, xvr b118, xvr b135, xvr b150, xvr b135, .val .null, xun, xun, xun] [(.int (XT.cmpL q2 (1000000000 : Int64)))] _
          refine y_ifNo X359 hx 184 (hb hby at_181) (XT.ll_lt_f hq1) rfl ?_
          refine y_iconst X359 hx (1 : Int32) 185 (hb hby at_184) rfl rfl ?_
          refine y_goto X359 hx 189 (hb hby at_185) (by decide) (by decide) ?_
          refine XS.istore X359.here hx rfl (hb hby at_189) rfl (l' := #[xvj q0, xse, xvj q1, xse, xvj q2, xse, xvj q3, xse, xvj q4, xse, xvj q5, xse, xvi md, xvj (q1 &&& (288230376151711743 : Int64)), xse, xvj (q0 + q2), xse, xvr b118, xvr b135, xvr b150, xvr b135, .val .null, xvi (1 : Int32), xun, xun]) rfl ?_
          show Sx p e below T359 m 191 #[xvj q0, xse, xvj q1, xse, xvj q2, xse, xvj q3, xse, xvj q4, xse, xvj q5, xse, xvi md, xvj (q1 &&& (288230376151711743 : Int64)), xse, xvj (q0 + q2), xse, xvr b118, xvr b135, xvr b150, xvr b135, .val .null, xvi (1 : Int32), xun, xun] [] _
          refine y_lload X359 hx 193 (hb hby at_191) rfl rfl ?_
          refine X359.ldc2Long hx hown (mvT hZ (w_230 hw)) (g := (mkF m 193 #[xvj q0, xse, xvj q1, xse, xvj q2, xse, xvj q3, xse, xvj q4, xse, xvj q5, xse, xvi md, xvj (q1 &&& (288230376151711743 : Int64)), xse, xvj (q0 + q2), xse, xvr b118, xvr b135, xvr b150, xvr b135, .val .null, xvi (1 : Int32), xun, xun] [xwj q2])) rfl (hb hby at_193) _ ?_
          show Sx p e below T359 m 196 #[xvj q0, xse, xvj q1, xse, xvj q2, xse, xvj q3, xse, xvj q4, xse, xvj q5, xse, xvi md, xvj (q1 &&& (288230376151711743 : Int64)), xse, xvj (q0 + q2), xse, xvr b118, xvr b135, xvr b150, xvr b135, .val .null, xvi (1 : Int32), xun, xun] [xwj (20 : Int64), xwj q2] _
          refine y_lload X359 hx 198 (hb hby at_196) rfl rfl ?_
          refine y_lmul X359 hx 199 (hb hby at_198) rfl ?_
          refine XT.lcmp X359.here hx rfl (hb hby at_199) rfl ?_
          show Sx p e below T359 m 200 #[xvj q0, xse, xvj q1, xse, xvj q2, xse, xvj q3, xse, xvj q4, xse, xvj q5, xse, xvi md, xvj (q1 &&& (288230376151711743 : Int64)), xse, xvj (q0 + q2), xse, xvr b118, xvr b135, xvr b150, xvr b135, .val .null, xvi (1 : Int32), xun, xun] [(.int (XT.cmpL q2 ((20 : Int64) * (q1 &&& (288230376151711743 : Int64)))))] _
          refine y_ifNo X359 hx 203 (hb hby at_200) (XT.ll_lt_f hq2) rfl ?_
          refine y_iconst X359 hx (1 : Int32) 204 (hb hby at_203) rfl rfl ?_
          refine y_goto X359 hx 208 (hb hby at_204) (by decide) (by decide) ?_
          refine XS.istore X359.here hx rfl (hb hby at_208) rfl (l' := #[xvj q0, xse, xvj q1, xse, xvj q2, xse, xvj q3, xse, xvj q4, xse, xvj q5, xse, xvi md, xvj (q1 &&& (288230376151711743 : Int64)), xse, xvj (q0 + q2), xse, xvr b118, xvr b135, xvr b150, xvr b135, .val .null, xvi (1 : Int32), xvi (1 : Int32), xun]) rfl ?_
          show Sx p e below T359 m 210 #[xvj q0, xse, xvj q1, xse, xvj q2, xse, xvj q3, xse, xvj q4, xse, xvj q5, xse, xvi md, xvj (q1 &&& (288230376151711743 : Int64)), xse, xvj (q0 + q2), xse, xvr b118, xvr b135, xvr b150, xvr b135, .val .null, xvi (1 : Int32), xvi (1 : Int32), xun] [] _
          refine y_iload X359 hx 212 (hb hby at_210) rfl rfl ?_
          refine y_ifNo X359 hx 215 (hb hby at_212) (XT.i0_eq_f (by decide)) rfl ?_
          refine y_iload X359 hx 217 (hb hby at_215) rfl rfl ?_
          refine y_ifNo X359 hx 220 (hb hby at_217) (XT.i0_eq_f (by decide)) rfl ?_
          refine y_iconst X359 hx (1 : Int32) 221 (hb hby at_220) rfl rfl ?_
          refine y_goto X359 hx 225 (hb hby at_221) (by decide) (by decide) ?_
          refine XS.istore X359.here hx rfl (hb hby at_225) rfl (l' := #[xvj q0, xse, xvj q1, xse, xvj q2, xse, xvj q3, xse, xvj q4, xse, xvj q5, xse, xvi md, xvj (q1 &&& (288230376151711743 : Int64)), xse, xvj (q0 + q2), xse, xvr b118, xvr b135, xvr b150, xvr b135, .val .null, xvi (1 : Int32), xvi (1 : Int32), xvi (1 : Int32)]) rfl ?_
          show Sx p e below T359 m 227 #[xvj q0, xse, xvj q1, xse, xvj q2, xse, xvj q3, xse, xvj q4, xse, xvj q5, xse, xvi md, xvj (q1 &&& (288230376151711743 : Int64)), xse, xvj (q0 + q2), xse, xvr b118, xvr b135, xvr b150, xvr b135, .val .null, xvi (1 : Int32), xvi (1 : Int32), xvi (1 : Int32)] [] _
          refine y_iload X359 hx 229 (hb hby at_227) rfl rfl ?_
          refine y_ifNo X359 hx 232 (hb hby at_229) (XT.i0_eq_f (by decide)) rfl ?_
          refine y_aload X359 hx 234 (hb hby at_232) rfl rfl rfl ?_
          refine XS.ifnonnullNo X359.here hx rfl (hb hby at_234) rfl ?_
          show Sx p e below T359 m 237 #[xvj q0, xse, xvj q1, xse, xvj q2, xse, xvj q3, xse, xvj q4, xse, xvj q5, xse, xvi md, xvj (q1 &&& (288230376151711743 : Int64)), xse, xvj (q0 + q2), xse, xvr b118, xvr b135, xvr b150, xvr b135, .val .null, xvi (1 : Int32), xvi (1 : Int32), xvi (1 : Int32)] [] _
          refine y_iconst X359 hx (1 : Int32) 238 (hb hby at_237) rfl rfl ?_
          refine y_goto X359 hx 242 (hb hby at_238) (by decide) (by decide) ?_
          show Sx p e below T359 m 242 #[xvj q0, xse, xvj q1, xse, xvj q2, xse, xvj q3, xse, xvj q4, xse, xvj q5, xse, xvi md, xvj (q1 &&& (288230376151711743 : Int64)), xse, xvj (q0 + q2), xse, xvr b118, xvr b135, xvr b150, xvr b135, .val .null, xvi (1 : Int32), xvi (1 : Int32), xvi (1 : Int32)] [xwi (1 : Int32)] _
          exact retN X359 hx (t := .boolean) Bd.returns (by simp) (hb hby at_242) (hr)
        · show Qrm0 Z G q0 q1 q2 q3 q4 q5 h0 n0 _ T359.heap _
          rw [e359]
          exact ⟨rfl, N359, (((((((((Keep.refl h0 []).ext E118).ext E135).trans K146 (allS (Or.inr (Nat.le_trans E118.1 (Nat.le_of_eq g135.symm))) all0)).ext E150).ext E151).trans K167 (allS (Or.inr (Nat.le_trans (Nat.le_trans (Nat.le_trans (Nat.le_trans E118.1 E135.1) K146.1) E150.1) (Nat.le_of_eq g151.symm))) all0)).trans K188 (allS (Or.inr (Nat.le_trans (Nat.le_trans (Nat.le_trans E118.1 E135.1) K146.1) (Nat.le_of_eq g150.symm))) all0)).trans K350 (allS (Or.inr (Nat.le_trans (Nat.le_refl _) (Nat.le_of_eq g118.symm))) all0))⟩
      · have c366 : ∀ t, Sx p e below T359 m 173 #[xvj q0, xse, xvj q1, xse, xvj q2, xse, xvj q3, xse, xvj q4, xse, xvj q5, xse, xvi md, xvj (q1 &&& (288230376151711743 : Int64)), xse, xvj (q0 + q2), xse, xvr b118, xvr b135, xvr b150, xvr b135, xun, xun, xun, xun] [xwr b135] t → TG t := fun t k => c364 t (by
          rw [hk365.1]
          exact k)
        rcases own_e3 hk365.2 with hk367 | hk367
        · have c368 : ∀ t, Sx p e below T359 m 200 #[xvj q0, xse, xvj q1, xse, xvj q2, xse, xvj q3, xse, xvj q4, xse, xvj q5, xse, xvi md, xvj (q1 &&& (288230376151711743 : Int64)), xse, xvj (q0 + q2), xse, xvr b118, xvr b135, xvr b150, xvr b135, xvr b135, xvi (0 : Int32), xun, xun] [(.int (XT.cmpL q2 ((20 : Int64) * (q1 &&& (288230376151711743 : Int64)))))] t → TG t := fun t k => c366 t (by
            refine XS.astore X359.here hx rfl (hb hby at_173) rfl rfl (l' := #[xvj q0, xse, xvj q1, xse, xvj q2, xse, xvj q3, xse, xvj q4, xse, xvj q5, xse, xvi md, xvj (q1 &&& (288230376151711743 : Int64)), xse, xvj (q0 + q2), xse, xvr b118, xvr b135, xvr b150, xvr b135, xvr b135, xun, xun, xun]) rfl ?_
            show Sx p e below T359 m 175 #[xvj q0, xse, xvj q1, xse, xvj q2, xse, xvj q3, xse, xvj q4, xse, xvj q5, xse, xvi md, xvj (q1 &&& (288230376151711743 : Int64)), xse, xvj (q0 + q2), xse, xvr b118, xvr b135, xvr b150, xvr b135, xvr b135, xun, xun, xun] [] _
            refine y_lload X359 hx 177 (hb hby at_175) rfl rfl ?_
            refine X359.ldc2Long hx hown (mvT hZ (w_229 hw)) (g := (mkF m 177 #[xvj q0, xse, xvj q1, xse, xvj q2, xse, xvj q3, xse, xvj q4, xse, xvj q5, xse, xvi md, xvj (q1 &&& (288230376151711743 : Int64)), xse, xvj (q0 + q2), xse, xvr b118, xvr b135, xvr b150, xvr b135, xvr b135, xun, xun, xun] [xwj q2])) rfl (hb hby at_177) _ ?_
            show Sx p e below T359 m 180 #[xvj q0, xse, xvj q1, xse, xvj q2, xse, xvj q3, xse, xvj q4, xse, xvj q5, xse, xvi md, xvj (q1 &&& (288230376151711743 : Int64)), xse, xvj (q0 + q2), xse, xvr b118, xvr b135, xvr b150, xvr b135, xvr b135, xun, xun, xun] [xwj (1000000000 : Int64), xwj q2] _
            refine XT.lcmp X359.here hx rfl (hb hby at_180) rfl ?_
            show Sx p e below T359 m 181 #[xvj q0, xse, xvj q1, xse, xvj q2, xse, xvj q3, xse, xvj q4, xse, xvj q5, xse, xvi md, xvj (q1 &&& (288230376151711743 : Int64)), xse, xvj (q0 + q2), xse, xvr b118, xvr b135, xvr b150, xvr b135, xvr b135, xun, xun, xun] [(.int (XT.cmpL q2 (1000000000 : Int64)))] _
            refine y_ifYes X359 hx 188 (hb hby at_181) (XT.ll_lt_t hk367) (by decide) (by decide) ?_
            refine y_iconst X359 hx (0 : Int32) 189 (hb hby at_188) rfl rfl ?_
            refine XS.istore X359.here hx rfl (hb hby at_189) rfl (l' := #[xvj q0, xse, xvj q1, xse, xvj q2, xse, xvj q3, xse, xvj q4, xse, xvj q5, xse, xvi md, xvj (q1 &&& (288230376151711743 : Int64)), xse, xvj (q0 + q2), xse, xvr b118, xvr b135, xvr b150, xvr b135, xvr b135, xvi (0 : Int32), xun, xun]) rfl ?_
            show Sx p e below T359 m 191 #[xvj q0, xse, xvj q1, xse, xvj q2, xse, xvj q3, xse, xvj q4, xse, xvj q5, xse, xvi md, xvj (q1 &&& (288230376151711743 : Int64)), xse, xvj (q0 + q2), xse, xvr b118, xvr b135, xvr b150, xvr b135, xvr b135, xvi (0 : Int32), xun, xun] [] _
            refine y_lload X359 hx 193 (hb hby at_191) rfl rfl ?_
            refine X359.ldc2Long hx hown (mvT hZ (w_230 hw)) (g := (mkF m 193 #[xvj q0, xse, xvj q1, xse, xvj q2, xse, xvj q3, xse, xvj q4, xse, xvj q5, xse, xvi md, xvj (q1 &&& (288230376151711743 : Int64)), xse, xvj (q0 + q2), xse, xvr b118, xvr b135, xvr b150, xvr b135, xvr b135, xvi (0 : Int32), xun, xun] [xwj q2])) rfl (hb hby at_193) _ ?_
            show Sx p e below T359 m 196 #[xvj q0, xse, xvj q1, xse, xvj q2, xse, xvj q3, xse, xvj q4, xse, xvj q5, xse, xvi md, xvj (q1 &&& (288230376151711743 : Int64)), xse, xvj (q0 + q2), xse, xvr b118, xvr b135, xvr b150, xvr b135, xvr b135, xvi (0 : Int32), xun, xun] [xwj (20 : Int64), xwj q2] _
            refine y_lload X359 hx 198 (hb hby at_196) rfl rfl ?_
            refine y_lmul X359 hx 199 (hb hby at_198) rfl ?_
            refine XT.lcmp X359.here hx rfl (hb hby at_199) rfl ?_
            exact k)
          by_cases hc369 : q2 < ((20 : Int64) * (q1 &&& (288230376151711743 : Int64)))
          · obtain ⟨fs, hr, hrun, hended, hW, hsame⟩ := X359.leave (v := some (.int (1 : Int32))) (fun h => by rw [Bd.returns] at h; cases h)
            refine ⟨_, _, hTG _ (c368 _ ?_), hrun, hended, _, _, rfl, ?_, ⟨_, rfl⟩, hW, hsame.mono (by decide) (by decide)⟩
            · refine y_ifYes X359 hx 207 (hb hby at_200) (XT.ll_lt_t hc369) (by decide) (by decide) ?_
              refine y_iconst X359 hx (0 : Int32) 208 (hb hby at_207) rfl rfl ?_
              refine XS.istore X359.here hx rfl (hb hby at_208) rfl (l' := #[xvj q0, xse, xvj q1, xse, xvj q2, xse, xvj q3, xse, xvj q4, xse, xvj q5, xse, xvi md, xvj (q1 &&& (288230376151711743 : Int64)), xse, xvj (q0 + q2), xse, xvr b118, xvr b135, xvr b150, xvr b135, xvr b135, xvi (0 : Int32), xvi (0 : Int32), xun]) rfl ?_
              show Sx p e below T359 m 210 #[xvj q0, xse, xvj q1, xse, xvj q2, xse, xvj q3, xse, xvj q4, xse, xvj q5, xse, xvi md, xvj (q1 &&& (288230376151711743 : Int64)), xse, xvj (q0 + q2), xse, xvr b118, xvr b135, xvr b150, xvr b135, xvr b135, xvi (0 : Int32), xvi (0 : Int32), xun] [] _
              refine y_iload X359 hx 212 (hb hby at_210) rfl rfl ?_
              refine y_ifYes X359 hx 224 (hb hby at_212) (XT.i0_eq_t (by decide)) (by decide) (by decide) ?_
              refine y_iconst X359 hx (0 : Int32) 225 (hb hby at_224) rfl rfl ?_
              refine XS.istore X359.here hx rfl (hb hby at_225) rfl (l' := #[xvj q0, xse, xvj q1, xse, xvj q2, xse, xvj q3, xse, xvj q4, xse, xvj q5, xse, xvi md, xvj (q1 &&& (288230376151711743 : Int64)), xse, xvj (q0 + q2), xse, xvr b118, xvr b135, xvr b150, xvr b135, xvr b135, xvi (0 : Int32), xvi (0 : Int32), xvi (0 : Int32)]) rfl ?_
              show Sx p e below T359 m 227 #[xvj q0, xse, xvj q1, xse, xvj q2, xse, xvj q3, xse, xvj q4, xse, xvj q5, xse, xvi md, xvj (q1 &&& (288230376151711743 : Int64)), xse, xvj (q0 + q2), xse, xvr b118, xvr b135, xvr b150, xvr b135, xvr b135, xvi (0 : Int32), xvi (0 : Int32), xvi (0 : Int32)] [] _
              refine y_iload X359 hx 229 (hb hby at_227) rfl rfl ?_
              refine y_ifYes X359 hx 243 (hb hby at_229) (XT.i0_eq_t (by decide)) (by decide) (by decide) ?_
              refine y_aload X359 hx 245 (hb hby at_243) rfl rfl rfl ?_
              refine y_aload X359 hx 247 (hb hby at_245) rfl rfl rfl ?_
              refine Jvm.RoadKit.acmp (g := (mkF m 247 #[xvj q0, xse, xvj q1, xse, xvj q2, xse, xvj q3, xse, xvj q4, xse, xvj q5, xse, xvi md, xvj (q1 &&& (288230376151711743 : Int64)), xse, xvj (q0 + q2), xse, xvr b118, xvr b135, xvr b150, xvr b135, xvr b135, xvi (0 : Int32), xvi (0 : Int32), xvi (0 : Int32)] [xwr b135, xwr b135])) X359 hx rfl rfl rfl (pc0 := 247) (pc' := 250) (same := true) rfl (hb hby at_247) rfl (decide_eq_true rfl) (by decide) (by decide) ?_
              show Sx p e below T359 m 250 #[xvj q0, xse, xvj q1, xse, xvj q2, xse, xvj q3, xse, xvj q4, xse, xvj q5, xse, xvi md, xvj (q1 &&& (288230376151711743 : Int64)), xse, xvj (q0 + q2), xse, xvr b118, xvr b135, xvr b150, xvr b135, xvr b135, xvi (0 : Int32), xvi (0 : Int32), xvi (0 : Int32)] [] _
              refine y_iconst X359 hx (1 : Int32) 251 (hb hby at_250) rfl rfl ?_
              refine y_goto X359 hx 255 (hb hby at_251) (by decide) (by decide) ?_
              show Sx p e below T359 m 255 #[xvj q0, xse, xvj q1, xse, xvj q2, xse, xvj q3, xse, xvj q4, xse, xvj q5, xse, xvi md, xvj (q1 &&& (288230376151711743 : Int64)), xse, xvj (q0 + q2), xse, xvr b118, xvr b135, xvr b150, xvr b135, xvr b135, xvi (0 : Int32), xvi (0 : Int32), xvi (0 : Int32)] [xwi (1 : Int32)] _
              exact retN X359 hx (t := .boolean) Bd.returns (by simp) (hb hby at_255) (hr)
            · show Qrm0 Z G q0 q1 q2 q3 q4 q5 h0 n0 _ T359.heap _
              rw [e359]
              exact ⟨rfl, N359, (((((((((Keep.refl h0 []).ext E118).ext E135).trans K146 (allS (Or.inr (Nat.le_trans E118.1 (Nat.le_of_eq g135.symm))) all0)).ext E150).ext E151).trans K167 (allS (Or.inr (Nat.le_trans (Nat.le_trans (Nat.le_trans (Nat.le_trans E118.1 E135.1) K146.1) E150.1) (Nat.le_of_eq g151.symm))) all0)).trans K188 (allS (Or.inr (Nat.le_trans (Nat.le_trans (Nat.le_trans E118.1 E135.1) K146.1) (Nat.le_of_eq g150.symm))) all0)).trans K350 (allS (Or.inr (Nat.le_trans (Nat.le_refl _) (Nat.le_of_eq g118.symm))) all0))⟩
          · obtain ⟨fs, hr, hrun, hended, hW, hsame⟩ := X359.leave (v := some (.int (1 : Int32))) (fun h => by rw [Bd.returns] at h; cases h)
            refine ⟨_, _, hTG _ (c368 _ ?_), hrun, hended, _, _, rfl, ?_, ⟨_, rfl⟩, hW, hsame.mono (by decide) (by decide)⟩
            · refine y_ifNo X359 hx 203 (hb hby at_200) (XT.ll_lt_f hc369) rfl ?_
              refine y_iconst X359 hx (1 : Int32) 204 (hb hby at_203) rfl rfl ?_
              refine y_goto X359 hx 208 (hb hby at_204) (by decide) (by decide) ?_
              refine XS.istore X359.here hx rfl (hb hby at_208) rfl (l' := #[xvj q0, xse, xvj q1, xse, xvj q2, xse, xvj q3, xse, xvj q4, xse, xvj q5, xse, xvi md, xvj (q1 &&& (288230376151711743 : Int64)), xse, xvj (q0 + q2), xse, xvr b118, xvr b135, xvr b150, xvr b135, xvr b135, xvi (0 : Int32), xvi (1 : Int32), xun]) rfl ?_
              show Sx p e below T359 m 210 #[xvj q0, xse, xvj q1, xse, xvj q2, xse, xvj q3, xse, xvj q4, xse, xvj q5, xse, xvi md, xvj (q1 &&& (288230376151711743 : Int64)), xse, xvj (q0 + q2), xse, xvr b118, xvr b135, xvr b150, xvr b135, xvr b135, xvi (0 : Int32), xvi (1 : Int32), xun] [] _
              refine y_iload X359 hx 212 (hb hby at_210) rfl rfl ?_
              refine y_ifYes X359 hx 224 (hb hby at_212) (XT.i0_eq_t (by decide)) (by decide) (by decide) ?_
              refine y_iconst X359 hx (0 : Int32) 225 (hb hby at_224) rfl rfl ?_
              refine XS.istore X359.here hx rfl (hb hby at_225) rfl (l' := #[xvj q0, xse, xvj q1, xse, xvj q2, xse, xvj q3, xse, xvj q4, xse, xvj q5, xse, xvi md, xvj (q1 &&& (288230376151711743 : Int64)), xse, xvj (q0 + q2), xse, xvr b118, xvr b135, xvr b150, xvr b135, xvr b135, xvi (0 : Int32), xvi (1 : Int32), xvi (0 : Int32)]) rfl ?_
              show Sx p e below T359 m 227 #[xvj q0, xse, xvj q1, xse, xvj q2, xse, xvj q3, xse, xvj q4, xse, xvj q5, xse, xvi md, xvj (q1 &&& (288230376151711743 : Int64)), xse, xvj (q0 + q2), xse, xvr b118, xvr b135, xvr b150, xvr b135, xvr b135, xvi (0 : Int32), xvi (1 : Int32), xvi (0 : Int32)] [] _
              refine y_iload X359 hx 229 (hb hby at_227) rfl rfl ?_
              refine y_ifYes X359 hx 243 (hb hby at_229) (XT.i0_eq_t (by decide)) (by decide) (by decide) ?_
              refine y_aload X359 hx 245 (hb hby at_243) rfl rfl rfl ?_
              refine y_aload X359 hx 247 (hb hby at_245) rfl rfl rfl ?_
              refine Jvm.RoadKit.acmp (g := (mkF m 247 #[xvj q0, xse, xvj q1, xse, xvj q2, xse, xvj q3, xse, xvj q4, xse, xvj q5, xse, xvi md, xvj (q1 &&& (288230376151711743 : Int64)), xse, xvj (q0 + q2), xse, xvr b118, xvr b135, xvr b150, xvr b135, xvr b135, xvi (0 : Int32), xvi (1 : Int32), xvi (0 : Int32)] [xwr b135, xwr b135])) X359 hx rfl rfl rfl (pc0 := 247) (pc' := 250) (same := true) rfl (hb hby at_247) rfl (decide_eq_true rfl) (by decide) (by decide) ?_
              show Sx p e below T359 m 250 #[xvj q0, xse, xvj q1, xse, xvj q2, xse, xvj q3, xse, xvj q4, xse, xvj q5, xse, xvi md, xvj (q1 &&& (288230376151711743 : Int64)), xse, xvj (q0 + q2), xse, xvr b118, xvr b135, xvr b150, xvr b135, xvr b135, xvi (0 : Int32), xvi (1 : Int32), xvi (0 : Int32)] [] _
              refine y_iconst X359 hx (1 : Int32) 251 (hb hby at_250) rfl rfl ?_
              refine y_goto X359 hx 255 (hb hby at_251) (by decide) (by decide) ?_
              show Sx p e below T359 m 255 #[xvj q0, xse, xvj q1, xse, xvj q2, xse, xvj q3, xse, xvj q4, xse, xvj q5, xse, xvi md, xvj (q1 &&& (288230376151711743 : Int64)), xse, xvj (q0 + q2), xse, xvr b118, xvr b135, xvr b150, xvr b135, xvr b135, xvi (0 : Int32), xvi (1 : Int32), xvi (0 : Int32)] [xwi (1 : Int32)] _
              exact retN X359 hx (t := .boolean) Bd.returns (by simp) (hb hby at_255) (hr)
            · show Qrm0 Z G q0 q1 q2 q3 q4 q5 h0 n0 _ T359.heap _
              rw [e359]
              exact ⟨rfl, N359, (((((((((Keep.refl h0 []).ext E118).ext E135).trans K146 (allS (Or.inr (Nat.le_trans E118.1 (Nat.le_of_eq g135.symm))) all0)).ext E150).ext E151).trans K167 (allS (Or.inr (Nat.le_trans (Nat.le_trans (Nat.le_trans (Nat.le_trans E118.1 E135.1) K146.1) E150.1) (Nat.le_of_eq g151.symm))) all0)).trans K188 (allS (Or.inr (Nat.le_trans (Nat.le_trans (Nat.le_trans E118.1 E135.1) K146.1) (Nat.le_of_eq g150.symm))) all0)).trans K350 (allS (Or.inr (Nat.le_trans (Nat.le_refl _) (Nat.le_of_eq g118.symm))) all0))⟩
        · have c370 : ∀ t, Sx p e below T359 m 181 #[xvj q0, xse, xvj q1, xse, xvj q2, xse, xvj q3, xse, xvj q4, xse, xvj q5, xse, xvi md, xvj (q1 &&& (288230376151711743 : Int64)), xse, xvj (q0 + q2), xse, xvr b118, xvr b135, xvr b150, xvr b135, xvr b135, xun, xun, xun] [(.int (XT.cmpL q2 (1000000000 : Int64)))] t → TG t := fun t k => c366 t (by
            refine XS.astore X359.here hx rfl (hb hby at_173) rfl rfl (l' := #[xvj q0, xse, xvj q1, xse, xvj q2, xse, xvj q3, xse, xvj q4, xse, xvj q5, xse, xvi md, xvj (q1 &&& (288230376151711743 : Int64)), xse, xvj (q0 + q2), xse, xvr b118, xvr b135, xvr b150, xvr b135, xvr b135, xun, xun, xun]) rfl ?_
            show Sx p e below T359 m 175 #[xvj q0, xse, xvj q1, xse, xvj q2, xse, xvj q3, xse, xvj q4, xse, xvj q5, xse, xvi md, xvj (q1 &&& (288230376151711743 : Int64)), xse, xvj (q0 + q2), xse, xvr b118, xvr b135, xvr b150, xvr b135, xvr b135, xun, xun, xun] [] _
            refine y_lload X359 hx 177 (hb hby at_175) rfl rfl ?_
            refine X359.ldc2Long hx hown (mvT hZ (w_229 hw)) (g := (mkF m 177 #[xvj q0, xse, xvj q1, xse, xvj q2, xse, xvj q3, xse, xvj q4, xse, xvj q5, xse, xvi md, xvj (q1 &&& (288230376151711743 : Int64)), xse, xvj (q0 + q2), xse, xvr b118, xvr b135, xvr b150, xvr b135, xvr b135, xun, xun, xun] [xwj q2])) rfl (hb hby at_177) _ ?_
            show Sx p e below T359 m 180 #[xvj q0, xse, xvj q1, xse, xvj q2, xse, xvj q3, xse, xvj q4, xse, xvj q5, xse, xvi md, xvj (q1 &&& (288230376151711743 : Int64)), xse, xvj (q0 + q2), xse, xvr b118, xvr b135, xvr b150, xvr b135, xvr b135, xun, xun, xun] [xwj (1000000000 : Int64), xwj q2] _
            refine XT.lcmp X359.here hx rfl (hb hby at_180) rfl ?_
            exact k)
          by_cases hc371 : q2 < (1000000000 : Int64)
          · obtain ⟨fs, hr, hrun, hended, hW, hsame⟩ := X359.leave (v := some (.int (1 : Int32))) (fun h => by rw [Bd.returns] at h; cases h)
            refine ⟨_, _, hTG _ (c370 _ ?_), hrun, hended, _, _, rfl, ?_, ⟨_, rfl⟩, hW, hsame.mono (by decide) (by decide)⟩
            · refine y_ifYes X359 hx 188 (hb hby at_181) (XT.ll_lt_t hc371) (by decide) (by decide) ?_
              refine y_iconst X359 hx (0 : Int32) 189 (hb hby at_188) rfl rfl ?_
              refine XS.istore X359.here hx rfl (hb hby at_189) rfl (l' := #[xvj q0, xse, xvj q1, xse, xvj q2, xse, xvj q3, xse, xvj q4, xse, xvj q5, xse, xvi md, xvj (q1 &&& (288230376151711743 : Int64)), xse, xvj (q0 + q2), xse, xvr b118, xvr b135, xvr b150, xvr b135, xvr b135, xvi (0 : Int32), xun, xun]) rfl ?_
              show Sx p e below T359 m 191 #[xvj q0, xse, xvj q1, xse, xvj q2, xse, xvj q3, xse, xvj q4, xse, xvj q5, xse, xvi md, xvj (q1 &&& (288230376151711743 : Int64)), xse, xvj (q0 + q2), xse, xvr b118, xvr b135, xvr b150, xvr b135, xvr b135, xvi (0 : Int32), xun, xun] [] _
              refine y_lload X359 hx 193 (hb hby at_191) rfl rfl ?_
              refine X359.ldc2Long hx hown (mvT hZ (w_230 hw)) (g := (mkF m 193 #[xvj q0, xse, xvj q1, xse, xvj q2, xse, xvj q3, xse, xvj q4, xse, xvj q5, xse, xvi md, xvj (q1 &&& (288230376151711743 : Int64)), xse, xvj (q0 + q2), xse, xvr b118, xvr b135, xvr b150, xvr b135, xvr b135, xvi (0 : Int32), xun, xun] [xwj q2])) rfl (hb hby at_193) _ ?_
              show Sx p e below T359 m 196 #[xvj q0, xse, xvj q1, xse, xvj q2, xse, xvj q3, xse, xvj q4, xse, xvj q5, xse, xvi md, xvj (q1 &&& (288230376151711743 : Int64)), xse, xvj (q0 + q2), xse, xvr b118, xvr b135, xvr b150, xvr b135, xvr b135, xvi (0 : Int32), xun, xun] [xwj (20 : Int64), xwj q2] _
              refine y_lload X359 hx 198 (hb hby at_196) rfl rfl ?_
              refine y_lmul X359 hx 199 (hb hby at_198) rfl ?_
              refine XT.lcmp X359.here hx rfl (hb hby at_199) rfl ?_
              show Sx p e below T359 m 200 #[xvj q0, xse, xvj q1, xse, xvj q2, xse, xvj q3, xse, xvj q4, xse, xvj q5, xse, xvi md, xvj (q1 &&& (288230376151711743 : Int64)), xse, xvj (q0 + q2), xse, xvr b118, xvr b135, xvr b150, xvr b135, xvr b135, xvi (0 : Int32), xun, xun] [(.int (XT.cmpL q2 ((20 : Int64) * (q1 &&& (288230376151711743 : Int64)))))] _
              refine y_ifYes X359 hx 207 (hb hby at_200) (XT.ll_lt_t hk367) (by decide) (by decide) ?_
              refine y_iconst X359 hx (0 : Int32) 208 (hb hby at_207) rfl rfl ?_
              refine XS.istore X359.here hx rfl (hb hby at_208) rfl (l' := #[xvj q0, xse, xvj q1, xse, xvj q2, xse, xvj q3, xse, xvj q4, xse, xvj q5, xse, xvi md, xvj (q1 &&& (288230376151711743 : Int64)), xse, xvj (q0 + q2), xse, xvr b118, xvr b135, xvr b150, xvr b135, xvr b135, xvi (0 : Int32), xvi (0 : Int32), xun]) rfl ?_
              show Sx p e below T359 m 210 #[xvj q0, xse, xvj q1, xse, xvj q2, xse, xvj q3, xse, xvj q4, xse, xvj q5, xse, xvi md, xvj (q1 &&& (288230376151711743 : Int64)), xse, xvj (q0 + q2), xse, xvr b118, xvr b135, xvr b150, xvr b135, xvr b135, xvi (0 : Int32), xvi (0 : Int32), xun] [] _
              refine y_iload X359 hx 212 (hb hby at_210) rfl rfl ?_
              refine y_ifYes X359 hx 224 (hb hby at_212) (XT.i0_eq_t (by decide)) (by decide) (by decide) ?_
              refine y_iconst X359 hx (0 : Int32) 225 (hb hby at_224) rfl rfl ?_
              refine XS.istore X359.here hx rfl (hb hby at_225) rfl (l' := #[xvj q0, xse, xvj q1, xse, xvj q2, xse, xvj q3, xse, xvj q4, xse, xvj q5, xse, xvi md, xvj (q1 &&& (288230376151711743 : Int64)), xse, xvj (q0 + q2), xse, xvr b118, xvr b135, xvr b150, xvr b135, xvr b135, xvi (0 : Int32), xvi (0 : Int32), xvi (0 : Int32)]) rfl ?_
              show Sx p e below T359 m 227 #[xvj q0, xse, xvj q1, xse, xvj q2, xse, xvj q3, xse, xvj q4, xse, xvj q5, xse, xvi md, xvj (q1 &&& (288230376151711743 : Int64)), xse, xvj (q0 + q2), xse, xvr b118, xvr b135, xvr b150, xvr b135, xvr b135, xvi (0 : Int32), xvi (0 : Int32), xvi (0 : Int32)] [] _
              refine y_iload X359 hx 229 (hb hby at_227) rfl rfl ?_
              refine y_ifYes X359 hx 243 (hb hby at_229) (XT.i0_eq_t (by decide)) (by decide) (by decide) ?_
              refine y_aload X359 hx 245 (hb hby at_243) rfl rfl rfl ?_
              refine y_aload X359 hx 247 (hb hby at_245) rfl rfl rfl ?_
              refine Jvm.RoadKit.acmp (g := (mkF m 247 #[xvj q0, xse, xvj q1, xse, xvj q2, xse, xvj q3, xse, xvj q4, xse, xvj q5, xse, xvi md, xvj (q1 &&& (288230376151711743 : Int64)), xse, xvj (q0 + q2), xse, xvr b118, xvr b135, xvr b150, xvr b135, xvr b135, xvi (0 : Int32), xvi (0 : Int32), xvi (0 : Int32)] [xwr b135, xwr b135])) X359 hx rfl rfl rfl (pc0 := 247) (pc' := 250) (same := true) rfl (hb hby at_247) rfl (decide_eq_true rfl) (by decide) (by decide) ?_
              show Sx p e below T359 m 250 #[xvj q0, xse, xvj q1, xse, xvj q2, xse, xvj q3, xse, xvj q4, xse, xvj q5, xse, xvi md, xvj (q1 &&& (288230376151711743 : Int64)), xse, xvj (q0 + q2), xse, xvr b118, xvr b135, xvr b150, xvr b135, xvr b135, xvi (0 : Int32), xvi (0 : Int32), xvi (0 : Int32)] [] _
              refine y_iconst X359 hx (1 : Int32) 251 (hb hby at_250) rfl rfl ?_
              refine y_goto X359 hx 255 (hb hby at_251) (by decide) (by decide) ?_
              show Sx p e below T359 m 255 #[xvj q0, xse, xvj q1, xse, xvj q2, xse, xvj q3, xse, xvj q4, xse, xvj q5, xse, xvi md, xvj (q1 &&& (288230376151711743 : Int64)), xse, xvj (q0 + q2), xse, xvr b118, xvr b135, xvr b150, xvr b135, xvr b135, xvi (0 : Int32), xvi (0 : Int32), xvi (0 : Int32)] [xwi (1 : Int32)] _
              exact retN X359 hx (t := .boolean) Bd.returns (by simp) (hb hby at_255) (hr)
            · show Qrm0 Z G q0 q1 q2 q3 q4 q5 h0 n0 _ T359.heap _
              rw [e359]
              exact ⟨rfl, N359, (((((((((Keep.refl h0 []).ext E118).ext E135).trans K146 (allS (Or.inr (Nat.le_trans E118.1 (Nat.le_of_eq g135.symm))) all0)).ext E150).ext E151).trans K167 (allS (Or.inr (Nat.le_trans (Nat.le_trans (Nat.le_trans (Nat.le_trans E118.1 E135.1) K146.1) E150.1) (Nat.le_of_eq g151.symm))) all0)).trans K188 (allS (Or.inr (Nat.le_trans (Nat.le_trans (Nat.le_trans E118.1 E135.1) K146.1) (Nat.le_of_eq g150.symm))) all0)).trans K350 (allS (Or.inr (Nat.le_trans (Nat.le_refl _) (Nat.le_of_eq g118.symm))) all0))⟩
          · obtain ⟨fs, hr, hrun, hended, hW, hsame⟩ := X359.leave (v := some (.int (1 : Int32))) (fun h => by rw [Bd.returns] at h; cases h)
            refine ⟨_, _, hTG _ (c370 _ ?_), hrun, hended, _, _, rfl, ?_, ⟨_, rfl⟩, hW, hsame.mono (by decide) (by decide)⟩
            · refine y_ifNo X359 hx 184 (hb hby at_181) (XT.ll_lt_f hc371) rfl ?_
              refine y_iconst X359 hx (1 : Int32) 185 (hb hby at_184) rfl rfl ?_
              refine y_goto X359 hx 189 (hb hby at_185) (by decide) (by decide) ?_
              refine XS.istore X359.here hx rfl (hb hby at_189) rfl (l' := #[xvj q0, xse, xvj q1, xse, xvj q2, xse, xvj q3, xse, xvj q4, xse, xvj q5, xse, xvi md, xvj (q1 &&& (288230376151711743 : Int64)), xse, xvj (q0 + q2), xse, xvr b118, xvr b135, xvr b150, xvr b135, xvr b135, xvi (1 : Int32), xun, xun]) rfl ?_
              show Sx p e below T359 m 191 #[xvj q0, xse, xvj q1, xse, xvj q2, xse, xvj q3, xse, xvj q4, xse, xvj q5, xse, xvi md, xvj (q1 &&& (288230376151711743 : Int64)), xse, xvj (q0 + q2), xse, xvr b118, xvr b135, xvr b150, xvr b135, xvr b135, xvi (1 : Int32), xun, xun] [] _
              refine y_lload X359 hx 193 (hb hby at_191) rfl rfl ?_
              refine X359.ldc2Long hx hown (mvT hZ (w_230 hw)) (g := (mkF m 193 #[xvj q0, xse, xvj q1, xse, xvj q2, xse, xvj q3, xse, xvj q4, xse, xvj q5, xse, xvi md, xvj (q1 &&& (288230376151711743 : Int64)), xse, xvj (q0 + q2), xse, xvr b118, xvr b135, xvr b150, xvr b135, xvr b135, xvi (1 : Int32), xun, xun] [xwj q2])) rfl (hb hby at_193) _ ?_
              show Sx p e below T359 m 196 #[xvj q0, xse, xvj q1, xse, xvj q2, xse, xvj q3, xse, xvj q4, xse, xvj q5, xse, xvi md, xvj (q1 &&& (288230376151711743 : Int64)), xse, xvj (q0 + q2), xse, xvr b118, xvr b135, xvr b150, xvr b135, xvr b135, xvi (1 : Int32), xun, xun] [xwj (20 : Int64), xwj q2] _
              refine y_lload X359 hx 198 (hb hby at_196) rfl rfl ?_
              refine y_lmul X359 hx 199 (hb hby at_198) rfl ?_
              refine XT.lcmp X359.here hx rfl (hb hby at_199) rfl ?_
              show Sx p e below T359 m 200 #[xvj q0, xse, xvj q1, xse, xvj q2, xse, xvj q3, xse, xvj q4, xse, xvj q5, xse, xvi md, xvj (q1 &&& (288230376151711743 : Int64)), xse, xvj (q0 + q2), xse, xvr b118, xvr b135, xvr b150, xvr b135, xvr b135, xvi (1 : Int32), xun, xun] [(.int (XT.cmpL q2 ((20 : Int64) * (q1 &&& (288230376151711743 : Int64)))))] _
              refine y_ifYes X359 hx 207 (hb hby at_200) (XT.ll_lt_t hk367) (by decide) (by decide) ?_
              refine y_iconst X359 hx (0 : Int32) 208 (hb hby at_207) rfl rfl ?_
              refine XS.istore X359.here hx rfl (hb hby at_208) rfl (l' := #[xvj q0, xse, xvj q1, xse, xvj q2, xse, xvj q3, xse, xvj q4, xse, xvj q5, xse, xvi md, xvj (q1 &&& (288230376151711743 : Int64)), xse, xvj (q0 + q2), xse, xvr b118, xvr b135, xvr b150, xvr b135, xvr b135, xvi (1 : Int32), xvi (0 : Int32), xun]) rfl ?_
              show Sx p e below T359 m 210 #[xvj q0, xse, xvj q1, xse, xvj q2, xse, xvj q3, xse, xvj q4, xse, xvj q5, xse, xvi md, xvj (q1 &&& (288230376151711743 : Int64)), xse, xvj (q0 + q2), xse, xvr b118, xvr b135, xvr b150, xvr b135, xvr b135, xvi (1 : Int32), xvi (0 : Int32), xun] [] _
              refine y_iload X359 hx 212 (hb hby at_210) rfl rfl ?_
              refine y_ifNo X359 hx 215 (hb hby at_212) (XT.i0_eq_f (by decide)) rfl ?_
              refine y_iload X359 hx 217 (hb hby at_215) rfl rfl ?_
              refine y_ifYes X359 hx 224 (hb hby at_217) (XT.i0_eq_t (by decide)) (by decide) (by decide) ?_
              refine y_iconst X359 hx (0 : Int32) 225 (hb hby at_224) rfl rfl ?_
              refine XS.istore X359.here hx rfl (hb hby at_225) rfl (l' := #[xvj q0, xse, xvj q1, xse, xvj q2, xse, xvj q3, xse, xvj q4, xse, xvj q5, xse, xvi md, xvj (q1 &&& (288230376151711743 : Int64)), xse, xvj (q0 + q2), xse, xvr b118, xvr b135, xvr b150, xvr b135, xvr b135, xvi (1 : Int32), xvi (0 : Int32), xvi (0 : Int32)]) rfl ?_
              show Sx p e below T359 m 227 #[xvj q0, xse, xvj q1, xse, xvj q2, xse, xvj q3, xse, xvj q4, xse, xvj q5, xse, xvi md, xvj (q1 &&& (288230376151711743 : Int64)), xse, xvj (q0 + q2), xse, xvr b118, xvr b135, xvr b150, xvr b135, xvr b135, xvi (1 : Int32), xvi (0 : Int32), xvi (0 : Int32)] [] _
              refine y_iload X359 hx 229 (hb hby at_227) rfl rfl ?_
              refine y_ifYes X359 hx 243 (hb hby at_229) (XT.i0_eq_t (by decide)) (by decide) (by decide) ?_
              refine y_aload X359 hx 245 (hb hby at_243) rfl rfl rfl ?_
              refine y_aload X359 hx 247 (hb hby at_245) rfl rfl rfl ?_
              refine Jvm.RoadKit.acmp (g := (mkF m 247 #[xvj q0, xse, xvj q1, xse, xvj q2, xse, xvj q3, xse, xvj q4, xse, xvj q5, xse, xvi md, xvj (q1 &&& (288230376151711743 : Int64)), xse, xvj (q0 + q2), xse, xvr b118, xvr b135, xvr b150, xvr b135, xvr b135, xvi (1 : Int32), xvi (0 : Int32), xvi (0 : Int32)] [xwr b135, xwr b135])) X359 hx rfl rfl rfl (pc0 := 247) (pc' := 250) (same := true) rfl (hb hby at_247) rfl (decide_eq_true rfl) (by decide) (by decide) ?_
              show Sx p e below T359 m 250 #[xvj q0, xse, xvj q1, xse, xvj q2, xse, xvj q3, xse, xvj q4, xse, xvj q5, xse, xvi md, xvj (q1 &&& (288230376151711743 : Int64)), xse, xvj (q0 + q2), xse, xvr b118, xvr b135, xvr b150, xvr b135, xvr b135, xvi (1 : Int32), xvi (0 : Int32), xvi (0 : Int32)] [] _
              refine y_iconst X359 hx (1 : Int32) 251 (hb hby at_250) rfl rfl ?_
              refine y_goto X359 hx 255 (hb hby at_251) (by decide) (by decide) ?_
              show Sx p e below T359 m 255 #[xvj q0, xse, xvj q1, xse, xvj q2, xse, xvj q3, xse, xvj q4, xse, xvj q5, xse, xvi md, xvj (q1 &&& (288230376151711743 : Int64)), xse, xvj (q0 + q2), xse, xvr b118, xvr b135, xvr b150, xvr b135, xvr b135, xvi (1 : Int32), xvi (0 : Int32), xvi (0 : Int32)] [xwi (1 : Int32)] _
              exact retN X359 hx (t := .boolean) Bd.returns (by simp) (hb hby at_255) (hr)
            · show Qrm0 Z G q0 q1 q2 q3 q4 q5 h0 n0 _ T359.heap _
              rw [e359]
              exact ⟨rfl, N359, (((((((((Keep.refl h0 []).ext E118).ext E135).trans K146 (allS (Or.inr (Nat.le_trans E118.1 (Nat.le_of_eq g135.symm))) all0)).ext E150).ext E151).trans K167 (allS (Or.inr (Nat.le_trans (Nat.le_trans (Nat.le_trans (Nat.le_trans E118.1 E135.1) K146.1) E150.1) (Nat.le_of_eq g151.symm))) all0)).trans K188 (allS (Or.inr (Nat.le_trans (Nat.le_trans (Nat.le_trans E118.1 E135.1) K146.1) (Nat.le_of_eq g150.symm))) all0)).trans K350 (allS (Or.inr (Nat.le_trans (Nat.le_refl _) (Nat.le_of_eq g118.symm))) all0))⟩
    · obtain ⟨T372, h372, X372, e372, E372, A372, D372, -, st372⟩ := newO X350 hx hZ hown (w_11 hw) (w_12 hw) (w_13 hw) e350 (g := (mkF m 113 #[xvj q0, xse, xvj q1, xse, xvj q2, xse, xvj q3, xse, xvj q4, xse, xvj q5, xse, xvi md, xvj (q1 &&& (288230376151711743 : Int64)), xse, xvj (q0 + q2), xse, xvr b118, xvr b135, xvr b150, xvr b135, xun, xun, xun, xun] [])) rfl (hb hby at_113) (by decide) (by decide)
      obtain ⟨b372, g372⟩ : ∃ z, z = hp350.size := ⟨_, rfl⟩
      rw [← g372] at A372 D372 st372
      have Fb372_at : Fld Z h372 b372 "com/example/arbiter/arbiter/store/JobStore$Position" "at" "Ljava/time/Instant;" .null := D372 (Or.inr (w_26 hw)) (ty := (.object "java/time/Instant")) (by decide)
      have Fb372_id : Fld Z h372 b372 "com/example/arbiter/arbiter/store/JobStore$Position" "id" "J" (.long (0 : Int64)) := D372 (Or.inr (w_28 hw)) (ty := .long) (by decide)
      have Ol373 : Old Z n0 h372 := ((Ol349.keep K350 (allS (Nat.le_trans Z0 (Nat.le_trans (Nat.le_refl _) (Nat.le_of_eq g118.symm))) all0)).ext E372)
      obtain ⟨T374, X374, e374, st374⟩ := getS2 X372 hx hZ hown (host := "") (Or.inl (w_14 hw)) Via.refl e372 (ST.c0.ext Ol373.2) (g := (mkF m 117 #[xvj q0, xse, xvj q1, xse, xvj q2, xse, xvj q3, xse, xvj q4, xse, xvj q5, xse, xvi md, xvj (q1 &&& (288230376151711743 : Int64)), xse, xvj (q0 + q2), xse, xvr b118, xvr b135, xvr b150, xvr b135, xun, xun, xun, xun] [xwr b372, xwr b372])) rfl (hb hby at_117)
      obtain ⟨_, _, ⟨T382, L382, k382, n382⟩, -, X382, ⟨Lc382, hQ382, l382, y382, z382⟩, st382⟩ := X374.specialBack hx (y := (⟨"com/example/arbiter/arbiter/store/JobStore$Position", "<init>", "(Ljava/time/Instant;J)V"⟩ : MethodName)) rfl hown (mvT hZ (w_16 hw)) (mvT hZ (w_17 hw)) (mvT hZ (w_18 hw)) (by decide) (backOf (W := 1) (rmA37 l Z a0 hw G ST [] b372 h372 n0 Ol373 A372 Fb372_at Fb372_id (Nat.le_trans Z0 (Nat.le_trans (Nat.le_trans (Nat.le_trans (Nat.le_trans (Nat.le_trans (Nat.le_trans (Nat.le_trans (Nat.le_trans E118.1 E135.1) K146.1) E150.1) E151.1) K167.1) K188.1) K350.1) (Nat.le_of_eq g372.symm)))) hZ (w_18 hw) (w_13 hw) (by decide) (by decide)) (g := (mkF m 123 #[xvj q0, xse, xvj q1, xse, xvj q2, xse, xvj q3, xse, xvj q4, xse, xvj q5, xse, xvi md, xvj (q1 &&& (288230376151711743 : Int64)), xse, xvj (q0 + q2), xse, xvr b118, xvr b135, xvr b150, xvr b135, xun, xun, xun, xun] [xwj (2 : Int64), xwr G.a0, xwr b372, xwr b372])) rfl (by rw [hml]; rfl) (Steps.refl _) (a := b372) (argsL := [(.ref G.a0), (.long (2 : Int64))]) (rest := [(.ref b372)]) (lenOf pd_5 rfl) rfl (by show 2 * 0 + _ ≤ _; exact Nat.le_of_eq rfl) (hb hby at_123) (fun _ _ => ⟨rfl, e374, (by decide : 7 + 0 ≤ _), (by decide : 17 + 0 ≤ _)⟩)
      dsimp only [Pt.U, Pt.locs, Pt.cells, Pt.slots] at X382 l382 y382 z382 st382 hQ382
      subst l382 y382 z382
      obtain ⟨hp382, e382⟩ : ∃ z, T382.heap = z := ⟨_, rfl⟩
      rw [e382] at hQ382
      obtain ⟨rfl, N382q, K382, p383, p384, p385⟩ := hQ382
      have N382 := Fr.app N350 N382q
      obtain ⟨T386, h386, X386, e386, E386, A386, D386, -, st386⟩ := newO X382 hx hZ hown (w_29 hw) (w_30 hw) (w_31 hw) e382 (g := (mkF m 128 #[xvj q0, xse, xvj q1, xse, xvj q2, xse, xvj q3, xse, xvj q4, xse, xvj q5, xse, xvi md, xvj (q1 &&& (288230376151711743 : Int64)), xse, xvj (q0 + q2), xse, xvr b118, xvr b135, xvr b150, xvr b135, xvr b372, xun, xun, xun] [])) rfl (hb hby at_128) (by decide) (by decide)
      obtain ⟨b386, g386⟩ : ∃ z, z = hp382.size := ⟨_, rfl⟩
      rw [← g386] at A386 D386 st386
      have Fb386_jobs : Fld Z h386 b386 "com/example/arbiter/arbiter/store/JobStore$Claim" "jobs" "Ljava/util/List;" .null := D386 (Or.inr (w_62 hw)) (ty := (.object "java/util/List")) (by decide)
      have Fb386_end : Fld Z h386 b386 "com/example/arbiter/arbiter/store/JobStore$Claim" "end" "Lcom/example/arbiter/arbiter/store/JobStore$Position;" .null := D386 (Or.inr (w_64 hw)) (ty := (.object "com/example/arbiter/arbiter/store/JobStore$Position")) (by decide)
      have Fb386_readAt : Fld Z h386 b386 "com/example/arbiter/arbiter/store/JobStore$Claim" "readAt" "Ljava/time/Instant;" .null := D386 (Or.inr (w_66 hw)) (ty := (.object "java/time/Instant")) (by decide)
      obtain ⟨T387, h387, X387, e387, E387, A387, D387, -, st387⟩ := newO X386 hx hZ hown (w_32 hw) (w_33 hw) (w_34 hw) e386 (g := (mkF m 132 #[xvj q0, xse, xvj q1, xse, xvj q2, xse, xvj q3, xse, xvj q4, xse, xvj q5, xse, xvi md, xvj (q1 &&& (288230376151711743 : Int64)), xse, xvj (q0 + q2), xse, xvr b118, xvr b135, xvr b150, xvr b135, xvr b372, xun, xun, xun] [xwr b386, xwr b386])) rfl (hb hby at_132) (by decide) (by decide)
      obtain ⟨b387, g387⟩ : ∃ z, z = h386.size := ⟨_, rfl⟩
      rw [← g387] at A387 D387 st387
      have Fb387_modCount : Fld Z h387 b387 "java/util/AbstractList" "modCount" "I" (.int (0 : Int32)) := D387 (Or.inl (w_52 hw)) (ty := .int) (by decide)
      have Fb387_elementData : Fld Z h387 b387 "java/util/ArrayList" "elementData" "[Ljava/lang/Object;" .null := D387 (Or.inl (w_55 hw)) (ty := (.array (.object "java/lang/Object"))) (by decide)
      have Ol388 : Old Z n0 h387 := (((Ol373.keep K382 (allS (Nat.le_trans Z0 (Nat.le_trans (Nat.le_trans (Nat.le_trans (Nat.le_trans (Nat.le_trans (Nat.le_trans (Nat.le_trans (Nat.le_trans E118.1 E135.1) K146.1) E150.1) E151.1) K167.1) K188.1) K350.1) (Nat.le_of_eq g372.symm))) all0)).ext E386).ext E387)
      obtain ⟨_, _, ⟨T389, L389, k389, n389⟩, -, X389, ⟨Lc389, hQ389, l389, y389, z389⟩, st389⟩ := X387.specialBack hx (y := (⟨"java/util/ArrayList", "<init>", "()V"⟩ : MethodName)) rfl hown (mvT hZ (w_35 hw)) (mvT hZ (w_36 hw)) (mvT hZ (w_37 hw)) (by decide) (backOf (W := 3) (rmA11 l Z a0 hw G ST [] b387 h387 n0 Ol388 A387 Fb387_modCount Fb387_elementData (Nat.le_trans Z0 (Nat.le_trans (Nat.le_trans (Nat.le_trans (Nat.le_trans (Nat.le_trans (Nat.le_trans (Nat.le_trans (Nat.le_trans (Nat.le_trans (Nat.le_trans (Nat.le_trans E118.1 E135.1) K146.1) E150.1) E151.1) K167.1) K188.1) K350.1) E372.1) K382.1) E386.1) (Nat.le_of_eq g387.symm)))) hZ (w_37 hw) (w_34 hw) (by decide) (by decide)) (g := (mkF m 136 #[xvj q0, xse, xvj q1, xse, xvj q2, xse, xvj q3, xse, xvj q4, xse, xvj q5, xse, xvi md, xvj (q1 &&& (288230376151711743 : Int64)), xse, xvj (q0 + q2), xse, xvr b118, xvr b135, xvr b150, xvr b135, xvr b372, xun, xun, xun] [xwr b387, xwr b387, xwr b386, xwr b386])) rfl (by rw [hml]; rfl) (Steps.refl _) (a := b387) (argsL := []) (rest := [(.ref b387), (.ref b386), (.ref b386)]) (lenOf pd_3 rfl) rfl (by show 2 * 0 + _ ≤ _; exact Nat.le_of_eq rfl) (hb hby at_136) (fun _ _ => ⟨rfl, e387, (by decide : 9 + 0 ≤ _), (by decide : 23 + 0 ≤ _)⟩)
      dsimp only [Pt.U, Pt.locs, Pt.cells, Pt.slots] at X389 l389 y389 z389 st389 hQ389
      subst l389 y389 z389
      obtain ⟨hp389, e389⟩ : ∃ z, T389.heap = z := ⟨_, rfl⟩
      rw [e389] at hQ389
      obtain ⟨rfl, N389q, K389, p390, p391, p392⟩ := hQ389
      have N389 := Fr.app N382 N389q
      have Ol393 : Old Z n0 hp389 := (Ol388.keep K389 (allS (Nat.le_trans Z0 (Nat.le_trans (Nat.le_trans (Nat.le_trans (Nat.le_trans (Nat.le_trans (Nat.le_trans (Nat.le_trans (Nat.le_trans (Nat.le_trans (Nat.le_trans (Nat.le_trans E118.1 E135.1) K146.1) E150.1) E151.1) K167.1) K188.1) K350.1) E372.1) K382.1) E386.1) (Nat.le_of_eq g387.symm))) all0))
      obtain ⟨T394, X394, e394, st394⟩ := getS2 X389 hx hZ hown (host := "") (Or.inl (w_56 hw)) Via.refl e389 (ST.c4.ext Ol393.2) (g := (mkF m 141 #[xvj q0, xse, xvj q1, xse, xvj q2, xse, xvj q3, xse, xvj q4, xse, xvj q5, xse, xvi md, xvj (q1 &&& (288230376151711743 : Int64)), xse, xvj (q0 + q2), xse, xvr b118, xvr b135, xvr b150, xvr b135, xvr b372, xun, xun, xun] [xwr b372, xwr b387, xwr b386, xwr b386])) rfl (hb hby at_141)
      have f395 := ((A386.ext E387).keep K389)
      have f396 := ((Fb386_end.ext E387).keep K389 (ninS (Nat.ne_of_lt (Nat.lt_of_lt_of_le (Nat.lt_of_lt_of_le A386.lt (Nat.le_refl _)) (Nat.le_of_eq g387.symm))) nin0))
      have f397 := ((Fb386_jobs.ext E387).keep K389 (ninS (Nat.ne_of_lt (Nat.lt_of_lt_of_le (Nat.lt_of_lt_of_le A386.lt (Nat.le_refl _)) (Nat.le_of_eq g387.symm))) nin0))
      have f398 := ((Fb386_readAt.ext E387).keep K389 (ninS (Nat.ne_of_lt (Nat.lt_of_lt_of_le (Nat.lt_of_lt_of_le A386.lt (Nat.le_refl _)) (Nat.le_of_eq g387.symm))) nin0))
      obtain ⟨_, _, ⟨T399, L399, k399, n399⟩, -, X399, ⟨Lc399, hQ399, l399, y399, z399⟩, st399⟩ := X394.specialBack hx (y := (⟨"com/example/arbiter/arbiter/store/JobStore$Claim", "<init>", "(Ljava/util/List;Lcom/example/arbiter/arbiter/store/JobStore$Position;Ljava/time/Instant;)V"⟩ : MethodName)) rfl hown (mvT hZ (w_57 hw)) (mvT hZ (w_58 hw)) (mvT hZ (w_59 hw)) (by decide) (backOf (W := 1) (rmA14 l Z a0 hw G ST [] b386 b387 b372 hp389 n0 Ol393 f395 f396 f397 f398 (Nat.le_trans Z0 (Nat.le_trans (Nat.le_trans (Nat.le_trans (Nat.le_trans (Nat.le_trans (Nat.le_trans (Nat.le_trans (Nat.le_trans (Nat.le_trans (Nat.le_trans E118.1 E135.1) K146.1) E150.1) E151.1) K167.1) K188.1) K350.1) E372.1) K382.1) (Nat.le_of_eq g386.symm)))) hZ (w_59 hw) (w_31 hw) (by decide) (by decide)) (g := (mkF m 144 #[xvj q0, xse, xvj q1, xse, xvj q2, xse, xvj q3, xse, xvj q4, xse, xvj q5, xse, xvi md, xvj (q1 &&& (288230376151711743 : Int64)), xse, xvj (q0 + q2), xse, xvr b118, xvr b135, xvr b150, xvr b135, xvr b372, xun, xun, xun] [xwr G.a1, xwr b372, xwr b387, xwr b386, xwr b386])) rfl (by rw [hml]; rfl) (Steps.refl _) (a := b386) (argsL := [(.ref b387), (.ref b372), (.ref G.a1)]) (rest := [(.ref b386)]) (lenOf pd_6 rfl) rfl (by show 2 * 0 + _ ≤ _; exact Nat.le_of_eq rfl) (hb hby at_144) (fun _ _ => ⟨rfl, e394, (by decide : 9 + 0 ≤ _), (by decide : 23 + 0 ≤ _)⟩)
      dsimp only [Pt.U, Pt.locs, Pt.cells, Pt.slots] at X399 l399 y399 z399 st399 hQ399
      subst l399 y399 z399
      obtain ⟨hp399, e399⟩ : ∃ z, T399.heap = z := ⟨_, rfl⟩
      rw [e399] at hQ399
      obtain ⟨rfl, N399q, K399, p400, p401, p402, p403⟩ := hQ399
      have N399 := Fr.app N389 N399q
      have f439 := ((((((p352.ext E372).keep K382).ext E386).ext E387).keep K389).keep K399)
      have f440 := ((((((p353.ext E372).keep K382 (ninS (Nat.ne_of_lt (Nat.lt_of_lt_of_le (Nat.lt_of_lt_of_le A118.lt (Nat.le_trans (Nat.le_trans (Nat.le_trans (Nat.le_trans (Nat.le_trans (Nat.le_trans E135.1 K146.1) E150.1) E151.1) K167.1) K188.1) K350.1)) (Nat.le_of_eq g372.symm))) nin0)).ext E386).ext E387).keep K389 (ninS (Nat.ne_of_lt (Nat.lt_of_lt_of_le (Nat.lt_of_lt_of_le A118.lt (Nat.le_trans (Nat.le_trans (Nat.le_trans (Nat.le_trans (Nat.le_trans (Nat.le_trans (Nat.le_trans (Nat.le_trans (Nat.le_trans E135.1 K146.1) E150.1) E151.1) K167.1) K188.1) K350.1) E372.1) K382.1) E386.1)) (Nat.le_of_eq g387.symm))) nin0)).keep K399 (ninS (Nat.ne_of_lt (Nat.lt_of_lt_of_le (Nat.lt_of_lt_of_le A118.lt (Nat.le_trans (Nat.le_trans (Nat.le_trans (Nat.le_trans (Nat.le_trans (Nat.le_trans (Nat.le_trans (Nat.le_trans E135.1 K146.1) E150.1) E151.1) K167.1) K188.1) K350.1) E372.1) K382.1)) (Nat.le_of_eq g386.symm))) nin0))
      have f441 := ((((((p354.ext E372).keep K382 (ninS (Nat.ne_of_lt (Nat.lt_of_lt_of_le (Nat.lt_of_lt_of_le A118.lt (Nat.le_trans (Nat.le_trans (Nat.le_trans (Nat.le_trans (Nat.le_trans (Nat.le_trans E135.1 K146.1) E150.1) E151.1) K167.1) K188.1) K350.1)) (Nat.le_of_eq g372.symm))) nin0)).ext E386).ext E387).keep K389 (ninS (Nat.ne_of_lt (Nat.lt_of_lt_of_le (Nat.lt_of_lt_of_le A118.lt (Nat.le_trans (Nat.le_trans (Nat.le_trans (Nat.le_trans (Nat.le_trans (Nat.le_trans (Nat.le_trans (Nat.le_trans (Nat.le_trans E135.1 K146.1) E150.1) E151.1) K167.1) K188.1) K350.1) E372.1) K382.1) E386.1)) (Nat.le_of_eq g387.symm))) nin0)).keep K399 (ninS (Nat.ne_of_lt (Nat.lt_of_lt_of_le (Nat.lt_of_lt_of_le A118.lt (Nat.le_trans (Nat.le_trans (Nat.le_trans (Nat.le_trans (Nat.le_trans (Nat.le_trans (Nat.le_trans (Nat.le_trans E135.1 K146.1) E150.1) E151.1) K167.1) K188.1) K350.1) E372.1) K382.1)) (Nat.le_of_eq g386.symm))) nin0))
      have f442 := ((((((p355.ext E372).keep K382 (ninS (Nat.ne_of_lt (Nat.lt_of_lt_of_le (Nat.lt_of_lt_of_le A118.lt (Nat.le_trans (Nat.le_trans (Nat.le_trans (Nat.le_trans (Nat.le_trans (Nat.le_trans E135.1 K146.1) E150.1) E151.1) K167.1) K188.1) K350.1)) (Nat.le_of_eq g372.symm))) nin0)).ext E386).ext E387).keep K389 (ninS (Nat.ne_of_lt (Nat.lt_of_lt_of_le (Nat.lt_of_lt_of_le A118.lt (Nat.le_trans (Nat.le_trans (Nat.le_trans (Nat.le_trans (Nat.le_trans (Nat.le_trans (Nat.le_trans (Nat.le_trans (Nat.le_trans E135.1 K146.1) E150.1) E151.1) K167.1) K188.1) K350.1) E372.1) K382.1) E386.1)) (Nat.le_of_eq g387.symm))) nin0)).keep K399 (ninS (Nat.ne_of_lt (Nat.lt_of_lt_of_le (Nat.lt_of_lt_of_le A118.lt (Nat.le_trans (Nat.le_trans (Nat.le_trans (Nat.le_trans (Nat.le_trans (Nat.le_trans (Nat.le_trans (Nat.le_trans E135.1 K146.1) E150.1) E151.1) K167.1) K188.1) K350.1) E372.1) K382.1)) (Nat.le_of_eq g386.symm))) nin0))
      have f443 := ((((p383.ext E386).ext E387).keep K389).keep K399)
      have f444 := ((((p384.ext E386).ext E387).keep K389 (ninS (Nat.ne_of_lt (Nat.lt_of_lt_of_le (Nat.lt_of_lt_of_le A372.lt (Nat.le_trans K382.1 E386.1)) (Nat.le_of_eq g387.symm))) nin0)).keep K399 (ninS (Nat.ne_of_lt (Nat.lt_of_lt_of_le (Nat.lt_of_lt_of_le A372.lt K382.1) (Nat.le_of_eq g386.symm))) nin0))
      have Ol445 : Old Z n0 hp399 := (Ol393.keep K399 (allS (Nat.le_trans Z0 (Nat.le_trans (Nat.le_trans (Nat.le_trans (Nat.le_trans (Nat.le_trans (Nat.le_trans (Nat.le_trans (Nat.le_trans (Nat.le_trans (Nat.le_trans E118.1 E135.1) K146.1) E150.1) E151.1) K167.1) K188.1) K350.1) E372.1) K382.1) (Nat.le_of_eq g386.symm))) all0))
      obtain ⟨cq447, kq447, q447a, q447b, q447c⟩ := isOf hZ e399 f439
      obtain ⟨_, _, ⟨T446, L446, k446, n446⟩, -, X446, ⟨Lc446, hQ446, l446, y446, z446⟩, st446⟩ := X399.virtualBack hx (y := (⟨"com/example/arbiter/arbiter/service/ClaimCursor", "moved", "(Lcom/example/arbiter/arbiter/store/JobStore$Position;Lcom/example/arbiter/arbiter/store/JobStore$Claim;JJ)V"⟩ : MethodName)) (z := (⟨"com/example/arbiter/arbiter/service/ClaimCursor", "moved", "(Lcom/example/arbiter/arbiter/store/JobStore$Position;Lcom/example/arbiter/arbiter/store/JobStore$Claim;JJ)V"⟩ : MethodName)) hown (mvT hZ (w_67 hw)) (mvT hZ (w_68 hw)) (notFace_of_selects (args := #[]) (mvT hZ (w_70 hw))) (mvT hZ (w_70 hw)) (mvT hZ (w_69 hw)) (by decide) (backOf (W := 0) (rmA38 l Z a0 hw G ST [] b118 b135 b386 q3 q4 q0 ((q0 + (q1 &&& (288230376151711743 : Int64))) - q0) b372 hp399 n0 Ol445 f439 f440 f441 f442 (Nat.le_trans Z0 (Nat.le_trans (Nat.le_refl _) (Nat.le_of_eq g118.symm))) p400 p401 p403 f443 f444) hZ (w_71 hw) (w_4 hw) (by decide) (by decide)) q447a q447c (g := (mkF m 159 #[xvj q0, xse, xvj q1, xse, xvj q2, xse, xvj q3, xse, xvj q4, xse, xvj q5, xse, xvi md, xvj (q1 &&& (288230376151711743 : Int64)), xse, xvj (q0 + q2), xse, xvr b118, xvr b135, xvr b150, xvr b135, xvr b372, xvr b386, xun, xun] [xwj q4, xwj q3, xwr b386, xwr b135, xwr b118])) rfl (by rw [hml]; rfl) (Steps.refl _) (argsL := [(.ref b135), (.ref b386), (.long q3), (.long q4)]) (rest := []) (lenOf pd_22 rfl) rfl (by show 2 * 0 + _ ≤ _; exact Nat.le_of_eq rfl) (hb hby at_159) (fun _ _ => ⟨rfl, e399, (by decide : 9 + 2 ≤ _), (by decide : 23 + 4 ≤ _)⟩)
      dsimp only [Pt.U, Pt.locs, Pt.cells, Pt.slots] at X446 l446 y446 z446 st446 hQ446
      subst l446 y446 z446
      obtain ⟨hp446, e446⟩ : ∃ z, T446.heap = z := ⟨_, rfl⟩
      rw [e446] at hQ446
      obtain ⟨rfl, N446q, K446, p448, p449, p450, p451⟩ := hQ446
      have N446 := Fr.app N399 N446q
      have Ol452 : Old Z n0 hp446 := (Ol445.keep K446 (allS (Nat.le_trans Z0 (Nat.le_trans (Nat.le_refl _) (Nat.le_of_eq g118.symm))) all0))
      obtain ⟨cq454, kq454, q454a, q454b, q454c⟩ := isOf hZ e446 p448
      obtain ⟨_, _, ⟨T453, L453, k453, n453⟩, -, X453, ⟨Lc453, hQ453, l453, y453, z453⟩, st453⟩ := X446.virtualBack hx (y := (⟨"com/example/arbiter/arbiter/service/ClaimCursor", "from", "(J)Lcom/example/arbiter/arbiter/store/JobStore$Position;"⟩ : MethodName)) (z := (⟨"com/example/arbiter/arbiter/service/ClaimCursor", "from", "(J)Lcom/example/arbiter/arbiter/store/JobStore$Position;"⟩ : MethodName)) hown (mvT hZ (w_205 hw)) (mvT hZ (w_206 hw)) (notFace_of_selects (args := #[]) (mvT hZ (w_208 hw))) (mvT hZ (w_208 hw)) (mvT hZ (w_207 hw)) (by decide) (backOf (W := 0) (rmFrom l Z a0 hw G ST [] b118 (q0 + q2) q0 ((q0 + (q1 &&& (288230376151711743 : Int64))) - q0) b372 hp446 n0 Ol452 p450 p451 p449) hZ (w_209 hw) (w_4 hw) (by decide) (by decide)) q454a q454c (g := (mkF m 170 #[xvj q0, xse, xvj q1, xse, xvj q2, xse, xvj q3, xse, xvj q4, xse, xvj q5, xse, xvi md, xvj (q1 &&& (288230376151711743 : Int64)), xse, xvj (q0 + q2), xse, xvr b118, xvr b135, xvr b150, xvr b372, xvr b372, xvr b386, xun, xun] [xwj (q0 + q2), xwr b118])) rfl (by rw [hml]; rfl) (Steps.refl _) (argsL := [(.long (q0 + q2))]) (rest := []) (lenOf pd_4 rfl) rfl (by show 2 * 0 + _ ≤ _; exact Nat.le_of_eq rfl) (hb hby at_170) (fun _ _ => ⟨rfl, e446, (by decide : 11 + 0 ≤ _), (by decide : 27 + 0 ≤ _)⟩)
      dsimp only [Pt.U, Pt.locs, Pt.cells, Pt.slots] at X453 l453 y453 z453 st453 hQ453
      subst l453 y453 z453
      obtain ⟨o455, rfl, N453q, e453, p456, p457⟩ := hQ453
      have N453 := Fr.app N446 N453q
      have c458 : ∀ t, Sx p e below T453 m 173 #[xvj q0, xse, xvj q1, xse, xvj q2, xse, xvj q3, xse, xvj q4, xse, xvj q5, xse, xvi md, xvj (q1 &&& (288230376151711743 : Int64)), xse, xvj (q0 + q2), xse, xvr b118, xvr b135, xvr b150, xvr b372, xvr b372, xvr b386, xun, xun] [o455] t → TG t := fun t k => c356 t (by
        refine y_icmpNo X350 hx 113 (hb hby at_110) (XT.ii_lt_f hc357) rfl ?_
        refine st372 _ ?_
        show Sx p e below T372 m 116 #[xvj q0, xse, xvj q1, xse, xvj q2, xse, xvj q3, xse, xvj q4, xse, xvj q5, xse, xvi md, xvj (q1 &&& (288230376151711743 : Int64)), xse, xvj (q0 + q2), xse, xvr b118, xvr b135, xvr b150, xvr b135, xun, xun, xun, xun] [xwr b372] _
        refine y_dup X372 hx 117 (hb hby at_116) rfl rfl ?_
        refine st374 _ ?_
        show Sx p e below T374 m 120 #[xvj q0, xse, xvj q1, xse, xvj q2, xse, xvj q3, xse, xvj q4, xse, xvj q5, xse, xvi md, xvj (q1 &&& (288230376151711743 : Int64)), xse, xvj (q0 + q2), xse, xvr b118, xvr b135, xvr b150, xvr b135, xun, xun, xun, xun] [xwr G.a0, xwr b372, xwr b372] _
        refine X374.ldc2Long hx hown (mvT hZ (w_204 hw)) (g := (mkF m 120 #[xvj q0, xse, xvj q1, xse, xvj q2, xse, xvj q3, xse, xvj q4, xse, xvj q5, xse, xvi md, xvj (q1 &&& (288230376151711743 : Int64)), xse, xvj (q0 + q2), xse, xvr b118, xvr b135, xvr b150, xvr b135, xun, xun, xun, xun] [xwr G.a0, xwr b372, xwr b372])) rfl (hb hby at_120) _ ?_
        show Sx p e below T374 m 123 #[xvj q0, xse, xvj q1, xse, xvj q2, xse, xvj q3, xse, xvj q4, xse, xvj q5, xse, xvi md, xvj (q1 &&& (288230376151711743 : Int64)), xse, xvj (q0 + q2), xse, xvr b118, xvr b135, xvr b150, xvr b135, xun, xun, xun, xun] [xwj (2 : Int64), xwr G.a0, xwr b372, xwr b372] _
        refine st382.trans ?_
        show Sx p e below T382 m 126 #[xvj q0, xse, xvj q1, xse, xvj q2, xse, xvj q3, xse, xvj q4, xse, xvj q5, xse, xvi md, xvj (q1 &&& (288230376151711743 : Int64)), xse, xvj (q0 + q2), xse, xvr b118, xvr b135, xvr b150, xvr b135, xun, xun, xun, xun] [xwr b372] _
        refine XS.astore X382.here hx rfl (hb hby at_126) rfl rfl (l' := #[xvj q0, xse, xvj q1, xse, xvj q2, xse, xvj q3, xse, xvj q4, xse, xvj q5, xse, xvi md, xvj (q1 &&& (288230376151711743 : Int64)), xse, xvj (q0 + q2), xse, xvr b118, xvr b135, xvr b150, xvr b135, xvr b372, xun, xun, xun]) rfl ?_
        show Sx p e below T382 m 128 #[xvj q0, xse, xvj q1, xse, xvj q2, xse, xvj q3, xse, xvj q4, xse, xvj q5, xse, xvi md, xvj (q1 &&& (288230376151711743 : Int64)), xse, xvj (q0 + q2), xse, xvr b118, xvr b135, xvr b150, xvr b135, xvr b372, xun, xun, xun] [] _
        refine st386 _ ?_
        show Sx p e below T386 m 131 #[xvj q0, xse, xvj q1, xse, xvj q2, xse, xvj q3, xse, xvj q4, xse, xvj q5, xse, xvi md, xvj (q1 &&& (288230376151711743 : Int64)), xse, xvj (q0 + q2), xse, xvr b118, xvr b135, xvr b150, xvr b135, xvr b372, xun, xun, xun] [xwr b386] _
        refine y_dup X386 hx 132 (hb hby at_131) rfl rfl ?_
        refine st387 _ ?_
        show Sx p e below T387 m 135 #[xvj q0, xse, xvj q1, xse, xvj q2, xse, xvj q3, xse, xvj q4, xse, xvj q5, xse, xvi md, xvj (q1 &&& (288230376151711743 : Int64)), xse, xvj (q0 + q2), xse, xvr b118, xvr b135, xvr b150, xvr b135, xvr b372, xun, xun, xun] [xwr b387, xwr b386, xwr b386] _
        refine y_dup X387 hx 136 (hb hby at_135) rfl rfl ?_
        refine st389.trans ?_
        show Sx p e below T389 m 139 #[xvj q0, xse, xvj q1, xse, xvj q2, xse, xvj q3, xse, xvj q4, xse, xvj q5, xse, xvi md, xvj (q1 &&& (288230376151711743 : Int64)), xse, xvj (q0 + q2), xse, xvr b118, xvr b135, xvr b150, xvr b135, xvr b372, xun, xun, xun] [xwr b387, xwr b386, xwr b386] _
        refine y_aload X389 hx 141 (hb hby at_139) rfl rfl rfl ?_
        refine st394 _ ?_
        show Sx p e below T394 m 144 #[xvj q0, xse, xvj q1, xse, xvj q2, xse, xvj q3, xse, xvj q4, xse, xvj q5, xse, xvi md, xvj (q1 &&& (288230376151711743 : Int64)), xse, xvj (q0 + q2), xse, xvr b118, xvr b135, xvr b150, xvr b135, xvr b372, xun, xun, xun] [xwr G.a1, xwr b372, xwr b387, xwr b386, xwr b386] _
        refine st399.trans ?_
        show Sx p e below T399 m 147 #[xvj q0, xse, xvj q1, xse, xvj q2, xse, xvj q3, xse, xvj q4, xse, xvj q5, xse, xvi md, xvj (q1 &&& (288230376151711743 : Int64)), xse, xvj (q0 + q2), xse, xvr b118, xvr b135, xvr b150, xvr b135, xvr b372, xun, xun, xun] [xwr b386] _
        refine XS.astore X399.here hx rfl (hb hby at_147) rfl rfl (l' := #[xvj q0, xse, xvj q1, xse, xvj q2, xse, xvj q3, xse, xvj q4, xse, xvj q5, xse, xvi md, xvj (q1 &&& (288230376151711743 : Int64)), xse, xvj (q0 + q2), xse, xvr b118, xvr b135, xvr b150, xvr b135, xvr b372, xvr b386, xun, xun]) rfl ?_
        show Sx p e below T399 m 149 #[xvj q0, xse, xvj q1, xse, xvj q2, xse, xvj q3, xse, xvj q4, xse, xvj q5, xse, xvi md, xvj (q1 &&& (288230376151711743 : Int64)), xse, xvj (q0 + q2), xse, xvr b118, xvr b135, xvr b150, xvr b135, xvr b372, xvr b386, xun, xun] [] _
        refine y_aload X399 hx 151 (hb hby at_149) rfl rfl rfl ?_
        refine y_aload X399 hx 153 (hb hby at_151) rfl rfl rfl ?_
        refine y_aload X399 hx 155 (hb hby at_153) rfl rfl rfl ?_
        refine y_lload X399 hx 157 (hb hby at_155) rfl rfl ?_
        refine y_lload X399 hx 159 (hb hby at_157) rfl rfl ?_
        refine st446.trans ?_
        show Sx p e below T446 m 162 #[xvj q0, xse, xvj q1, xse, xvj q2, xse, xvj q3, xse, xvj q4, xse, xvj q5, xse, xvi md, xvj (q1 &&& (288230376151711743 : Int64)), xse, xvj (q0 + q2), xse, xvr b118, xvr b135, xvr b150, xvr b135, xvr b372, xvr b386, xun, xun] [] _
        refine y_aload X446 hx 164 (hb hby at_162) rfl rfl rfl ?_
        refine XS.astore X446.here hx rfl (hb hby at_164) rfl rfl (l' := #[xvj q0, xse, xvj q1, xse, xvj q2, xse, xvj q3, xse, xvj q4, xse, xvj q5, xse, xvi md, xvj (q1 &&& (288230376151711743 : Int64)), xse, xvj (q0 + q2), xse, xvr b118, xvr b135, xvr b150, xvr b372, xvr b372, xvr b386, xun, xun]) rfl ?_
        show Sx p e below T446 m 166 #[xvj q0, xse, xvj q1, xse, xvj q2, xse, xvj q3, xse, xvj q4, xse, xvj q5, xse, xvi md, xvj (q1 &&& (288230376151711743 : Int64)), xse, xvj (q0 + q2), xse, xvr b118, xvr b135, xvr b150, xvr b372, xvr b372, xvr b386, xun, xun] [] _
        refine y_aload X446 hx 168 (hb hby at_166) rfl rfl rfl ?_
        refine y_lload X446 hx 170 (hb hby at_168) rfl rfl ?_
        refine st453.trans ?_
        exact k)
      rcases p457 with hk459 | hk459
      · have hq1 := own_e1 hk459.2
        have hq2 := own_e2 hk459.2
        obtain ⟨fs, hr, hrun, hended, hW, hsame⟩ := X453.leave (v := some (.int (1 : Int32))) (fun h => by rw [Bd.returns] at h; cases h)
        refine ⟨_, _, hTG _ (c458 _ ?_), hrun, hended, _, _, rfl, ?_, ⟨_, rfl⟩, hW, hsame.mono (by decide) (by decide)⟩
        · rw [hk459.1]
          refine XS.astore X453.here hx rfl (hb hby at_173) rfl rfl (l' := #[xvj q0, xse, xvj q1, xse, xvj q2, xse, xvj q3, xse, xvj q4, xse, xvj q5, xse, xvi md, xvj (q1 &&& (288230376151711743 : Int64)), xse, xvj (q0 + q2), xse, xvr b118, xvr b135, xvr b150, xvr b372, .val .null, xvr b386, xun, xun]) rfl ?_
          show Sx p e below T453 m 175 #[xvj q0, xse, xvj q1, xse, xvj q2, xse, xvj q3, xse, xvj q4, xse, xvj q5, xse, xvi md, xvj (q1 &&& (288230376151711743 : Int64)), xse, xvj (q0 + q2), xse, xvr b118, xvr b135, xvr b150, xvr b372, .val .null, xvr b386, xun, xun] [] _
          refine y_lload X453 hx 177 (hb hby at_175) rfl rfl ?_
          refine X453.ldc2Long hx hown (mvT hZ (w_229 hw)) (g := (mkF m 177 #[xvj q0, xse, xvj q1, xse, xvj q2, xse, xvj q3, xse, xvj q4, xse, xvj q5, xse, xvi md, xvj (q1 &&& (288230376151711743 : Int64)), xse, xvj (q0 + q2), xse, xvr b118, xvr b135, xvr b150, xvr b372, .val .null, xvr b386, xun, xun] [xwj q2])) rfl (hb hby at_177) _ ?_
          show Sx p e below T453 m 180 #[xvj q0, xse, xvj q1, xse, xvj q2, xse, xvj q3, xse, xvj q4, xse, xvj q5, xse, xvi md, xvj (q1 &&& (288230376151711743 : Int64)), xse, xvj (q0 + q2), xse, xvr b118, xvr b135, xvr b150, xvr b372, .val .null, xvr b386, xun, xun] [xwj (1000000000 : Int64), xwj q2] _
          refine XT.lcmp X453.here hx rfl (hb hby at_180) rfl ?_
          show Sx p e below T453 m 181 #[xvj q0, xse, xvj q1, xse, xvj q2, xse, xvj q3, xse, xvj q4, xse, xvj q5, xse, xvi md, xvj (q1 &&& (288230376151711743 : Int64)), xse, xvj (q0 + q2), xse, xvr b118, xvr b135, xvr b150, xvr b372, .val .null, xvr b386, xun, xun] [(.int (XT.cmpL q2 (1000000000 : Int64)))] _
          refine y_ifNo X453 hx 184 (hb hby at_181) (XT.ll_lt_f hq1) rfl ?_
          refine y_iconst X453 hx (1 : Int32) 185 (hb hby at_184) rfl rfl ?_
          refine y_goto X453 hx 189 (hb hby at_185) (by decide) (by decide) ?_
          refine XS.istore X453.here hx rfl (hb hby at_189) rfl (l' := #[xvj q0, xse, xvj q1, xse, xvj q2, xse, xvj q3, xse, xvj q4, xse, xvj q5, xse, xvi md, xvj (q1 &&& (288230376151711743 : Int64)), xse, xvj (q0 + q2), xse, xvr b118, xvr b135, xvr b150, xvr b372, .val .null, xvi (1 : Int32), xun, xun]) rfl ?_
          show Sx p e below T453 m 191 #[xvj q0, xse, xvj q1, xse, xvj q2, xse, xvj q3, xse, xvj q4, xse, xvj q5, xse, xvi md, xvj (q1 &&& (288230376151711743 : Int64)), xse, xvj (q0 + q2), xse, xvr b118, xvr b135, xvr b150, xvr b372, .val .null, xvi (1 : Int32), xun, xun] [] _
          refine y_lload X453 hx 193 (hb hby at_191) rfl rfl ?_
          refine X453.ldc2Long hx hown (mvT hZ (w_230 hw)) (g := (mkF m 193 #[xvj q0, xse, xvj q1, xse, xvj q2, xse, xvj q3, xse, xvj q4, xse, xvj q5, xse, xvi md, xvj (q1 &&& (288230376151711743 : Int64)), xse, xvj (q0 + q2), xse, xvr b118, xvr b135, xvr b150, xvr b372, .val .null, xvi (1 : Int32), xun, xun] [xwj q2])) rfl (hb hby at_193) _ ?_
          show Sx p e below T453 m 196 #[xvj q0, xse, xvj q1, xse, xvj q2, xse, xvj q3, xse, xvj q4, xse, xvj q5, xse, xvi md, xvj (q1 &&& (288230376151711743 : Int64)), xse, xvj (q0 + q2), xse, xvr b118, xvr b135, xvr b150, xvr b372, .val .null, xvi (1 : Int32), xun, xun] [xwj (20 : Int64), xwj q2] _
          refine y_lload X453 hx 198 (hb hby at_196) rfl rfl ?_
          refine y_lmul X453 hx 199 (hb hby at_198) rfl ?_
          refine XT.lcmp X453.here hx rfl (hb hby at_199) rfl ?_
          show Sx p e below T453 m 200 #[xvj q0, xse, xvj q1, xse, xvj q2, xse, xvj q3, xse, xvj q4, xse, xvj q5, xse, xvi md, xvj (q1 &&& (288230376151711743 : Int64)), xse, xvj (q0 + q2), xse, xvr b118, xvr b135, xvr b150, xvr b372, .val .null, xvi (1 : Int32), xun, xun] [(.int (XT.cmpL q2 ((20 : Int64) * (q1 &&& (288230376151711743 : Int64)))))] _
          refine y_ifNo X453 hx 203 (hb hby at_200) (XT.ll_lt_f hq2) rfl ?_
          refine y_iconst X453 hx (1 : Int32) 204 (hb hby at_203) rfl rfl ?_
          refine y_goto X453 hx 208 (hb hby at_204) (by decide) (by decide) ?_
          refine XS.istore X453.here hx rfl (hb hby at_208) rfl (l' := #[xvj q0, xse, xvj q1, xse, xvj q2, xse, xvj q3, xse, xvj q4, xse, xvj q5, xse, xvi md, xvj (q1 &&& (288230376151711743 : Int64)), xse, xvj (q0 + q2), xse, xvr b118, xvr b135, xvr b150, xvr b372, .val .null, xvi (1 : Int32), xvi (1 : Int32), xun]) rfl ?_
          show Sx p e below T453 m 210 #[xvj q0, xse, xvj q1, xse, xvj q2, xse, xvj q3, xse, xvj q4, xse, xvj q5, xse, xvi md, xvj (q1 &&& (288230376151711743 : Int64)), xse, xvj (q0 + q2), xse, xvr b118, xvr b135, xvr b150, xvr b372, .val .null, xvi (1 : Int32), xvi (1 : Int32), xun] [] _
          refine y_iload X453 hx 212 (hb hby at_210) rfl rfl ?_
          refine y_ifNo X453 hx 215 (hb hby at_212) (XT.i0_eq_f (by decide)) rfl ?_
          refine y_iload X453 hx 217 (hb hby at_215) rfl rfl ?_
          refine y_ifNo X453 hx 220 (hb hby at_217) (XT.i0_eq_f (by decide)) rfl ?_
          refine y_iconst X453 hx (1 : Int32) 221 (hb hby at_220) rfl rfl ?_
          refine y_goto X453 hx 225 (hb hby at_221) (by decide) (by decide) ?_
          refine XS.istore X453.here hx rfl (hb hby at_225) rfl (l' := #[xvj q0, xse, xvj q1, xse, xvj q2, xse, xvj q3, xse, xvj q4, xse, xvj q5, xse, xvi md, xvj (q1 &&& (288230376151711743 : Int64)), xse, xvj (q0 + q2), xse, xvr b118, xvr b135, xvr b150, xvr b372, .val .null, xvi (1 : Int32), xvi (1 : Int32), xvi (1 : Int32)]) rfl ?_
          show Sx p e below T453 m 227 #[xvj q0, xse, xvj q1, xse, xvj q2, xse, xvj q3, xse, xvj q4, xse, xvj q5, xse, xvi md, xvj (q1 &&& (288230376151711743 : Int64)), xse, xvj (q0 + q2), xse, xvr b118, xvr b135, xvr b150, xvr b372, .val .null, xvi (1 : Int32), xvi (1 : Int32), xvi (1 : Int32)] [] _
          refine y_iload X453 hx 229 (hb hby at_227) rfl rfl ?_
          refine y_ifNo X453 hx 232 (hb hby at_229) (XT.i0_eq_f (by decide)) rfl ?_
          refine y_aload X453 hx 234 (hb hby at_232) rfl rfl rfl ?_
          refine XS.ifnonnullNo X453.here hx rfl (hb hby at_234) rfl ?_
          show Sx p e below T453 m 237 #[xvj q0, xse, xvj q1, xse, xvj q2, xse, xvj q3, xse, xvj q4, xse, xvj q5, xse, xvi md, xvj (q1 &&& (288230376151711743 : Int64)), xse, xvj (q0 + q2), xse, xvr b118, xvr b135, xvr b150, xvr b372, .val .null, xvi (1 : Int32), xvi (1 : Int32), xvi (1 : Int32)] [] _
          refine y_iconst X453 hx (1 : Int32) 238 (hb hby at_237) rfl rfl ?_
          refine y_goto X453 hx 242 (hb hby at_238) (by decide) (by decide) ?_
          show Sx p e below T453 m 242 #[xvj q0, xse, xvj q1, xse, xvj q2, xse, xvj q3, xse, xvj q4, xse, xvj q5, xse, xvi md, xvj (q1 &&& (288230376151711743 : Int64)), xse, xvj (q0 + q2), xse, xvr b118, xvr b135, xvr b150, xvr b372, .val .null, xvi (1 : Int32), xvi (1 : Int32), xvi (1 : Int32)] [xwi (1 : Int32)] _
          exact retN X453 hx (t := .boolean) Bd.returns (by simp) (hb hby at_242) (hr)
        · show Qrm0 Z G q0 q1 q2 q3 q4 q5 h0 n0 _ T453.heap _
          rw [e453]
          exact ⟨rfl, N453, ((((((((((((((((Keep.refl h0 []).ext E118).ext E135).trans K146 (allS (Or.inr (Nat.le_trans E118.1 (Nat.le_of_eq g135.symm))) all0)).ext E150).ext E151).trans K167 (allS (Or.inr (Nat.le_trans (Nat.le_trans (Nat.le_trans (Nat.le_trans E118.1 E135.1) K146.1) E150.1) (Nat.le_of_eq g151.symm))) all0)).trans K188 (allS (Or.inr (Nat.le_trans (Nat.le_trans (Nat.le_trans E118.1 E135.1) K146.1) (Nat.le_of_eq g150.symm))) all0)).trans K350 (allS (Or.inr (Nat.le_trans (Nat.le_refl _) (Nat.le_of_eq g118.symm))) all0)).ext E372).trans K382 (allS (Or.inr (Nat.le_trans (Nat.le_trans (Nat.le_trans (Nat.le_trans (Nat.le_trans (Nat.le_trans (Nat.le_trans (Nat.le_trans E118.1 E135.1) K146.1) E150.1) E151.1) K167.1) K188.1) K350.1) (Nat.le_of_eq g372.symm))) all0)).ext E386).ext E387).trans K389 (allS (Or.inr (Nat.le_trans (Nat.le_trans (Nat.le_trans (Nat.le_trans (Nat.le_trans (Nat.le_trans (Nat.le_trans (Nat.le_trans (Nat.le_trans (Nat.le_trans (Nat.le_trans E118.1 E135.1) K146.1) E150.1) E151.1) K167.1) K188.1) K350.1) E372.1) K382.1) E386.1) (Nat.le_of_eq g387.symm))) all0)).trans K399 (allS (Or.inr (Nat.le_trans (Nat.le_trans (Nat.le_trans (Nat.le_trans (Nat.le_trans (Nat.le_trans (Nat.le_trans (Nat.le_trans (Nat.le_trans (Nat.le_trans E118.1 E135.1) K146.1) E150.1) E151.1) K167.1) K188.1) K350.1) E372.1) K382.1) (Nat.le_of_eq g386.symm))) all0)).trans K446 (allS (Or.inr (Nat.le_trans (Nat.le_refl _) (Nat.le_of_eq g118.symm))) all0))⟩
      · have c460 : ∀ t, Sx p e below T453 m 173 #[xvj q0, xse, xvj q1, xse, xvj q2, xse, xvj q3, xse, xvj q4, xse, xvj q5, xse, xvi md, xvj (q1 &&& (288230376151711743 : Int64)), xse, xvj (q0 + q2), xse, xvr b118, xvr b135, xvr b150, xvr b372, xvr b372, xvr b386, xun, xun] [xwr b372] t → TG t := fun t k => c458 t (by
          rw [hk459.1]
          exact k)
        rcases own_e3 hk459.2 with hk461 | hk461
        · have c462 : ∀ t, Sx p e below T453 m 200 #[xvj q0, xse, xvj q1, xse, xvj q2, xse, xvj q3, xse, xvj q4, xse, xvj q5, xse, xvi md, xvj (q1 &&& (288230376151711743 : Int64)), xse, xvj (q0 + q2), xse, xvr b118, xvr b135, xvr b150, xvr b372, xvr b372, xvi (0 : Int32), xun, xun] [(.int (XT.cmpL q2 ((20 : Int64) * (q1 &&& (288230376151711743 : Int64)))))] t → TG t := fun t k => c460 t (by
            refine XS.astore X453.here hx rfl (hb hby at_173) rfl rfl (l' := #[xvj q0, xse, xvj q1, xse, xvj q2, xse, xvj q3, xse, xvj q4, xse, xvj q5, xse, xvi md, xvj (q1 &&& (288230376151711743 : Int64)), xse, xvj (q0 + q2), xse, xvr b118, xvr b135, xvr b150, xvr b372, xvr b372, xvr b386, xun, xun]) rfl ?_
            show Sx p e below T453 m 175 #[xvj q0, xse, xvj q1, xse, xvj q2, xse, xvj q3, xse, xvj q4, xse, xvj q5, xse, xvi md, xvj (q1 &&& (288230376151711743 : Int64)), xse, xvj (q0 + q2), xse, xvr b118, xvr b135, xvr b150, xvr b372, xvr b372, xvr b386, xun, xun] [] _
            refine y_lload X453 hx 177 (hb hby at_175) rfl rfl ?_
            refine X453.ldc2Long hx hown (mvT hZ (w_229 hw)) (g := (mkF m 177 #[xvj q0, xse, xvj q1, xse, xvj q2, xse, xvj q3, xse, xvj q4, xse, xvj q5, xse, xvi md, xvj (q1 &&& (288230376151711743 : Int64)), xse, xvj (q0 + q2), xse, xvr b118, xvr b135, xvr b150, xvr b372, xvr b372, xvr b386, xun, xun] [xwj q2])) rfl (hb hby at_177) _ ?_
            show Sx p e below T453 m 180 #[xvj q0, xse, xvj q1, xse, xvj q2, xse, xvj q3, xse, xvj q4, xse, xvj q5, xse, xvi md, xvj (q1 &&& (288230376151711743 : Int64)), xse, xvj (q0 + q2), xse, xvr b118, xvr b135, xvr b150, xvr b372, xvr b372, xvr b386, xun, xun] [xwj (1000000000 : Int64), xwj q2] _
            refine XT.lcmp X453.here hx rfl (hb hby at_180) rfl ?_
            show Sx p e below T453 m 181 #[xvj q0, xse, xvj q1, xse, xvj q2, xse, xvj q3, xse, xvj q4, xse, xvj q5, xse, xvi md, xvj (q1 &&& (288230376151711743 : Int64)), xse, xvj (q0 + q2), xse, xvr b118, xvr b135, xvr b150, xvr b372, xvr b372, xvr b386, xun, xun] [(.int (XT.cmpL q2 (1000000000 : Int64)))] _
            refine y_ifYes X453 hx 188 (hb hby at_181) (XT.ll_lt_t hk461) (by decide) (by decide) ?_
            refine y_iconst X453 hx (0 : Int32) 189 (hb hby at_188) rfl rfl ?_
            refine XS.istore X453.here hx rfl (hb hby at_189) rfl (l' := #[xvj q0, xse, xvj q1, xse, xvj q2, xse, xvj q3, xse, xvj q4, xse, xvj q5, xse, xvi md, xvj (q1 &&& (288230376151711743 : Int64)), xse, xvj (q0 + q2), xse, xvr b118, xvr b135, xvr b150, xvr b372, xvr b372, xvi (0 : Int32), xun, xun]) rfl ?_
            show Sx p e below T453 m 191 #[xvj q0, xse, xvj q1, xse, xvj q2, xse, xvj q3, xse, xvj q4, xse, xvj q5, xse, xvi md, xvj (q1 &&& (288230376151711743 : Int64)), xse, xvj (q0 + q2), xse, xvr b118, xvr b135, xvr b150, xvr b372, xvr b372, xvi (0 : Int32), xun, xun] [] _
            refine y_lload X453 hx 193 (hb hby at_191) rfl rfl ?_
            refine X453.ldc2Long hx hown (mvT hZ (w_230 hw)) (g := (mkF m 193 #[xvj q0, xse, xvj q1, xse, xvj q2, xse, xvj q3, xse, xvj q4, xse, xvj q5, xse, xvi md, xvj (q1 &&& (288230376151711743 : Int64)), xse, xvj (q0 + q2), xse, xvr b118, xvr b135, xvr b150, xvr b372, xvr b372, xvi (0 : Int32), xun, xun] [xwj q2])) rfl (hb hby at_193) _ ?_
            show Sx p e below T453 m 196 #[xvj q0, xse, xvj q1, xse, xvj q2, xse, xvj q3, xse, xvj q4, xse, xvj q5, xse, xvi md, xvj (q1 &&& (288230376151711743 : Int64)), xse, xvj (q0 + q2), xse, xvr b118, xvr b135, xvr b150, xvr b372, xvr b372, xvi (0 : Int32), xun, xun] [xwj (20 : Int64), xwj q2] _
            refine y_lload X453 hx 198 (hb hby at_196) rfl rfl ?_
            refine y_lmul X453 hx 199 (hb hby at_198) rfl ?_
            refine XT.lcmp X453.here hx rfl (hb hby at_199) rfl ?_
            exact k)
          by_cases hc463 : q2 < ((20 : Int64) * (q1 &&& (288230376151711743 : Int64)))
          · obtain ⟨fs, hr, hrun, hended, hW, hsame⟩ := X453.leave (v := some (.int (1 : Int32))) (fun h => by rw [Bd.returns] at h; cases h)
            refine ⟨_, _, hTG _ (c462 _ ?_), hrun, hended, _, _, rfl, ?_, ⟨_, rfl⟩, hW, hsame.mono (by decide) (by decide)⟩
            · refine y_ifYes X453 hx 207 (hb hby at_200) (XT.ll_lt_t hc463) (by decide) (by decide) ?_
              refine y_iconst X453 hx (0 : Int32) 208 (hb hby at_207) rfl rfl ?_
              refine XS.istore X453.here hx rfl (hb hby at_208) rfl (l' := #[xvj q0, xse, xvj q1, xse, xvj q2, xse, xvj q3, xse, xvj q4, xse, xvj q5, xse, xvi md, xvj (q1 &&& (288230376151711743 : Int64)), xse, xvj (q0 + q2), xse, xvr b118, xvr b135, xvr b150, xvr b372, xvr b372, xvi (0 : Int32), xvi (0 : Int32), xun]) rfl ?_
              show Sx p e below T453 m 210 #[xvj q0, xse, xvj q1, xse, xvj q2, xse, xvj q3, xse, xvj q4, xse, xvj q5, xse, xvi md, xvj (q1 &&& (288230376151711743 : Int64)), xse, xvj (q0 + q2), xse, xvr b118, xvr b135, xvr b150, xvr b372, xvr b372, xvi (0 : Int32), xvi (0 : Int32), xun] [] _
              refine y_iload X453 hx 212 (hb hby at_210) rfl rfl ?_
              refine y_ifYes X453 hx 224 (hb hby at_212) (XT.i0_eq_t (by decide)) (by decide) (by decide) ?_
              refine y_iconst X453 hx (0 : Int32) 225 (hb hby at_224) rfl rfl ?_
              refine XS.istore X453.here hx rfl (hb hby at_225) rfl (l' := #[xvj q0, xse, xvj q1, xse, xvj q2, xse, xvj q3, xse, xvj q4, xse, xvj q5, xse, xvi md, xvj (q1 &&& (288230376151711743 : Int64)), xse, xvj (q0 + q2), xse, xvr b118, xvr b135, xvr b150, xvr b372, xvr b372, xvi (0 : Int32), xvi (0 : Int32), xvi (0 : Int32)]) rfl ?_
              show Sx p e below T453 m 227 #[xvj q0, xse, xvj q1, xse, xvj q2, xse, xvj q3, xse, xvj q4, xse, xvj q5, xse, xvi md, xvj (q1 &&& (288230376151711743 : Int64)), xse, xvj (q0 + q2), xse, xvr b118, xvr b135, xvr b150, xvr b372, xvr b372, xvi (0 : Int32), xvi (0 : Int32), xvi (0 : Int32)] [] _
              refine y_iload X453 hx 229 (hb hby at_227) rfl rfl ?_
              refine y_ifYes X453 hx 243 (hb hby at_229) (XT.i0_eq_t (by decide)) (by decide) (by decide) ?_
              refine y_aload X453 hx 245 (hb hby at_243) rfl rfl rfl ?_
              refine y_aload X453 hx 247 (hb hby at_245) rfl rfl rfl ?_
              refine Jvm.RoadKit.acmp (g := (mkF m 247 #[xvj q0, xse, xvj q1, xse, xvj q2, xse, xvj q3, xse, xvj q4, xse, xvj q5, xse, xvi md, xvj (q1 &&& (288230376151711743 : Int64)), xse, xvj (q0 + q2), xse, xvr b118, xvr b135, xvr b150, xvr b372, xvr b372, xvi (0 : Int32), xvi (0 : Int32), xvi (0 : Int32)] [xwr b372, xwr b372])) X453 hx rfl rfl rfl (pc0 := 247) (pc' := 250) (same := true) rfl (hb hby at_247) rfl (decide_eq_true rfl) (by decide) (by decide) ?_
              show Sx p e below T453 m 250 #[xvj q0, xse, xvj q1, xse, xvj q2, xse, xvj q3, xse, xvj q4, xse, xvj q5, xse, xvi md, xvj (q1 &&& (288230376151711743 : Int64)), xse, xvj (q0 + q2), xse, xvr b118, xvr b135, xvr b150, xvr b372, xvr b372, xvi (0 : Int32), xvi (0 : Int32), xvi (0 : Int32)] [] _
              refine y_iconst X453 hx (1 : Int32) 251 (hb hby at_250) rfl rfl ?_
              refine y_goto X453 hx 255 (hb hby at_251) (by decide) (by decide) ?_
              show Sx p e below T453 m 255 #[xvj q0, xse, xvj q1, xse, xvj q2, xse, xvj q3, xse, xvj q4, xse, xvj q5, xse, xvi md, xvj (q1 &&& (288230376151711743 : Int64)), xse, xvj (q0 + q2), xse, xvr b118, xvr b135, xvr b150, xvr b372, xvr b372, xvi (0 : Int32), xvi (0 : Int32), xvi (0 : Int32)] [xwi (1 : Int32)] _
              exact retN X453 hx (t := .boolean) Bd.returns (by simp) (hb hby at_255) (hr)
            · show Qrm0 Z G q0 q1 q2 q3 q4 q5 h0 n0 _ T453.heap _
              rw [e453]
              exact ⟨rfl, N453, ((((((((((((((((Keep.refl h0 []).ext E118).ext E135).trans K146 (allS (Or.inr (Nat.le_trans E118.1 (Nat.le_of_eq g135.symm))) all0)).ext E150).ext E151).trans K167 (allS (Or.inr (Nat.le_trans (Nat.le_trans (Nat.le_trans (Nat.le_trans E118.1 E135.1) K146.1) E150.1) (Nat.le_of_eq g151.symm))) all0)).trans K188 (allS (Or.inr (Nat.le_trans (Nat.le_trans (Nat.le_trans E118.1 E135.1) K146.1) (Nat.le_of_eq g150.symm))) all0)).trans K350 (allS (Or.inr (Nat.le_trans (Nat.le_refl _) (Nat.le_of_eq g118.symm))) all0)).ext E372).trans K382 (allS (Or.inr (Nat.le_trans (Nat.le_trans (Nat.le_trans (Nat.le_trans (Nat.le_trans (Nat.le_trans (Nat.le_trans (Nat.le_trans E118.1 E135.1) K146.1) E150.1) E151.1) K167.1) K188.1) K350.1) (Nat.le_of_eq g372.symm))) all0)).ext E386).ext E387).trans K389 (allS (Or.inr (Nat.le_trans (Nat.le_trans (Nat.le_trans (Nat.le_trans (Nat.le_trans (Nat.le_trans (Nat.le_trans (Nat.le_trans (Nat.le_trans (Nat.le_trans (Nat.le_trans E118.1 E135.1) K146.1) E150.1) E151.1) K167.1) K188.1) K350.1) E372.1) K382.1) E386.1) (Nat.le_of_eq g387.symm))) all0)).trans K399 (allS (Or.inr (Nat.le_trans (Nat.le_trans (Nat.le_trans (Nat.le_trans (Nat.le_trans (Nat.le_trans (Nat.le_trans (Nat.le_trans (Nat.le_trans (Nat.le_trans E118.1 E135.1) K146.1) E150.1) E151.1) K167.1) K188.1) K350.1) E372.1) K382.1) (Nat.le_of_eq g386.symm))) all0)).trans K446 (allS (Or.inr (Nat.le_trans (Nat.le_refl _) (Nat.le_of_eq g118.symm))) all0))⟩
          · obtain ⟨fs, hr, hrun, hended, hW, hsame⟩ := X453.leave (v := some (.int (1 : Int32))) (fun h => by rw [Bd.returns] at h; cases h)
            refine ⟨_, _, hTG _ (c462 _ ?_), hrun, hended, _, _, rfl, ?_, ⟨_, rfl⟩, hW, hsame.mono (by decide) (by decide)⟩
            · refine y_ifNo X453 hx 203 (hb hby at_200) (XT.ll_lt_f hc463) rfl ?_
              refine y_iconst X453 hx (1 : Int32) 204 (hb hby at_203) rfl rfl ?_
              refine y_goto X453 hx 208 (hb hby at_204) (by decide) (by decide) ?_
              refine XS.istore X453.here hx rfl (hb hby at_208) rfl (l' := #[xvj q0, xse, xvj q1, xse, xvj q2, xse, xvj q3, xse, xvj q4, xse, xvj q5, xse, xvi md, xvj (q1 &&& (288230376151711743 : Int64)), xse, xvj (q0 + q2), xse, xvr b118, xvr b135, xvr b150, xvr b372, xvr b372, xvi (0 : Int32), xvi (1 : Int32), xun]) rfl ?_
              show Sx p e below T453 m 210 #[xvj q0, xse, xvj q1, xse, xvj q2, xse, xvj q3, xse, xvj q4, xse, xvj q5, xse, xvi md, xvj (q1 &&& (288230376151711743 : Int64)), xse, xvj (q0 + q2), xse, xvr b118, xvr b135, xvr b150, xvr b372, xvr b372, xvi (0 : Int32), xvi (1 : Int32), xun] [] _
              refine y_iload X453 hx 212 (hb hby at_210) rfl rfl ?_
              refine y_ifYes X453 hx 224 (hb hby at_212) (XT.i0_eq_t (by decide)) (by decide) (by decide) ?_
              refine y_iconst X453 hx (0 : Int32) 225 (hb hby at_224) rfl rfl ?_
              refine XS.istore X453.here hx rfl (hb hby at_225) rfl (l' := #[xvj q0, xse, xvj q1, xse, xvj q2, xse, xvj q3, xse, xvj q4, xse, xvj q5, xse, xvi md, xvj (q1 &&& (288230376151711743 : Int64)), xse, xvj (q0 + q2), xse, xvr b118, xvr b135, xvr b150, xvr b372, xvr b372, xvi (0 : Int32), xvi (1 : Int32), xvi (0 : Int32)]) rfl ?_
              show Sx p e below T453 m 227 #[xvj q0, xse, xvj q1, xse, xvj q2, xse, xvj q3, xse, xvj q4, xse, xvj q5, xse, xvi md, xvj (q1 &&& (288230376151711743 : Int64)), xse, xvj (q0 + q2), xse, xvr b118, xvr b135, xvr b150, xvr b372, xvr b372, xvi (0 : Int32), xvi (1 : Int32), xvi (0 : Int32)] [] _
              refine y_iload X453 hx 229 (hb hby at_227) rfl rfl ?_
              refine y_ifYes X453 hx 243 (hb hby at_229) (XT.i0_eq_t (by decide)) (by decide) (by decide) ?_
              refine y_aload X453 hx 245 (hb hby at_243) rfl rfl rfl ?_
              refine y_aload X453 hx 247 (hb hby at_245) rfl rfl rfl ?_
              refine Jvm.RoadKit.acmp (g := (mkF m 247 #[xvj q0, xse, xvj q1, xse, xvj q2, xse, xvj q3, xse, xvj q4, xse, xvj q5, xse, xvi md, xvj (q1 &&& (288230376151711743 : Int64)), xse, xvj (q0 + q2), xse, xvr b118, xvr b135, xvr b150, xvr b372, xvr b372, xvi (0 : Int32), xvi (1 : Int32), xvi (0 : Int32)] [xwr b372, xwr b372])) X453 hx rfl rfl rfl (pc0 := 247) (pc' := 250) (same := true) rfl (hb hby at_247) rfl (decide_eq_true rfl) (by decide) (by decide) ?_
              show Sx p e below T453 m 250 #[xvj q0, xse, xvj q1, xse, xvj q2, xse, xvj q3, xse, xvj q4, xse, xvj q5, xse, xvi md, xvj (q1 &&& (288230376151711743 : Int64)), xse, xvj (q0 + q2), xse, xvr b118, xvr b135, xvr b150, xvr b372, xvr b372, xvi (0 : Int32), xvi (1 : Int32), xvi (0 : Int32)] [] _
              refine y_iconst X453 hx (1 : Int32) 251 (hb hby at_250) rfl rfl ?_
              refine y_goto X453 hx 255 (hb hby at_251) (by decide) (by decide) ?_
              show Sx p e below T453 m 255 #[xvj q0, xse, xvj q1, xse, xvj q2, xse, xvj q3, xse, xvj q4, xse, xvj q5, xse, xvi md, xvj (q1 &&& (288230376151711743 : Int64)), xse, xvj (q0 + q2), xse, xvr b118, xvr b135, xvr b150, xvr b372, xvr b372, xvi (0 : Int32), xvi (1 : Int32), xvi (0 : Int32)] [xwi (1 : Int32)] _
              exact retN X453 hx (t := .boolean) Bd.returns (by simp) (hb hby at_255) (hr)
            · show Qrm0 Z G q0 q1 q2 q3 q4 q5 h0 n0 _ T453.heap _
              rw [e453]
              exact ⟨rfl, N453, ((((((((((((((((Keep.refl h0 []).ext E118).ext E135).trans K146 (allS (Or.inr (Nat.le_trans E118.1 (Nat.le_of_eq g135.symm))) all0)).ext E150).ext E151).trans K167 (allS (Or.inr (Nat.le_trans (Nat.le_trans (Nat.le_trans (Nat.le_trans E118.1 E135.1) K146.1) E150.1) (Nat.le_of_eq g151.symm))) all0)).trans K188 (allS (Or.inr (Nat.le_trans (Nat.le_trans (Nat.le_trans E118.1 E135.1) K146.1) (Nat.le_of_eq g150.symm))) all0)).trans K350 (allS (Or.inr (Nat.le_trans (Nat.le_refl _) (Nat.le_of_eq g118.symm))) all0)).ext E372).trans K382 (allS (Or.inr (Nat.le_trans (Nat.le_trans (Nat.le_trans (Nat.le_trans (Nat.le_trans (Nat.le_trans (Nat.le_trans (Nat.le_trans E118.1 E135.1) K146.1) E150.1) E151.1) K167.1) K188.1) K350.1) (Nat.le_of_eq g372.symm))) all0)).ext E386).ext E387).trans K389 (allS (Or.inr (Nat.le_trans (Nat.le_trans (Nat.le_trans (Nat.le_trans (Nat.le_trans (Nat.le_trans (Nat.le_trans (Nat.le_trans (Nat.le_trans (Nat.le_trans (Nat.le_trans E118.1 E135.1) K146.1) E150.1) E151.1) K167.1) K188.1) K350.1) E372.1) K382.1) E386.1) (Nat.le_of_eq g387.symm))) all0)).trans K399 (allS (Or.inr (Nat.le_trans (Nat.le_trans (Nat.le_trans (Nat.le_trans (Nat.le_trans (Nat.le_trans (Nat.le_trans (Nat.le_trans (Nat.le_trans (Nat.le_trans E118.1 E135.1) K146.1) E150.1) E151.1) K167.1) K188.1) K350.1) E372.1) K382.1) (Nat.le_of_eq g386.symm))) all0)).trans K446 (allS (Or.inr (Nat.le_trans (Nat.le_refl _) (Nat.le_of_eq g118.symm))) all0))⟩
        · have c464 : ∀ t, Sx p e below T453 m 181 #[xvj q0, xse, xvj q1, xse, xvj q2, xse, xvj q3, xse, xvj q4, xse, xvj q5, xse, xvi md, xvj (q1 &&& (288230376151711743 : Int64)), xse, xvj (q0 + q2), xse, xvr b118, xvr b135, xvr b150, xvr b372, xvr b372, xvr b386, xun, xun] [(.int (XT.cmpL q2 (1000000000 : Int64)))] t → TG t := fun t k => c460 t (by
            refine XS.astore X453.here hx rfl (hb hby at_173) rfl rfl (l' := #[xvj q0, xse, xvj q1, xse, xvj q2, xse, xvj q3, xse, xvj q4, xse, xvj q5, xse, xvi md, xvj (q1 &&& (288230376151711743 : Int64)), xse, xvj (q0 + q2), xse, xvr b118, xvr b135, xvr b150, xvr b372, xvr b372, xvr b386, xun, xun]) rfl ?_
            show Sx p e below T453 m 175 #[xvj q0, xse, xvj q1, xse, xvj q2, xse, xvj q3, xse, xvj q4, xse, xvj q5, xse, xvi md, xvj (q1 &&& (288230376151711743 : Int64)), xse, xvj (q0 + q2), xse, xvr b118, xvr b135, xvr b150, xvr b372, xvr b372, xvr b386, xun, xun] [] _
            refine y_lload X453 hx 177 (hb hby at_175) rfl rfl ?_
            refine X453.ldc2Long hx hown (mvT hZ (w_229 hw)) (g := (mkF m 177 #[xvj q0, xse, xvj q1, xse, xvj q2, xse, xvj q3, xse, xvj q4, xse, xvj q5, xse, xvi md, xvj (q1 &&& (288230376151711743 : Int64)), xse, xvj (q0 + q2), xse, xvr b118, xvr b135, xvr b150, xvr b372, xvr b372, xvr b386, xun, xun] [xwj q2])) rfl (hb hby at_177) _ ?_
            show Sx p e below T453 m 180 #[xvj q0, xse, xvj q1, xse, xvj q2, xse, xvj q3, xse, xvj q4, xse, xvj q5, xse, xvi md, xvj (q1 &&& (288230376151711743 : Int64)), xse, xvj (q0 + q2), xse, xvr b118, xvr b135, xvr b150, xvr b372, xvr b372, xvr b386, xun, xun] [xwj (1000000000 : Int64), xwj q2] _
            refine XT.lcmp X453.here hx rfl (hb hby at_180) rfl ?_
            exact k)
          by_cases hc465 : q2 < (1000000000 : Int64)
          · obtain ⟨fs, hr, hrun, hended, hW, hsame⟩ := X453.leave (v := some (.int (1 : Int32))) (fun h => by rw [Bd.returns] at h; cases h)
            refine ⟨_, _, hTG _ (c464 _ ?_), hrun, hended, _, _, rfl, ?_, ⟨_, rfl⟩, hW, hsame.mono (by decide) (by decide)⟩
            · refine y_ifYes X453 hx 188 (hb hby at_181) (XT.ll_lt_t hc465) (by decide) (by decide) ?_
              refine y_iconst X453 hx (0 : Int32) 189 (hb hby at_188) rfl rfl ?_
              refine XS.istore X453.here hx rfl (hb hby at_189) rfl (l' := #[xvj q0, xse, xvj q1, xse, xvj q2, xse, xvj q3, xse, xvj q4, xse, xvj q5, xse, xvi md, xvj (q1 &&& (288230376151711743 : Int64)), xse, xvj (q0 + q2), xse, xvr b118, xvr b135, xvr b150, xvr b372, xvr b372, xvi (0 : Int32), xun, xun]) rfl ?_
              show Sx p e below T453 m 191 #[xvj q0, xse, xvj q1, xse, xvj q2, xse, xvj q3, xse, xvj q4, xse, xvj q5, xse, xvi md, xvj (q1 &&& (288230376151711743 : Int64)), xse, xvj (q0 + q2), xse, xvr b118, xvr b135, xvr b150, xvr b372, xvr b372, xvi (0 : Int32), xun, xun] [] _
              refine y_lload X453 hx 193 (hb hby at_191) rfl rfl ?_
              refine X453.ldc2Long hx hown (mvT hZ (w_230 hw)) (g := (mkF m 193 #[xvj q0, xse, xvj q1, xse, xvj q2, xse, xvj q3, xse, xvj q4, xse, xvj q5, xse, xvi md, xvj (q1 &&& (288230376151711743 : Int64)), xse, xvj (q0 + q2), xse, xvr b118, xvr b135, xvr b150, xvr b372, xvr b372, xvi (0 : Int32), xun, xun] [xwj q2])) rfl (hb hby at_193) _ ?_
              show Sx p e below T453 m 196 #[xvj q0, xse, xvj q1, xse, xvj q2, xse, xvj q3, xse, xvj q4, xse, xvj q5, xse, xvi md, xvj (q1 &&& (288230376151711743 : Int64)), xse, xvj (q0 + q2), xse, xvr b118, xvr b135, xvr b150, xvr b372, xvr b372, xvi (0 : Int32), xun, xun] [xwj (20 : Int64), xwj q2] _
              refine y_lload X453 hx 198 (hb hby at_196) rfl rfl ?_
              refine y_lmul X453 hx 199 (hb hby at_198) rfl ?_
              refine XT.lcmp X453.here hx rfl (hb hby at_199) rfl ?_
              show Sx p e below T453 m 200 #[xvj q0, xse, xvj q1, xse, xvj q2, xse, xvj q3, xse, xvj q4, xse, xvj q5, xse, xvi md, xvj (q1 &&& (288230376151711743 : Int64)), xse, xvj (q0 + q2), xse, xvr b118, xvr b135, xvr b150, xvr b372, xvr b372, xvi (0 : Int32), xun, xun] [(.int (XT.cmpL q2 ((20 : Int64) * (q1 &&& (288230376151711743 : Int64)))))] _
              refine y_ifYes X453 hx 207 (hb hby at_200) (XT.ll_lt_t hk461) (by decide) (by decide) ?_
              refine y_iconst X453 hx (0 : Int32) 208 (hb hby at_207) rfl rfl ?_
              refine XS.istore X453.here hx rfl (hb hby at_208) rfl (l' := #[xvj q0, xse, xvj q1, xse, xvj q2, xse, xvj q3, xse, xvj q4, xse, xvj q5, xse, xvi md, xvj (q1 &&& (288230376151711743 : Int64)), xse, xvj (q0 + q2), xse, xvr b118, xvr b135, xvr b150, xvr b372, xvr b372, xvi (0 : Int32), xvi (0 : Int32), xun]) rfl ?_
              show Sx p e below T453 m 210 #[xvj q0, xse, xvj q1, xse, xvj q2, xse, xvj q3, xse, xvj q4, xse, xvj q5, xse, xvi md, xvj (q1 &&& (288230376151711743 : Int64)), xse, xvj (q0 + q2), xse, xvr b118, xvr b135, xvr b150, xvr b372, xvr b372, xvi (0 : Int32), xvi (0 : Int32), xun] [] _
              refine y_iload X453 hx 212 (hb hby at_210) rfl rfl ?_
              refine y_ifYes X453 hx 224 (hb hby at_212) (XT.i0_eq_t (by decide)) (by decide) (by decide) ?_
              refine y_iconst X453 hx (0 : Int32) 225 (hb hby at_224) rfl rfl ?_
              refine XS.istore X453.here hx rfl (hb hby at_225) rfl (l' := #[xvj q0, xse, xvj q1, xse, xvj q2, xse, xvj q3, xse, xvj q4, xse, xvj q5, xse, xvi md, xvj (q1 &&& (288230376151711743 : Int64)), xse, xvj (q0 + q2), xse, xvr b118, xvr b135, xvr b150, xvr b372, xvr b372, xvi (0 : Int32), xvi (0 : Int32), xvi (0 : Int32)]) rfl ?_
              show Sx p e below T453 m 227 #[xvj q0, xse, xvj q1, xse, xvj q2, xse, xvj q3, xse, xvj q4, xse, xvj q5, xse, xvi md, xvj (q1 &&& (288230376151711743 : Int64)), xse, xvj (q0 + q2), xse, xvr b118, xvr b135, xvr b150, xvr b372, xvr b372, xvi (0 : Int32), xvi (0 : Int32), xvi (0 : Int32)] [] _
              refine y_iload X453 hx 229 (hb hby at_227) rfl rfl ?_
              refine y_ifYes X453 hx 243 (hb hby at_229) (XT.i0_eq_t (by decide)) (by decide) (by decide) ?_
              refine y_aload X453 hx 245 (hb hby at_243) rfl rfl rfl ?_
              refine y_aload X453 hx 247 (hb hby at_245) rfl rfl rfl ?_
              refine Jvm.RoadKit.acmp (g := (mkF m 247 #[xvj q0, xse, xvj q1, xse, xvj q2, xse, xvj q3, xse, xvj q4, xse, xvj q5, xse, xvi md, xvj (q1 &&& (288230376151711743 : Int64)), xse, xvj (q0 + q2), xse, xvr b118, xvr b135, xvr b150, xvr b372, xvr b372, xvi (0 : Int32), xvi (0 : Int32), xvi (0 : Int32)] [xwr b372, xwr b372])) X453 hx rfl rfl rfl (pc0 := 247) (pc' := 250) (same := true) rfl (hb hby at_247) rfl (decide_eq_true rfl) (by decide) (by decide) ?_
              show Sx p e below T453 m 250 #[xvj q0, xse, xvj q1, xse, xvj q2, xse, xvj q3, xse, xvj q4, xse, xvj q5, xse, xvi md, xvj (q1 &&& (288230376151711743 : Int64)), xse, xvj (q0 + q2), xse, xvr b118, xvr b135, xvr b150, xvr b372, xvr b372, xvi (0 : Int32), xvi (0 : Int32), xvi (0 : Int32)] [] _
              refine y_iconst X453 hx (1 : Int32) 251 (hb hby at_250) rfl rfl ?_
              refine y_goto X453 hx 255 (hb hby at_251) (by decide) (by decide) ?_
              show Sx p e below T453 m 255 #[xvj q0, xse, xvj q1, xse, xvj q2, xse, xvj q3, xse, xvj q4, xse, xvj q5, xse, xvi md, xvj (q1 &&& (288230376151711743 : Int64)), xse, xvj (q0 + q2), xse, xvr b118, xvr b135, xvr b150, xvr b372, xvr b372, xvi (0 : Int32), xvi (0 : Int32), xvi (0 : Int32)] [xwi (1 : Int32)] _
              exact retN X453 hx (t := .boolean) Bd.returns (by simp) (hb hby at_255) (hr)
            · show Qrm0 Z G q0 q1 q2 q3 q4 q5 h0 n0 _ T453.heap _
              rw [e453]
              exact ⟨rfl, N453, ((((((((((((((((Keep.refl h0 []).ext E118).ext E135).trans K146 (allS (Or.inr (Nat.le_trans E118.1 (Nat.le_of_eq g135.symm))) all0)).ext E150).ext E151).trans K167 (allS (Or.inr (Nat.le_trans (Nat.le_trans (Nat.le_trans (Nat.le_trans E118.1 E135.1) K146.1) E150.1) (Nat.le_of_eq g151.symm))) all0)).trans K188 (allS (Or.inr (Nat.le_trans (Nat.le_trans (Nat.le_trans E118.1 E135.1) K146.1) (Nat.le_of_eq g150.symm))) all0)).trans K350 (allS (Or.inr (Nat.le_trans (Nat.le_refl _) (Nat.le_of_eq g118.symm))) all0)).ext E372).trans K382 (allS (Or.inr (Nat.le_trans (Nat.le_trans (Nat.le_trans (Nat.le_trans (Nat.le_trans (Nat.le_trans (Nat.le_trans (Nat.le_trans E118.1 E135.1) K146.1) E150.1) E151.1) K167.1) K188.1) K350.1) (Nat.le_of_eq g372.symm))) all0)).ext E386).ext E387).trans K389 (allS (Or.inr (Nat.le_trans (Nat.le_trans (Nat.le_trans (Nat.le_trans (Nat.le_trans (Nat.le_trans (Nat.le_trans (Nat.le_trans (Nat.le_trans (Nat.le_trans (Nat.le_trans E118.1 E135.1) K146.1) E150.1) E151.1) K167.1) K188.1) K350.1) E372.1) K382.1) E386.1) (Nat.le_of_eq g387.symm))) all0)).trans K399 (allS (Or.inr (Nat.le_trans (Nat.le_trans (Nat.le_trans (Nat.le_trans (Nat.le_trans (Nat.le_trans (Nat.le_trans (Nat.le_trans (Nat.le_trans (Nat.le_trans E118.1 E135.1) K146.1) E150.1) E151.1) K167.1) K188.1) K350.1) E372.1) K382.1) (Nat.le_of_eq g386.symm))) all0)).trans K446 (allS (Or.inr (Nat.le_trans (Nat.le_refl _) (Nat.le_of_eq g118.symm))) all0))⟩
          · obtain ⟨fs, hr, hrun, hended, hW, hsame⟩ := X453.leave (v := some (.int (1 : Int32))) (fun h => by rw [Bd.returns] at h; cases h)
            refine ⟨_, _, hTG _ (c464 _ ?_), hrun, hended, _, _, rfl, ?_, ⟨_, rfl⟩, hW, hsame.mono (by decide) (by decide)⟩
            · refine y_ifNo X453 hx 184 (hb hby at_181) (XT.ll_lt_f hc465) rfl ?_
              refine y_iconst X453 hx (1 : Int32) 185 (hb hby at_184) rfl rfl ?_
              refine y_goto X453 hx 189 (hb hby at_185) (by decide) (by decide) ?_
              refine XS.istore X453.here hx rfl (hb hby at_189) rfl (l' := #[xvj q0, xse, xvj q1, xse, xvj q2, xse, xvj q3, xse, xvj q4, xse, xvj q5, xse, xvi md, xvj (q1 &&& (288230376151711743 : Int64)), xse, xvj (q0 + q2), xse, xvr b118, xvr b135, xvr b150, xvr b372, xvr b372, xvi (1 : Int32), xun, xun]) rfl ?_
              show Sx p e below T453 m 191 #[xvj q0, xse, xvj q1, xse, xvj q2, xse, xvj q3, xse, xvj q4, xse, xvj q5, xse, xvi md, xvj (q1 &&& (288230376151711743 : Int64)), xse, xvj (q0 + q2), xse, xvr b118, xvr b135, xvr b150, xvr b372, xvr b372, xvi (1 : Int32), xun, xun] [] _
              refine y_lload X453 hx 193 (hb hby at_191) rfl rfl ?_
              refine X453.ldc2Long hx hown (mvT hZ (w_230 hw)) (g := (mkF m 193 #[xvj q0, xse, xvj q1, xse, xvj q2, xse, xvj q3, xse, xvj q4, xse, xvj q5, xse, xvi md, xvj (q1 &&& (288230376151711743 : Int64)), xse, xvj (q0 + q2), xse, xvr b118, xvr b135, xvr b150, xvr b372, xvr b372, xvi (1 : Int32), xun, xun] [xwj q2])) rfl (hb hby at_193) _ ?_
              show Sx p e below T453 m 196 #[xvj q0, xse, xvj q1, xse, xvj q2, xse, xvj q3, xse, xvj q4, xse, xvj q5, xse, xvi md, xvj (q1 &&& (288230376151711743 : Int64)), xse, xvj (q0 + q2), xse, xvr b118, xvr b135, xvr b150, xvr b372, xvr b372, xvi (1 : Int32), xun, xun] [xwj (20 : Int64), xwj q2] _
              refine y_lload X453 hx 198 (hb hby at_196) rfl rfl ?_
              refine y_lmul X453 hx 199 (hb hby at_198) rfl ?_
              refine XT.lcmp X453.here hx rfl (hb hby at_199) rfl ?_
              show Sx p e below T453 m 200 #[xvj q0, xse, xvj q1, xse, xvj q2, xse, xvj q3, xse, xvj q4, xse, xvj q5, xse, xvi md, xvj (q1 &&& (288230376151711743 : Int64)), xse, xvj (q0 + q2), xse, xvr b118, xvr b135, xvr b150, xvr b372, xvr b372, xvi (1 : Int32), xun, xun] [(.int (XT.cmpL q2 ((20 : Int64) * (q1 &&& (288230376151711743 : Int64)))))] _
              refine y_ifYes X453 hx 207 (hb hby at_200) (XT.ll_lt_t hk461) (by decide) (by decide) ?_
              refine y_iconst X453 hx (0 : Int32) 208 (hb hby at_207) rfl rfl ?_
              refine XS.istore X453.here hx rfl (hb hby at_208) rfl (l' := #[xvj q0, xse, xvj q1, xse, xvj q2, xse, xvj q3, xse, xvj q4, xse, xvj q5, xse, xvi md, xvj (q1 &&& (288230376151711743 : Int64)), xse, xvj (q0 + q2), xse, xvr b118, xvr b135, xvr b150, xvr b372, xvr b372, xvi (1 : Int32), xvi (0 : Int32), xun]) rfl ?_
              show Sx p e below T453 m 210 #[xvj q0, xse, xvj q1, xse, xvj q2, xse, xvj q3, xse, xvj q4, xse, xvj q5, xse, xvi md, xvj (q1 &&& (288230376151711743 : Int64)), xse, xvj (q0 + q2), xse, xvr b118, xvr b135, xvr b150, xvr b372, xvr b372, xvi (1 : Int32), xvi (0 : Int32), xun] [] _
              refine y_iload X453 hx 212 (hb hby at_210) rfl rfl ?_
              refine y_ifNo X453 hx 215 (hb hby at_212) (XT.i0_eq_f (by decide)) rfl ?_
              refine y_iload X453 hx 217 (hb hby at_215) rfl rfl ?_
              refine y_ifYes X453 hx 224 (hb hby at_217) (XT.i0_eq_t (by decide)) (by decide) (by decide) ?_
              refine y_iconst X453 hx (0 : Int32) 225 (hb hby at_224) rfl rfl ?_
              refine XS.istore X453.here hx rfl (hb hby at_225) rfl (l' := #[xvj q0, xse, xvj q1, xse, xvj q2, xse, xvj q3, xse, xvj q4, xse, xvj q5, xse, xvi md, xvj (q1 &&& (288230376151711743 : Int64)), xse, xvj (q0 + q2), xse, xvr b118, xvr b135, xvr b150, xvr b372, xvr b372, xvi (1 : Int32), xvi (0 : Int32), xvi (0 : Int32)]) rfl ?_
              show Sx p e below T453 m 227 #[xvj q0, xse, xvj q1, xse, xvj q2, xse, xvj q3, xse, xvj q4, xse, xvj q5, xse, xvi md, xvj (q1 &&& (288230376151711743 : Int64)), xse, xvj (q0 + q2), xse, xvr b118, xvr b135, xvr b150, xvr b372, xvr b372, xvi (1 : Int32), xvi (0 : Int32), xvi (0 : Int32)] [] _
              refine y_iload X453 hx 229 (hb hby at_227) rfl rfl ?_
              refine y_ifYes X453 hx 243 (hb hby at_229) (XT.i0_eq_t (by decide)) (by decide) (by decide) ?_
              refine y_aload X453 hx 245 (hb hby at_243) rfl rfl rfl ?_
              refine y_aload X453 hx 247 (hb hby at_245) rfl rfl rfl ?_
              refine Jvm.RoadKit.acmp (g := (mkF m 247 #[xvj q0, xse, xvj q1, xse, xvj q2, xse, xvj q3, xse, xvj q4, xse, xvj q5, xse, xvi md, xvj (q1 &&& (288230376151711743 : Int64)), xse, xvj (q0 + q2), xse, xvr b118, xvr b135, xvr b150, xvr b372, xvr b372, xvi (1 : Int32), xvi (0 : Int32), xvi (0 : Int32)] [xwr b372, xwr b372])) X453 hx rfl rfl rfl (pc0 := 247) (pc' := 250) (same := true) rfl (hb hby at_247) rfl (decide_eq_true rfl) (by decide) (by decide) ?_
              show Sx p e below T453 m 250 #[xvj q0, xse, xvj q1, xse, xvj q2, xse, xvj q3, xse, xvj q4, xse, xvj q5, xse, xvi md, xvj (q1 &&& (288230376151711743 : Int64)), xse, xvj (q0 + q2), xse, xvr b118, xvr b135, xvr b150, xvr b372, xvr b372, xvi (1 : Int32), xvi (0 : Int32), xvi (0 : Int32)] [] _
              refine y_iconst X453 hx (1 : Int32) 251 (hb hby at_250) rfl rfl ?_
              refine y_goto X453 hx 255 (hb hby at_251) (by decide) (by decide) ?_
              show Sx p e below T453 m 255 #[xvj q0, xse, xvj q1, xse, xvj q2, xse, xvj q3, xse, xvj q4, xse, xvj q5, xse, xvi md, xvj (q1 &&& (288230376151711743 : Int64)), xse, xvj (q0 + q2), xse, xvr b118, xvr b135, xvr b150, xvr b372, xvr b372, xvi (1 : Int32), xvi (0 : Int32), xvi (0 : Int32)] [xwi (1 : Int32)] _
              exact retN X453 hx (t := .boolean) Bd.returns (by simp) (hb hby at_255) (hr)
            · show Qrm0 Z G q0 q1 q2 q3 q4 q5 h0 n0 _ T453.heap _
              rw [e453]
              exact ⟨rfl, N453, ((((((((((((((((Keep.refl h0 []).ext E118).ext E135).trans K146 (allS (Or.inr (Nat.le_trans E118.1 (Nat.le_of_eq g135.symm))) all0)).ext E150).ext E151).trans K167 (allS (Or.inr (Nat.le_trans (Nat.le_trans (Nat.le_trans (Nat.le_trans E118.1 E135.1) K146.1) E150.1) (Nat.le_of_eq g151.symm))) all0)).trans K188 (allS (Or.inr (Nat.le_trans (Nat.le_trans (Nat.le_trans E118.1 E135.1) K146.1) (Nat.le_of_eq g150.symm))) all0)).trans K350 (allS (Or.inr (Nat.le_trans (Nat.le_refl _) (Nat.le_of_eq g118.symm))) all0)).ext E372).trans K382 (allS (Or.inr (Nat.le_trans (Nat.le_trans (Nat.le_trans (Nat.le_trans (Nat.le_trans (Nat.le_trans (Nat.le_trans (Nat.le_trans E118.1 E135.1) K146.1) E150.1) E151.1) K167.1) K188.1) K350.1) (Nat.le_of_eq g372.symm))) all0)).ext E386).ext E387).trans K389 (allS (Or.inr (Nat.le_trans (Nat.le_trans (Nat.le_trans (Nat.le_trans (Nat.le_trans (Nat.le_trans (Nat.le_trans (Nat.le_trans (Nat.le_trans (Nat.le_trans (Nat.le_trans E118.1 E135.1) K146.1) E150.1) E151.1) K167.1) K188.1) K350.1) E372.1) K382.1) E386.1) (Nat.le_of_eq g387.symm))) all0)).trans K399 (allS (Or.inr (Nat.le_trans (Nat.le_trans (Nat.le_trans (Nat.le_trans (Nat.le_trans (Nat.le_trans (Nat.le_trans (Nat.le_trans (Nat.le_trans (Nat.le_trans E118.1 E135.1) K146.1) E150.1) E151.1) K167.1) K188.1) K350.1) E372.1) K382.1) (Nat.le_of_eq g386.symm))) all0)).trans K446 (allS (Or.inr (Nat.le_trans (Nat.le_refl _) (Nat.le_of_eq g118.symm))) all0))⟩
set_option maxRecDepth 65536 in
set_option maxHeartbeats 40000000 in
theorem comes_1 {Post : Tables → Env → Array Value → State → Outcome → State → Prop} (hpost : ∀ tb e args s v u, (limb_1_1.after args s (.returned v) u = true ∧ limb_1_2.after args s (.returned v) u = true ∧ True) → FrameEnd s (.returned v) u (Jvm.fieldLocs frame_1_writes args s ++ Jvm.arrayLocs frame_1_arrays args s ++ Jvm.staticLocs frame_1_statics s) 32 128 → Post tb e args s (.returned v) u) :
    ArmFor flags0 classFile x code maxLocals ret World_1 tables_1 room_1 Calls_1 rest_1 Pre_1 Post := by
  intro l hfl _ _ p e ha hc hk s m args below hf hA hF happ hP
  obtain ⟨hcalls, hrest, hpre⟩ := hP
  obtain ⟨-, -, -, hnamed, -, -, -, hat⟩ := (Spec.applies_iff hf).mp happ
  obtain ⟨hg, hn⟩ := and_e (Cond.before_iff.mp (show (Jvm.Cond.and given_1 narrow_1).before args s = true from hpre))
  obtain ⟨hcnt, hg⟩ := and_e hg
  obtain ⟨w0, w1, w2, w3, w4, w5, rfl⟩ : ∃ w0 w1 w2 w3 w4 w5 : Value, args = #[w0, w1, w2, w3, w4, w5] := by
    have hs : args.size = 6 := by simpa [Cond.value, given_1] using hcnt
    obtain ⟨L⟩ := args
    match L, hs with
    | [w0, w1, w2, w3, w4, w5], _ => exact ⟨w0, w1, w2, w3, w4, w5, rfl⟩
  have hw := fun d (hd : d ∈ tables_1) => atoms_spec (ws := Jvm.Cond.code x code maxLocals ret :: tables_1) hat d (List.mem_cons_of_mem _ hd)
  have hfit : Fit s := fun {y c} hc i hi => by
    obtain ⟨ha, rfl⟩ := Array.getElem?_eq_some_iff.mp hc
    have q := List.all_eq_true.mp ((Array.all_eq_true_iff_forall_mem.mp hF) _ (Array.getElem_mem ha)) i (List.mem_range.mpr hi)
    simpa [Array.getElem?_eq_getElem hi] using q
  obtain ⟨hsets, hown0⟩ := atoms_of _ (rest_1_c_eq ▸ (show rest_1_c.before _ s = true from hrest))
  obtain ⟨ga0, gb0⟩ := and_e hg
  obtain ⟨i0, ei0⟩ := isL_v ga0
  obtain rfl : w0 = (.long i0) := Option.some.inj ei0
  obtain ⟨ga1, gb1⟩ := and_e gb0
  obtain ⟨i1, ei1⟩ := isL_v ga1
  obtain rfl : w1 = (.long i1) := Option.some.inj ei1
  obtain ⟨ga2, gb2⟩ := and_e gb1
  obtain ⟨i2, ei2⟩ := isL_v ga2
  obtain rfl : w2 = (.long i2) := Option.some.inj ei2
  obtain ⟨ga3, gb3⟩ := and_e gb2
  obtain ⟨i3, ei3⟩ := isL_v ga3
  obtain rfl : w3 = (.long i3) := Option.some.inj ei3
  obtain ⟨ga4, gb4⟩ := and_e gb3
  obtain ⟨i4, ei4⟩ := isL_v ga4
  obtain rfl : w4 = (.long i4) := Option.some.inj ei4
  obtain ⟨i5, ei5⟩ := isL_v gb4
  obtain rfl : w5 = (.long i5) := Option.some.inj ei5
  obtain ⟨nr0, nq0⟩ := and_e hn
  obtain ⟨nr1, nq1⟩ := and_e nq0
  obtain ⟨nr2, nq2⟩ := and_e nq1
  obtain ⟨nr3, nq3⟩ := and_e nq2
  obtain ⟨nr4, nq4⟩ := and_e nq3
  obtain ⟨a0, ea0⟩ := exa_v (Cond.before_iff.mp (hsets _ (List.mem_of_getElem? (i := 2) rfl)))
  have O0 : Sta s s.heap "java/time/Instant" "EPOCH" "Ljava/time/Instant;" (.ref a0) := Sta.start ea0 (Or.inl (hsets _ (List.mem_of_getElem? (i := 1) rfl)))
  have E0 := Exa.start ea0 (Cond.before_iff.mp (hsets _ (List.mem_of_getElem? (i := 2) rfl)))
  have F0_0 : Fld s s.heap a0 "java/time/Instant" "seconds" "J" (.long (0 : Int64)) := Fld.start ((fld_at ea0).symm.trans (Cond.eq_long (hsets _ (List.mem_of_getElem? (i := 3) rfl)) rfl))
  have F0_1 : Fld s s.heap a0 "java/time/Instant" "nanos" "I" (.int (0 : Int32)) := Fld.start ((fld_at ea0).symm.trans (Cond.eq_int (hsets _ (List.mem_of_getElem? (i := 4) rfl)) rfl))
  obtain ⟨a1, ea1⟩ := exa_v (Cond.before_iff.mp (hsets _ (List.mem_of_getElem? (i := 16) rfl)))
  have O1 : Sta s s.heap "java/time/Instant" "MAX" "Ljava/time/Instant;" (.ref a1) := Sta.start ea1 (Or.inl (hsets _ (List.mem_of_getElem? (i := 15) rfl)))
  have E1 := Exa.start ea1 (Cond.before_iff.mp (hsets _ (List.mem_of_getElem? (i := 16) rfl)))
  have F1_0 : Fld s s.heap a1 "java/time/Instant" "seconds" "J" (.long (31556889864403199 : Int64)) := Fld.start ((fld_at ea1).symm.trans (Cond.eq_long (hsets _ (List.mem_of_getElem? (i := 17) rfl)) rfl))
  have F1_1 : Fld s s.heap a1 "java/time/Instant" "nanos" "I" (.int (999999999 : Int32)) := Fld.start ((fld_at ea1).symm.trans (Cond.eq_int (hsets _ (List.mem_of_getElem? (i := 18) rfl)) rfl))
  obtain ⟨a2, ea2⟩ := arr_v (Cond.before_iff.mp (hsets _ (List.mem_of_getElem? (i := 11) rfl)))
  have O2 : Sta s s.heap "java/util/ArrayList" "DEFAULTCAPACITY_EMPTY_ELEMENTDATA" "[Ljava/lang/Object;" (.ref a2) := Sta.start ea2 (Or.inr ⟨(w_34 hw), (hsets _ (List.mem_of_getElem? (i := 7) rfl))⟩)
  obtain ⟨cl2, Ar2⟩ := Arr.start ea2 (Cond.before_iff.mp (hsets _ (List.mem_of_getElem? (i := 11) rfl)))
  have ln2 := Cond.eq_int (hsets _ (List.mem_of_getElem? (i := 13) rfl)) rfl
  have sz2 := own_alen ea2 Ar2 ln2
  have V2 : Arv s s.heap a2 cl2.cls (.object "java/lang/Object") (0 : Int32) [] .null := Arv.start hfit Ar2 sz2.1 sz2.2 (by decide) (by decide) trivial
  obtain ⟨a3, ea3⟩ := exa_v (Cond.before_iff.mp (hsets _ (List.mem_of_getElem? (i := 21) rfl)))
  have O3 : Sta s s.heap "java/time/temporal/ChronoUnit" "NANOS" "Ljava/time/temporal/ChronoUnit;" (.ref a3) := Sta.start ea3 (Or.inl (hsets _ (List.mem_of_getElem? (i := 20) rfl)))
  have E3 := Exa.start ea3 (Cond.before_iff.mp (hsets _ (List.mem_of_getElem? (i := 21) rfl)))
  have F3_0 : Fld s s.heap a3 "java/lang/Enum" "ordinal" "I" (.int (0 : Int32)) := Fld.start ((fld_at ea3).symm.trans (Cond.eq_int (hsets _ (List.mem_of_getElem? (i := 23) rfl)) rfl))
  obtain ⟨a4, ea4⟩ := arr_v (Cond.before_iff.mp (hsets _ (List.mem_of_getElem? (i := 30) rfl)))
  have O4 : Sta s s.heap "java/time/Instant$1" "$SwitchMap$java$time$temporal$ChronoUnit" "[I" (.ref a4) := Sta.start ea4 (Or.inl (hsets _ (List.mem_of_getElem? (i := 29) rfl)))
  obtain ⟨cl4, Ar4⟩ := Arr.start ea4 (Cond.before_iff.mp (hsets _ (List.mem_of_getElem? (i := 30) rfl)))
  have ln4 := Cond.eq_int (hsets _ (List.mem_of_getElem? (i := 32) rfl)) rfl
  have sz4 := own_alen ea4 Ar4 ln4
  have V4 : Arv s s.heap a4 cl4.cls .int (16 : Int32) [(.int (1 : Int32)), (.int (2 : Int32)), (.int (3 : Int32)), (.int (4 : Int32)), (.int (5 : Int32)), (.int (6 : Int32)), (.int (7 : Int32)), (.int (8 : Int32)), (.int (0 : Int32)), (.int (0 : Int32)), (.int (0 : Int32)), (.int (0 : Int32)), (.int (0 : Int32)), (.int (0 : Int32)), (.int (0 : Int32)), (.int (0 : Int32))] (.int (0 : Int32)) := Arv.start hfit Ar4 sz4.1 sz4.2 (by decide) (by decide) ⟨(elem_in (Cond.eq_int (hsets _ (List.mem_of_getElem? (i := 33) rfl)) rfl) ea4 (j := (0 : Int32)) rfl Ar4.1).2, ⟨(elem_in (Cond.eq_int (hsets _ (List.mem_of_getElem? (i := 34) rfl)) rfl) ea4 (j := (1 : Int32)) rfl Ar4.1).2, ⟨(elem_in (Cond.eq_int (hsets _ (List.mem_of_getElem? (i := 35) rfl)) rfl) ea4 (j := (2 : Int32)) rfl Ar4.1).2, ⟨(elem_in (Cond.eq_int (hsets _ (List.mem_of_getElem? (i := 36) rfl)) rfl) ea4 (j := (3 : Int32)) rfl Ar4.1).2, ⟨(elem_in (Cond.eq_int (hsets _ (List.mem_of_getElem? (i := 37) rfl)) rfl) ea4 (j := (4 : Int32)) rfl Ar4.1).2, ⟨(elem_in (Cond.eq_int (hsets _ (List.mem_of_getElem? (i := 38) rfl)) rfl) ea4 (j := (5 : Int32)) rfl Ar4.1).2, ⟨(elem_in (Cond.eq_int (hsets _ (List.mem_of_getElem? (i := 39) rfl)) rfl) ea4 (j := (6 : Int32)) rfl Ar4.1).2, ⟨(elem_in (Cond.eq_int (hsets _ (List.mem_of_getElem? (i := 40) rfl)) rfl) ea4 (j := (7 : Int32)) rfl Ar4.1).2, ⟨(elem_in (Cond.eq_int (hsets _ (List.mem_of_getElem? (i := 41) rfl)) rfl) ea4 (j := (8 : Int32)) rfl Ar4.1).2, ⟨(elem_in (Cond.eq_int (hsets _ (List.mem_of_getElem? (i := 42) rfl)) rfl) ea4 (j := (9 : Int32)) rfl Ar4.1).2, ⟨(elem_in (Cond.eq_int (hsets _ (List.mem_of_getElem? (i := 43) rfl)) rfl) ea4 (j := (10 : Int32)) rfl Ar4.1).2, ⟨(elem_in (Cond.eq_int (hsets _ (List.mem_of_getElem? (i := 44) rfl)) rfl) ea4 (j := (11 : Int32)) rfl Ar4.1).2, ⟨(elem_in (Cond.eq_int (hsets _ (List.mem_of_getElem? (i := 45) rfl)) rfl) ea4 (j := (12 : Int32)) rfl Ar4.1).2, ⟨(elem_in (Cond.eq_int (hsets _ (List.mem_of_getElem? (i := 46) rfl)) rfl) ea4 (j := (13 : Int32)) rfl Ar4.1).2, ⟨(elem_in (Cond.eq_int (hsets _ (List.mem_of_getElem? (i := 47) rfl)) rfl) ea4 (j := (14 : Int32)) rfl Ar4.1).2, ⟨(elem_in (Cond.eq_int (hsets _ (List.mem_of_getElem? (i := 48) rfl)) rfl) ea4 (j := (15 : Int32)) rfl Ar4.1).2, trivial⟩⟩⟩⟩⟩⟩⟩⟩⟩⟩⟩⟩⟩⟩⟩⟩
  obtain ⟨a5, ea5⟩ := exa_v nr0
  have O5 : Sta s s.heap "com/example/arbiter/arbiter/service/ClaimCursor" "LATE_COMMIT" "Ljava/time/Duration;" (.ref a5) := Sta.start ea5 (Or.inr ⟨(w_4 hw), (w_82 hw)⟩)
  have E5 := Exa.start ea5 nr0
  have F5_0 : Fld s s.heap a5 "java/time/Duration" "seconds" "J" (.long (0 : Int64)) := Fld.start ((fld_at ea5).symm.trans (Cond.eq_long (Cond.before_iff.mpr nr1) rfl))
  have F5_1 : Fld s s.heap a5 "java/time/Duration" "nanos" "I" (.int (100000000 : Int32)) := Fld.start ((fld_at ea5).symm.trans (Cond.eq_int (Cond.before_iff.mpr nr2) rfl))
  obtain ⟨a6, ea6⟩ := exa_v nr3
  have O6 : Sta s s.heap "com/example/arbiter/arbiter/service/ClaimCursor" "OLDEST_READ_PERIOD" "Ljava/time/Duration;" (.ref a6) := Sta.start ea6 (Or.inr ⟨(w_4 hw), (w_211 hw)⟩)
  have E6 := Exa.start ea6 nr3
  have F6_0 : Fld s s.heap a6 "java/time/Duration" "seconds" "J" (.long (1 : Int64)) := Fld.start ((fld_at ea6).symm.trans (Cond.eq_long (Cond.before_iff.mpr nr4) rfl))
  have F6_1 : Fld s s.heap a6 "java/time/Duration" "nanos" "I" (.int (0 : Int32)) := Fld.start ((fld_at ea6).symm.trans (Cond.eq_int (Cond.before_iff.mpr nq4) rfl))
  obtain ⟨G0, eG⟩ : ∃ g : Gs, g = (a0, a1, a2, cl2.cls, a3, a4, cl4.cls, a5, a6) := ⟨_, rfl⟩
  have ST0 : StartF s G0 := by rw [eG]; exact ⟨O0, E0, F0_0, F0_1, O1, E1, F1_0, F1_1, O2, V2, O3, E3, F3_0, O4, V4, O5, E5, F5_0, F5_1, O6, E6, F6_0, F6_1⟩
  obtain ⟨n, o, h1, h2, h3, _, L, rfl, ⟨rfl, N, -⟩, hq⟩ := rm0 l s _ hw G0 ST0 tables_1 i0 i1 i2 i3 i4 i5 s.heap s.heap.size (Old.start s) p e ha hc hk s m _ below hf ((Spec.applies_iff_loose hf).mp happ).1 ⟨rfl, State.Warmed39.refl s, rfl⟩ trivial
  refine ⟨n, _, h1, h2, h3, hpost _ _ _ _ _ _ ⟨Cond.after_iff.mpr rfl, Cond.after_iff.mpr (eq_i res_at (Term.int_eval (1)) rfl), trivial⟩ ⟨hq.1, hq.2.1, (hq.2.2.sift fun y hy => Or.inr (N y hy)).mono (by decide) (by decide)⟩⟩
theorem main_1_1 : Claimed_1_1 := comes_1 fun _ _ _ _ _ _ h hF => ⟨h.1, hF⟩
theorem main_1_2 : Claimed_1_2 := comes_1 fun _ _ _ _ _ _ h hF => ⟨h.2.1, hF⟩
end Jvm.Pilot.@@N@@
namespace Jvm.Pilot.@@N@@
open Jvm Jvm.ClassFile Sem Op Lib Jvm.Free Jvm.Stand Jvm.Pilot.@@N@@.Jvm.D
/-! MADE BY PROGRAM (witnessworld.py) out of the Statement's table words and the real class files: 39 classes; the members and pool entries that the words name. The judged class is class 1, her method 1. -/
namespace start1
open Jvm.ClassFile
def u (s : String) : CpInfo := .utf8 (stringToUtf16 s)
/-- a pool by its gaps: so many unusable entries, then the entry; so many at the end -/
def gap : Nat → List CpInfo → List CpInfo
  | 0, r => r
  | n + 1, r => .unusable :: gap n r
def poolList (es : List (Nat × CpInfo)) (last : Nat) : List CpInfo := es.foldr (fun e r => gap e.1 (e.2 :: r)) (gap last [])
def pool (es : List (Nat × CpInfo)) (last : Nat) : Array CpInfo := ⟨poolList es last⟩
def fileOf (pool : Array CpInfo) (this : Nat) (attrs : Array Attribute := #[]) (ms : Array MethodInfo := #[]) (fl : Nat := 33) (sup : Nat := 0) (ifs : Array Nat := #[]) (fds : Array FieldInfo := #[]) : ClassFile where
  minorVersion := 0
  majorVersion := 65
  constantPool := pool
  accessFlags := fl
  thisClass := this
  superClass := sup
  interfaces := ifs
  fields := fds
  methods := ms
  attributes := attrs
def plain (name : String) (sup : Option ClassId) : Class where
  name := name
  kind := .ordinary
  loader := none
  accessFlags := 33
  super := sup
  interfaces := #[]
  cf := none
  fields := #[]
  methods := #[]
  instanceTypes := #[]
  staticTypes := #[]
  resolved := #[]
  callSites := []
  init := .initialized
  statics := none
  mirror := none

def pool0 : Array CpInfo := pool [(5, u "<init>"), (0, u "()V"), (1, .class_ 10), (1, u "java/lang/Object")] 113

def k0c0 : Code := { maxStack := 0, maxLocals := 1, code := object_method_1_code, exceptionTable := #[], attributes := #[] }
def k0m0 : Method := { name := "<init>", desc := "()V", sig := { parameters := [], returnType := none }, accessFlags := 1, code := some k0c0 }
/-- java/lang/Object -/
def k0 : Class := { plain "java/lang/Object" none with
  accessFlags := 33
  interfaces := #[]
  cf := some (fileOf pool0 8 #[] #[{ accessFlags := 1, nameIndex := 5, descriptorIndex := 6, attributes := #[] }] 33 0 #[] #[])
  fields := #[]
  methods := #[k0m0]
  instanceTypes := #[]
  staticTypes := #[]
  resolved := Array.replicate 124 none
  statics := none }

def pool1 : Array CpInfo := pool [(2, .class_ 4), (0, .nameAndType 5 6), (0, u "java/lang/Object"), (0, u "<init>"), (0, u "()V"), (0, .long 3), (1, .long 288230376151711743), (1, .class_ 12), (0, u "com/example/arbiter/arbiter/service/ClaimCursor"), (0, .methodref 11 3), (0, .methodref 11 15), (0, .nameAndType 16 17), (0, u "from"), (0, u "(J)Lcom/example/arbiter/arbiter/store/JobStore$Position;"), (0, .class_ 19), (0, u "com/example/arbiter/arbiter/store/JobStore$Position"), (0, .fieldref 21 22), (0, .class_ 23), (0, .nameAndType 24 25), (0, u "java/time/Instant"), (0, u "EPOCH"), (0, u "Ljava/time/Instant;"), (0, .methodref 18 27), (0, .nameAndType 5 28), (0, u "(Ljava/time/Instant;J)V"), (0, .class_ 30), (0, u "com/example/arbiter/arbiter/store/JobStore$Claim"), (0, .class_ 32), (0, u "java/util/ArrayList"), (0, .methodref 31 3), (0, .fieldref 21 35), (0, .nameAndType 36 25), (0, u "MAX"), (0, .methodref 29 38), (0, .nameAndType 5 39), (0, u "(Ljava/util/List;Lcom/example/arbiter/arbiter/store/JobStore$Position;Ljava/time/Instant;)V"), (0, .methodref 11 41), (0, .nameAndType 42 43), (0, u "moved"), (0, u "(Lcom/example/arbiter/arbiter/store/JobStore$Position;Lcom/example/arbiter/arbiter/store/JobStore$Claim;JJ)V"), (0, .long 2), (1, .long 1000000000), (1, .long 20), (1, .class_ 51), (0, u "com/example/arbiter/arbiter/service/ClaimCursorFromPinLaw"), (2, u "law"), (0, u "(JJJJJJ)Z")] 8

def k1m0 : Method := { name := "<init>", desc := "()V", sig := { parameters := [], returnType := none }, accessFlags := 2, code := none }
def k1c1 : Code := { maxStack := 9, maxLocals := 25, code := code, exceptionTable := #[], attributes := #[] }
def k1m1 : Method := { name := "law", desc := "(JJJJJJ)Z", sig := { parameters := [.long, .long, .long, .long, .long, .long], returnType := some .boolean }, accessFlags := 9, code := some k1c1 }
/-- com/example/arbiter/arbiter/service/ClaimCursorFromPinLaw -/
def k1 : Class := { plain "com/example/arbiter/arbiter/service/ClaimCursorFromPinLaw" (some 0) with
  accessFlags := 49
  interfaces := #[]
  cf := some (fileOf pool1 50 #[] #[{ accessFlags := 2, nameIndex := 5, descriptorIndex := 6, attributes := #[] }, { accessFlags := 9, nameIndex := 54, descriptorIndex := 55, attributes := #[] }] 49 2 #[] #[])
  fields := #[]
  methods := #[k1m0, k1m1]
  instanceTypes := #[]
  staticTypes := #[]
  resolved := Array.replicate 64 none
  statics := none }

def pool2 : Array CpInfo := pool [(1, .methodref 2 3), (0, .class_ 4), (0, .nameAndType 5 6), (0, u "java/lang/Object"), (0, u "<init>"), (0, u "()V"), (0, .fieldref 8 9), (0, .class_ 10), (0, .nameAndType 11 12), (0, u "com/example/arbiter/arbiter/service/ClaimCursor"), (0, u "OLDEST_READ_PERIOD"), (0, u "Ljava/time/Duration;"), (0, .methodref 14 15), (0, .class_ 16), (0, .nameAndType 17 18), (0, u "java/time/Duration"), (0, u "toNanos"), (0, u "()J"), (0, .long 20), (1, .fieldref 8 22), (0, .nameAndType 23 24), (0, u "oldestReadNanos"), (0, u "J"), (0, .methodref 26 27), (0, .class_ 28), (0, .nameAndType 29 30), (0, u "java/lang/Math"), (0, u "max"), (0, u "(JJ)J"), (0, .fieldref 8 32), (0, .nameAndType 33 24), (0, u "oldestReadAt"), (0, .fieldref 8 35), (0, .nameAndType 36 37), (0, u "next"), (0, u "Lcom/example/arbiter/arbiter/store/JobStore$Position;"), (0, .methodref 39 40), (0, .class_ 41), (0, .nameAndType 42 43), (0, u "com/example/arbiter/arbiter/store/JobStore$Claim"), (0, u "readAt"), (0, u "()Ljava/time/Instant;"), (0, .fieldref 8 45), (0, .nameAndType 46 12), (0, u "LATE_COMMIT"), (0, .methodref 48 49), (0, .class_ 50), (0, .nameAndType 51 52), (0, u "java/time/Instant"), (0, u "minus"), (0, u "(Ljava/time/temporal/TemporalAmount;)Ljava/time/Instant;"), (0, .methodref 54 55), (0, .class_ 56), (0, .nameAndType 57 58), (0, u "com/example/arbiter/arbiter/store/JobStore$Position"), (0, u "after"), (0, u "(Ljava/time/Instant;)Lcom/example/arbiter/arbiter/store/JobStore$Position;"), (0, .methodref 39 60), (0, .nameAndType 61 62), (0, u "end"), (0, u "()Lcom/example/arbiter/arbiter/store/JobStore$Position;"), (0, .methodref 54 64), (0, .nameAndType 65 66), (0, u "compareTo"), (0, u "(Lcom/example/arbiter/arbiter/store/JobStore$Position;)I"), (9, u "OLDEST_READ_SPACING"), (0, u "I"), (4, u "from"), (0, u "(J)Lcom/example/arbiter/arbiter/store/JobStore$Position;"), (1, u "moved"), (0, u "(Lcom/example/arbiter/arbiter/store/JobStore$Position;Lcom/example/arbiter/arbiter/store/JobStore$Claim;JJ)V")] 8

def k2c0 : Code := { maxStack := 1, maxLocals := 1, code := prog_14_method_1_code, exceptionTable := #[], attributes := #[] }
def k2m0 : Method := { name := "<init>", desc := "()V", sig := { parameters := [], returnType := none }, accessFlags := 0, code := some k2c0 }
def k2c1 : Code := { maxStack := 6, maxLocals := 5, code := prog_14_method_2_code, exceptionTable := #[], attributes := #[] }
def k2m1 : Method := { name := "from", desc := "(J)Lcom/example/arbiter/arbiter/store/JobStore$Position;", sig := { parameters := [.long], returnType := some (.object "com/example/arbiter/arbiter/store/JobStore$Position") }, accessFlags := 0, code := some k2c1 }
def k2c2 : Code := { maxStack := 5, maxLocals := 8, code := prog_14_method_3_code, exceptionTable := #[], attributes := #[] }
def k2m2 : Method := { name := "moved", desc := "(Lcom/example/arbiter/arbiter/store/JobStore$Position;Lcom/example/arbiter/arbiter/store/JobStore$Claim;JJ)V", sig := { parameters := [(.object "com/example/arbiter/arbiter/store/JobStore$Position"), (.object "com/example/arbiter/arbiter/store/JobStore$Claim"), .long, .long], returnType := none }, accessFlags := 0, code := some k2c2 }
/-- com/example/arbiter/arbiter/service/ClaimCursor -/
def k2 : Class := { plain "com/example/arbiter/arbiter/service/ClaimCursor" (some 0) with
  accessFlags := 48
  interfaces := #[]
  cf := some (fileOf pool2 8 #[] #[{ accessFlags := 0, nameIndex := 5, descriptorIndex := 6, attributes := #[] }, { accessFlags := 0, nameIndex := 82, descriptorIndex := 83, attributes := #[] }, { accessFlags := 0, nameIndex := 85, descriptorIndex := 86, attributes := #[] }] 48 2 #[] #[{ accessFlags := 24, nameIndex := 11, descriptorIndex := 12, attributes := #[] }, { accessFlags := 24, nameIndex := 76, descriptorIndex := 77, attributes := #[] }, { accessFlags := 24, nameIndex := 46, descriptorIndex := 12, attributes := #[] }, { accessFlags := 2, nameIndex := 36, descriptorIndex := 37, attributes := #[] }, { accessFlags := 2, nameIndex := 33, descriptorIndex := 24, attributes := #[] }, { accessFlags := 2, nameIndex := 23, descriptorIndex := 24, attributes := #[] }])
  fields := #[{ name := "OLDEST_READ_PERIOD", type := (.object "java/time/Duration"), accessFlags := 24, slot := 0, constantValue := 0 }, { name := "OLDEST_READ_SPACING", type := .int, accessFlags := 24, slot := 1, constantValue := 0 }, { name := "LATE_COMMIT", type := (.object "java/time/Duration"), accessFlags := 24, slot := 2, constantValue := 0 }, { name := "next", type := (.object "com/example/arbiter/arbiter/store/JobStore$Position"), accessFlags := 2, slot := 0, constantValue := 0 }, { name := "oldestReadAt", type := .long, accessFlags := 2, slot := 1, constantValue := 0 }, { name := "oldestReadNanos", type := .long, accessFlags := 2, slot := 2, constantValue := 0 }]
  methods := #[k2m0, k2m1, k2m2]
  instanceTypes := #[(.object "com/example/arbiter/arbiter/store/JobStore$Position"), .long, .long]
  staticTypes := #[(.object "java/time/Duration"), .int, (.object "java/time/Duration")]
  resolved := Array.replicate 95 none
  statics := some 0 }

def pool3 : Array CpInfo := pool [(1, .methodref 2 3), (0, .class_ 4), (0, .nameAndType 5 6), (0, u "java/lang/Object"), (0, u "<init>"), (0, u "()V"), (0, .class_ 8), (0, u "java/lang/Record")] 13

def k3c0 : Code := { maxStack := 1, maxLocals := 1, code := jdk_30_method_1_code, exceptionTable := #[], attributes := #[] }
def k3m0 : Method := { name := "<init>", desc := "()V", sig := { parameters := [], returnType := none }, accessFlags := 4, code := some k3c0 }
/-- java/lang/Record -/
def k3 : Class := { plain "java/lang/Record" (some 0) with
  accessFlags := 1057
  interfaces := #[]
  cf := some (fileOf pool3 7 #[] #[{ accessFlags := 4, nameIndex := 5, descriptorIndex := 6, attributes := #[] }] 1057 2 #[] #[])
  fields := #[]
  methods := #[k3m0]
  instanceTypes := #[]
  staticTypes := #[]
  resolved := Array.replicate 22 none
  statics := none }

def pool4 : Array CpInfo := pool [(1, .class_ 2), (0, u "java/lang/Comparable"), (0, .class_ 4), (0, u "java/lang/Object")] 7

/-- java/lang/Comparable -/
def k4 : Class := { plain "java/lang/Comparable" (some 0) with
  accessFlags := 1537
  interfaces := #[]
  cf := some (fileOf pool4 1 #[] #[] 1537 3 #[] #[])
  fields := #[]
  methods := #[]
  instanceTypes := #[]
  staticTypes := #[]
  resolved := Array.replicate 12 none
  statics := none }

def pool5 : Array CpInfo := pool [(1, .methodref 2 3), (0, .class_ 4), (0, .nameAndType 5 6), (0, u "java/lang/Record"), (0, u "<init>"), (0, u "()V"), (0, .fieldref 8 9), (0, .class_ 10), (0, .nameAndType 11 12), (0, u "com/example/arbiter/arbiter/store/JobStore$Position"), (0, u "at"), (0, u "Ljava/time/Instant;"), (0, .fieldref 8 14), (0, .nameAndType 15 16), (0, u "id"), (0, u "J"), (0, .class_ 18), (0, u "java/lang/Long"), (0, .long 9223372036854775807), (1, .methodref 8 22), (0, .nameAndType 5 23), (0, u "(Ljava/time/Instant;J)V"), (0, .methodref 25 26), (0, .class_ 27), (0, .nameAndType 28 29), (0, u "java/time/Instant"), (0, u "compareTo"), (0, u "(Ljava/time/Instant;)I"), (0, .methodref 17 31), (0, .nameAndType 32 33), (0, u "compare"), (0, u "(JJ)I"), (2, u "(Lcom/example/arbiter/arbiter/store/JobStore$Position;)I"), (11, .class_ 49), (0, u "java/lang/Comparable"), (3, u "after"), (0, u "(Ljava/time/Instant;)Lcom/example/arbiter/arbiter/store/JobStore$Position;"), (12, .class_ 68), (0, u "com/example/arbiter/arbiter/store/JobStore")] 20

def k5c0 : Code := { maxStack := 3, maxLocals := 4, code := prog_33_method_1_code, exceptionTable := #[], attributes := #[] }
def k5m0 : Method := { name := "<init>", desc := "(Ljava/time/Instant;J)V", sig := { parameters := [(.object "java/time/Instant"), .long], returnType := none }, accessFlags := 1, code := some k5c0 }
def k5c1 : Code := { maxStack := 5, maxLocals := 1, code := prog_33_method_2_code, exceptionTable := #[], attributes := #[] }
def k5m1 : Method := { name := "after", desc := "(Ljava/time/Instant;)Lcom/example/arbiter/arbiter/store/JobStore$Position;", sig := { parameters := [(.object "java/time/Instant")], returnType := some (.object "com/example/arbiter/arbiter/store/JobStore$Position") }, accessFlags := 9, code := some k5c1 }
def k5c2 : Code := { maxStack := 4, maxLocals := 3, code := prog_33_method_3_code, exceptionTable := #[], attributes := #[] }
def k5m2 : Method := { name := "compareTo", desc := "(Lcom/example/arbiter/arbiter/store/JobStore$Position;)I", sig := { parameters := [(.object "com/example/arbiter/arbiter/store/JobStore$Position")], returnType := some .int }, accessFlags := 1, code := some k5c2 }
/-- com/example/arbiter/arbiter/store/JobStore$Position -/
def k5 : Class := { plain "com/example/arbiter/arbiter/store/JobStore$Position" (some 3) with
  accessFlags := 49
  interfaces := #[4]
  cf := some (fileOf pool5 8 #[.nestHost 67] #[{ accessFlags := 1, nameIndex := 5, descriptorIndex := 23, attributes := #[] }, { accessFlags := 9, nameIndex := 53, descriptorIndex := 54, attributes := #[] }, { accessFlags := 1, nameIndex := 28, descriptorIndex := 36, attributes := #[] }] 49 2 #[48] #[{ accessFlags := 18, nameIndex := 11, descriptorIndex := 12, attributes := #[] }, { accessFlags := 18, nameIndex := 15, descriptorIndex := 16, attributes := #[] }])
  fields := #[{ name := "at", type := (.object "java/time/Instant"), accessFlags := 18, slot := 0, constantValue := 0 }, { name := "id", type := .long, accessFlags := 18, slot := 1, constantValue := 0 }]
  methods := #[k5m0, k5m1, k5m2]
  instanceTypes := #[(.object "java/time/Instant"), .long]
  staticTypes := #[]
  resolved := Array.replicate 89 none
  statics := none }

def pool6 : Array CpInfo := pool [(4, .class_ 6), (1, u "java/time/temporal/TemporalAccessor"), (95, .class_ 103), (0, u "java/lang/Object")] 21

/-- java/time/temporal/TemporalAccessor -/
def k6 : Class := { plain "java/time/temporal/TemporalAccessor" (some 0) with
  accessFlags := 1537
  interfaces := #[]
  cf := some (fileOf pool6 4 #[] #[] 1537 102 #[] #[])
  fields := #[]
  methods := #[]
  instanceTypes := #[]
  staticTypes := #[]
  resolved := Array.replicate 125 none
  statics := none }

def pool7 : Array CpInfo := pool [(22, .class_ 24), (1, u "java/time/temporal/Temporal"), (1, u "(JLjava/time/temporal/TemporalUnit;)Ljava/time/temporal/Temporal;"), (0, .class_ 28), (0, u "java/lang/Object"), (0, .class_ 30), (0, u "java/time/temporal/TemporalAccessor"), (15, u "minus")] 9

def k7c0 : Code := { maxStack := 4, maxLocals := 4, code := ⟨#[0x1f, 0x14, 0x00, 0x11, 0x94, 0x9a, 0x00, 0x17, 0x2a, 0x14, 0x00, 0x13, 0x2d, 0xb9, 0x00, 0x15, 0x04, 0x00, 0x0a, 0x2d, 0xb9, 0x00, 0x15, 0x04, 0x00, 0xa7, 0x00, 0x0c, 0x2a, 0x1f, 0x75, 0x2d, 0xb9, 0x00, 0x15, 0x04, 0x00, 0xb0]⟩, exceptionTable := #[], attributes := #[] }
def k7m0 : Method := { name := "minus", desc := "(JLjava/time/temporal/TemporalUnit;)Ljava/time/temporal/Temporal;", sig := { parameters := [.long, (.object "java/time/temporal/TemporalUnit")], returnType := some (.object "java/time/temporal/Temporal") }, accessFlags := 1, code := some k7c0 }
/-- java/time/temporal/Temporal -/
def k7 : Class := { plain "java/time/temporal/Temporal" (some 0) with
  accessFlags := 1537
  interfaces := #[6]
  cf := some (fileOf pool7 22 #[] #[{ accessFlags := 1, nameIndex := 46, descriptorIndex := 26, attributes := #[] }] 1537 27 #[29] #[])
  fields := #[]
  methods := #[k7m0]
  instanceTypes := #[]
  staticTypes := #[]
  resolved := Array.replicate 56 none
  statics := none }

def pool8 : Array CpInfo := pool [(1, .class_ 2), (0, u "java/time/temporal/TemporalAdjuster"), (0, .class_ 4), (0, u "java/lang/Object")] 6

/-- java/time/temporal/TemporalAdjuster -/
def k8 : Class := { plain "java/time/temporal/TemporalAdjuster" (some 0) with
  accessFlags := 1537
  interfaces := #[]
  cf := some (fileOf pool8 1 #[] #[] 1537 3 #[] #[])
  fields := #[]
  methods := #[]
  instanceTypes := #[]
  staticTypes := #[]
  resolved := Array.replicate 11 none
  statics := none }

def pool9 : Array CpInfo := pool [(1, .class_ 2), (0, u "java/io/Serializable"), (0, .class_ 4), (0, u "java/lang/Object")] 2

/-- java/io/Serializable -/
def k9 : Class := { plain "java/io/Serializable" (some 0) with
  accessFlags := 1537
  interfaces := #[]
  cf := some (fileOf pool9 1 #[] #[] 1537 3 #[] #[])
  fields := #[]
  methods := #[]
  instanceTypes := #[]
  staticTypes := #[]
  resolved := Array.replicate 7 none
  statics := none }

def pool10 : Array CpInfo := pool [(20, .methodref 21 22), (0, .class_ 23), (0, .nameAndType 24 25), (0, u "java/time/Instant"), (0, u "create"), (0, u "(JI)Ljava/time/Instant;"), (0, .long 1000000000), (1, .methodref 29 30), (0, .class_ 31), (0, .nameAndType 32 33), (0, u "java/lang/Math"), (0, u "floorDiv"), (0, u "(JJ)J"), (0, .methodref 29 35), (0, .nameAndType 36 33), (0, u "addExact"), (0, .methodref 29 38), (0, .nameAndType 39 33), (0, u "floorMod"), (28, .methodref 21 69), (0, .nameAndType 70 71), (0, u "ofEpochSecond"), (0, u "(JJ)Ljava/time/Instant;"), (5, .nameAndType 78 79), (0, u "<init>"), (0, u "()V"), (43, u "EPOCH"), (0, u "Ljava/time/Instant;"), (0, .long 18415187059542332416), (1, .long 31556889864403199), (6, .methodref 21 135), (0, .nameAndType 78 136), (0, u "(JI)V"), (0, .methodref 138 77), (0, .class_ 139), (0, u "java/lang/Object"), (0, .fieldref 21 141), (0, .nameAndType 142 143), (0, u "seconds"), (0, u "J"), (0, .fieldref 21 145), (0, .nameAndType 146 147), (0, u "nanos"), (0, u "I"), (12, .class_ 161), (0, u "java/time/temporal/ChronoUnit"), (14, .class_ 178), (1, u "java/time/temporal/Temporal"), (3, .class_ 184), (1, u "java/time/Instant$1"), (1, u "[I"), (1, .nameAndType 189 190), (0, u "ordinal"), (0, u "()I"), (17, .class_ 210), (1, u "java/time/temporal/TemporalAdjuster"), (1, u "(Ljava/time/temporal/Temporal;)Ljava/time/temporal/Temporal;"), (31, .methodref 21 245), (0, .nameAndType 246 247), (0, u "plusNanos"), (0, u "(J)Ljava/time/Instant;"), (1, .class_ 251), (1, u "java/time/temporal/TemporalAmount"), (1, .fieldref 182 254), (0, .nameAndType 255 186), (0, u "$SwitchMap$java$time$temporal$ChronoUnit"), (0, .methodref 160 188), (4, .methodref 21 262), (0, .nameAndType 263 71), (0, u "plus"), (15, .interfaceMethodref 249 280), (0, .nameAndType 281 212), (0, u "subtractFrom"), (0, .class_ 283), (0, u "java/lang/Long"), (0, .long 9223372036854775808), (3, .methodref 21 289), (0, .nameAndType 263 290), (0, u "(JLjava/time/temporal/TemporalUnit;)Ljava/time/Instant;"), (76, .methodref 282 368), (0, .nameAndType 369 370), (0, u "compare"), (0, u "(JJ)I"), (2, u "compareTo"), (0, u "(Ljava/time/Instant;)I"), (32, .methodref 21 408), (0, .nameAndType 409 290), (0, u "minus"), (2, u "(Ljava/time/temporal/TemporalAmount;)Ljava/time/Instant;"), (10, u "MIN"), (4, u "MAX"), (0, .class_ 430), (0, u "java/lang/Comparable"), (0, .class_ 432), (0, u "java/io/Serializable"), (0, u "MIN_SECOND"), (1, u "MAX_SECOND"), (0, u "serialVersionUID"), (113, u "(JLjava/time/temporal/TemporalUnit;)Ljava/time/temporal/Temporal;")] 28

def k10c0 : Code := { maxStack := 6, maxLocals := 7, code := jdk_2320_method_4_code, exceptionTable := #[], attributes := #[] }
def k10m0 : Method := { name := "ofEpochSecond", desc := "(JJ)Ljava/time/Instant;", sig := { parameters := [.long, .long], returnType := some (.object "java/time/Instant") }, accessFlags := 9, code := some k10c0 }
def k10c1 : Code := { maxStack := 5, maxLocals := 3, code := jdk_2320_method_8_code, exceptionTable := #[], attributes := #[] }
def k10m1 : Method := { name := "create", desc := "(JI)Ljava/time/Instant;", sig := { parameters := [.long, .int], returnType := some (.object "java/time/Instant") }, accessFlags := 10, code := some k10c1 }
def k10c2 : Code := { maxStack := 3, maxLocals := 4, code := jdk_2320_method_9_code, exceptionTable := #[], attributes := #[] }
def k10m2 : Method := { name := "<init>", desc := "(JI)V", sig := { parameters := [.long, .int], returnType := none }, accessFlags := 2, code := some k10c2 }
def k10c3 : Code := { maxStack := 7, maxLocals := 5, code := jdk_2320_method_21_code, exceptionTable := #[], attributes := #[] }
def k10m3 : Method := { name := "plus", desc := "(JLjava/time/temporal/TemporalUnit;)Ljava/time/Instant;", sig := { parameters := [.long, (.object "java/time/temporal/TemporalUnit")], returnType := some (.object "java/time/Instant") }, accessFlags := 1, code := some k10c3 }
def k10c4 : Code := { maxStack := 5, maxLocals := 3, code := jdk_2320_method_24_code, exceptionTable := #[], attributes := #[] }
def k10m4 : Method := { name := "plusNanos", desc := "(J)Ljava/time/Instant;", sig := { parameters := [.long], returnType := some (.object "java/time/Instant") }, accessFlags := 1, code := some k10c4 }
def k10c5 : Code := { maxStack := 6, maxLocals := 9, code := jdk_2320_method_25_code, exceptionTable := #[], attributes := #[] }
def k10m5 : Method := { name := "plus", desc := "(JJ)Ljava/time/Instant;", sig := { parameters := [.long, .long], returnType := some (.object "java/time/Instant") }, accessFlags := 2, code := some k10c5 }
def k10c6 : Code := { maxStack := 2, maxLocals := 2, code := jdk_2320_method_26_code, exceptionTable := #[], attributes := #[] }
def k10m6 : Method := { name := "minus", desc := "(Ljava/time/temporal/TemporalAmount;)Ljava/time/Instant;", sig := { parameters := [(.object "java/time/temporal/TemporalAmount")], returnType := some (.object "java/time/Instant") }, accessFlags := 1, code := some k10c6 }
def k10c7 : Code := { maxStack := 4, maxLocals := 4, code := jdk_2320_method_27_code, exceptionTable := #[], attributes := #[] }
def k10m7 : Method := { name := "minus", desc := "(JLjava/time/temporal/TemporalUnit;)Ljava/time/Instant;", sig := { parameters := [.long, (.object "java/time/temporal/TemporalUnit")], returnType := some (.object "java/time/Instant") }, accessFlags := 1, code := some k10c7 }
def k10c8 : Code := { maxStack := 4, maxLocals := 3, code := jdk_2320_method_41_code, exceptionTable := #[], attributes := #[] }
def k10m8 : Method := { name := "compareTo", desc := "(Ljava/time/Instant;)I", sig := { parameters := [(.object "java/time/Instant")], returnType := some .int }, accessFlags := 1, code := some k10c8 }
def k10c9 : Code := { maxStack := 4, maxLocals := 4, code := jdk_2320_method_51_code, exceptionTable := #[], attributes := #[] }
def k10m9 : Method := { name := "minus", desc := "(JLjava/time/temporal/TemporalUnit;)Ljava/time/temporal/Temporal;", sig := { parameters := [.long, (.object "java/time/temporal/TemporalUnit")], returnType := some (.object "java/time/temporal/Temporal") }, accessFlags := 4161, code := some k10c9 }
/-- java/time/Instant -/
def k10 : Class := { plain "java/time/Instant" (some 0) with
  accessFlags := 49
  interfaces := #[7, 8, 4, 9]
  cf := some (fileOf pool10 21 #[.nestMembers #[182]] #[{ accessFlags := 9, nameIndex := 70, descriptorIndex := 71, attributes := #[] }, { accessFlags := 10, nameIndex := 24, descriptorIndex := 25, attributes := #[] }, { accessFlags := 2, nameIndex := 78, descriptorIndex := 136, attributes := #[] }, { accessFlags := 1, nameIndex := 263, descriptorIndex := 290, attributes := #[] }, { accessFlags := 1, nameIndex := 246, descriptorIndex := 247, attributes := #[] }, { accessFlags := 2, nameIndex := 263, descriptorIndex := 71, attributes := #[] }, { accessFlags := 1, nameIndex := 409, descriptorIndex := 412, attributes := #[] }, { accessFlags := 1, nameIndex := 409, descriptorIndex := 290, attributes := #[] }, { accessFlags := 1, nameIndex := 373, descriptorIndex := 374, attributes := #[] }, { accessFlags := 4161, nameIndex := 409, descriptorIndex := 550, attributes := #[] }] 49 138 #[176, 208, 429, 431] #[{ accessFlags := 25, nameIndex := 123, descriptorIndex := 124, attributes := #[] }, { accessFlags := 26, nameIndex := 433, descriptorIndex := 143, attributes := #[] }, { accessFlags := 26, nameIndex := 435, descriptorIndex := 143, attributes := #[] }, { accessFlags := 25, nameIndex := 423, descriptorIndex := 124, attributes := #[] }, { accessFlags := 25, nameIndex := 428, descriptorIndex := 124, attributes := #[] }, { accessFlags := 26, nameIndex := 436, descriptorIndex := 143, attributes := #[] }, { accessFlags := 18, nameIndex := 142, descriptorIndex := 143, attributes := #[] }, { accessFlags := 18, nameIndex := 146, descriptorIndex := 147, attributes := #[] }])
  fields := #[{ name := "EPOCH", type := (.object "java/time/Instant"), accessFlags := 25, slot := 0, constantValue := 0 }, { name := "MIN_SECOND", type := .long, accessFlags := 26, slot := 1, constantValue := 0 }, { name := "MAX_SECOND", type := .long, accessFlags := 26, slot := 2, constantValue := 0 }, { name := "MIN", type := (.object "java/time/Instant"), accessFlags := 25, slot := 3, constantValue := 0 }, { name := "MAX", type := (.object "java/time/Instant"), accessFlags := 25, slot := 4, constantValue := 0 }, { name := "serialVersionUID", type := .long, accessFlags := 26, slot := 5, constantValue := 0 }, { name := "seconds", type := .long, accessFlags := 18, slot := 0, constantValue := 0 }, { name := "nanos", type := .int, accessFlags := 18, slot := 1, constantValue := 0 }]
  methods := #[k10m0, k10m1, k10m2, k10m3, k10m4, k10m5, k10m6, k10m7, k10m8, k10m9]
  instanceTypes := #[.long, .int]
  staticTypes := #[(.object "java/time/Instant"), .long, .long, (.object "java/time/Instant"), (.object "java/time/Instant"), .long]
  resolved := Array.replicate 579 none
  statics := some 1 }

def pool11 : Array CpInfo := pool [(1, .methodref 2 3), (0, .class_ 4), (0, .nameAndType 5 6), (0, u "java/lang/Record"), (0, u "<init>"), (0, u "()V"), (0, .fieldref 8 9), (0, .class_ 10), (0, .nameAndType 11 12), (0, u "com/example/arbiter/arbiter/store/JobStore$Claim"), (0, u "jobs"), (0, u "Ljava/util/List;"), (0, .fieldref 8 14), (0, .nameAndType 15 16), (0, u "end"), (0, u "Lcom/example/arbiter/arbiter/store/JobStore$Position;"), (0, .fieldref 8 18), (0, .nameAndType 19 20), (0, u "readAt"), (0, u "Ljava/time/Instant;"), (14, u "(Ljava/util/List;Lcom/example/arbiter/arbiter/store/JobStore$Position;Ljava/time/Instant;)V"), (9, u "()Lcom/example/arbiter/arbiter/store/JobStore$Position;"), (0, u "()Ljava/time/Instant;"), (3, .class_ 51), (0, u "com/example/arbiter/arbiter/store/JobStore")] 24

def k11c0 : Code := { maxStack := 2, maxLocals := 4, code := prog_32_method_1_code, exceptionTable := #[], attributes := #[] }
def k11m0 : Method := { name := "<init>", desc := "(Ljava/util/List;Lcom/example/arbiter/arbiter/store/JobStore$Position;Ljava/time/Instant;)V", sig := { parameters := [(.object "java/util/List"), (.object "com/example/arbiter/arbiter/store/JobStore$Position"), (.object "java/time/Instant")], returnType := none }, accessFlags := 1, code := some k11c0 }
def k11c1 : Code := { maxStack := 1, maxLocals := 1, code := prog_32_method_6_code, exceptionTable := #[], attributes := #[] }
def k11m1 : Method := { name := "end", desc := "()Lcom/example/arbiter/arbiter/store/JobStore$Position;", sig := { parameters := [], returnType := some (.object "com/example/arbiter/arbiter/store/JobStore$Position") }, accessFlags := 1, code := some k11c1 }
def k11c2 : Code := { maxStack := 1, maxLocals := 1, code := prog_32_method_7_code, exceptionTable := #[], attributes := #[] }
def k11m2 : Method := { name := "readAt", desc := "()Ljava/time/Instant;", sig := { parameters := [], returnType := some (.object "java/time/Instant") }, accessFlags := 1, code := some k11c2 }
/-- com/example/arbiter/arbiter/store/JobStore$Claim -/
def k11 : Class := { plain "com/example/arbiter/arbiter/store/JobStore$Claim" (some 3) with
  accessFlags := 49
  interfaces := #[]
  cf := some (fileOf pool11 8 #[.nestHost 50] #[{ accessFlags := 1, nameIndex := 5, descriptorIndex := 35, attributes := #[] }, { accessFlags := 1, nameIndex := 15, descriptorIndex := 45, attributes := #[] }, { accessFlags := 1, nameIndex := 19, descriptorIndex := 46, attributes := #[] }] 49 2 #[] #[{ accessFlags := 18, nameIndex := 11, descriptorIndex := 12, attributes := #[] }, { accessFlags := 18, nameIndex := 15, descriptorIndex := 16, attributes := #[] }, { accessFlags := 18, nameIndex := 19, descriptorIndex := 20, attributes := #[] }])
  fields := #[{ name := "jobs", type := (.object "java/util/List"), accessFlags := 18, slot := 0, constantValue := 0 }, { name := "end", type := (.object "com/example/arbiter/arbiter/store/JobStore$Position"), accessFlags := 18, slot := 1, constantValue := 0 }, { name := "readAt", type := (.object "java/time/Instant"), accessFlags := 18, slot := 2, constantValue := 0 }]
  methods := #[k11m0, k11m1, k11m2]
  instanceTypes := #[(.object "java/util/List"), (.object "com/example/arbiter/arbiter/store/JobStore$Position"), (.object "java/time/Instant")]
  staticTypes := #[]
  resolved := Array.replicate 76 none
  statics := none }

def pool12 : Array CpInfo := pool [(8, .class_ 10), (1, u "java/lang/Iterable"), (24, .class_ 36), (0, u "java/lang/Object")] 25

/-- java/lang/Iterable -/
def k12 : Class := { plain "java/lang/Iterable" (some 0) with
  accessFlags := 1537
  interfaces := #[]
  cf := some (fileOf pool12 8 #[] #[] 1537 35 #[] #[])
  fields := #[]
  methods := #[]
  instanceTypes := #[]
  staticTypes := #[]
  resolved := Array.replicate 62 none
  statics := none }

def pool13 : Array CpInfo := pool [(10, .class_ 12), (1, u "java/util/Collection"), (47, .class_ 61), (0, u "java/lang/Object"), (0, .class_ 63), (0, u "java/lang/Iterable")] 51

/-- java/util/Collection -/
def k13 : Class := { plain "java/util/Collection" (some 0) with
  accessFlags := 1537
  interfaces := #[12]
  cf := some (fileOf pool13 10 #[] #[] 1537 60 #[62] #[])
  fields := #[]
  methods := #[]
  instanceTypes := #[]
  staticTypes := #[]
  resolved := Array.replicate 115 none
  statics := none }

def pool14 : Array CpInfo := pool [(1, .methodref 2 3), (0, .class_ 4), (0, .nameAndType 5 6), (0, u "java/lang/Object"), (0, u "<init>"), (0, u "()V"), (1, .class_ 10), (1, u "java/util/AbstractCollection"), (66, .class_ 78), (0, u "java/util/Collection")] 81

def k14c0 : Code := { maxStack := 1, maxLocals := 1, code := jdk_22_method_1_code, exceptionTable := #[], attributes := #[] }
def k14m0 : Method := { name := "<init>", desc := "()V", sig := { parameters := [], returnType := none }, accessFlags := 4, code := some k14c0 }
/-- java/util/AbstractCollection -/
def k14 : Class := { plain "java/util/AbstractCollection" (some 0) with
  accessFlags := 1057
  interfaces := #[13]
  cf := some (fileOf pool14 8 #[] #[{ accessFlags := 4, nameIndex := 5, descriptorIndex := 6, attributes := #[] }] 1057 2 #[77] #[])
  fields := #[]
  methods := #[k14m0]
  instanceTypes := #[]
  staticTypes := #[]
  resolved := Array.replicate 160 none
  statics := none }

def pool15 : Array CpInfo := pool [(8, .class_ 10), (1, u "java/util/SequencedCollection"), (15, .class_ 27), (0, u "java/lang/Object"), (0, .class_ 29), (0, u "java/util/Collection")] 27

/-- java/util/SequencedCollection -/
def k15 : Class := { plain "java/util/SequencedCollection" (some 0) with
  accessFlags := 1537
  interfaces := #[13]
  cf := some (fileOf pool15 8 #[] #[] 1537 26 #[28] #[])
  fields := #[]
  methods := #[]
  instanceTypes := #[]
  staticTypes := #[]
  resolved := Array.replicate 57 none
  statics := none }

def pool16 : Array CpInfo := pool [(8, .class_ 10), (1, u "java/util/List"), (92, .class_ 104), (0, u "java/lang/Object"), (15, .class_ 121), (0, u "java/util/SequencedCollection")] 129

/-- java/util/List -/
def k16 : Class := { plain "java/util/List" (some 0) with
  accessFlags := 1537
  interfaces := #[15]
  cf := some (fileOf pool16 8 #[] #[] 1537 103 #[120] #[])
  fields := #[]
  methods := #[]
  instanceTypes := #[]
  staticTypes := #[]
  resolved := Array.replicate 251 none
  statics := none }

def pool17 : Array CpInfo := pool [(1, .methodref 2 3), (0, .class_ 4), (0, .nameAndType 5 6), (0, u "java/util/AbstractCollection"), (0, u "<init>"), (0, u "()V"), (0, .fieldref 8 9), (0, .class_ 10), (0, .nameAndType 11 12), (0, u "java/util/AbstractList"), (0, u "modCount"), (0, u "I"), (64, .class_ 78), (0, u "java/util/AbstractList$Itr"), (3, .class_ 83), (0, u "java/util/AbstractList$ListItr"), (9, .class_ 94), (0, u "java/util/AbstractList$RandomAccessSubList"), (3, .class_ 99), (0, u "java/util/AbstractList$SubList"), (33, .class_ 134), (0, u "java/util/List"), (73, .class_ 209), (0, u "java/util/AbstractList$SubList$1"), (0, .class_ 211), (0, u "java/util/AbstractList$RandomAccessSpliterator")] 6

def k17c0 : Code := { maxStack := 2, maxLocals := 1, code := jdk_39_method_1_code, exceptionTable := #[], attributes := #[] }
def k17m0 : Method := { name := "<init>", desc := "()V", sig := { parameters := [], returnType := none }, accessFlags := 4, code := some k17c0 }
/-- java/util/AbstractList -/
def k17 : Class := { plain "java/util/AbstractList" (some 14) with
  accessFlags := 1057
  interfaces := #[16]
  cf := some (fileOf pool17 8 #[.nestMembers #[93, 98, 208, 210, 82, 77]] #[{ accessFlags := 4, nameIndex := 5, descriptorIndex := 6, attributes := #[] }] 1057 2 #[133] #[{ accessFlags := 132, nameIndex := 11, descriptorIndex := 12, attributes := #[] }])
  fields := #[{ name := "modCount", type := .int, accessFlags := 132, slot := 0, constantValue := 0 }]
  methods := #[k17m0]
  instanceTypes := #[.int]
  staticTypes := #[]
  resolved := Array.replicate 218 none
  statics := none }

def pool18 : Array CpInfo := pool [(1, .class_ 2), (0, u "java/util/RandomAccess"), (0, .class_ 4), (0, u "java/lang/Object")] 2

/-- java/util/RandomAccess -/
def k18 : Class := { plain "java/util/RandomAccess" (some 0) with
  accessFlags := 1537
  interfaces := #[]
  cf := some (fileOf pool18 1 #[] #[] 1537 3 #[] #[])
  fields := #[]
  methods := #[]
  instanceTypes := #[]
  staticTypes := #[]
  resolved := Array.replicate 7 none
  statics := none }

def pool19 : Array CpInfo := pool [(1, .class_ 2), (0, u "java/lang/Cloneable"), (0, .class_ 4), (0, u "java/lang/Object")] 2

/-- java/lang/Cloneable -/
def k19 : Class := { plain "java/lang/Cloneable" (some 0) with
  accessFlags := 1537
  interfaces := #[]
  cf := some (fileOf pool19 1 #[] #[] 1537 3 #[] #[])
  fields := #[]
  methods := #[]
  instanceTypes := #[]
  staticTypes := #[]
  resolved := Array.replicate 7 none
  statics := none }

def pool20 : Array CpInfo := pool [(1, .methodref 2 3), (0, .class_ 4), (0, .nameAndType 5 6), (0, u "java/util/AbstractList"), (0, u "<init>"), (0, u "()V"), (2, .fieldref 10 11), (0, .class_ 12), (0, .nameAndType 13 14), (0, u "java/util/ArrayList"), (0, u "elementData"), (0, u "[Ljava/lang/Object;"), (2, u "EMPTY_ELEMENTDATA"), (21, .fieldref 10 40), (0, .nameAndType 41 14), (0, u "DEFAULTCAPACITY_EMPTY_ELEMENTDATA"), (8, u "size"), (0, u "I"), (96, .class_ 149), (0, u "java/util/List"), (112, .class_ 263), (0, u "java/util/ArrayList$ListItr"), (3, .class_ 268), (0, u "java/util/ArrayList$Itr"), (7, .class_ 277), (0, u "java/util/ArrayList$SubList"), (12, .class_ 291), (0, u "java/util/ArrayList$ArrayListSpliterator"), (37, .class_ 330), (0, u "java/util/RandomAccess"), (0, .class_ 332), (0, u "java/lang/Cloneable"), (0, .class_ 334), (0, u "java/io/Serializable"), (0, u "serialVersionUID"), (0, u "J"), (3, u "DEFAULT_CAPACITY"), (159, .class_ 501), (0, u "java/util/ArrayList$SubList$2"), (0, .class_ 503), (0, u "java/util/ArrayList$SubList$1")] 5

def k20c0 : Code := { maxStack := 2, maxLocals := 1, code := jdk_38_method_2_code, exceptionTable := #[], attributes := #[] }
def k20m0 : Method := { name := "<init>", desc := "()V", sig := { parameters := [], returnType := none }, accessFlags := 1, code := some k20c0 }
/-- java/util/ArrayList -/
def k20 : Class := { plain "java/util/ArrayList" (some 17) with
  accessFlags := 33
  interfaces := #[16, 18, 19, 9]
  cf := some (fileOf pool20 10 #[.nestMembers #[290, 276, 500, 502, 262, 267]] #[{ accessFlags := 1, nameIndex := 5, descriptorIndex := 6, attributes := #[] }] 33 2 #[148, 329, 331, 333] #[{ accessFlags := 26, nameIndex := 335, descriptorIndex := 336, attributes := #[] }, { accessFlags := 26, nameIndex := 340, descriptorIndex := 51, attributes := #[] }, { accessFlags := 26, nameIndex := 17, descriptorIndex := 14, attributes := #[] }, { accessFlags := 26, nameIndex := 41, descriptorIndex := 14, attributes := #[] }, { accessFlags := 128, nameIndex := 13, descriptorIndex := 14, attributes := #[] }, { accessFlags := 2, nameIndex := 50, descriptorIndex := 51, attributes := #[] }])
  fields := #[{ name := "serialVersionUID", type := .long, accessFlags := 26, slot := 0, constantValue := 0 }, { name := "DEFAULT_CAPACITY", type := .int, accessFlags := 26, slot := 1, constantValue := 0 }, { name := "EMPTY_ELEMENTDATA", type := (.array (.object "java/lang/Object")), accessFlags := 26, slot := 2, constantValue := 0 }, { name := "DEFAULTCAPACITY_EMPTY_ELEMENTDATA", type := (.array (.object "java/lang/Object")), accessFlags := 26, slot := 3, constantValue := 0 }, { name := "elementData", type := (.array (.object "java/lang/Object")), accessFlags := 128, slot := 1, constantValue := 0 }, { name := "size", type := .int, accessFlags := 2, slot := 2, constantValue := 0 }]
  methods := #[k20m0]
  instanceTypes := #[.int, (.array (.object "java/lang/Object")), .int]
  staticTypes := #[.long, .int, (.array (.object "java/lang/Object")), (.array (.object "java/lang/Object"))]
  resolved := Array.replicate 509 none
  statics := some 2 }

def pool21 : Array CpInfo := pool [(1, .class_ 2), (0, u "java/time/temporal/TemporalAmount"), (0, .class_ 4), (0, u "java/lang/Object"), (7, u "(Ljava/time/temporal/Temporal;)Ljava/time/temporal/Temporal;"), (0, u "subtractFrom")] 2

def k21m0 : Method := { name := "subtractFrom", desc := "(Ljava/time/temporal/Temporal;)Ljava/time/temporal/Temporal;", sig := { parameters := [(.object "java/time/temporal/Temporal")], returnType := some (.object "java/time/temporal/Temporal") }, accessFlags := 1025, code := none }
/-- java/time/temporal/TemporalAmount -/
def k21 : Class := { plain "java/time/temporal/TemporalAmount" (some 0) with
  accessFlags := 1537
  interfaces := #[]
  cf := some (fileOf pool21 1 #[] #[{ accessFlags := 1025, nameIndex := 13, descriptorIndex := 12, attributes := #[] }] 1537 3 #[] #[])
  fields := #[]
  methods := #[k21m0]
  instanceTypes := #[]
  staticTypes := #[]
  resolved := Array.replicate 16 none
  statics := none }

def pool22 : Array CpInfo := pool [(5, .class_ 7), (1, u "java/lang/Math"), (0, u "multiplyExact"), (2, .class_ 13), (1, u "java/time/Duration"), (2, .long 1000000000), (4, u "(JJ)J"), (0, .methodref 5 23), (0, .nameAndType 24 21), (0, u "addExact"), (9, u "ZERO"), (0, u "Ljava/time/Duration;"), (13, .class_ 51), (1, u "java/time/temporal/TemporalAmount"), (27, .class_ 81), (1, u "java/time/Duration$Lazy"), (35, u "seconds"), (66, .fieldref 185 186), (0, .class_ 187), (0, .nameAndType 188 189), (0, u "java/time/temporal/ChronoUnit"), (0, u "NANOS"), (0, u "Ljava/time/temporal/ChronoUnit;"), (1, .class_ 193), (1, u "java/time/temporal/Temporal"), (25, .class_ 220), (0, u "java/lang/Object"), (0, .fieldref 11 222), (0, .nameAndType 117 223), (0, u "J"), (0, .fieldref 11 225), (0, .nameAndType 226 227), (0, u "nanos"), (0, u "I"), (11, .class_ 241), (1, u "java/time/Duration$DurationUnits"), (9, u "()J"), (17, .class_ 271), (1, u "java/time/Duration$1"), (17, .methodref 5 290), (0, .nameAndType 8 21), (72, u "BI_NANOS_PER_SECOND"), (0, u "Ljava/math/BigInteger;"), (24, u "(JLjava/time/temporal/TemporalUnit;)Ljava/time/temporal/Temporal;"), (0, .interfaceMethodref 191 391), (0, .nameAndType 392 389), (0, u "minus"), (18, u "toNanos"), (73, .class_ 486), (0, u "java/lang/Comparable"), (0, .class_ 488), (0, u "java/io/Serializable"), (0, u "serialVersionUID"), (106, u "(Ljava/time/temporal/Temporal;)Ljava/time/temporal/Temporal;"), (1, u "subtractFrom")] 57

def k22c0 : Code := { maxStack := 4, maxLocals := 2, code := jdk_2316_method_52_code, exceptionTable := #[], attributes := #[] }
def k22m0 : Method := { name := "subtractFrom", desc := "(Ljava/time/temporal/Temporal;)Ljava/time/temporal/Temporal;", sig := { parameters := [(.object "java/time/temporal/Temporal")], returnType := some (.object "java/time/temporal/Temporal") }, accessFlags := 1, code := some k22c0 }
def k22c1 : Code := { maxStack := 4, maxLocals := 7, code := jdk_2316_method_58_code, exceptionTable := #[], attributes := #[] }
def k22m1 : Method := { name := "toNanos", desc := "()J", sig := { parameters := [], returnType := some .long }, accessFlags := 1, code := some k22c1 }
/-- java/time/Duration -/
def k22 : Class := { plain "java/time/Duration" (some 0) with
  accessFlags := 49
  interfaces := #[21, 4, 9]
  cf := some (fileOf pool22 11 #[.nestMembers #[269, 239, 79]] #[{ accessFlags := 1, nameIndex := 598, descriptorIndex := 596, attributes := #[] }, { accessFlags := 1, nameIndex := 411, descriptorIndex := 251, attributes := #[] }] 49 219 #[49, 485, 487] #[{ accessFlags := 25, nameIndex := 34, descriptorIndex := 35, attributes := #[] }, { accessFlags := 26, nameIndex := 489, descriptorIndex := 223, attributes := #[] }, { accessFlags := 26, nameIndex := 363, descriptorIndex := 364, attributes := #[] }, { accessFlags := 18, nameIndex := 117, descriptorIndex := 223, attributes := #[] }, { accessFlags := 18, nameIndex := 226, descriptorIndex := 227, attributes := #[] }])
  fields := #[{ name := "ZERO", type := (.object "java/time/Duration"), accessFlags := 25, slot := 0, constantValue := 0 }, { name := "serialVersionUID", type := .long, accessFlags := 26, slot := 1, constantValue := 0 }, { name := "BI_NANOS_PER_SECOND", type := (.object "java/math/BigInteger"), accessFlags := 26, slot := 2, constantValue := 0 }, { name := "seconds", type := .long, accessFlags := 18, slot := 0, constantValue := 0 }, { name := "nanos", type := .int, accessFlags := 18, slot := 1, constantValue := 0 }]
  methods := #[k22m0, k22m1]
  instanceTypes := #[.long, .int]
  staticTypes := #[(.object "java/time/Duration"), .long, (.object "java/math/BigInteger")]
  resolved := Array.replicate 656 none
  statics := none }

def pool23 : Array CpInfo := pool [(1, .class_ 2), (0, u "java/lang/constant/Constable"), (0, .class_ 4), (0, u "java/lang/Object")] 6

/-- java/lang/constant/Constable -/
def k23 : Class := { plain "java/lang/constant/Constable" (some 0) with
  accessFlags := 1537
  interfaces := #[]
  cf := some (fileOf pool23 1 #[] #[] 1537 3 #[] #[])
  fields := #[]
  methods := #[]
  instanceTypes := #[]
  staticTypes := #[]
  resolved := Array.replicate 11 none
  statics := none }

def pool24 : Array CpInfo := pool [(2, .class_ 4), (1, u "java/lang/Enum"), (0, u "name"), (0, u "Ljava/lang/String;"), (0, .fieldref 2 8), (0, .nameAndType 9 10), (0, u "ordinal"), (0, u "I"), (1, .class_ 14), (1, u "java/lang/Object"), (4, u "hash"), (86, .class_ 108), (1, u "java/lang/Enum$EnumDesc"), (2, .class_ 112), (0, u "java/lang/constant/Constable"), (0, .class_ 114), (0, u "java/lang/Comparable"), (0, .class_ 116), (0, u "java/io/Serializable"), (9, u "()I")] 77

def k24c0 : Code := { maxStack := 1, maxLocals := 1, code := jdk_37_method_2_code, exceptionTable := #[], attributes := #[] }
def k24m0 : Method := { name := "ordinal", desc := "()I", sig := { parameters := [], returnType := some .int }, accessFlags := 17, code := some k24c0 }
/-- java/lang/Enum -/
def k24 : Class := { plain "java/lang/Enum" (some 0) with
  accessFlags := 1057
  interfaces := #[23, 4, 9]
  cf := some (fileOf pool24 2 #[.nestMembers #[106]] #[{ accessFlags := 17, nameIndex := 9, descriptorIndex := 126, attributes := #[] }] 1057 12 #[111, 113, 115] #[{ accessFlags := 18, nameIndex := 5, descriptorIndex := 6, attributes := #[] }, { accessFlags := 18, nameIndex := 9, descriptorIndex := 10, attributes := #[] }, { accessFlags := 2, nameIndex := 19, descriptorIndex := 10, attributes := #[] }])
  fields := #[{ name := "name", type := (.object "java/lang/String"), accessFlags := 18, slot := 0, constantValue := 0 }, { name := "ordinal", type := .int, accessFlags := 18, slot := 1, constantValue := 0 }, { name := "hash", type := .int, accessFlags := 2, slot := 2, constantValue := 0 }]
  methods := #[k24m0]
  instanceTypes := #[(.object "java/lang/String"), .int, .int]
  staticTypes := #[]
  resolved := Array.replicate 204 none
  statics := none }

def pool25 : Array CpInfo := pool [(4, .class_ 6), (1, u "java/time/temporal/TemporalUnit"), (23, .class_ 31), (0, u "java/lang/Object")] 27

/-- java/time/temporal/TemporalUnit -/
def k25 : Class := { plain "java/time/temporal/TemporalUnit" (some 0) with
  accessFlags := 1537
  interfaces := #[]
  cf := some (fileOf pool25 4 #[] #[] 1537 30 #[] #[])
  fields := #[]
  methods := #[]
  instanceTypes := #[]
  staticTypes := #[]
  resolved := Array.replicate 59 none
  statics := none }

def pool26 : Array CpInfo := pool [(1, .class_ 2), (0, u "java/time/temporal/ChronoUnit"), (2, u "NANOS"), (0, u "Ljava/time/temporal/ChronoUnit;"), (2, u "MICROS"), (2, u "MILLIS"), (2, u "SECONDS"), (2, u "MINUTES"), (2, u "HOURS"), (2, u "HALF_DAYS"), (2, u "DAYS"), (2, u "WEEKS"), (2, u "MONTHS"), (2, u "YEARS"), (2, u "DECADES"), (2, u "CENTURIES"), (2, u "MILLENNIA"), (2, u "ERAS"), (2, u "FOREVER"), (2, u "$VALUES"), (0, u "[Ljava/time/temporal/ChronoUnit;"), (6, .class_ 64), (1, u "java/lang/Enum"), (8, u "name"), (0, u "Ljava/lang/String;"), (2, u "duration"), (0, u "Ljava/time/Duration;"), (117, .class_ 197), (0, u "java/time/temporal/TemporalUnit")] 39

/-- java/time/temporal/ChronoUnit -/
def k26 : Class := { plain "java/time/temporal/ChronoUnit" (some 24) with
  accessFlags := 16433
  interfaces := #[25]
  cf := some (fileOf pool26 1 #[] #[] 16433 62 #[196] #[{ accessFlags := 16409, nameIndex := 5, descriptorIndex := 6, attributes := #[] }, { accessFlags := 16409, nameIndex := 9, descriptorIndex := 6, attributes := #[] }, { accessFlags := 16409, nameIndex := 12, descriptorIndex := 6, attributes := #[] }, { accessFlags := 16409, nameIndex := 15, descriptorIndex := 6, attributes := #[] }, { accessFlags := 16409, nameIndex := 18, descriptorIndex := 6, attributes := #[] }, { accessFlags := 16409, nameIndex := 21, descriptorIndex := 6, attributes := #[] }, { accessFlags := 16409, nameIndex := 24, descriptorIndex := 6, attributes := #[] }, { accessFlags := 16409, nameIndex := 27, descriptorIndex := 6, attributes := #[] }, { accessFlags := 16409, nameIndex := 30, descriptorIndex := 6, attributes := #[] }, { accessFlags := 16409, nameIndex := 33, descriptorIndex := 6, attributes := #[] }, { accessFlags := 16409, nameIndex := 36, descriptorIndex := 6, attributes := #[] }, { accessFlags := 16409, nameIndex := 39, descriptorIndex := 6, attributes := #[] }, { accessFlags := 16409, nameIndex := 42, descriptorIndex := 6, attributes := #[] }, { accessFlags := 16409, nameIndex := 45, descriptorIndex := 6, attributes := #[] }, { accessFlags := 16409, nameIndex := 48, descriptorIndex := 6, attributes := #[] }, { accessFlags := 16409, nameIndex := 51, descriptorIndex := 6, attributes := #[] }, { accessFlags := 18, nameIndex := 73, descriptorIndex := 74, attributes := #[] }, { accessFlags := 18, nameIndex := 77, descriptorIndex := 78, attributes := #[] }, { accessFlags := 4122, nameIndex := 54, descriptorIndex := 55, attributes := #[] }])
  fields := #[{ name := "NANOS", type := (.object "java/time/temporal/ChronoUnit"), accessFlags := 16409, slot := 0, constantValue := 0 }, { name := "MICROS", type := (.object "java/time/temporal/ChronoUnit"), accessFlags := 16409, slot := 1, constantValue := 0 }, { name := "MILLIS", type := (.object "java/time/temporal/ChronoUnit"), accessFlags := 16409, slot := 2, constantValue := 0 }, { name := "SECONDS", type := (.object "java/time/temporal/ChronoUnit"), accessFlags := 16409, slot := 3, constantValue := 0 }, { name := "MINUTES", type := (.object "java/time/temporal/ChronoUnit"), accessFlags := 16409, slot := 4, constantValue := 0 }, { name := "HOURS", type := (.object "java/time/temporal/ChronoUnit"), accessFlags := 16409, slot := 5, constantValue := 0 }, { name := "HALF_DAYS", type := (.object "java/time/temporal/ChronoUnit"), accessFlags := 16409, slot := 6, constantValue := 0 }, { name := "DAYS", type := (.object "java/time/temporal/ChronoUnit"), accessFlags := 16409, slot := 7, constantValue := 0 }, { name := "WEEKS", type := (.object "java/time/temporal/ChronoUnit"), accessFlags := 16409, slot := 8, constantValue := 0 }, { name := "MONTHS", type := (.object "java/time/temporal/ChronoUnit"), accessFlags := 16409, slot := 9, constantValue := 0 }, { name := "YEARS", type := (.object "java/time/temporal/ChronoUnit"), accessFlags := 16409, slot := 10, constantValue := 0 }, { name := "DECADES", type := (.object "java/time/temporal/ChronoUnit"), accessFlags := 16409, slot := 11, constantValue := 0 }, { name := "CENTURIES", type := (.object "java/time/temporal/ChronoUnit"), accessFlags := 16409, slot := 12, constantValue := 0 }, { name := "MILLENNIA", type := (.object "java/time/temporal/ChronoUnit"), accessFlags := 16409, slot := 13, constantValue := 0 }, { name := "ERAS", type := (.object "java/time/temporal/ChronoUnit"), accessFlags := 16409, slot := 14, constantValue := 0 }, { name := "FOREVER", type := (.object "java/time/temporal/ChronoUnit"), accessFlags := 16409, slot := 15, constantValue := 0 }, { name := "name", type := (.object "java/lang/String"), accessFlags := 18, slot := 3, constantValue := 0 }, { name := "duration", type := (.object "java/time/Duration"), accessFlags := 18, slot := 4, constantValue := 0 }, { name := "$VALUES", type := (.array (.object "java/time/temporal/ChronoUnit")), accessFlags := 4122, slot := 16, constantValue := 0 }]
  methods := #[]
  instanceTypes := #[(.object "java/lang/String"), .int, .int, (.object "java/lang/String"), (.object "java/time/Duration")]
  staticTypes := #[(.object "java/time/temporal/ChronoUnit"), (.object "java/time/temporal/ChronoUnit"), (.object "java/time/temporal/ChronoUnit"), (.object "java/time/temporal/ChronoUnit"), (.object "java/time/temporal/ChronoUnit"), (.object "java/time/temporal/ChronoUnit"), (.object "java/time/temporal/ChronoUnit"), (.object "java/time/temporal/ChronoUnit"), (.object "java/time/temporal/ChronoUnit"), (.object "java/time/temporal/ChronoUnit"), (.object "java/time/temporal/ChronoUnit"), (.object "java/time/temporal/ChronoUnit"), (.object "java/time/temporal/ChronoUnit"), (.object "java/time/temporal/ChronoUnit"), (.object "java/time/temporal/ChronoUnit"), (.object "java/time/temporal/ChronoUnit"), (.array (.object "java/time/temporal/ChronoUnit"))]
  resolved := Array.replicate 237 none
  statics := some 3 }

def pool27 : Array CpInfo := pool [(8, .class_ 10), (1, u "java/time/Instant$1"), (0, u "$SwitchMap$java$time$temporal$ChronoUnit"), (0, u "[I"), (38, u "$SwitchMap$java$time$temporal$ChronoField"), (14, .class_ 67), (0, u "java/lang/Object"), (9, .class_ 78), (0, u "java/time/Instant")] 2

/-- java/time/Instant$1 -/
def k27 : Class := { plain "java/time/Instant$1" (some 0) with
  accessFlags := 4128
  interfaces := #[]
  cf := some (fileOf pool27 8 #[.nestHost 77] #[] 4128 66 #[] #[{ accessFlags := 4120, nameIndex := 51, descriptorIndex := 12, attributes := #[] }, { accessFlags := 4120, nameIndex := 11, descriptorIndex := 12, attributes := #[] }])
  fields := #[{ name := "$SwitchMap$java$time$temporal$ChronoField", type := (.array .int), accessFlags := 4120, slot := 0, constantValue := 0 }, { name := "$SwitchMap$java$time$temporal$ChronoUnit", type := (.array .int), accessFlags := 4120, slot := 1, constantValue := 0 }]
  methods := #[]
  instanceTypes := #[]
  staticTypes := #[(.array .int), (.array .int)]
  resolved := Array.replicate 81 none
  statics := some 4 }

def pool28 : Array CpInfo := pool [(1, .class_ 2), (0, u "java/lang/Math"), (1, .class_ 6), (1, u "java/lang/Object"), (0, u "<init>"), (0, u "()V"), (89, .class_ 100), (1, u "java/lang/Math$RandomNumberGeneratorHolder"), (19, u "multiplyExact"), (0, u "(JJ)J"), (0, .methodref 1 123), (0, .nameAndType 124 125), (0, u "abs"), (0, u "(J)J"), (19, u "floorDiv"), (2, u "floorMod"), (23, u "negativeZeroFloatBits"), (0, u "J"), (2, u "negativeZeroDoubleBits"), (21, u "max"), (46, u "$assertionsDisabled"), (0, u "Z"), (91, u "twoToTheDoubleScaleDown"), (0, u "D"), (4, u "twoToTheDoubleScaleUp"), (9, u "E"), (3, u "PI"), (2, u "TAU"), (2, u "DEGREES_TO_RADIANS"), (0, u "RADIANS_TO_DEGREES"), (27, u "addExact")] 66

def k28m0 : Method := { name := "<init>", desc := "()V", sig := { parameters := [], returnType := none }, accessFlags := 2, code := none }
def k28c1 : Code := { maxStack := 6, maxLocals := 6, code := jdk_29_method_25_code, exceptionTable := #[], attributes := #[] }
def k28m1 : Method := { name := "addExact", desc := "(JJ)J", sig := { parameters := [.long, .long], returnType := some .long }, accessFlags := 9, code := some k28c1 }
def k28c2 : Code := { maxStack := 4, maxLocals := 10, code := jdk_29_method_30_code, exceptionTable := #[], attributes := #[] }
def k28m2 : Method := { name := "multiplyExact", desc := "(JJ)J", sig := { parameters := [.long, .long], returnType := some .long }, accessFlags := 9, code := some k28c2 }
def k28c3 : Code := { maxStack := 4, maxLocals := 6, code := jdk_29_method_49_code, exceptionTable := #[], attributes := #[] }
def k28m3 : Method := { name := "floorDiv", desc := "(JJ)J", sig := { parameters := [.long, .long], returnType := some .long }, accessFlags := 9, code := some k28c3 }
def k28c4 : Code := { maxStack := 4, maxLocals := 6, code := jdk_29_method_52_code, exceptionTable := #[], attributes := #[] }
def k28m4 : Method := { name := "floorMod", desc := "(JJ)J", sig := { parameters := [.long, .long], returnType := some .long }, accessFlags := 9, code := some k28c4 }
def k28c5 : Code := { maxStack := 4, maxLocals := 2, code := jdk_29_method_61_code, exceptionTable := #[], attributes := #[] }
def k28m5 : Method := { name := "abs", desc := "(J)J", sig := { parameters := [.long], returnType := some .long }, accessFlags := 9, code := some k28c5 }
def k28c6 : Code := { maxStack := 4, maxLocals := 4, code := jdk_29_method_66_code, exceptionTable := #[], attributes := #[] }
def k28m6 : Method := { name := "max", desc := "(JJ)J", sig := { parameters := [.long, .long], returnType := some .long }, accessFlags := 9, code := some k28c6 }
/-- java/lang/Math -/
def k28 : Class := { plain "java/lang/Math" (some 0) with
  accessFlags := 49
  interfaces := #[]
  cf := some (fileOf pool28 1 #[.nestMembers #[98]] #[{ accessFlags := 2, nameIndex := 7, descriptorIndex := 8, attributes := #[] }, { accessFlags := 9, nameIndex := 393, descriptorIndex := 121, attributes := #[] }, { accessFlags := 9, nameIndex := 120, descriptorIndex := 121, attributes := #[] }, { accessFlags := 9, nameIndex := 145, descriptorIndex := 121, attributes := #[] }, { accessFlags := 9, nameIndex := 148, descriptorIndex := 121, attributes := #[] }, { accessFlags := 9, nameIndex := 124, descriptorIndex := 125, attributes := #[] }, { accessFlags := 9, nameIndex := 198, descriptorIndex := 121, attributes := #[] }] 49 4 #[] #[{ accessFlags := 25, nameIndex := 354, descriptorIndex := 339, attributes := #[] }, { accessFlags := 25, nameIndex := 358, descriptorIndex := 339, attributes := #[] }, { accessFlags := 25, nameIndex := 361, descriptorIndex := 339, attributes := #[] }, { accessFlags := 26, nameIndex := 364, descriptorIndex := 339, attributes := #[] }, { accessFlags := 26, nameIndex := 365, descriptorIndex := 339, attributes := #[] }, { accessFlags := 26, nameIndex := 172, descriptorIndex := 173, attributes := #[] }, { accessFlags := 26, nameIndex := 176, descriptorIndex := 173, attributes := #[] }, { accessFlags := 8, nameIndex := 344, descriptorIndex := 339, attributes := #[] }, { accessFlags := 8, nameIndex := 338, descriptorIndex := 339, attributes := #[] }, { accessFlags := 4120, nameIndex := 245, descriptorIndex := 246, attributes := #[] }])
  fields := #[{ name := "E", type := .double, accessFlags := 25, slot := 0, constantValue := 0 }, { name := "PI", type := .double, accessFlags := 25, slot := 1, constantValue := 0 }, { name := "TAU", type := .double, accessFlags := 25, slot := 2, constantValue := 0 }, { name := "DEGREES_TO_RADIANS", type := .double, accessFlags := 26, slot := 3, constantValue := 0 }, { name := "RADIANS_TO_DEGREES", type := .double, accessFlags := 26, slot := 4, constantValue := 0 }, { name := "negativeZeroFloatBits", type := .long, accessFlags := 26, slot := 5, constantValue := 0 }, { name := "negativeZeroDoubleBits", type := .long, accessFlags := 26, slot := 6, constantValue := 0 }, { name := "twoToTheDoubleScaleUp", type := .double, accessFlags := 8, slot := 7, constantValue := 0 }, { name := "twoToTheDoubleScaleDown", type := .double, accessFlags := 8, slot := 8, constantValue := 0 }, { name := "$assertionsDisabled", type := .boolean, accessFlags := 4120, slot := 9, constantValue := 0 }]
  methods := #[k28m0, k28m1, k28m2, k28m3, k28m4, k28m5, k28m6]
  instanceTypes := #[]
  staticTypes := #[.double, .double, .double, .double, .double, .long, .long, .double, .double, .boolean]
  resolved := Array.replicate 460 none
  statics := none }

def pool29 : Array CpInfo := pool [(2, .class_ 4), (1, u "java/lang/Object"), (0, u "<init>"), (0, u "()V"), (1, .class_ 10), (1, u "java/lang/Number"), (2, .class_ 14), (0, u "java/io/Serializable"), (0, u "serialVersionUID"), (0, u "J")] 20

def k29m0 : Method := { name := "<init>", desc := "()V", sig := { parameters := [], returnType := none }, accessFlags := 1, code := none }
/-- java/lang/Number -/
def k29 : Class := { plain "java/lang/Number" (some 0) with
  accessFlags := 1057
  interfaces := #[9]
  cf := some (fileOf pool29 8 #[] #[{ accessFlags := 1, nameIndex := 5, descriptorIndex := 6, attributes := #[] }] 1057 2 #[13] #[{ accessFlags := 26, nameIndex := 15, descriptorIndex := 16, attributes := #[] }])
  fields := #[{ name := "serialVersionUID", type := .long, accessFlags := 26, slot := 0, constantValue := 0 }]
  methods := #[k29m0]
  instanceTypes := #[]
  staticTypes := #[.long]
  resolved := Array.replicate 37 none
  statics := none }

def pool30 : Array CpInfo := pool [(1, .class_ 2), (0, u "java/lang/constant/ConstantDesc"), (0, .class_ 4), (0, u "java/lang/Object")] 32

/-- java/lang/constant/ConstantDesc -/
def k30 : Class := { plain "java/lang/constant/ConstantDesc" (some 0) with
  accessFlags := 1537
  interfaces := #[]
  cf := some (fileOf pool30 1 #[] #[] 1537 3 #[] #[])
  fields := #[]
  methods := #[]
  instanceTypes := #[]
  staticTypes := #[]
  resolved := Array.replicate 37 none
  statics := none }

def pool31 : Array CpInfo := pool [(1, .class_ 2), (0, u "java/lang/Long"), (232, .class_ 237), (1, u "java/lang/Long$LongCache"), (33, .class_ 272), (0, u "java/lang/Number"), (2, u "value"), (0, u "J"), (27, u "compare"), (0, u "(JJ)I"), (55, u "TYPE"), (0, u "Ljava/lang/Class;"), (0, .class_ 364), (0, u "java/lang/Comparable"), (0, .class_ 366), (0, u "java/lang/constant/Constable"), (0, .class_ 368), (0, u "java/lang/constant/ConstantDesc"), (0, u "MIN_VALUE"), (1, u "MAX_VALUE"), (4, u "SIZE"), (0, u "I"), (1, u "BYTES"), (1, u "serialVersionUID")] 142

def k31c0 : Code := { maxStack := 4, maxLocals := 4, code := jdk_35_method_42_code, exceptionTable := #[], attributes := #[] }
def k31m0 : Method := { name := "compare", desc := "(JJ)I", sig := { parameters := [.long, .long], returnType := some .int }, accessFlags := 9, code := some k31c0 }
/-- java/lang/Long -/
def k31 : Class := { plain "java/lang/Long" (some 29) with
  accessFlags := 49
  interfaces := #[4, 23, 30]
  cf := some (fileOf pool31 1 #[.nestMembers #[235]] #[{ accessFlags := 9, nameIndex := 304, descriptorIndex := 305, attributes := #[] }] 49 271 #[363, 365, 367] #[{ accessFlags := 25, nameIndex := 369, descriptorIndex := 276, attributes := #[] }, { accessFlags := 25, nameIndex := 371, descriptorIndex := 276, attributes := #[] }, { accessFlags := 25, nameIndex := 361, descriptorIndex := 362, attributes := #[] }, { accessFlags := 18, nameIndex := 275, descriptorIndex := 276, attributes := #[] }, { accessFlags := 25, nameIndex := 376, descriptorIndex := 377, attributes := #[] }, { accessFlags := 25, nameIndex := 379, descriptorIndex := 377, attributes := #[] }, { accessFlags := 26, nameIndex := 381, descriptorIndex := 276, attributes := #[] }])
  fields := #[{ name := "MIN_VALUE", type := .long, accessFlags := 25, slot := 0, constantValue := 0 }, { name := "MAX_VALUE", type := .long, accessFlags := 25, slot := 1, constantValue := 0 }, { name := "TYPE", type := (.object "java/lang/Class"), accessFlags := 25, slot := 2, constantValue := 0 }, { name := "value", type := .long, accessFlags := 18, slot := 0, constantValue := 0 }, { name := "SIZE", type := .int, accessFlags := 25, slot := 3, constantValue := 0 }, { name := "BYTES", type := .int, accessFlags := 25, slot := 4, constantValue := 0 }, { name := "serialVersionUID", type := .long, accessFlags := 26, slot := 5, constantValue := 0 }]
  methods := #[k31m0]
  instanceTypes := #[.long]
  staticTypes := #[.long, .long, (.object "java/lang/Class"), .int, .int, .long]
  resolved := Array.replicate 524 none
  statics := none }

def pool32 : Array CpInfo := pool [(2, .class_ 4), (1, u "java/lang/CharSequence"), (42, .class_ 48), (0, u "java/lang/CharSequence$1CodePointIterator"), (10, .class_ 60), (0, u "java/lang/CharSequence$1CharIterator"), (5, .class_ 67), (0, u "java/lang/Object")] 63

/-- java/lang/CharSequence -/
def k32 : Class := { plain "java/lang/CharSequence" (some 0) with
  accessFlags := 1537
  interfaces := #[]
  cf := some (fileOf pool32 2 #[.nestMembers #[47, 59]] #[] 1537 66 #[] #[])
  fields := #[]
  methods := #[]
  instanceTypes := #[]
  staticTypes := #[]
  resolved := Array.replicate 131 none
  statics := none }

def pool33 : Array CpInfo := pool [(2, .class_ 4), (1, u "java/lang/Object"), (0, u "<init>"), (0, u "()V"), (3, .class_ 12), (1, u "java/lang/String"), (0, u "value"), (0, u "[B"), (2, u "coder"), (0, u "B"), (2, u "hash"), (0, u "I"), (2, u "hashIsZero"), (0, u "Z"), (13, u "COMPACT_STRINGS"), (534, .class_ 576), (0, u "java/lang/CharSequence"), (22, u "CASE_INSENSITIVE_ORDER"), (0, u "Ljava/util/Comparator;"), (500, u "serialPersistentFields"), (0, u "[Ljava/io/ObjectStreamField;"), (0, .class_ 1104), (0, u "java/lang/String$CaseInsensitiveComparator"), (1, .class_ 1107), (0, u "java/io/Serializable"), (0, .class_ 1109), (0, u "java/lang/Comparable"), (0, .class_ 1111), (0, u "java/lang/constant/Constable"), (0, .class_ 1113), (0, u "java/lang/constant/ConstantDesc"), (2, u "serialVersionUID"), (0, u "J"), (3, u "REPL"), (0, u "C"), (2, u "LATIN1"), (1, u "UTF16")] 323

def k33m0 : Method := { name := "<init>", desc := "()V", sig := { parameters := [], returnType := none }, accessFlags := 1, code := none }
/-- java/lang/String -/
def k33 : Class := { plain "java/lang/String" (some 0) with
  accessFlags := 49
  interfaces := #[9, 4, 32, 23, 30]
  cf := some (fileOf pool33 10 #[.nestMembers #[1103]] #[{ accessFlags := 1, nameIndex := 5, descriptorIndex := 6, attributes := #[] }] 49 2 #[1106, 1108, 575, 1110, 1112] #[{ accessFlags := 18, nameIndex := 13, descriptorIndex := 14, attributes := #[] }, { accessFlags := 18, nameIndex := 17, descriptorIndex := 18, attributes := #[] }, { accessFlags := 2, nameIndex := 21, descriptorIndex := 22, attributes := #[] }, { accessFlags := 2, nameIndex := 25, descriptorIndex := 26, attributes := #[] }, { accessFlags := 26, nameIndex := 1116, descriptorIndex := 1117, attributes := #[] }, { accessFlags := 24, nameIndex := 40, descriptorIndex := 26, attributes := #[] }, { accessFlags := 26, nameIndex := 1101, descriptorIndex := 1102, attributes := #[] }, { accessFlags := 26, nameIndex := 1121, descriptorIndex := 1122, attributes := #[] }, { accessFlags := 25, nameIndex := 599, descriptorIndex := 600, attributes := #[] }, { accessFlags := 24, nameIndex := 1125, descriptorIndex := 18, attributes := #[] }, { accessFlags := 24, nameIndex := 1127, descriptorIndex := 18, attributes := #[] }])
  fields := #[{ name := "value", type := (.array .byte), accessFlags := 18, slot := 0, constantValue := 0 }, { name := "coder", type := .byte, accessFlags := 18, slot := 1, constantValue := 0 }, { name := "hash", type := .int, accessFlags := 2, slot := 2, constantValue := 0 }, { name := "hashIsZero", type := .boolean, accessFlags := 2, slot := 3, constantValue := 0 }, { name := "serialVersionUID", type := .long, accessFlags := 26, slot := 0, constantValue := 0 }, { name := "COMPACT_STRINGS", type := .boolean, accessFlags := 24, slot := 1, constantValue := 0 }, { name := "serialPersistentFields", type := (.array (.object "java/io/ObjectStreamField")), accessFlags := 26, slot := 2, constantValue := 0 }, { name := "REPL", type := .char, accessFlags := 26, slot := 3, constantValue := 0 }, { name := "CASE_INSENSITIVE_ORDER", type := (.object "java/util/Comparator"), accessFlags := 25, slot := 4, constantValue := 0 }, { name := "LATIN1", type := .byte, accessFlags := 24, slot := 5, constantValue := 0 }, { name := "UTF16", type := .byte, accessFlags := 24, slot := 6, constantValue := 0 }]
  methods := #[k33m0]
  instanceTypes := #[(.array .byte), .byte, .int, .boolean]
  staticTypes := #[.long, .boolean, (.array (.object "java/io/ObjectStreamField")), .char, (.object "java/util/Comparator"), .byte, .byte]
  resolved := Array.replicate 1451 none
  statics := none }

/-- the primitive byte -/
def k34 : Class := { plain "byte" none with kind := .primitive 'B', accessFlags := 0x411 }
/-- [B -/
def k35 : Class := { plain "[B" (some 0) with kind := .array 34 .byte, interfaces := #[19, 9], accessFlags := 1041 }

/-- the primitive int -/
def k36 : Class := { plain "int" none with kind := .primitive 'I', accessFlags := 0x411 }
/-- [I -/
def k37 : Class := { plain "[I" (some 0) with kind := .array 36 .int, interfaces := #[19, 9], accessFlags := 1041 }

/-- [Ljava/lang/Object; -/
def k38 : Class := { plain "[Ljava/lang/Object;" (some 0) with kind := .array 0 (.object "java/lang/Object"), interfaces := #[19, 9], accessFlags := 1041 }

def heap : Heap := #[{ cls := 2, slots := #[.ref 6, .int 0, .ref 5], vm := .statics 2 },
  { cls := 10, slots := #[.ref 10, .long 0, .long 0, .null, .ref 13, .long 0], vm := .statics 10 },
  { cls := 20, slots := #[.long 0, .int 0, .ref 11, .ref 12], vm := .statics 20 },
  { cls := 26, slots := #[.ref 9, .null, .null, .null, .null, .null, .null, .null, .null, .null, .null, .null, .null, .null, .null, .null, .null], vm := .statics 26 },
  { cls := 27, slots := #[.null, .ref 14], vm := .statics 27 },
  { cls := 22, slots := #[.long 0, .int 100000000], vm := .none },
  { cls := 22, slots := #[.long 1, .int 0], vm := .none },
  { cls := 22, slots := #[.long 0, .int 1], vm := .none },
  { cls := 33, slots := #[.null, .int 0, .int 0, .int 0], vm := .none },
  { cls := 26, slots := #[.ref 8, .int 0, .int 0, .ref 8, .ref 7], vm := .none },
  { cls := 10, slots := #[.long 0, .int 0], vm := .none },
  { cls := 38, slots := #[], vm := .none },
  { cls := 38, slots := #[], vm := .none },
  { cls := 10, slots := #[.long 31556889864403199, .int 999999999], vm := .none },
  { cls := 37, slots := #[.int 1, .int 2, .int 3, .int 4, .int 5, .int 6, .int 7, .int 8, .int 0, .int 0, .int 0, .int 0, .int 0, .int 0, .int 0, .int 0], vm := .none }]
def classes : Array Class := #[k0, k1, k2, k3, k4, k5, k6, k7, k8, k9, k10, k11, k12, k13, k14, k15, k16, k17, k18, k19, k20, k21, k22, k23, k24, k25, k26, k27, k28, k29, k30, k31, k32, k33, k34, k35, k36, k37, k38]
def interned : List (Array UInt16 × Addr) := []
def slotsUsed : Nat := 67
def theMethod : MethodId := ⟨1, 1⟩
def args0 : Array Value := #[.long 5, .long 5, .long 5, .long 5, .long 5, .long 5]
def aboutOver (below : List Frame) : State where
  vm := { classes := classes, interned := interned.toArray }
  heap := heap
  slotsUsed := slotsUsed
  threads := #[{ frames := .invoking theMethod args0 :: below }]
def below0 : List Frame := [.native { method := ⟨0, 0⟩, args := #[] }]
def about1 : State := aboutOver below0
def p0 : Program := .bare "" "" ""
def e0 : Env := launch0.env 0 0 0
theorem w_frames : about1.frames = Frame.invoking theMethod args0 :: below0 := rfl
set_option maxRecDepth 65536 in
theorem w_args : argsFit about1.vm theMethod args0 = true := by decide +kernel
set_option maxRecDepth 65536 in
theorem w_heap : heapFits about1 = true := by decide +kernel
set_option maxRecDepth 65536 in
theorem w_runnable : about1.curStatus? = some .runnable := by decide +kernel
set_option maxRecDepth 65536 in
theorem w_alone : about1.alone = true := by decide +kernel
set_option maxRecDepth 65536 in
theorem w_named : about1.methodNamed? x = some theMethod := by decide +kernel
set_option maxRecDepth 65536 in
theorem w_hears : about1.hears theMethod below0 = true := by decide +kernel
set_option maxRecDepth 65536 in
theorem w_ripe : about1.ripe theMethod args0 below0 = true := by decide +kernel
theorem w_running : about1.status = .running := rfl
set_option maxRecDepth 65536 in
theorem w_room : about1.hasRoom e0.platform room_1 = true :=
  launch0.hasRoom_least _ room_1 (by decide +kernel) (by decide +kernel) (by decide +kernel) (by decide +kernel) (by decide +kernel) (by decide +kernel)
theorem allAtoms_all (ts : List Jvm.Cond) (a : Array Jvm.Value) (st : Jvm.State) : (allAtoms ts).before a st = ts.all (fun c => c.before a st) := by
  induction ts with
  | nil => rfl
  | cons c t ih =>
    show (Jvm.Cond.and c (allAtoms t)).before a st = _
    rw [Jvm.Cond.before_and, ih, List.all_cons]
def words1 : List Jvm.Cond := Jvm.Cond.code x code maxLocals ret :: tables_1
/-- a 'code' word, met by the world's own term for the bytes: nothing is compared byte by byte -/
theorem code_word {y : MethodName} {bytes : ByteArray} {mx : Nat} {rt : Option FieldType} {a : Array Value} {s : State} {m : MethodId} {meth : Method} {c : Code} (h1 : s.methodNamed? y = some m) (h2 : s.vm.method? m = some meth) (h3 : meth.code = some c) (h4 : c.code = bytes)
    (h5 : (c.maxLocals == mx && c.exceptionTable.isEmpty && decide (c.maxStack ≤ mostOperands) && decide (meth.sig.returnType = rt) && !meth.locks && decide (parseMethodDescriptor y.desc = some meth.sig)) = true) : (Jvm.Cond.code y bytes mx rt).before a s = true := by
  simp only [Bool.and_eq_true, beq_iff_eq, Bool.not_eq_true', decide_eq_true_eq] at h5
  obtain ⟨⟨⟨⟨⟨g1, g2⟩, g3⟩, g4⟩, g5⟩, g6⟩ := h5
  simp [Cond.before, Cond.holds, Cond.value, h1, h2, h3, h4, g1, g2, g3, g4, g5, g6]
def isCode : Jvm.Cond → Bool
  | .code _ _ _ _ => true
  | _ => false
theorem all_split {L : List Jvm.Cond} {P : Jvm.Cond → Bool} (h1 : L.all (fun c => isCode c || P c) = true) (h2 : ∀ c ∈ L.filter isCode, P c = true) : L.all P = true := by
  refine List.all_eq_true.mpr fun c hc => ?_
  have h := List.all_eq_true.mp h1 c hc
  rcases Bool.eq_false_or_eq_true (isCode c) with hi | hi
  · exact h2 c (List.mem_filter.mpr ⟨hc, hi⟩)
  · simpa [hi] using h
set_option maxRecDepth 65536 in
theorem w_c0 : (Jvm.Cond.code x code maxLocals ret).before args0 about1 = true := code_word (m := ⟨1, 1⟩) (meth := k1m1) (c := k1c1) (by decide +kernel) rfl rfl rfl (by decide +kernel)
set_option maxRecDepth 65536 in
theorem w_c1 : (Jvm.Cond.code ({ cls := "com/example/arbiter/arbiter/service/ClaimCursor", name := "<init>", desc := "()V" } : Jvm.MethodName) prog_14_method_1_code (1 : Nat) (Option.none : Option Jvm.ClassFile.FieldType)).before args0 about1 = true := code_word (m := ⟨2, 0⟩) (meth := k2m0) (c := k2c0) (by decide +kernel) rfl rfl rfl (by decide +kernel)
set_option maxRecDepth 65536 in
theorem w_c2 : (Jvm.Cond.code ({ cls := "java/lang/Object", name := "<init>", desc := "()V" } : Jvm.MethodName) object_method_1_code (1 : Nat) (Option.none : Option Jvm.ClassFile.FieldType)).before args0 about1 = true := code_word (m := ⟨0, 0⟩) (meth := k0m0) (c := k0c0) (by decide +kernel) rfl rfl rfl (by decide +kernel)
set_option maxRecDepth 65536 in
theorem w_c3 : (Jvm.Cond.code ({ cls := "com/example/arbiter/arbiter/store/JobStore$Position", name := "<init>", desc := "(Ljava/time/Instant;J)V" } : Jvm.MethodName) prog_33_method_1_code (4 : Nat) (Option.none : Option Jvm.ClassFile.FieldType)).before args0 about1 = true := code_word (m := ⟨5, 0⟩) (meth := k5m0) (c := k5c0) (by decide +kernel) rfl rfl rfl (by decide +kernel)
set_option maxRecDepth 65536 in
theorem w_c4 : (Jvm.Cond.code ({ cls := "java/lang/Record", name := "<init>", desc := "()V" } : Jvm.MethodName) jdk_30_method_1_code (1 : Nat) (Option.none : Option Jvm.ClassFile.FieldType)).before args0 about1 = true := code_word (m := ⟨3, 0⟩) (meth := k3m0) (c := k3c0) (by decide +kernel) rfl rfl rfl (by decide +kernel)
set_option maxRecDepth 65536 in
theorem w_c5 : (Jvm.Cond.code ({ cls := "java/util/ArrayList", name := "<init>", desc := "()V" } : Jvm.MethodName) jdk_38_method_2_code (1 : Nat) (Option.none : Option Jvm.ClassFile.FieldType)).before args0 about1 = true := code_word (m := ⟨20, 0⟩) (meth := k20m0) (c := k20c0) (by decide +kernel) rfl rfl rfl (by decide +kernel)
set_option maxRecDepth 65536 in
theorem w_c6 : (Jvm.Cond.code ({ cls := "java/util/AbstractList", name := "<init>", desc := "()V" } : Jvm.MethodName) jdk_39_method_1_code (1 : Nat) (Option.none : Option Jvm.ClassFile.FieldType)).before args0 about1 = true := code_word (m := ⟨17, 0⟩) (meth := k17m0) (c := k17c0) (by decide +kernel) rfl rfl rfl (by decide +kernel)
set_option maxRecDepth 65536 in
theorem w_c7 : (Jvm.Cond.code ({ cls := "java/util/AbstractCollection", name := "<init>", desc := "()V" } : Jvm.MethodName) jdk_22_method_1_code (1 : Nat) (Option.none : Option Jvm.ClassFile.FieldType)).before args0 about1 = true := code_word (m := ⟨14, 0⟩) (meth := k14m0) (c := k14c0) (by decide +kernel) rfl rfl rfl (by decide +kernel)
set_option maxRecDepth 65536 in
theorem w_c8 : (Jvm.Cond.code ({ cls := "com/example/arbiter/arbiter/store/JobStore$Claim", name := "<init>", desc := "(Ljava/util/List;Lcom/example/arbiter/arbiter/store/JobStore$Position;Ljava/time/Instant;)V" } : Jvm.MethodName) prog_32_method_1_code (4 : Nat) (Option.none : Option Jvm.ClassFile.FieldType)).before args0 about1 = true := code_word (m := ⟨11, 0⟩) (meth := k11m0) (c := k11c0) (by decide +kernel) rfl rfl rfl (by decide +kernel)
set_option maxRecDepth 65536 in
theorem w_c9 : (Jvm.Cond.code ({ cls := "com/example/arbiter/arbiter/service/ClaimCursor", name := "moved", desc := "(Lcom/example/arbiter/arbiter/store/JobStore$Position;Lcom/example/arbiter/arbiter/store/JobStore$Claim;JJ)V" } : Jvm.MethodName) prog_14_method_3_code (8 : Nat) (Option.none : Option Jvm.ClassFile.FieldType)).before args0 about1 = true := code_word (m := ⟨2, 2⟩) (meth := k2m2) (c := k2c2) (by decide +kernel) rfl rfl rfl (by decide +kernel)
set_option maxRecDepth 65536 in
theorem w_c10 : (Jvm.Cond.code ({ cls := "com/example/arbiter/arbiter/store/JobStore$Claim", name := "readAt", desc := "()Ljava/time/Instant;" } : Jvm.MethodName) prog_32_method_7_code (1 : Nat) (Option.some (Jvm.ClassFile.FieldType.object "java/time/Instant"))).before args0 about1 = true := code_word (m := ⟨11, 2⟩) (meth := k11m2) (c := k11c2) (by decide +kernel) rfl rfl rfl (by decide +kernel)
set_option maxRecDepth 65536 in
theorem w_c11 : (Jvm.Cond.code ({ cls := "java/time/Instant", name := "minus", desc := "(Ljava/time/temporal/TemporalAmount;)Ljava/time/Instant;" } : Jvm.MethodName) jdk_2320_method_26_code (2 : Nat) (Option.some (Jvm.ClassFile.FieldType.object "java/time/Instant"))).before args0 about1 = true := code_word (m := ⟨10, 6⟩) (meth := k10m6) (c := k10c6) (by decide +kernel) rfl rfl rfl (by decide +kernel)
set_option maxRecDepth 65536 in
theorem w_c12 : (Jvm.Cond.code ({ cls := "java/time/Duration", name := "subtractFrom", desc := "(Ljava/time/temporal/Temporal;)Ljava/time/temporal/Temporal;" } : Jvm.MethodName) jdk_2316_method_52_code (2 : Nat) (Option.some (Jvm.ClassFile.FieldType.object "java/time/temporal/Temporal"))).before args0 about1 = true := code_word (m := ⟨22, 0⟩) (meth := k22m0) (c := k22c0) (by decide +kernel) rfl rfl rfl (by decide +kernel)
set_option maxRecDepth 65536 in
theorem w_c13 : (Jvm.Cond.code ({ cls := "java/time/Instant", name := "minus", desc := "(JLjava/time/temporal/TemporalUnit;)Ljava/time/temporal/Temporal;" } : Jvm.MethodName) jdk_2320_method_51_code (4 : Nat) (Option.some (Jvm.ClassFile.FieldType.object "java/time/temporal/Temporal"))).before args0 about1 = true := code_word (m := ⟨10, 9⟩) (meth := k10m9) (c := k10c9) (by decide +kernel) rfl rfl rfl (by decide +kernel)
set_option maxRecDepth 65536 in
theorem w_c14 : (Jvm.Cond.code ({ cls := "java/time/Instant", name := "minus", desc := "(JLjava/time/temporal/TemporalUnit;)Ljava/time/Instant;" } : Jvm.MethodName) jdk_2320_method_27_code (4 : Nat) (Option.some (Jvm.ClassFile.FieldType.object "java/time/Instant"))).before args0 about1 = true := code_word (m := ⟨10, 7⟩) (meth := k10m7) (c := k10c7) (by decide +kernel) rfl rfl rfl (by decide +kernel)
set_option maxRecDepth 65536 in
theorem w_c15 : (Jvm.Cond.code ({ cls := "java/time/Instant", name := "plus", desc := "(JLjava/time/temporal/TemporalUnit;)Ljava/time/Instant;" } : Jvm.MethodName) jdk_2320_method_21_code (5 : Nat) (Option.some (Jvm.ClassFile.FieldType.object "java/time/Instant"))).before args0 about1 = true := code_word (m := ⟨10, 3⟩) (meth := k10m3) (c := k10c3) (by decide +kernel) rfl rfl rfl (by decide +kernel)
set_option maxRecDepth 65536 in
theorem w_c16 : (Jvm.Cond.code ({ cls := "java/lang/Enum", name := "ordinal", desc := "()I" } : Jvm.MethodName) jdk_37_method_2_code (1 : Nat) (Option.some Jvm.ClassFile.FieldType.int)).before args0 about1 = true := code_word (m := ⟨24, 0⟩) (meth := k24m0) (c := k24c0) (by decide +kernel) rfl rfl rfl (by decide +kernel)
set_option maxRecDepth 65536 in
theorem w_c17 : (Jvm.Cond.code ({ cls := "java/time/Instant", name := "plusNanos", desc := "(J)Ljava/time/Instant;" } : Jvm.MethodName) jdk_2320_method_24_code (3 : Nat) (Option.some (Jvm.ClassFile.FieldType.object "java/time/Instant"))).before args0 about1 = true := code_word (m := ⟨10, 4⟩) (meth := k10m4) (c := k10c4) (by decide +kernel) rfl rfl rfl (by decide +kernel)
set_option maxRecDepth 65536 in
theorem w_c18 : (Jvm.Cond.code ({ cls := "java/time/Instant", name := "plus", desc := "(JJ)Ljava/time/Instant;" } : Jvm.MethodName) jdk_2320_method_25_code (9 : Nat) (Option.some (Jvm.ClassFile.FieldType.object "java/time/Instant"))).before args0 about1 = true := code_word (m := ⟨10, 5⟩) (meth := k10m5) (c := k10c5) (by decide +kernel) rfl rfl rfl (by decide +kernel)
set_option maxRecDepth 65536 in
theorem w_c19 : (Jvm.Cond.code ({ cls := "java/lang/Math", name := "addExact", desc := "(JJ)J" } : Jvm.MethodName) jdk_29_method_25_code (6 : Nat) (Option.some Jvm.ClassFile.FieldType.long)).before args0 about1 = true := code_word (m := ⟨28, 1⟩) (meth := k28m1) (c := k28c1) (by decide +kernel) rfl rfl rfl (by decide +kernel)
set_option maxRecDepth 65536 in
theorem w_c20 : (Jvm.Cond.code ({ cls := "java/time/Instant", name := "ofEpochSecond", desc := "(JJ)Ljava/time/Instant;" } : Jvm.MethodName) jdk_2320_method_4_code (7 : Nat) (Option.some (Jvm.ClassFile.FieldType.object "java/time/Instant"))).before args0 about1 = true := code_word (m := ⟨10, 0⟩) (meth := k10m0) (c := k10c0) (by decide +kernel) rfl rfl rfl (by decide +kernel)
set_option maxRecDepth 65536 in
theorem w_c21 : (Jvm.Cond.code ({ cls := "java/lang/Math", name := "floorDiv", desc := "(JJ)J" } : Jvm.MethodName) jdk_29_method_49_code (6 : Nat) (Option.some Jvm.ClassFile.FieldType.long)).before args0 about1 = true := code_word (m := ⟨28, 3⟩) (meth := k28m3) (c := k28c3) (by decide +kernel) rfl rfl rfl (by decide +kernel)
set_option maxRecDepth 65536 in
theorem w_c22 : (Jvm.Cond.code ({ cls := "java/lang/Math", name := "floorMod", desc := "(JJ)J" } : Jvm.MethodName) jdk_29_method_52_code (6 : Nat) (Option.some Jvm.ClassFile.FieldType.long)).before args0 about1 = true := code_word (m := ⟨28, 4⟩) (meth := k28m4) (c := k28c4) (by decide +kernel) rfl rfl rfl (by decide +kernel)
set_option maxRecDepth 65536 in
theorem w_c23 : (Jvm.Cond.code ({ cls := "java/time/Instant", name := "create", desc := "(JI)Ljava/time/Instant;" } : Jvm.MethodName) jdk_2320_method_8_code (3 : Nat) (Option.some (Jvm.ClassFile.FieldType.object "java/time/Instant"))).before args0 about1 = true := code_word (m := ⟨10, 1⟩) (meth := k10m1) (c := k10c1) (by decide +kernel) rfl rfl rfl (by decide +kernel)
set_option maxRecDepth 65536 in
theorem w_c24 : (Jvm.Cond.code ({ cls := "java/time/Instant", name := "<init>", desc := "(JI)V" } : Jvm.MethodName) jdk_2320_method_9_code (4 : Nat) (Option.none : Option Jvm.ClassFile.FieldType)).before args0 about1 = true := code_word (m := ⟨10, 2⟩) (meth := k10m2) (c := k10c2) (by decide +kernel) rfl rfl rfl (by decide +kernel)
set_option maxRecDepth 65536 in
theorem w_c25 : (Jvm.Cond.code ({ cls := "com/example/arbiter/arbiter/store/JobStore$Position", name := "after", desc := "(Ljava/time/Instant;)Lcom/example/arbiter/arbiter/store/JobStore$Position;" } : Jvm.MethodName) prog_33_method_2_code (1 : Nat) (Option.some (Jvm.ClassFile.FieldType.object "com/example/arbiter/arbiter/store/JobStore$Position"))).before args0 about1 = true := code_word (m := ⟨5, 1⟩) (meth := k5m1) (c := k5c1) (by decide +kernel) rfl rfl rfl (by decide +kernel)
set_option maxRecDepth 65536 in
theorem w_c26 : (Jvm.Cond.code ({ cls := "com/example/arbiter/arbiter/store/JobStore$Claim", name := "end", desc := "()Lcom/example/arbiter/arbiter/store/JobStore$Position;" } : Jvm.MethodName) prog_32_method_6_code (1 : Nat) (Option.some (Jvm.ClassFile.FieldType.object "com/example/arbiter/arbiter/store/JobStore$Position"))).before args0 about1 = true := code_word (m := ⟨11, 1⟩) (meth := k11m1) (c := k11c1) (by decide +kernel) rfl rfl rfl (by decide +kernel)
set_option maxRecDepth 65536 in
theorem w_c27 : (Jvm.Cond.code ({ cls := "com/example/arbiter/arbiter/store/JobStore$Position", name := "compareTo", desc := "(Lcom/example/arbiter/arbiter/store/JobStore$Position;)I" } : Jvm.MethodName) prog_33_method_3_code (3 : Nat) (Option.some Jvm.ClassFile.FieldType.int)).before args0 about1 = true := code_word (m := ⟨5, 2⟩) (meth := k5m2) (c := k5c2) (by decide +kernel) rfl rfl rfl (by decide +kernel)
set_option maxRecDepth 65536 in
theorem w_c28 : (Jvm.Cond.code ({ cls := "java/time/Instant", name := "compareTo", desc := "(Ljava/time/Instant;)I" } : Jvm.MethodName) jdk_2320_method_41_code (3 : Nat) (Option.some Jvm.ClassFile.FieldType.int)).before args0 about1 = true := code_word (m := ⟨10, 8⟩) (meth := k10m8) (c := k10c8) (by decide +kernel) rfl rfl rfl (by decide +kernel)
set_option maxRecDepth 65536 in
theorem w_c29 : (Jvm.Cond.code ({ cls := "java/lang/Long", name := "compare", desc := "(JJ)I" } : Jvm.MethodName) jdk_35_method_42_code (4 : Nat) (Option.some Jvm.ClassFile.FieldType.int)).before args0 about1 = true := code_word (m := ⟨31, 0⟩) (meth := k31m0) (c := k31c0) (by decide +kernel) rfl rfl rfl (by decide +kernel)
set_option maxRecDepth 65536 in
theorem w_c30 : (Jvm.Cond.code ({ cls := "com/example/arbiter/arbiter/service/ClaimCursor", name := "from", desc := "(J)Lcom/example/arbiter/arbiter/store/JobStore$Position;" } : Jvm.MethodName) prog_14_method_2_code (5 : Nat) (Option.some (Jvm.ClassFile.FieldType.object "com/example/arbiter/arbiter/store/JobStore$Position"))).before args0 about1 = true := code_word (m := ⟨2, 1⟩) (meth := k2m1) (c := k2c1) (by decide +kernel) rfl rfl rfl (by decide +kernel)
set_option maxRecDepth 65536 in
theorem w_c31 : (Jvm.Cond.code ({ cls := "java/time/Duration", name := "toNanos", desc := "()J" } : Jvm.MethodName) jdk_2316_method_58_code (7 : Nat) (Option.some Jvm.ClassFile.FieldType.long)).before args0 about1 = true := code_word (m := ⟨22, 1⟩) (meth := k22m1) (c := k22c1) (by decide +kernel) rfl rfl rfl (by decide +kernel)
set_option maxRecDepth 65536 in
theorem w_c32 : (Jvm.Cond.code ({ cls := "java/lang/Math", name := "multiplyExact", desc := "(JJ)J" } : Jvm.MethodName) jdk_29_method_30_code (10 : Nat) (Option.some Jvm.ClassFile.FieldType.long)).before args0 about1 = true := code_word (m := ⟨28, 2⟩) (meth := k28m2) (c := k28c2) (by decide +kernel) rfl rfl rfl (by decide +kernel)
set_option maxRecDepth 65536 in
theorem w_c33 : (Jvm.Cond.code ({ cls := "java/lang/Math", name := "abs", desc := "(J)J" } : Jvm.MethodName) jdk_29_method_61_code (2 : Nat) (Option.some Jvm.ClassFile.FieldType.long)).before args0 about1 = true := code_word (m := ⟨28, 5⟩) (meth := k28m5) (c := k28c5) (by decide +kernel) rfl rfl rfl (by decide +kernel)
set_option maxRecDepth 65536 in
theorem w_c34 : (Jvm.Cond.code ({ cls := "java/lang/Math", name := "max", desc := "(JJ)J" } : Jvm.MethodName) jdk_29_method_66_code (4 : Nat) (Option.some Jvm.ClassFile.FieldType.long)).before args0 about1 = true := code_word (m := ⟨28, 6⟩) (meth := k28m6) (c := k28c6) (by decide +kernel) rfl rfl rfl (by decide +kernel)
def codes1 : List Jvm.Cond := [Jvm.Cond.code x code maxLocals ret, Jvm.Cond.code ({ cls := "com/example/arbiter/arbiter/service/ClaimCursor", name := "<init>", desc := "()V" } : Jvm.MethodName) prog_14_method_1_code (1 : Nat) (Option.none : Option Jvm.ClassFile.FieldType), Jvm.Cond.code ({ cls := "java/lang/Object", name := "<init>", desc := "()V" } : Jvm.MethodName) object_method_1_code (1 : Nat) (Option.none : Option Jvm.ClassFile.FieldType), Jvm.Cond.code ({ cls := "com/example/arbiter/arbiter/store/JobStore$Position", name := "<init>", desc := "(Ljava/time/Instant;J)V" } : Jvm.MethodName) prog_33_method_1_code (4 : Nat) (Option.none : Option Jvm.ClassFile.FieldType), Jvm.Cond.code ({ cls := "java/lang/Record", name := "<init>", desc := "()V" } : Jvm.MethodName) jdk_30_method_1_code (1 : Nat) (Option.none : Option Jvm.ClassFile.FieldType), Jvm.Cond.code ({ cls := "java/util/ArrayList", name := "<init>", desc := "()V" } : Jvm.MethodName) jdk_38_method_2_code (1 : Nat) (Option.none : Option Jvm.ClassFile.FieldType), Jvm.Cond.code ({ cls := "java/util/AbstractList", name := "<init>", desc := "()V" } : Jvm.MethodName) jdk_39_method_1_code (1 : Nat) (Option.none : Option Jvm.ClassFile.FieldType), Jvm.Cond.code ({ cls := "java/util/AbstractCollection", name := "<init>", desc := "()V" } : Jvm.MethodName) jdk_22_method_1_code (1 : Nat) (Option.none : Option Jvm.ClassFile.FieldType), Jvm.Cond.code ({ cls := "com/example/arbiter/arbiter/store/JobStore$Claim", name := "<init>", desc := "(Ljava/util/List;Lcom/example/arbiter/arbiter/store/JobStore$Position;Ljava/time/Instant;)V" } : Jvm.MethodName) prog_32_method_1_code (4 : Nat) (Option.none : Option Jvm.ClassFile.FieldType), Jvm.Cond.code ({ cls := "com/example/arbiter/arbiter/service/ClaimCursor", name := "moved", desc := "(Lcom/example/arbiter/arbiter/store/JobStore$Position;Lcom/example/arbiter/arbiter/store/JobStore$Claim;JJ)V" } : Jvm.MethodName) prog_14_method_3_code (8 : Nat) (Option.none : Option Jvm.ClassFile.FieldType), Jvm.Cond.code ({ cls := "com/example/arbiter/arbiter/store/JobStore$Claim", name := "readAt", desc := "()Ljava/time/Instant;" } : Jvm.MethodName) prog_32_method_7_code (1 : Nat) (Option.some (Jvm.ClassFile.FieldType.object "java/time/Instant")), Jvm.Cond.code ({ cls := "java/time/Instant", name := "minus", desc := "(Ljava/time/temporal/TemporalAmount;)Ljava/time/Instant;" } : Jvm.MethodName) jdk_2320_method_26_code (2 : Nat) (Option.some (Jvm.ClassFile.FieldType.object "java/time/Instant")), Jvm.Cond.code ({ cls := "java/time/Duration", name := "subtractFrom", desc := "(Ljava/time/temporal/Temporal;)Ljava/time/temporal/Temporal;" } : Jvm.MethodName) jdk_2316_method_52_code (2 : Nat) (Option.some (Jvm.ClassFile.FieldType.object "java/time/temporal/Temporal")), Jvm.Cond.code ({ cls := "java/time/Instant", name := "minus", desc := "(JLjava/time/temporal/TemporalUnit;)Ljava/time/temporal/Temporal;" } : Jvm.MethodName) jdk_2320_method_51_code (4 : Nat) (Option.some (Jvm.ClassFile.FieldType.object "java/time/temporal/Temporal")), Jvm.Cond.code ({ cls := "java/time/Instant", name := "minus", desc := "(JLjava/time/temporal/TemporalUnit;)Ljava/time/Instant;" } : Jvm.MethodName) jdk_2320_method_27_code (4 : Nat) (Option.some (Jvm.ClassFile.FieldType.object "java/time/Instant")), Jvm.Cond.code ({ cls := "java/time/Instant", name := "plus", desc := "(JLjava/time/temporal/TemporalUnit;)Ljava/time/Instant;" } : Jvm.MethodName) jdk_2320_method_21_code (5 : Nat) (Option.some (Jvm.ClassFile.FieldType.object "java/time/Instant")), Jvm.Cond.code ({ cls := "java/lang/Enum", name := "ordinal", desc := "()I" } : Jvm.MethodName) jdk_37_method_2_code (1 : Nat) (Option.some Jvm.ClassFile.FieldType.int), Jvm.Cond.code ({ cls := "java/time/Instant", name := "plusNanos", desc := "(J)Ljava/time/Instant;" } : Jvm.MethodName) jdk_2320_method_24_code (3 : Nat) (Option.some (Jvm.ClassFile.FieldType.object "java/time/Instant")), Jvm.Cond.code ({ cls := "java/time/Instant", name := "plus", desc := "(JJ)Ljava/time/Instant;" } : Jvm.MethodName) jdk_2320_method_25_code (9 : Nat) (Option.some (Jvm.ClassFile.FieldType.object "java/time/Instant")), Jvm.Cond.code ({ cls := "java/lang/Math", name := "addExact", desc := "(JJ)J" } : Jvm.MethodName) jdk_29_method_25_code (6 : Nat) (Option.some Jvm.ClassFile.FieldType.long), Jvm.Cond.code ({ cls := "java/time/Instant", name := "ofEpochSecond", desc := "(JJ)Ljava/time/Instant;" } : Jvm.MethodName) jdk_2320_method_4_code (7 : Nat) (Option.some (Jvm.ClassFile.FieldType.object "java/time/Instant")), Jvm.Cond.code ({ cls := "java/lang/Math", name := "floorDiv", desc := "(JJ)J" } : Jvm.MethodName) jdk_29_method_49_code (6 : Nat) (Option.some Jvm.ClassFile.FieldType.long), Jvm.Cond.code ({ cls := "java/lang/Math", name := "floorMod", desc := "(JJ)J" } : Jvm.MethodName) jdk_29_method_52_code (6 : Nat) (Option.some Jvm.ClassFile.FieldType.long), Jvm.Cond.code ({ cls := "java/time/Instant", name := "create", desc := "(JI)Ljava/time/Instant;" } : Jvm.MethodName) jdk_2320_method_8_code (3 : Nat) (Option.some (Jvm.ClassFile.FieldType.object "java/time/Instant")), Jvm.Cond.code ({ cls := "java/time/Instant", name := "<init>", desc := "(JI)V" } : Jvm.MethodName) jdk_2320_method_9_code (4 : Nat) (Option.none : Option Jvm.ClassFile.FieldType), Jvm.Cond.code ({ cls := "com/example/arbiter/arbiter/store/JobStore$Position", name := "after", desc := "(Ljava/time/Instant;)Lcom/example/arbiter/arbiter/store/JobStore$Position;" } : Jvm.MethodName) prog_33_method_2_code (1 : Nat) (Option.some (Jvm.ClassFile.FieldType.object "com/example/arbiter/arbiter/store/JobStore$Position")), Jvm.Cond.code ({ cls := "com/example/arbiter/arbiter/store/JobStore$Claim", name := "end", desc := "()Lcom/example/arbiter/arbiter/store/JobStore$Position;" } : Jvm.MethodName) prog_32_method_6_code (1 : Nat) (Option.some (Jvm.ClassFile.FieldType.object "com/example/arbiter/arbiter/store/JobStore$Position")), Jvm.Cond.code ({ cls := "com/example/arbiter/arbiter/store/JobStore$Position", name := "compareTo", desc := "(Lcom/example/arbiter/arbiter/store/JobStore$Position;)I" } : Jvm.MethodName) prog_33_method_3_code (3 : Nat) (Option.some Jvm.ClassFile.FieldType.int), Jvm.Cond.code ({ cls := "java/time/Instant", name := "compareTo", desc := "(Ljava/time/Instant;)I" } : Jvm.MethodName) jdk_2320_method_41_code (3 : Nat) (Option.some Jvm.ClassFile.FieldType.int), Jvm.Cond.code ({ cls := "java/lang/Long", name := "compare", desc := "(JJ)I" } : Jvm.MethodName) jdk_35_method_42_code (4 : Nat) (Option.some Jvm.ClassFile.FieldType.int), Jvm.Cond.code ({ cls := "com/example/arbiter/arbiter/service/ClaimCursor", name := "from", desc := "(J)Lcom/example/arbiter/arbiter/store/JobStore$Position;" } : Jvm.MethodName) prog_14_method_2_code (5 : Nat) (Option.some (Jvm.ClassFile.FieldType.object "com/example/arbiter/arbiter/store/JobStore$Position")), Jvm.Cond.code ({ cls := "java/time/Duration", name := "toNanos", desc := "()J" } : Jvm.MethodName) jdk_2316_method_58_code (7 : Nat) (Option.some Jvm.ClassFile.FieldType.long), Jvm.Cond.code ({ cls := "java/lang/Math", name := "multiplyExact", desc := "(JJ)J" } : Jvm.MethodName) jdk_29_method_30_code (10 : Nat) (Option.some Jvm.ClassFile.FieldType.long), Jvm.Cond.code ({ cls := "java/lang/Math", name := "abs", desc := "(J)J" } : Jvm.MethodName) jdk_29_method_61_code (2 : Nat) (Option.some Jvm.ClassFile.FieldType.long), Jvm.Cond.code ({ cls := "java/lang/Math", name := "max", desc := "(JJ)J" } : Jvm.MethodName) jdk_29_method_66_code (4 : Nat) (Option.some Jvm.ClassFile.FieldType.long)]
set_option maxRecDepth 65536 in
theorem codes_eq : words1.filter isCode = codes1 := rfl
theorem w_codes : ∀ c ∈ words1.filter isCode, c.before args0 about1 = true := by
  rw [codes_eq]
  intro c hc
  simp only [codes1, List.mem_cons, List.not_mem_nil, or_false] at hc
  rcases hc with rfl | rfl | rfl | rfl | rfl | rfl | rfl | rfl | rfl | rfl | rfl | rfl | rfl | rfl | rfl | rfl | rfl | rfl | rfl | rfl | rfl | rfl | rfl | rfl | rfl | rfl | rfl | rfl | rfl | rfl | rfl | rfl | rfl | rfl | rfl
  · exact w_c0
  · exact w_c1
  · exact w_c2
  · exact w_c3
  · exact w_c4
  · exact w_c5
  · exact w_c6
  · exact w_c7
  · exact w_c8
  · exact w_c9
  · exact w_c10
  · exact w_c11
  · exact w_c12
  · exact w_c13
  · exact w_c14
  · exact w_c15
  · exact w_c16
  · exact w_c17
  · exact w_c18
  · exact w_c19
  · exact w_c20
  · exact w_c21
  · exact w_c22
  · exact w_c23
  · exact w_c24
  · exact w_c25
  · exact w_c26
  · exact w_c27
  · exact w_c28
  · exact w_c29
  · exact w_c30
  · exact w_c31
  · exact w_c32
  · exact w_c33
  · exact w_c34
set_option maxRecDepth 65536 in
theorem w_t1 : (words1.take 24).all (fun c => isCode c || c.before args0 about1) = true := by decide +kernel
set_option maxRecDepth 65536 in
theorem w_t2 : ((words1.drop 24).take 24).all (fun c => isCode c || c.before args0 about1) = true := by decide +kernel
set_option maxRecDepth 65536 in
theorem w_t3 : (((words1.drop 24).drop 24).take 24).all (fun c => isCode c || c.before args0 about1) = true := by decide +kernel
set_option maxRecDepth 65536 in
theorem w_t4 : ((((words1.drop 24).drop 24).drop 24).take 24).all (fun c => isCode c || c.before args0 about1) = true := by decide +kernel
set_option maxRecDepth 65536 in
theorem w_t5 : (((((words1.drop 24).drop 24).drop 24).drop 24).take 24).all (fun c => isCode c || c.before args0 about1) = true := by decide +kernel
set_option maxRecDepth 65536 in
theorem w_t6 : ((((((words1.drop 24).drop 24).drop 24).drop 24).drop 24).take 24).all (fun c => isCode c || c.before args0 about1) = true := by decide +kernel
set_option maxRecDepth 65536 in
theorem w_t7 : (((((((words1.drop 24).drop 24).drop 24).drop 24).drop 24).drop 24).take 24).all (fun c => isCode c || c.before args0 about1) = true := by decide +kernel
set_option maxRecDepth 65536 in
theorem w_t8 : ((((((((words1.drop 24).drop 24).drop 24).drop 24).drop 24).drop 24).drop 24).take 24).all (fun c => isCode c || c.before args0 about1) = true := by decide +kernel
set_option maxRecDepth 65536 in
theorem w_t9 : (((((((((words1.drop 24).drop 24).drop 24).drop 24).drop 24).drop 24).drop 24).drop 24).take 24).all (fun c => isCode c || c.before args0 about1) = true := by decide +kernel
set_option maxRecDepth 65536 in
theorem w_t10 : (((((((((words1.drop 24).drop 24).drop 24).drop 24).drop 24).drop 24).drop 24).drop 24).drop 24).all (fun c => isCode c || c.before args0 about1) = true := by decide +kernel
theorem w_tables : (allAtoms (Jvm.Cond.code x code maxLocals ret :: tables_1)).before args0 about1 = true := by
  rw [allAtoms_all]
  show words1.all (fun c => c.before args0 about1) = true
  refine all_split ?_ w_codes
  rw [← List.take_append_drop 24 words1, List.all_append, w_t1, ← List.take_append_drop 24 (words1.drop 24), List.all_append, w_t2, ← List.take_append_drop 24 ((words1.drop 24).drop 24), List.all_append, w_t3, ← List.take_append_drop 24 (((words1.drop 24).drop 24).drop 24), List.all_append, w_t4, ← List.take_append_drop 24 ((((words1.drop 24).drop 24).drop 24).drop 24), List.all_append, w_t5, ← List.take_append_drop 24 (((((words1.drop 24).drop 24).drop 24).drop 24).drop 24), List.all_append, w_t6, ← List.take_append_drop 24 ((((((words1.drop 24).drop 24).drop 24).drop 24).drop 24).drop 24), List.all_append, w_t7, ← List.take_append_drop 24 (((((((words1.drop 24).drop 24).drop 24).drop 24).drop 24).drop 24).drop 24), List.all_append, w_t8, ← List.take_append_drop 24 ((((((((words1.drop 24).drop 24).drop 24).drop 24).drop 24).drop 24).drop 24).drop 24), List.all_append, w_t9, w_t10]
  rfl
set_option maxRecDepth 65536 in
theorem w_rest : rest_1_c.before args0 about1 = true := by decide +kernel
set_option maxRecDepth 65536 in
theorem w_case : (Jvm.Cond.and given_1 narrow_1).before args0 about1 = true := by decide +kernel
theorem w_applies : (headSpec (Jvm.Cond.code x code maxLocals ret :: tables_1) room_1).applies x e0.platform about1 = true :=
  (Spec.applies_iff w_frames).mpr ⟨w_running, w_runnable, w_alone, w_named, w_hears, w_ripe, w_room, w_tables⟩
theorem atStart : AtStart classFile x code maxLocals ret World_1 tables_1 room_1 Calls_1 rest_1 Pre_1 launch0 p0 e0 about1 theMethod args0 below0 :=
  ⟨lists_1, trivial, launch0.admits_env _ _ _, launch0.least_env, fairChoices_fair.cas, fairChoices_fair.clock, w_frames, w_args, w_heap, w_applies, trivial, w_rest, w_case⟩
end start1
theorem witness_1 : WitnessClaimed_1 := ⟨start1.p0, start1.e0, start1.about1, start1.theMethod, start1.args0, start1.below0, start1.atStart⟩
end Jvm.Pilot.@@N@@
