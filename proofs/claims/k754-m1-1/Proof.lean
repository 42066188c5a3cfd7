import JvmDerived
import JvmDerived.Pilot.@@N@@Statement
import JvmDerived.Pilot.@@N@@Code
set_option linter.unusedVariables false
set_option linter.unusedSimpArgs false
namespace Jvm.Pilot.@@N@@
open Jvm Jvm.ClassFile Sem Op Lib Jvm.Free Jvm.Stand Jvm.LawKit Jvm.RoadKit Bundle Jvm.Pilot.@@N@@.Jvm.D
theorem own_wid {p : Program} {l : Launch} {e : Env} {R : Room} {s : State} {m : MethodId} {args : Array Value} {below : List Frame} {meth : Method} {c : Code} {T : State} {locs : List Loc} {cells slots c' s' : Nat} (X : Stand p l e R s m args below meth c T locs cells slots) (h1 : cells ≤ c') (h2 : slots ≤ s') : Stand p l e R s m args below meth c T locs c' s' :=
  ⟨X.admits, X.cas, X.clock, X.frames, X.room, X.hears, X.method, X.code, X.here, X.tail, X.warmed, X.limits, X.bytes, X.same.mono h1 h2⟩
abbrev Sx (p : Program) (e : Env) (b : List Frame) (T : State) (m : MethodId) (pc : Nat) (L : Array Slot) (S : List Value) (t : State) : Prop := Steps p.tables e b (T.setTop (mkF m pc L S)) t
abbrev xvi (x : Int32) : Slot := .val (.int x)
abbrev xvj (x : Int64) : Slot := .val (.long x)
abbrev xvr (x : Addr) : Slot := .val (.ref x)
abbrev xwi (x : Int32) : Value := .int x
abbrev xwj (x : Int64) : Value := .long x
abbrev xwr (x : Addr) : Value := .ref x
abbrev xun : Slot := .unset
abbrev xse : Slot := .second
theorem own_selp {Z : State} {a0 : Array Value} {y : MethodName} {n : Nat} (wi : (Cond.instantiable y.cls n).before a0 Z = true) (wp : (Cond.privateMethod y).before a0 Z = true) (wn : (Cond.instanceMethod y).before a0 Z = true) (hy : y.cls ≠ "java/lang/invoke/MethodHandle" ∧ y.cls ≠ "java/lang/invoke/VarHandle") : (Cond.selects y.cls y y).before a0 Z = true := by
  obtain ⟨c, k, h1, h2, -, h4, -⟩ := Cond.instantiable_spec wi
  exact Jvm.Stand.selects_self_of_private h1 h2 (Bool.or_eq_false_iff.mp h4).1 (Cond.privateMethod_at wp) wn hy
theorem y_iload {p : Program} {l : Launch} {e : Env} {R : Room} {s : State} {m : MethodId} {args : Array Value} {below : List Frame} {meth : Method} {c : Code} {T : State} {locs : List Loc} {cells slots : Nat} {t : State} {L : Array Slot} {S : List Value} {pc : Nat} (X : Stand p l e R s m args below meth c T locs cells slots) (hx : p.tables.exec = Jvm.exec) {k : Nat} {v : Int32} (q : Nat) (hd : decode c.code pc = .ok (.iload k, 2)) (hl : L[k]? = some (.val (.int v))) (hq : pc + 2 = q) (hr : Sx p e below T m q L (.int v :: S) t) : Sx p e below T m pc L S t := by subst hq; exact XS.iload X.here hx rfl hd hl hr
theorem y_iloadN {p : Program} {l : Launch} {e : Env} {R : Room} {s : State} {m : MethodId} {args : Array Value} {below : List Frame} {meth : Method} {c : Code} {T : State} {locs : List Loc} {cells slots : Nat} {t : State} {L : Array Slot} {S : List Value} {pc : Nat} (X : Stand p l e R s m args below meth c T locs cells slots) (hx : p.tables.exec = Jvm.exec) {k : Fin 4} {v : Int32} (q : Nat) (hd : decode c.code pc = .ok (.iload_n k, 1)) (hl : L[k.val]? = some (.val (.int v))) (hq : pc + 1 = q) (hr : Sx p e below T m q L (.int v :: S) t) : Sx p e below T m pc L S t := by subst hq; exact XS.iloadN X.here hx rfl hd hl hr
theorem y_lload {p : Program} {l : Launch} {e : Env} {R : Room} {s : State} {m : MethodId} {args : Array Value} {below : List Frame} {meth : Method} {c : Code} {T : State} {locs : List Loc} {cells slots : Nat} {t : State} {L : Array Slot} {S : List Value} {pc : Nat} (X : Stand p l e R s m args below meth c T locs cells slots) (hx : p.tables.exec = Jvm.exec) {k : Nat} {v : Int64} (q : Nat) (hd : decode c.code pc = .ok (.lload k, 2)) (hl : L[k]? = some (.val (.long v))) (hq : pc + 2 = q) (hr : Sx p e below T m q L (.long v :: S) t) : Sx p e below T m pc L S t := by subst hq; exact XS.lload X.here hx rfl hd hl hr
theorem y_lloadN {p : Program} {l : Launch} {e : Env} {R : Room} {s : State} {m : MethodId} {args : Array Value} {below : List Frame} {meth : Method} {c : Code} {T : State} {locs : List Loc} {cells slots : Nat} {t : State} {L : Array Slot} {S : List Value} {pc : Nat} (X : Stand p l e R s m args below meth c T locs cells slots) (hx : p.tables.exec = Jvm.exec) {k : Fin 4} {v : Int64} (q : Nat) (hd : decode c.code pc = .ok (.lload_n k, 1)) (hl : L[k.val]? = some (.val (.long v))) (hq : pc + 1 = q) (hr : Sx p e below T m q L (.long v :: S) t) : Sx p e below T m pc L S t := by subst hq; exact XS.lloadN X.here hx rfl hd hl hr
theorem y_aload {p : Program} {l : Launch} {e : Env} {R : Room} {s : State} {m : MethodId} {args : Array Value} {below : List Frame} {meth : Method} {c : Code} {T : State} {locs : List Loc} {cells slots : Nat} {t : State} {L : Array Slot} {S : List Value} {pc : Nat} (X : Stand p l e R s m args below meth c T locs cells slots) (hx : p.tables.exec = Jvm.exec) {k : Nat} {v : Value} (q : Nat) (hd : decode c.code pc = .ok (.aload k, 2)) (hl : L[k]? = some (.val v)) (hv : v.isRef = true) (hq : pc + 2 = q) (hr : Sx p e below T m q L (v :: S) t) : Sx p e below T m pc L S t := by subst hq; exact XS.aload X.here hx rfl hd hl hv hr
theorem y_aloadN {p : Program} {l : Launch} {e : Env} {R : Room} {s : State} {m : MethodId} {args : Array Value} {below : List Frame} {meth : Method} {c : Code} {T : State} {locs : List Loc} {cells slots : Nat} {t : State} {L : Array Slot} {S : List Value} {pc : Nat} (X : Stand p l e R s m args below meth c T locs cells slots) (hx : p.tables.exec = Jvm.exec) {k : Fin 4} {v : Value} (q : Nat) (hd : decode c.code pc = .ok (.aload_n k, 1)) (hl : L[k.val]? = some (.val v)) (hv : v.isRef = true) (hq : pc + 1 = q) (hr : Sx p e below T m q L (v :: S) t) : Sx p e below T m pc L S t := by subst hq; exact XS.aloadN X.here hx rfl hd hl hv hr
theorem y_iconst {p : Program} {l : Launch} {e : Env} {R : Room} {s : State} {m : MethodId} {args : Array Value} {below : List Frame} {meth : Method} {c : Code} {T : State} {locs : List Loc} {cells slots : Nat} {t : State} {L : Array Slot} {S : List Value} {pc : Nat} (X : Stand p l e R s m args below meth c T locs cells slots) (hx : p.tables.exec = Jvm.exec) {i : Int} (z : Int32) (q : Nat) (hd : decode c.code pc = .ok (.iconst i, 1)) (hz : Int32.ofInt i = z) (hq : pc + 1 = q) (hr : Sx p e below T m q L (.int z :: S) t) : Sx p e below T m pc L S t := by subst hq; exact XS.iconst X.here hx rfl hd (by rw [hz]; exact hr)
theorem y_bipush {p : Program} {l : Launch} {e : Env} {R : Room} {s : State} {m : MethodId} {args : Array Value} {below : List Frame} {meth : Method} {c : Code} {T : State} {locs : List Loc} {cells slots : Nat} {t : State} {L : Array Slot} {S : List Value} {pc : Nat} (X : Stand p l e R s m args below meth c T locs cells slots) (hx : p.tables.exec = Jvm.exec) {i : Int} (z : Int32) (q : Nat) (hd : decode c.code pc = .ok (.bipush i, 2)) (hz : (Int8.ofInt i).toInt32 = z) (hq : pc + 2 = q) (hr : Sx p e below T m q L (.int z :: S) t) : Sx p e below T m pc L S t := by subst hq; exact XS.bipush X.here hx rfl hd (by rw [hz]; exact hr)
theorem y_sipush {p : Program} {l : Launch} {e : Env} {R : Room} {s : State} {m : MethodId} {args : Array Value} {below : List Frame} {meth : Method} {c : Code} {T : State} {locs : List Loc} {cells slots : Nat} {t : State} {L : Array Slot} {S : List Value} {pc : Nat} (X : Stand p l e R s m args below meth c T locs cells slots) (hx : p.tables.exec = Jvm.exec) {i : Int} (z : Int32) (q : Nat) (hd : decode c.code pc = .ok (.sipush i, 3)) (hz : (Int16.ofInt i).toInt32 = z) (hq : pc + 3 = q) (hr : Sx p e below T m q L (.int z :: S) t) : Sx p e below T m pc L S t := by subst hq; exact XS.sipush X.here hx rfl hd (by rw [hz]; exact hr)
theorem y_aconst_null {p : Program} {l : Launch} {e : Env} {R : Room} {s : State} {m : MethodId} {args : Array Value} {below : List Frame} {meth : Method} {c : Code} {T : State} {locs : List Loc} {cells slots : Nat} {t : State} {L : Array Slot} {S : List Value} {pc : Nat} (X : Stand p l e R s m args below meth c T locs cells slots) (hx : p.tables.exec = Jvm.exec) (q : Nat) (hd : decode c.code pc = .ok (.aconst_null, 1)) (hq : pc + 1 = q) (hr : Sx p e below T m q L (.null :: S) t) : Sx p e below T m pc L S t := by subst hq; exact XS.aconstNull X.here hx rfl hd hr
theorem y_iadd {p : Program} {l : Launch} {e : Env} {R : Room} {s : State} {m : MethodId} {args : Array Value} {below : List Frame} {meth : Method} {c : Code} {T : State} {locs : List Loc} {cells slots : Nat} {t : State} {L : Array Slot} {S : List Value} {pc : Nat} (X : Stand p l e R s m args below meth c T locs cells slots) (hx : p.tables.exec = Jvm.exec) {x y : Int32} (q : Nat) (hd : decode c.code pc = .ok (.iadd, 1)) (hq : pc + 1 = q) (hr : Sx p e below T m q L (.int (x + y) :: S) t) : Sx p e below T m pc L (.int y :: .int x :: S) t := by subst hq; exact XS.iadd X.here hx rfl hd rfl hr
theorem y_ladd {p : Program} {l : Launch} {e : Env} {R : Room} {s : State} {m : MethodId} {args : Array Value} {below : List Frame} {meth : Method} {c : Code} {T : State} {locs : List Loc} {cells slots : Nat} {t : State} {L : Array Slot} {S : List Value} {pc : Nat} (X : Stand p l e R s m args below meth c T locs cells slots) (hx : p.tables.exec = Jvm.exec) {x y : Int64} (q : Nat) (hd : decode c.code pc = .ok (.ladd, 1)) (hq : pc + 1 = q) (hr : Sx p e below T m q L (.long (x + y) :: S) t) : Sx p e below T m pc L (.long y :: .long x :: S) t := by subst hq; exact XS.ladd X.here hx rfl hd rfl hr
theorem y_isub {p : Program} {l : Launch} {e : Env} {R : Room} {s : State} {m : MethodId} {args : Array Value} {below : List Frame} {meth : Method} {c : Code} {T : State} {locs : List Loc} {cells slots : Nat} {t : State} {L : Array Slot} {S : List Value} {pc : Nat} (X : Stand p l e R s m args below meth c T locs cells slots) (hx : p.tables.exec = Jvm.exec) {x y : Int32} (q : Nat) (hd : decode c.code pc = .ok (.isub, 1)) (hq : pc + 1 = q) (hr : Sx p e below T m q L (.int (x - y) :: S) t) : Sx p e below T m pc L (.int y :: .int x :: S) t := by subst hq; exact XS.isub X.here hx rfl hd rfl hr
theorem y_lsub {p : Program} {l : Launch} {e : Env} {R : Room} {s : State} {m : MethodId} {args : Array Value} {below : List Frame} {meth : Method} {c : Code} {T : State} {locs : List Loc} {cells slots : Nat} {t : State} {L : Array Slot} {S : List Value} {pc : Nat} (X : Stand p l e R s m args below meth c T locs cells slots) (hx : p.tables.exec = Jvm.exec) {x y : Int64} (q : Nat) (hd : decode c.code pc = .ok (.lsub, 1)) (hq : pc + 1 = q) (hr : Sx p e below T m q L (.long (x - y) :: S) t) : Sx p e below T m pc L (.long y :: .long x :: S) t := by subst hq; exact XS.lsub X.here hx rfl hd rfl hr
theorem y_imul {p : Program} {l : Launch} {e : Env} {R : Room} {s : State} {m : MethodId} {args : Array Value} {below : List Frame} {meth : Method} {c : Code} {T : State} {locs : List Loc} {cells slots : Nat} {t : State} {L : Array Slot} {S : List Value} {pc : Nat} (X : Stand p l e R s m args below meth c T locs cells slots) (hx : p.tables.exec = Jvm.exec) {x y : Int32} (q : Nat) (hd : decode c.code pc = .ok (.imul, 1)) (hq : pc + 1 = q) (hr : Sx p e below T m q L (.int (x * y) :: S) t) : Sx p e below T m pc L (.int y :: .int x :: S) t := by subst hq; exact XS.imul X.here hx rfl hd rfl hr
theorem y_lmul {p : Program} {l : Launch} {e : Env} {R : Room} {s : State} {m : MethodId} {args : Array Value} {below : List Frame} {meth : Method} {c : Code} {T : State} {locs : List Loc} {cells slots : Nat} {t : State} {L : Array Slot} {S : List Value} {pc : Nat} (X : Stand p l e R s m args below meth c T locs cells slots) (hx : p.tables.exec = Jvm.exec) {x y : Int64} (q : Nat) (hd : decode c.code pc = .ok (.lmul, 1)) (hq : pc + 1 = q) (hr : Sx p e below T m q L (.long (x * y) :: S) t) : Sx p e below T m pc L (.long y :: .long x :: S) t := by subst hq; exact XS.lmul X.here hx rfl hd rfl hr
theorem y_iand {p : Program} {l : Launch} {e : Env} {R : Room} {s : State} {m : MethodId} {args : Array Value} {below : List Frame} {meth : Method} {c : Code} {T : State} {locs : List Loc} {cells slots : Nat} {t : State} {L : Array Slot} {S : List Value} {pc : Nat} (X : Stand p l e R s m args below meth c T locs cells slots) (hx : p.tables.exec = Jvm.exec) {x y : Int32} (q : Nat) (hd : decode c.code pc = .ok (.iand, 1)) (hq : pc + 1 = q) (hr : Sx p e below T m q L (.int (x &&& y) :: S) t) : Sx p e below T m pc L (.int y :: .int x :: S) t := by subst hq; exact XS.iand X.here hx rfl hd rfl hr
theorem y_land {p : Program} {l : Launch} {e : Env} {R : Room} {s : State} {m : MethodId} {args : Array Value} {below : List Frame} {meth : Method} {c : Code} {T : State} {locs : List Loc} {cells slots : Nat} {t : State} {L : Array Slot} {S : List Value} {pc : Nat} (X : Stand p l e R s m args below meth c T locs cells slots) (hx : p.tables.exec = Jvm.exec) {x y : Int64} (q : Nat) (hd : decode c.code pc = .ok (.land, 1)) (hq : pc + 1 = q) (hr : Sx p e below T m q L (.long (x &&& y) :: S) t) : Sx p e below T m pc L (.long y :: .long x :: S) t := by subst hq; exact XS.land X.here hx rfl hd rfl hr
theorem y_ior {p : Program} {l : Launch} {e : Env} {R : Room} {s : State} {m : MethodId} {args : Array Value} {below : List Frame} {meth : Method} {c : Code} {T : State} {locs : List Loc} {cells slots : Nat} {t : State} {L : Array Slot} {S : List Value} {pc : Nat} (X : Stand p l e R s m args below meth c T locs cells slots) (hx : p.tables.exec = Jvm.exec) {x y : Int32} (q : Nat) (hd : decode c.code pc = .ok (.ior, 1)) (hq : pc + 1 = q) (hr : Sx p e below T m q L (.int (x ||| y) :: S) t) : Sx p e below T m pc L (.int y :: .int x :: S) t := by subst hq; exact XS.ior X.here hx rfl hd rfl hr
theorem y_lor {p : Program} {l : Launch} {e : Env} {R : Room} {s : State} {m : MethodId} {args : Array Value} {below : List Frame} {meth : Method} {c : Code} {T : State} {locs : List Loc} {cells slots : Nat} {t : State} {L : Array Slot} {S : List Value} {pc : Nat} (X : Stand p l e R s m args below meth c T locs cells slots) (hx : p.tables.exec = Jvm.exec) {x y : Int64} (q : Nat) (hd : decode c.code pc = .ok (.lor, 1)) (hq : pc + 1 = q) (hr : Sx p e below T m q L (.long (x ||| y) :: S) t) : Sx p e below T m pc L (.long y :: .long x :: S) t := by subst hq; exact XS.lor X.here hx rfl hd rfl hr
theorem y_ixor {p : Program} {l : Launch} {e : Env} {R : Room} {s : State} {m : MethodId} {args : Array Value} {below : List Frame} {meth : Method} {c : Code} {T : State} {locs : List Loc} {cells slots : Nat} {t : State} {L : Array Slot} {S : List Value} {pc : Nat} (X : Stand p l e R s m args below meth c T locs cells slots) (hx : p.tables.exec = Jvm.exec) {x y : Int32} (q : Nat) (hd : decode c.code pc = .ok (.ixor, 1)) (hq : pc + 1 = q) (hr : Sx p e below T m q L (.int (x ^^^ y) :: S) t) : Sx p e below T m pc L (.int y :: .int x :: S) t := by subst hq; exact XS.ixor X.here hx rfl hd rfl hr
theorem y_lxor {p : Program} {l : Launch} {e : Env} {R : Room} {s : State} {m : MethodId} {args : Array Value} {below : List Frame} {meth : Method} {c : Code} {T : State} {locs : List Loc} {cells slots : Nat} {t : State} {L : Array Slot} {S : List Value} {pc : Nat} (X : Stand p l e R s m args below meth c T locs cells slots) (hx : p.tables.exec = Jvm.exec) {x y : Int64} (q : Nat) (hd : decode c.code pc = .ok (.lxor, 1)) (hq : pc + 1 = q) (hr : Sx p e below T m q L (.long (x ^^^ y) :: S) t) : Sx p e below T m pc L (.long y :: .long x :: S) t := by subst hq; exact XS.lxor X.here hx rfl hd rfl hr
theorem y_goto {p : Program} {l : Launch} {e : Env} {R : Room} {s : State} {m : MethodId} {args : Array Value} {below : List Frame} {meth : Method} {c : Code} {T : State} {locs : List Loc} {cells slots : Nat} {t : State} {L : Array Slot} {S : List Value} {pc : Nat} (X : Stand p l e R s m args below meth c T locs cells slots) (hx : p.tables.exec = Jvm.exec) {o : Int} (q : Nat) (hd : decode c.code pc = .ok (.goto o, 3)) (ho : 0 ≤ (pc : Int) + o) (hq : ((pc : Int) + o).toNat = q) (hr : Sx p e below T m q L S t) : Sx p e below T m pc L S t := by subst hq; exact XS.goto X.here hx rfl rfl hd ho rfl hr
theorem y_ifYes {p : Program} {l : Launch} {e : Env} {R : Room} {s : State} {m : MethodId} {args : Array Value} {below : List Frame} {meth : Method} {c : Code} {T : State} {locs : List Loc} {cells slots : Nat} {t : State} {L : Array Slot} {S : List Value} {pc : Nat} (X : Stand p l e R s m args below meth c T locs cells slots) (hx : p.tables.exec = Jvm.exec) {cd : ClassFile.Cond} {x : Int32} {o : Int} (q : Nat) (hd : decode c.code pc = .ok (.ifCond cd o, 3)) (hc : ifCond.holds cd x = true) (ho : 0 ≤ (pc : Int) + o) (hq : ((pc : Int) + o).toNat = q) (hr : Sx p e below T m q L S t) : Sx p e below T m pc L (.int x :: S) t := by subst hq; exact XS.ifYes X.here hx rfl rfl hd rfl hc ho rfl hr
theorem y_ifNo {p : Program} {l : Launch} {e : Env} {R : Room} {s : State} {m : MethodId} {args : Array Value} {below : List Frame} {meth : Method} {c : Code} {T : State} {locs : List Loc} {cells slots : Nat} {t : State} {L : Array Slot} {S : List Value} {pc : Nat} (X : Stand p l e R s m args below meth c T locs cells slots) (hx : p.tables.exec = Jvm.exec) {cd : ClassFile.Cond} {x : Int32} {o : Int} (q : Nat) (hd : decode c.code pc = .ok (.ifCond cd o, 3)) (hc : ifCond.holds cd x = false) (hq : pc + 3 = q) (hr : Sx p e below T m q L S t) : Sx p e below T m pc L (.int x :: S) t := by subst hq; exact XS.ifNo X.here hx rfl hd rfl hc hr
theorem y_icmpYes {p : Program} {l : Launch} {e : Env} {R : Room} {s : State} {m : MethodId} {args : Array Value} {below : List Frame} {meth : Method} {c : Code} {T : State} {locs : List Loc} {cells slots : Nat} {t : State} {L : Array Slot} {S : List Value} {pc : Nat} (X : Stand p l e R s m args below meth c T locs cells slots) (hx : p.tables.exec = Jvm.exec) {cd : ClassFile.Cond} {x y : Int32} {o : Int} (q : Nat) (hd : decode c.code pc = .ok (.if_icmp cd o, 3)) (hc : if_icmp.holds cd x y = true) (ho : 0 ≤ (pc : Int) + o) (hq : ((pc : Int) + o).toNat = q) (hr : Sx p e below T m q L S t) : Sx p e below T m pc L (.int y :: .int x :: S) t := by subst hq; exact XS.icmpYes X.here hx rfl rfl hd rfl hc ho rfl hr
theorem y_icmpNo {p : Program} {l : Launch} {e : Env} {R : Room} {s : State} {m : MethodId} {args : Array Value} {below : List Frame} {meth : Method} {c : Code} {T : State} {locs : List Loc} {cells slots : Nat} {t : State} {L : Array Slot} {S : List Value} {pc : Nat} (X : Stand p l e R s m args below meth c T locs cells slots) (hx : p.tables.exec = Jvm.exec) {cd : ClassFile.Cond} {x y : Int32} {o : Int} (q : Nat) (hd : decode c.code pc = .ok (.if_icmp cd o, 3)) (hc : if_icmp.holds cd x y = false) (hq : pc + 3 = q) (hr : Sx p e below T m q L S t) : Sx p e below T m pc L (.int y :: .int x :: S) t := by subst hq; exact XS.icmpNo X.here hx rfl hd rfl hc hr
theorem y_dup {p : Program} {l : Launch} {e : Env} {R : Room} {s : State} {m : MethodId} {args : Array Value} {below : List Frame} {meth : Method} {c : Code} {T : State} {locs : List Loc} {cells slots : Nat} {t : State} {L : Array Slot} {S : List Value} {pc : Nat} (X : Stand p l e R s m args below meth c T locs cells slots) (hx : p.tables.exec = Jvm.exec) {v : Value} (q : Nat) (hd : decode c.code pc = .ok (.dup, 1)) (hc : v.category = 1) (hq : pc + 1 = q) (hr : Sx p e below T m q L (v :: v :: S) t) : Sx p e below T m pc L (v :: S) t := by subst hq; exact XS.dup X.here hx rfl hd rfl hc hr
theorem y_pop {p : Program} {l : Launch} {e : Env} {R : Room} {s : State} {m : MethodId} {args : Array Value} {below : List Frame} {meth : Method} {c : Code} {T : State} {locs : List Loc} {cells slots : Nat} {t : State} {L : Array Slot} {S : List Value} {pc : Nat} (X : Stand p l e R s m args below meth c T locs cells slots) (hx : p.tables.exec = Jvm.exec) {v : Value} (q : Nat) (hd : decode c.code pc = .ok (.pop, 1)) (hc : v.category = 1) (hq : pc + 1 = q) (hr : Sx p e below T m q L S t) : Sx p e below T m pc L (v :: S) t := by subst hq; exact XS.pop X.here hx rfl hd rfl hc hr
theorem own_nar {v : Value} {t : FieldType} (h : v.isRef = true) (ht : t.isReference = true) : narrow t v = v := by
  rcases XT.refc h with rfl | ⟨r, rfl⟩ <;> cases t <;> first | rfl | cases ht
theorem own_fit {v : Value} {t : FieldType} (h : v.isRef = true) (ht : t.isReference = true) : fits t v = true := by
  rcases XT.refc h with rfl | ⟨r, rfl⟩ <;> cases t <;> first | rfl | cases ht
abbrev HW (a0 : Array Value) (Z : State) : Prop := ∀ d ∈ tables_1, d.before a0 Z = true
theorem w_at {a0 : Array Value} {Z : State} (hw : HW a0 Z) {d : Jvm.Cond} (i : Nat) (h : tables_1[i]? = some d) : d.before a0 Z = true := hw _ (List.mem_of_getElem? h)
theorem w_0 {a0 : Array Value} {Z : State} (hw : HW a0 Z) : (Cond.constant "com/example/planwright/planwright/model/DecimalsIsDigitsPinLaw" 7 (65535 : Int32)).before a0 Z = true := w_at hw 0 rfl
theorem w_1 {a0 : Array Value} {Z : State} (hw : HW a0 Z) : (Cond.methodLink "com/example/planwright/planwright/model/DecimalsIsDigitsPinLaw" 8 ⟨"com/example/planwright/planwright/model/DecimalsIsDigitsPinLaw", "pick", "(II)C"⟩).before a0 Z = true := w_at hw 1 rfl
theorem w_2 {a0 : Array Value} {Z : State} (hw : HW a0 Z) : (Cond.static ⟨"com/example/planwright/planwright/model/DecimalsIsDigitsPinLaw", "pick", "(II)C"⟩).before a0 Z = true := w_at hw 2 rfl
theorem w_3 {a0 : Array Value} {Z : State} (hw : HW a0 Z) : (Cond.initialized "com/example/planwright/planwright/model/DecimalsIsDigitsPinLaw").before a0 Z = true := w_at hw 3 rfl
theorem w_4 {a0 : Array Value} {Z : State} (hw : HW a0 Z) : (Cond.code ⟨"com/example/planwright/planwright/model/DecimalsIsDigitsPinLaw", "pick", "(II)C"⟩ method_3_code 2 (Option.some FieldType.char)).before a0 Z = true := w_at hw 4 rfl
theorem w_5 {a0 : Array Value} {Z : State} (hw : HW a0 Z) : (Cond.constant "com/example/planwright/planwright/model/DecimalsIsDigitsPinLaw" 14 (2147483647 : Int32)).before a0 Z = true := w_at hw 5 rfl
theorem w_6 {a0 : Array Value} {Z : State} (hw : HW a0 Z) : (Cond.arrayClass FieldType.char).before a0 Z = true := w_at hw 6 rfl
theorem w_7 {a0 : Array Value} {Z : State} (hw : HW a0 Z) : (Cond.classLink "com/example/planwright/planwright/model/DecimalsIsDigitsPinLaw" 15 "java/lang/String").before a0 Z = true := w_at hw 7 rfl
theorem w_8 {a0 : Array Value} {Z : State} (hw : HW a0 Z) : (Cond.instantiable "java/lang/String" 4).before a0 Z = true := w_at hw 8 rfl
theorem w_9 {a0 : Array Value} {Z : State} (hw : HW a0 Z) : (Cond.initialized "java/lang/String").before a0 Z = true := w_at hw 9 rfl
theorem w_10 {a0 : Array Value} {Z : State} (hw : HW a0 Z) : (Cond.methodLink "com/example/planwright/planwright/model/DecimalsIsDigitsPinLaw" 17 ⟨"java/lang/String", "<init>", "([C)V"⟩).before a0 Z = true := w_at hw 10 rfl
theorem w_11 {a0 : Array Value} {Z : State} (hw : HW a0 Z) : (Cond.instanceMethod ⟨"java/lang/String", "<init>", "([C)V"⟩).before a0 Z = true := w_at hw 11 rfl
theorem w_12 {a0 : Array Value} {Z : State} (hw : HW a0 Z) : (Cond.code ⟨"java/lang/String", "<init>", "([C)V"⟩ jdk_42_method_3_code 2 (Option.none : Option FieldType)).before a0 Z = true := w_at hw 12 rfl
theorem w_13 {a0 : Array Value} {Z : State} (hw : HW a0 Z) : (Cond.methodLink "java/lang/String" 27 ⟨"java/lang/String", "<init>", "([CIILjava/lang/Void;)V"⟩).before a0 Z = true := w_at hw 13 rfl
theorem w_14 {a0 : Array Value} {Z : State} (hw : HW a0 Z) : (Cond.instanceMethod ⟨"java/lang/String", "<init>", "([CIILjava/lang/Void;)V"⟩).before a0 Z = true := w_at hw 14 rfl
theorem w_16 {a0 : Array Value} {Z : State} (hw : HW a0 Z) : (Cond.code ⟨"java/lang/String", "<init>", "([CIILjava/lang/Void;)V"⟩ jdk_42_method_149_code 6 (Option.none : Option FieldType)).before a0 Z = true := w_at hw 16 rfl
theorem w_17 {a0 : Array Value} {Z : State} (hw : HW a0 Z) : (Cond.methodLink "java/lang/String" 1 ⟨"java/lang/Object", "<init>", "()V"⟩).before a0 Z = true := w_at hw 17 rfl
theorem w_18 {a0 : Array Value} {Z : State} (hw : HW a0 Z) : (Cond.instanceMethod ⟨"java/lang/Object", "<init>", "()V"⟩).before a0 Z = true := w_at hw 18 rfl
theorem w_19 {a0 : Array Value} {Z : State} (hw : HW a0 Z) : (Cond.code ⟨"java/lang/Object", "<init>", "()V"⟩ object_method_1_code 1 (Option.none : Option FieldType)).before a0 Z = true := w_at hw 19 rfl
theorem w_20 {a0 : Array Value} {Z : State} (hw : HW a0 Z) : (Cond.fieldLink "java/lang/String" 38 "java/lang/String" "COMPACT_STRINGS" "Z").before a0 Z = true := w_at hw 20 rfl
theorem w_21 {a0 : Array Value} {Z : State} (hw : HW a0 Z) : (Cond.methodLink "java/lang/String" 177 ⟨"java/lang/StringUTF16", "compress", "([CII)[B"⟩).before a0 Z = true := w_at hw 21 rfl
theorem w_22 {a0 : Array Value} {Z : State} (hw : HW a0 Z) : (Cond.static ⟨"java/lang/StringUTF16", "compress", "([CII)[B"⟩).before a0 Z = true := w_at hw 22 rfl
theorem w_23 {a0 : Array Value} {Z : State} (hw : HW a0 Z) : (Cond.initialized "java/lang/StringUTF16").before a0 Z = true := w_at hw 23 rfl
theorem w_24 {a0 : Array Value} {Z : State} (hw : HW a0 Z) : (Cond.code ⟨"java/lang/StringUTF16", "compress", "([CII)[B"⟩ jdk_52_method_16_code 6 (Option.some (FieldType.array FieldType.byte))).before a0 Z = true := w_at hw 24 rfl
theorem w_25 {a0 : Array Value} {Z : State} (hw : HW a0 Z) : (Cond.arrayClass FieldType.byte).before a0 Z = true := w_at hw 25 rfl
theorem w_26 {a0 : Array Value} {Z : State} (hw : HW a0 Z) : (Cond.methodLink "java/lang/StringUTF16" 115 ⟨"java/lang/StringUTF16", "compress", "([CI[BII)I"⟩).before a0 Z = true := w_at hw 26 rfl
theorem w_27 {a0 : Array Value} {Z : State} (hw : HW a0 Z) : (Cond.static ⟨"java/lang/StringUTF16", "compress", "([CI[BII)I"⟩).before a0 Z = true := w_at hw 27 rfl
theorem w_28 {a0 : Array Value} {Z : State} (hw : HW a0 Z) : (Cond.code ⟨"java/lang/StringUTF16", "compress", "([CI[BII)I"⟩ jdk_52_method_21_code 7 (Option.some FieldType.int)).before a0 Z = true := w_at hw 28 rfl
theorem w_29 {a0 : Array Value} {Z : State} (hw : HW a0 Z) : (Cond.methodLink "java/lang/String" 47 ⟨"java/lang/StringUTF16", "coderFromArrayLen", "([BI)B"⟩).before a0 Z = true := w_at hw 29 rfl
theorem w_30 {a0 : Array Value} {Z : State} (hw : HW a0 Z) : (Cond.static ⟨"java/lang/StringUTF16", "coderFromArrayLen", "([BI)B"⟩).before a0 Z = true := w_at hw 30 rfl
theorem w_31 {a0 : Array Value} {Z : State} (hw : HW a0 Z) : (Cond.code ⟨"java/lang/StringUTF16", "coderFromArrayLen", "([BI)B"⟩ jdk_52_method_15_code 2 (Option.some FieldType.byte)).before a0 Z = true := w_at hw 31 rfl
theorem w_32 {a0 : Array Value} {Z : State} (hw : HW a0 Z) : (Cond.fieldLink "java/lang/String" 15 "java/lang/String" "coder" "B").before a0 Z = true := w_at hw 32 rfl
theorem w_33 {a0 : Array Value} {Z : State} (hw : HW a0 Z) : (Cond.laysFinal "java/lang/String" "java/lang/String" "coder" "B").before a0 Z = true := w_at hw 33 rfl
theorem w_34 {a0 : Array Value} {Z : State} (hw : HW a0 Z) : (Cond.fieldLink "java/lang/String" 9 "java/lang/String" "value" "[B").before a0 Z = true := w_at hw 34 rfl
theorem w_35 {a0 : Array Value} {Z : State} (hw : HW a0 Z) : (Cond.laysFinal "java/lang/String" "java/lang/String" "value" "[B").before a0 Z = true := w_at hw 35 rfl
theorem w_36 {a0 : Array Value} {Z : State} (hw : HW a0 Z) : (Cond.methodLink "com/example/planwright/planwright/model/DecimalsIsDigitsPinLaw" 20 ⟨"com/example/planwright/planwright/model/DecimalsIsDigitsPinLaw", "ok", "(CIII)Z"⟩).before a0 Z = true := w_at hw 36 rfl
theorem w_37 {a0 : Array Value} {Z : State} (hw : HW a0 Z) : (Cond.static ⟨"com/example/planwright/planwright/model/DecimalsIsDigitsPinLaw", "ok", "(CIII)Z"⟩).before a0 Z = true := w_at hw 37 rfl
theorem w_38 {a0 : Array Value} {Z : State} (hw : HW a0 Z) : (Cond.code ⟨"com/example/planwright/planwright/model/DecimalsIsDigitsPinLaw", "ok", "(CIII)Z"⟩ method_4_code 5 (Option.some FieldType.boolean)).before a0 Z = true := w_at hw 38 rfl
theorem w_39 {a0 : Array Value} {Z : State} (hw : HW a0 Z) : (Cond.methodLink "com/example/planwright/planwright/model/DecimalsIsDigitsPinLaw" 24 ⟨"com/example/planwright/planwright/model/Decimals", "isDigits", "(Ljava/lang/String;II)Z"⟩).before a0 Z = true := w_at hw 39 rfl
theorem w_40 {a0 : Array Value} {Z : State} (hw : HW a0 Z) : (Cond.static ⟨"com/example/planwright/planwright/model/Decimals", "isDigits", "(Ljava/lang/String;II)Z"⟩).before a0 Z = true := w_at hw 40 rfl
theorem w_41 {a0 : Array Value} {Z : State} (hw : HW a0 Z) : (Cond.initialized "com/example/planwright/planwright/model/Decimals").before a0 Z = true := w_at hw 41 rfl
theorem w_42 {a0 : Array Value} {Z : State} (hw : HW a0 Z) : (Cond.code ⟨"com/example/planwright/planwright/model/Decimals", "isDigits", "(Ljava/lang/String;II)Z"⟩ prog_39_method_2_code 5 (Option.some FieldType.boolean)).before a0 Z = true := w_at hw 42 rfl
theorem w_43 {a0 : Array Value} {Z : State} (hw : HW a0 Z) : (Cond.methodLink "com/example/planwright/planwright/model/Decimals" 7 ⟨"java/lang/String", "charAt", "(I)C"⟩).before a0 Z = true := w_at hw 43 rfl
theorem w_44 {a0 : Array Value} {Z : State} (hw : HW a0 Z) : (Cond.declares ⟨"java/lang/String", "charAt", "(I)C"⟩).before a0 Z = true := w_at hw 44 rfl
theorem w_45 {a0 : Array Value} {Z : State} (hw : HW a0 Z) : (Cond.instanceMethod ⟨"java/lang/String", "charAt", "(I)C"⟩).before a0 Z = true := w_at hw 45 rfl
theorem w_46 {a0 : Array Value} {Z : State} (hw : HW a0 Z) : (Cond.selects "java/lang/String" ⟨"java/lang/String", "charAt", "(I)C"⟩ ⟨"java/lang/String", "charAt", "(I)C"⟩).before a0 Z = true := w_at hw 46 rfl
theorem w_47 {a0 : Array Value} {Z : State} (hw : HW a0 Z) : (Cond.code ⟨"java/lang/String", "charAt", "(I)C"⟩ jdk_42_method_56_code 2 (Option.some FieldType.char)).before a0 Z = true := w_at hw 47 rfl
theorem w_48 {a0 : Array Value} {Z : State} (hw : HW a0 Z) : (Cond.methodLink "java/lang/String" 492 ⟨"java/lang/String", "isLatin1", "()Z"⟩).before a0 Z = true := w_at hw 48 rfl
theorem w_49 {a0 : Array Value} {Z : State} (hw : HW a0 Z) : (Cond.declares ⟨"java/lang/String", "isLatin1", "()Z"⟩).before a0 Z = true := w_at hw 49 rfl
theorem w_50 {a0 : Array Value} {Z : State} (hw : HW a0 Z) : (Cond.instanceMethod ⟨"java/lang/String", "isLatin1", "()Z"⟩).before a0 Z = true := w_at hw 50 rfl
theorem w_51 {a0 : Array Value} {Z : State} (hw : HW a0 Z) : (Cond.selects "java/lang/String" ⟨"java/lang/String", "isLatin1", "()Z"⟩ ⟨"java/lang/String", "isLatin1", "()Z"⟩).before a0 Z = true := w_at hw 51 rfl
theorem w_52 {a0 : Array Value} {Z : State} (hw : HW a0 Z) : (Cond.code ⟨"java/lang/String", "isLatin1", "()Z"⟩ jdk_42_method_154_code 1 (Option.some FieldType.boolean)).before a0 Z = true := w_at hw 52 rfl
theorem w_53 {a0 : Array Value} {Z : State} (hw : HW a0 Z) : (Cond.methodLink "java/lang/String" 495 ⟨"java/lang/StringLatin1", "charAt", "([BI)C"⟩).before a0 Z = true := w_at hw 53 rfl
theorem w_54 {a0 : Array Value} {Z : State} (hw : HW a0 Z) : (Cond.static ⟨"java/lang/StringLatin1", "charAt", "([BI)C"⟩).before a0 Z = true := w_at hw 54 rfl
theorem w_55 {a0 : Array Value} {Z : State} (hw : HW a0 Z) : (Cond.initialized "java/lang/StringLatin1").before a0 Z = true := w_at hw 55 rfl
theorem w_56 {a0 : Array Value} {Z : State} (hw : HW a0 Z) : (Cond.code ⟨"java/lang/StringLatin1", "charAt", "([BI)C"⟩ jdk_43_method_2_code 2 (Option.some FieldType.char)).before a0 Z = true := w_at hw 56 rfl
theorem w_57 {a0 : Array Value} {Z : State} (hw : HW a0 Z) : (Cond.methodLink "java/lang/StringLatin1" 9 ⟨"java/lang/String", "checkIndex", "(II)V"⟩).before a0 Z = true := w_at hw 57 rfl
theorem w_58 {a0 : Array Value} {Z : State} (hw : HW a0 Z) : (Cond.static ⟨"java/lang/String", "checkIndex", "(II)V"⟩).before a0 Z = true := w_at hw 58 rfl
theorem w_59 {a0 : Array Value} {Z : State} (hw : HW a0 Z) : (Cond.code ⟨"java/lang/String", "checkIndex", "(II)V"⟩ jdk_42_method_155_code 2 (Option.none : Option FieldType)).before a0 Z = true := w_at hw 59 rfl
theorem w_60 {a0 : Array Value} {Z : State} (hw : HW a0 Z) : (Cond.fieldLink "java/lang/String" 1053 "jdk/internal/util/Preconditions" "SIOOBE_FORMATTER" "Ljava/util/function/BiFunction;").before a0 Z = true := w_at hw 60 rfl
theorem w_61 {a0 : Array Value} {Z : State} (hw : HW a0 Z) : (Cond.initialized "jdk/internal/util/Preconditions").before a0 Z = true := w_at hw 61 rfl
theorem w_62 {a0 : Array Value} {Z : State} (hw : HW a0 Z) : (Cond.methodLink "java/lang/String" 1059 ⟨"jdk/internal/util/Preconditions", "checkIndex", "(IILjava/util/function/BiFunction;)I"⟩).before a0 Z = true := w_at hw 62 rfl
theorem w_63 {a0 : Array Value} {Z : State} (hw : HW a0 Z) : (Cond.static ⟨"jdk/internal/util/Preconditions", "checkIndex", "(IILjava/util/function/BiFunction;)I"⟩).before a0 Z = true := w_at hw 63 rfl
theorem w_64 {a0 : Array Value} {Z : State} (hw : HW a0 Z) : (Cond.code ⟨"jdk/internal/util/Preconditions", "checkIndex", "(IILjava/util/function/BiFunction;)I"⟩ jdk_41_method_11_code 3 (Option.some FieldType.int)).before a0 Z = true := w_at hw 64 rfl
theorem w_65 {a0 : Array Value} {Z : State} (hw : HW a0 Z) : (Cond.methodLink "java/lang/StringUTF16" 119 ⟨"java/lang/StringUTF16", "toBytes", "([CII)[B"⟩).before a0 Z = true := w_at hw 65 rfl
theorem w_66 {a0 : Array Value} {Z : State} (hw : HW a0 Z) : (Cond.static ⟨"java/lang/StringUTF16", "toBytes", "([CII)[B"⟩).before a0 Z = true := w_at hw 66 rfl
theorem w_67 {a0 : Array Value} {Z : State} (hw : HW a0 Z) : (Cond.code ⟨"java/lang/StringUTF16", "toBytes", "([CII)[B"⟩ jdk_52_method_14_code 5 (Option.some (FieldType.array FieldType.byte))).before a0 Z = true := w_at hw 67 rfl
theorem w_68 {a0 : Array Value} {Z : State} (hw : HW a0 Z) : (Cond.methodLink "java/lang/StringUTF16" 107 ⟨"java/lang/StringUTF16", "newBytesFor", "(I)[B"⟩).before a0 Z = true := w_at hw 68 rfl
theorem w_69 {a0 : Array Value} {Z : State} (hw : HW a0 Z) : (Cond.static ⟨"java/lang/StringUTF16", "newBytesFor", "(I)[B"⟩).before a0 Z = true := w_at hw 69 rfl
theorem w_70 {a0 : Array Value} {Z : State} (hw : HW a0 Z) : (Cond.code ⟨"java/lang/StringUTF16", "newBytesFor", "(I)[B"⟩ jdk_52_method_2_code 1 (Option.some (FieldType.array FieldType.byte))).before a0 Z = true := w_at hw 70 rfl
theorem w_71 {a0 : Array Value} {Z : State} (hw : HW a0 Z) : (Cond.methodLink "java/lang/StringUTF16" 11 ⟨"java/lang/StringUTF16", "newBytesLength", "(I)I"⟩).before a0 Z = true := w_at hw 71 rfl
theorem w_72 {a0 : Array Value} {Z : State} (hw : HW a0 Z) : (Cond.static ⟨"java/lang/StringUTF16", "newBytesLength", "(I)I"⟩).before a0 Z = true := w_at hw 72 rfl
theorem w_73 {a0 : Array Value} {Z : State} (hw : HW a0 Z) : (Cond.code ⟨"java/lang/StringUTF16", "newBytesLength", "(I)I"⟩ jdk_52_method_3_code 1 (Option.some FieldType.int)).before a0 Z = true := w_at hw 73 rfl
theorem w_74 {a0 : Array Value} {Z : State} (hw : HW a0 Z) : (Cond.constant "java/lang/StringUTF16" 20 (1073741823 : Int32)).before a0 Z = true := w_at hw 74 rfl
theorem w_75 {a0 : Array Value} {Z : State} (hw : HW a0 Z) : (Cond.methodLink "java/lang/StringUTF16" 111 ⟨"java/lang/StringUTF16", "putChar", "([BII)V"⟩).before a0 Z = true := w_at hw 75 rfl
theorem w_76 {a0 : Array Value} {Z : State} (hw : HW a0 Z) : (Cond.static ⟨"java/lang/StringUTF16", "putChar", "([BII)V"⟩).before a0 Z = true := w_at hw 76 rfl
theorem w_77 {a0 : Array Value} {Z : State} (hw : HW a0 Z) : (Cond.code ⟨"java/lang/StringUTF16", "putChar", "([BII)V"⟩ jdk_52_method_4_code 3 (Option.none : Option FieldType)).before a0 Z = true := w_at hw 77 rfl
theorem w_78 {a0 : Array Value} {Z : State} (hw : HW a0 Z) : (Cond.fieldLink "java/lang/StringUTF16" 44 "java/lang/StringUTF16" "$assertionsDisabled" "Z").before a0 Z = true := w_at hw 78 rfl
theorem w_79 {a0 : Array Value} {Z : State} (hw : HW a0 Z) : (Cond.fieldLink "java/lang/StringUTF16" 59 "java/lang/StringUTF16" "HI_BYTE_SHIFT" "I").before a0 Z = true := w_at hw 79 rfl
theorem w_80 {a0 : Array Value} {Z : State} (hw : HW a0 Z) : (Cond.fieldLink "java/lang/StringUTF16" 63 "java/lang/StringUTF16" "LO_BYTE_SHIFT" "I").before a0 Z = true := w_at hw 80 rfl
theorem w_81 {a0 : Array Value} {Z : State} (hw : HW a0 Z) : (Cond.methodLink "java/lang/StringUTF16" 71 ⟨"java/lang/StringUTF16", "getChar", "([BI)C"⟩).before a0 Z = true := w_at hw 81 rfl
theorem w_82 {a0 : Array Value} {Z : State} (hw : HW a0 Z) : (Cond.static ⟨"java/lang/StringUTF16", "getChar", "([BI)C"⟩).before a0 Z = true := w_at hw 82 rfl
theorem w_83 {a0 : Array Value} {Z : State} (hw : HW a0 Z) : (Cond.code ⟨"java/lang/StringUTF16", "getChar", "([BI)C"⟩ jdk_52_method_5_code 2 (Option.some FieldType.char)).before a0 Z = true := w_at hw 83 rfl
theorem w_84 {a0 : Array Value} {Z : State} (hw : HW a0 Z) : (Cond.methodLink "java/lang/String" 498 ⟨"java/lang/StringUTF16", "charAt", "([BI)C"⟩).before a0 Z = true := w_at hw 84 rfl
theorem w_85 {a0 : Array Value} {Z : State} (hw : HW a0 Z) : (Cond.static ⟨"java/lang/StringUTF16", "charAt", "([BI)C"⟩).before a0 Z = true := w_at hw 85 rfl
theorem w_86 {a0 : Array Value} {Z : State} (hw : HW a0 Z) : (Cond.code ⟨"java/lang/StringUTF16", "charAt", "([BI)C"⟩ jdk_52_method_83_code 2 (Option.some FieldType.char)).before a0 Z = true := w_at hw 86 rfl
theorem w_87 {a0 : Array Value} {Z : State} (hw : HW a0 Z) : (Cond.methodLink "java/lang/StringUTF16" 67 ⟨"java/lang/StringUTF16", "checkIndex", "(I[B)V"⟩).before a0 Z = true := w_at hw 87 rfl
theorem w_88 {a0 : Array Value} {Z : State} (hw : HW a0 Z) : (Cond.static ⟨"java/lang/StringUTF16", "checkIndex", "(I[B)V"⟩).before a0 Z = true := w_at hw 88 rfl
theorem w_89 {a0 : Array Value} {Z : State} (hw : HW a0 Z) : (Cond.code ⟨"java/lang/StringUTF16", "checkIndex", "(I[B)V"⟩ jdk_52_method_91_code 2 (Option.none : Option FieldType)).before a0 Z = true := w_at hw 89 rfl
theorem w_90 {a0 : Array Value} {Z : State} (hw : HW a0 Z) : (Cond.methodLink "java/lang/StringUTF16" 48 ⟨"java/lang/StringUTF16", "length", "([B)I"⟩).before a0 Z = true := w_at hw 90 rfl
theorem w_91 {a0 : Array Value} {Z : State} (hw : HW a0 Z) : (Cond.static ⟨"java/lang/StringUTF16", "length", "([B)I"⟩).before a0 Z = true := w_at hw 91 rfl
theorem w_92 {a0 : Array Value} {Z : State} (hw : HW a0 Z) : (Cond.code ⟨"java/lang/StringUTF16", "length", "([B)I"⟩ jdk_52_method_6_code 1 (Option.some FieldType.int)).before a0 Z = true := w_at hw 92 rfl
theorem w_93 {a0 : Array Value} {Z : State} (hw : HW a0 Z) : (Cond.methodLink "java/lang/StringUTF16" 414 ⟨"java/lang/String", "checkIndex", "(II)V"⟩).before a0 Z = true := w_at hw 93 rfl
theorem own_and255 (x : Int32) : ∃ k : Fin 256, (x &&& (255 : Int32)) = Int32.ofNat k.val := by
  have h : (x &&& 255).toBitVec.toNat < 256 := by
    simp only [Int32.toBitVec_and, BitVec.toNat_and]
    exact Nat.lt_succ_of_le Nat.and_le_right
  refine ⟨⟨_, h⟩, ?_⟩
  apply Int32.toBitVec_inj.mp
  show _ = BitVec.ofNat 32 _
  rw [BitVec.ofNat_toNat]; simp
theorem own_i2c (x : Int32) : (x &&& (255 : Int32)).toUInt32.toUInt16.toUInt32.toInt32 = x &&& 255 := by
  have t : ∀ k : Fin 256, (Int32.ofNat k.val).toUInt32.toUInt16.toUInt32.toInt32 = Int32.ofNat k.val := by decide +kernel
  obtain ⟨k, e⟩ := own_and255 x
  rw [e]; exact t k
theorem own_narc {c : Int32} (h : ¬ c < 0 ∧ ¬ (255 : Int32) < c) : nar .char c = c := by
  have t : ∀ k : Fin 256, nar .char (Int32.ofNat k.val) = Int32.ofNat k.val := by decide +kernel
  have h1 := h.1; have h2 := h.2
  rw [Int32.lt_iff_toInt_lt] at h1 h2
  have e1 : (0 : Int32).toInt = 0 := rfl
  have e2 : (255 : Int32).toInt = 255 := rfl
  have e : c = Int32.ofNat c.toInt.toNat := by
    apply Int32.toInt_inj.mp
    rw [Int32.toInt_ofNat_of_lt (by omega)]; omega
  rw [e]; exact t ⟨c.toInt.toNat, by omega⟩
theorem own_c255 (x : Int32) : ¬ (x &&& (255 : Int32)) < 0 ∧ ¬ (255 : Int32) < (x &&& (255 : Int32)) := by
  have t : ∀ k : Fin 256, ¬ (Int32.ofNat k.val) < 0 ∧ ¬ (255 : Int32) < (Int32.ofNat k.val) := by decide +kernel
  obtain ⟨k, e⟩ := own_and255 x
  rw [e]; exact t k
theorem own_nb (x : Int32) : x.toInt8.toInt32.toInt8.toInt32 = x.toInt8.toInt32 := by
  rw [Int8.toInt8_toInt32]
theorem own_up (cs : List Int32) (h : ∀ c ∈ cs, ¬ c < 0 ∧ ¬ (255 : Int32) < c) : ∀ c ∈ cs, ¬ c < 0 ∧ ¬ (65535 : Int32) < c := fun c hc => ⟨(h c hc).1, fun q => (h c hc).2 (by rw [Int32.lt_iff_toInt_lt] at q ⊢; have e1 : (65535 : Int32).toInt = 65535 := rfl; have e2 : (255 : Int32).toInt = 255 := rfl; omega)⟩
theorem own_ofc {c : Int32} (h : ¬ c < 0 ∧ ¬ (255 : Int32) < c) : ∃ k : Fin 256, c = Int32.ofNat k.val := by
  have h1 := h.1; have h2 := h.2
  rw [Int32.lt_iff_toInt_lt] at h1 h2
  have e1 : (0 : Int32).toInt = 0 := rfl
  have e2 : (255 : Int32).toInt = 255 := rfl
  refine ⟨⟨c.toInt.toNat, by omega⟩, ?_⟩
  apply Int32.toInt_inj.mp
  show c.toInt = (Int32.ofNat c.toInt.toNat).toInt
  rw [Int32.toInt_ofNat_of_lt (by omega)]; omega
theorem own_b8 {c : Int32} (h : ¬ c < 0 ∧ ¬ (255 : Int32) < c) : (c.toInt8.toInt32 &&& (255 : Int32)) = c := by
  have t : ∀ k : Fin 256, ((Int32.ofNat k.val).toInt8.toInt32 &&& (255 : Int32)) = Int32.ofNat k.val := by decide +kernel
  obtain ⟨k, rfl⟩ := own_ofc h
  exact t k
abbrev Gs : Type := Int32 × Value
abbrev Gs.a0 (G : Gs) : Int32 := G.1
abbrev Gs.a1 (G : Gs) : Value := G.2
def StartF (Z : State) (G : Gs) : Prop := Sta Z Z.heap "java/lang/String" "COMPACT_STRINGS" "Z" (.int G.a0) ∧ ¬ G.a0 = (0 : Int32) ∧ Sta Z Z.heap "jdk/internal/util/Preconditions" "SIOOBE_FORMATTER" "Ljava/util/function/BiFunction;" G.a1 ∧ G.a1.isRef = true ∧ Sta Z Z.heap "java/lang/StringUTF16" "$assertionsDisabled" "Z" (.int (1 : Int32)) ∧ Sta Z Z.heap "java/lang/StringUTF16" "HI_BYTE_SHIFT" "I" (.int (0 : Int32)) ∧ Sta Z Z.heap "java/lang/StringUTF16" "LO_BYTE_SHIFT" "I" (.int (8 : Int32))
theorem StartF.c0 {Z : State} {G : Gs} (ST : StartF Z G) : Sta Z Z.heap "java/lang/String" "COMPACT_STRINGS" "Z" (.int G.a0) := ST.1
theorem StartF.c1 {Z : State} {G : Gs} (ST : StartF Z G) : ¬ G.a0 = (0 : Int32) := ST.2.1
theorem StartF.c2 {Z : State} {G : Gs} (ST : StartF Z G) : Sta Z Z.heap "jdk/internal/util/Preconditions" "SIOOBE_FORMATTER" "Ljava/util/function/BiFunction;" G.a1 := ST.2.2.1
theorem StartF.c3 {Z : State} {G : Gs} (ST : StartF Z G) : G.a1.isRef = true := ST.2.2.2.1
theorem StartF.c4 {Z : State} {G : Gs} (ST : StartF Z G) : Sta Z Z.heap "java/lang/StringUTF16" "$assertionsDisabled" "Z" (.int (1 : Int32)) := ST.2.2.2.2.1
theorem StartF.c5 {Z : State} {G : Gs} (ST : StartF Z G) : Sta Z Z.heap "java/lang/StringUTF16" "HI_BYTE_SHIFT" "I" (.int (0 : Int32)) := ST.2.2.2.2.2.1
theorem StartF.c6 {Z : State} {G : Gs} (ST : StartF Z G) : Sta Z Z.heap "java/lang/StringUTF16" "LO_BYTE_SHIFT" "I" (.int (8 : Int32)) := ST.2.2.2.2.2.2
theorem own_alen {args : Array Value} {s : State} {t : Term} {a : Addr} {cl : Cell} {ty : FieldType} {z : Int32} (ev : t.eval args s none [] s = some (.ref a)) (A : Arr s s.heap a cl ty) (ln : (Term.length t).eval args s none [] s = some (.int z)) : cl.slots.size < 2 ^ 31 ∧ cl.slots.size.toInt32 = z := by
  have hA := A.fin (U := s) (Vm.Alike.refl _)
  have h1 := SBG.length_lt ev hA ln
  refine ⟨h1, ?_⟩
  rw [len_f ev hA h1] at ln
  simpa using ln
abbrev own_c16 (c : Int32) : Prop := ¬ c < 0 ∧ ¬ (65535 : Int32) < c
theorem own_of16 {c : Int32} (h : own_c16 c) : ∃ a b : Fin 256, c = Int32.ofNat (256 * a.val + b.val) := by
  have h1 := h.1; have h2 := h.2
  rw [Int32.lt_iff_toInt_lt] at h1 h2
  have e1 : (0 : Int32).toInt = 0 := rfl
  have e2 : (65535 : Int32).toInt = 65535 := rfl
  refine ⟨⟨c.toInt.toNat / 256, by omega⟩, ⟨c.toInt.toNat % 256, by omega⟩, ?_⟩
  have e : 256 * (c.toInt.toNat / 256) + c.toInt.toNat % 256 = c.toInt.toNat := by omega
  simp only [e]
  apply Int32.toInt_inj.mp
  rw [Int32.toInt_ofNat_of_lt (by omega)]; omega
theorem own_hi {c : Int32} (h : own_c16 c) : c.toBitVec.toNat < 65536 := by
  have h1 := h.1; have h2 := h.2
  rw [Int32.lt_iff_toInt_lt] at h1 h2
  have e1 : (0 : Int32).toInt = 0 := rfl
  have e2 : (65535 : Int32).toInt = 65535 := rfl
  have e3 : c.toInt = c.toBitVec.toInt := rfl
  rw [BitVec.toInt_eq_toNat_cond] at e3
  have := c.toBitVec.isLt
  split at e3 <;> omega
theorem own_i16 {c : Int32} (h : own_c16 c) : c.toUInt32.toUInt16.toUInt32.toInt32 = c := by
  have q := own_hi h
  apply Int32.toBitVec_inj.mp
  show BitVec.setWidth 32 (BitVec.setWidth 16 c.toBitVec) = c.toBitVec
  apply BitVec.eq_of_toNat_eq
  simp only [BitVec.toNat_setWidth]
  omega
theorem own_nar16 {c : Int32} (h : own_c16 c) : nar .char c = c := own_i16 h
theorem own_nc (x : Int32) : own_c16 (nar .char x) := by
  have h := fits_nar_char x
  generalize nar .char x = y at h
  simp only [fits, Bool.and_eq_true, decide_eq_true_eq, Int32.le_iff_toInt_le] at h
  show ¬ y < 0 ∧ ¬ (65535 : Int32) < y
  rw [Int32.lt_iff_toInt_lt, Int32.lt_iff_toInt_lt]
  have e1 : (0 : Int32).toInt = 0 := rfl
  have e2 : (65535 : Int32).toInt = 65535 := rfl
  omega
theorem own_lo8 (y : Int8) : (y.toInt32 &&& (255 : Int32)) = Int32.ofNat y.toBitVec.toNat := by
  have t : ∀ k : Fin 256, ((Int8.ofNat k.val).toInt32 &&& (255 : Int32)) = Int32.ofNat k.val := by decide +kernel
  have e : y = Int8.ofNat y.toBitVec.toNat := by
    apply Int8.toBitVec_inj.mp
    show _ = BitVec.ofNat 8 _
    rw [BitVec.ofNat_toNat]; simp
  have q := t ⟨y.toBitVec.toNat, y.toBitVec.isLt⟩
  rw [← e] at q
  exact q
theorem own_t8 (x : Int32) : x.toInt8.toBitVec.toNat = x.toBitVec.toNat % 256 := by
  have e : x.toInt8.toBitVec = BitVec.setWidth 8 x.toBitVec := by first | (rw [Int32.toBitVec_toInt8, BitVec.signExtend_eq_setWidth_of_le _ (by decide)]) | (show BitVec.signExtend 8 x.toBitVec = _; rw [BitVec.signExtend_eq_setWidth_of_le _ (by decide)])
  rw [e, BitVec.toNat_setWidth]
theorem own_s0 (c : Int32) : (c >>> ((0 : Int32) &&& 31)) = c := by
  rw [show ((0 : Int32) &&& 31) = 0 from by decide]
  apply Int32.toBitVec_inj.mp
  rw [Int32.toBitVec_shiftRight]
  simp
theorem own_s8 {c : Int32} (q : c.toBitVec.toNat < 65536) : (c >>> ((8 : Int32) &&& 31)).toBitVec.toNat = c.toBitVec.toNat / 256 := by
  rw [show ((8 : Int32) &&& 31) = 8 from by decide, Int32.toBitVec_shiftRight]
  rw [show (8 : Int32).toBitVec.smod 32 = 8#32 from by decide]
  rw [BitVec.sshiftRight_eq', BitVec.sshiftRight_eq_of_msb_false, BitVec.toNat_ushiftRight]
  · show c.toBitVec.toNat >>> 8 = _
    rw [Nat.shiftRight_eq_div_pow]
  · rw [BitVec.msb_eq_decide]; simp; omega
theorem own_or (m n : Nat) (hm : m < 256) (hn : n < 256) : (((Int32.ofNat m) <<< ((0 : Int32) &&& 31)) ||| ((Int32.ofNat n) <<< ((8 : Int32) &&& 31))) = Int32.ofNat (m + 256 * n) := by
  rw [show ((0 : Int32) &&& 31) = 0 from by decide, show ((8 : Int32) &&& 31) = 8 from by decide]
  apply Int32.toBitVec_inj.mp
  rw [Int32.toBitVec_or, Int32.toBitVec_shiftLeft, Int32.toBitVec_shiftLeft]
  rw [show (8 : Int32).toBitVec.smod 32 = 8#32 from by decide, show (0 : Int32).toBitVec.smod 32 = 0#32 from by decide]
  show (BitVec.ofNat 32 m <<< 0#32) ||| (BitVec.ofNat 32 n <<< 8#32) = BitVec.ofNat 32 (m + 256 * n)
  apply BitVec.eq_of_toNat_eq
  simp only [BitVec.toNat_or, BitVec.shiftLeft_eq', BitVec.toNat_shiftLeft, BitVec.toNat_ofNat]
  have e1 : (m % 2 ^ 32) <<< (0 % 2 ^ 32) % 2 ^ 32 = m := by simp; omega
  have e2 : (n % 2 ^ 32) <<< (8 % 2 ^ 32) % 2 ^ 32 = n <<< 8 := by rw [Nat.mod_eq_of_lt (show n < 2 ^ 32 by omega), show 8 % 2 ^ 32 = 8 from rfl, Nat.mod_eq_of_lt]; rw [Nat.shiftLeft_eq]; omega
  rw [e1, e2, Nat.or_comm, ← Nat.shiftLeft_add_eq_or_of_lt (show m < 2 ^ 8 from hm), Nat.shiftLeft_eq]; omega
theorem own_u16 {c : Int32} (h : own_c16 c) : ((((((c >>> ((0 : Int32) &&& 31)).toInt8.toInt32) &&& (255 : Int32)) <<< ((0 : Int32) &&& 31)) ||| ((((c >>> ((8 : Int32) &&& 31)).toInt8.toInt32) &&& (255 : Int32)) <<< ((8 : Int32) &&& 31))).toUInt32.toUInt16.toUInt32.toInt32) = c := by
  have q := own_hi h
  have e : Int32.ofNat (c.toBitVec.toNat % 256 + 256 * (c.toBitVec.toNat / 256 % 256)) = c := by
    rw [show c.toBitVec.toNat % 256 + 256 * (c.toBitVec.toNat / 256 % 256) = c.toBitVec.toNat by omega]
    apply Int32.toBitVec_inj.mp
    show BitVec.ofNat 32 _ = _
    rw [BitVec.ofNat_toNat]; simp
  rw [own_lo8, own_lo8, own_t8, own_t8, own_s0, own_s8 q, own_or _ _ (by omega) (by omega), e]
  exact own_i16 h
theorem own_dif {c : Int32} (h : own_c16 c) : (c - (48 : Int32)).toInt = c.toInt - 48 := by
  have h1 := h.1; have h2 := h.2
  rw [Int32.lt_iff_toInt_lt] at h1 h2
  have e1 : (0 : Int32).toInt = 0 := rfl
  have e2 : (65535 : Int32).toInt = 65535 := rfl
  rw [Int32.toInt_sub, show (48 : Int32).toInt = 48 from rfl]
  exact Int.bmod_eq_of_le (by omega) (by omega)
theorem own_d0 {c : Int32} (h : own_c16 c) : (c - (48 : Int32)) < (0 : Int32) ↔ c < (48 : Int32) := by
  rw [Int32.lt_iff_toInt_lt, Int32.lt_iff_toInt_lt, own_dif h]
  have e1 : (0 : Int32).toInt = 0 := rfl
  have e2 : (48 : Int32).toInt = 48 := rfl
  omega
theorem own_d9 {c : Int32} (h : own_c16 c) : (9 : Int32) < (c - (48 : Int32)) ↔ (57 : Int32) < c := by
  rw [Int32.lt_iff_toInt_lt, Int32.lt_iff_toInt_lt, own_dif h]
  have e1 : (9 : Int32).toInt = 9 := rfl
  have e2 : (57 : Int32).toInt = 57 := rfl
  omega
abbrev own_okp (c i s e : Int32) : Prop := i < s ∨ ¬ i < e ∨ (¬ c < (48 : Int32) ∧ ¬ (57 : Int32) < c)
theorem own_no {c i s e : Int32} (h1 : ¬ i < s) (h2 : i < e) (h3 : ¬ (¬ c < (48 : Int32) ∧ ¬ (57 : Int32) < c)) : ¬ own_okp c i s e := fun q => by
  rcases q with q | q | q
  · exact h1 q
  · exact q h2
  · exact h3 q
abbrev own_f5 (x : Int32) : Prop := x = 0 ∨ x = 1 ∨ x = 2 ∨ x = 3 ∨ x = 4
abbrev own_one (c k s e : Int32) : Prop := ¬ k < s → k < e → (¬ c < (48 : Int32) ∧ ¬ (57 : Int32) < c)
abbrev own_all (c0 c1 c2 c3 s e : Int32) : Prop := own_one c0 0 s e ∧ own_one c1 1 s e ∧ own_one c2 2 s e ∧ own_one c3 3 s e
theorem own_oo {c k s e : Int32} (h : own_okp c k s e) : own_one c k s e := fun q1 q2 => by
  rcases h with h | h | h
  · exact absurd h q1
  · exact absurd q2 h
  · exact h
theorem own_ko {c k s e : Int32} (h : own_one c k s e) : own_okp c k s e := by
  by_cases q1 : k < s
  · exact Or.inl q1
  · by_cases q2 : k < e
    · exact Or.inr (Or.inr (h q1 q2))
    · exact Or.inr (Or.inl q2)
theorem own_join {c0 c1 c2 c3 s e : Int32} (h0 : own_okp c0 0 s e) (h1 : own_okp c1 1 s e) (h2 : own_okp c2 2 s e) (h3 : own_okp c3 3 s e) : own_all c0 c1 c2 c3 s e := ⟨own_oo h0, own_oo h1, own_oo h2, own_oo h3⟩
theorem own_part0 {c0 c1 c2 c3 s e : Int32} (h : own_all c0 c1 c2 c3 s e) : own_okp c0 0 s e := own_ko h.1
theorem own_part1 {c0 c1 c2 c3 s e : Int32} (h : own_all c0 c1 c2 c3 s e) : own_okp c1 1 s e := own_ko h.2.1
theorem own_part2 {c0 c1 c2 c3 s e : Int32} (h : own_all c0 c1 c2 c3 s e) : own_okp c2 2 s e := own_ko h.2.2.1
theorem own_part3 {c0 c1 c2 c3 s e : Int32} (h : own_all c0 c1 c2 c3 s e) : own_okp c3 3 s e := own_ko h.2.2.2
theorem own_pos (x : Int32) : 0 ≤ (x &&& (2147483647 : Int32)).toInt := by
  have h : (x &&& 2147483647).toBitVec.toNat < 2147483648 := by
    simp only [Int32.toBitVec_and, BitVec.toNat_and]
    exact Nat.lt_succ_of_le Nat.and_le_right
  rw [Int32.toInt, BitVec.toInt_eq_toNat_of_lt (by omega)]
  omega
theorem own_mod5 (x : Int32) : own_f5 ((x &&& (2147483647 : Int32)) % (5 : Int32)) := by
  have h := own_pos x
  have e : ((x &&& (2147483647 : Int32)) % (5 : Int32)).toInt = (x &&& (2147483647 : Int32)).toInt % 5 := by
    rw [Int32.toInt_mod, show (5 : Int32).toInt = 5 from rfl, Int.tmod_eq_emod_of_nonneg h]
  show _ ∨ _ ∨ _ ∨ _ ∨ _
  simp only [← Int32.toInt_inj, e, show (0 : Int32).toInt = 0 from rfl, show (1 : Int32).toInt = 1 from rfl, show (2 : Int32).toInt = 2 from rfl, show (3 : Int32).toInt = 3 from rfl, show (4 : Int32).toInt = 4 from rfl]
  omega
def own_S (Z : State) (h : Heap) (a : Addr) (cc0 cc1 cc2 cc3 : Int32) : Prop := ∃ (t : Addr) (kb : ClassId), Exa Z h a "java/lang/String" ∧ Fld Z h a "java/lang/String" "value" "[B" (.ref t) ∧
  ((Fld Z h a "java/lang/String" "coder" "B" (.int (0 : Int32)) ∧ Arv Z h t kb .byte (4 : Int32) [(.int (cc0.toInt8.toInt32)), (.int (cc1.toInt8.toInt32)), (.int (cc2.toInt8.toInt32)), (.int (cc3.toInt8.toInt32))] (.int (0 : Int32)) ∧ ¬ (255 : Int32) < cc0 ∧ ¬ (255 : Int32) < cc1 ∧ ¬ (255 : Int32) < cc2 ∧ ¬ (255 : Int32) < cc3) ∨
   (Fld Z h a "java/lang/String" "coder" "B" (.int (1 : Int32)) ∧ Arv Z h t kb .byte (8 : Int32) [(.int ((cc0 >>> ((0 : Int32) &&& 31)).toInt8.toInt32)), (.int ((cc0 >>> ((8 : Int32) &&& 31)).toInt8.toInt32)), (.int ((cc1 >>> ((0 : Int32) &&& 31)).toInt8.toInt32)), (.int ((cc1 >>> ((8 : Int32) &&& 31)).toInt8.toInt32)), (.int ((cc2 >>> ((0 : Int32) &&& 31)).toInt8.toInt32)), (.int ((cc2 >>> ((8 : Int32) &&& 31)).toInt8.toInt32)), (.int ((cc3 >>> ((0 : Int32) &&& 31)).toInt8.toInt32)), (.int ((cc3 >>> ((8 : Int32) &&& 31)).toInt8.toInt32))] (.int (0 : Int32))))
theorem ef_rmCmp (m : MethodId) (x0 : Addr) (x1 : Int32) (x2 : Addr) (x3 : Int32) (x4 : Int32)  : entryFrame m #[(.ref x0), (.int x1), (.ref x2), (.int x3), (.int x4)] 7 = mkF m 0 #[.val (.ref x0), .val (.int x1), .val (.ref x2), .val (.int x3), .val (.int x4), .unset, .unset] [] := by first | (simp [entryFrame, mkF, argsToLocals, Value.category]; done) | rfl
theorem d6_0 : decode jdk_52_method_21_code 0 = .ok (.iconst 0, 1) := by decide +kernel
theorem d6_1 : decode jdk_52_method_21_code 1 = .ok (.istore 5, 2) := by decide +kernel
theorem d6_3 : decode jdk_52_method_21_code 3 = .ok (.iload 5, 2) := by decide +kernel
theorem d6_5 : decode jdk_52_method_21_code 5 = .ok (.iload 4, 2) := by decide +kernel
theorem d6_7 : decode jdk_52_method_21_code 7 = .ok (.if_icmp .ge 37, 3) := by decide +kernel
theorem d6_10 : decode jdk_52_method_21_code 10 = .ok (.aload_n 0, 1) := by decide +kernel
theorem d6_11 : decode jdk_52_method_21_code 11 = .ok (.iload_n 1, 1) := by decide +kernel
theorem d6_12 : decode jdk_52_method_21_code 12 = .ok (.caload, 1) := by decide +kernel
theorem d6_13 : decode jdk_52_method_21_code 13 = .ok (.istore 6, 2) := by decide +kernel
theorem d6_15 : decode jdk_52_method_21_code 15 = .ok (.iload 6, 2) := by decide +kernel
theorem d6_17 : decode jdk_52_method_21_code 17 = .ok (.sipush 255, 3) := by decide +kernel
theorem d6_20 : decode jdk_52_method_21_code 20 = .ok (.if_icmp .le 6, 3) := by decide +kernel
theorem d6_23 : decode jdk_52_method_21_code 23 = .ok (.iload 5, 2) := by decide +kernel
theorem d6_25 : decode jdk_52_method_21_code 25 = .ok (.ireturn, 1) := by decide +kernel
theorem d6_26 : decode jdk_52_method_21_code 26 = .ok (.aload_n 2, 1) := by decide +kernel
theorem d6_27 : decode jdk_52_method_21_code 27 = .ok (.iload_n 3, 1) := by decide +kernel
theorem d6_28 : decode jdk_52_method_21_code 28 = .ok (.iload 6, 2) := by decide +kernel
theorem d6_30 : decode jdk_52_method_21_code 30 = .ok (.i2b, 1) := by decide +kernel
theorem d6_31 : decode jdk_52_method_21_code 31 = .ok (.bastore, 1) := by decide +kernel
theorem d6_32 : decode jdk_52_method_21_code 32 = .ok (.iinc 1 1, 3) := by decide +kernel
theorem d6_35 : decode jdk_52_method_21_code 35 = .ok (.iinc 3 1, 3) := by decide +kernel
theorem d6_38 : decode jdk_52_method_21_code 38 = .ok (.iinc 5 1, 3) := by decide +kernel
theorem d6_41 : decode jdk_52_method_21_code 41 = .ok (.goto (-38), 3) := by decide +kernel
theorem d6_44 : decode jdk_52_method_21_code 44 = .ok (.iload 4, 2) := by decide +kernel
theorem d6_46 : decode jdk_52_method_21_code 46 = .ok (.ireturn, 1) := by decide +kernel
theorem pn_0 : plainName "java/lang/StringUTF16" = true := by first | (simp [plainName, overriddenIn]; done) | decide +kernel
def QrmCmp (Z : State) (G : Gs) (ca : Addr) (ck : ClassId) (ba : Addr) (bk : ClassId) (cc0 : Int32) (cc1 : Int32) (cc2 : Int32) (cc3 : Int32) (h0 : Heap) (n0 : Nat) (v : Option Value) (h : Heap) (L : List Loc) : Prop := ∃ (rx : Int32), ∃ (bs : List Value), v = some (.int rx) ∧ Fr n0 L ∧ Keep h0 h [ba] ∧ Arv Z h ba bk .byte (4 : Int32) bs (.int (0 : Int32)) ∧ ((rx = 4 ∧ bs = [(.int (cc0.toInt8.toInt32)), (.int (cc1.toInt8.toInt32)), (.int (cc2.toInt8.toInt32)), (.int (cc3.toInt8.toInt32))] ∧ ¬ (255 : Int32) < cc0 ∧ ¬ (255 : Int32) < cc1 ∧ ¬ (255 : Int32) < cc2 ∧ ¬ (255 : Int32) < cc3) ∨ (rx = 0 ∧ (255 : Int32) < cc0) ∨ (rx = 1 ∧ (255 : Int32) < cc1) ∨ (rx = 2 ∧ (255 : Int32) < cc2) ∨ (rx = 3 ∧ (255 : Int32) < cc3))
set_option maxRecDepth 65536 in
set_option maxHeartbeats 40000000 in
theorem rmCmp (l : Launch) (Z : State) (a0 : Array Value) (hw : HW a0 Z) (G : Gs) (ST : StartF Z G) (ws : List Jvm.Cond) (ca : Addr) (ck : ClassId) (ba : Addr) (bk : ClassId) (cc0 : Int32) (cc1 : Int32) (cc2 : Int32) (cc3 : Int32) (h0 : Heap) (n0 : Nat) (X00 : Old Z n0 h0) (Vc : Arv Z h0 ca ck .char (4 : Int32) [(.int cc0), (.int cc1), (.int cc2), (.int cc3)] (.int (0 : Int32))) (Vb : Arv Z h0 ba bk .byte (4 : Int32) [(.int (0 : Int32)), (.int (0 : Int32)), (.int (0 : Int32)), (.int (0 : Int32))] (.int (0 : Int32))) (gb : n0 ≤ ba) (nab : ba ≠ ca) :
    MetFree l (⟨"java/lang/StringUTF16", "compress", "([CI[BII)I"⟩ : MethodName) (head1 (Jvm.Cond.code (⟨"java/lang/StringUTF16", "compress", "([CI[BII)I"⟩ : MethodName) jdk_52_method_21_code 7 (some .int) :: ws) ({ frames := 0, cells := 0, slots := 0, locals := 0 } : Room)) (fun a U => a = #[(.ref ca), (.int (0 : Int32)), (.ref ba), (.int (0 : Int32)), (.int (4 : Int32))] ∧ Z.Warmed39 U.vm ∧ U.heap = h0) (fun _ _ _ _ _ => True) (fun _ U o U' => ∃ v L, o = .returned v ∧ QrmCmp Z G ca ck ba bk cc0 cc1 cc2 cc3 h0 n0 v U'.heap L ∧ FrameEnd U o U' L ({ frames := 0, cells := 0, slots := 0, locals := 0 } : Room).cells ({ frames := 0, cells := 0, slots := 0, locals := 0 } : Room).slots) := by
  refine MetFree.of_bodySF (plainFor_of_name pn_0) hisR ?_
  intro p e s m args below meth c s₁ Bd hml0 hP hK
  obtain ⟨rfl, hZ, hh⟩ := hP
  have hx := Bd.exec
  have hby := Bd.bytes
  have hml : c.maxLocals = 7 := hml0
  have hown : s.vm.findClass "java/lang/StringUTF16" = some m.cls := findClass_of_methodNamed Bd.named
  have hnm := (name_of_methodNamed Bd.named Bd.method).1
  have X0 : Stand p l e ({ frames := 0, cells := 0, slots := 0, locals := 0 } : Room) s m #[(.ref ca), (.int (0 : Int32)), (.ref ba), (.int (0 : Int32)), (.int (4 : Int32))] below meth c s₁ [] 0 0 := Stand.of_body Bd
  have e0 : s₁.heap = h0 := by rw [← hh, Bd.state]; rfl
  have N0 := Fr.nil n0
  have Z0 : n0 ≤ h0.size := by have q := X00.2.1; rw [X00.1] at q; exact q
  obtain ⟨TG, hTG, hT2⟩ : ∃ P : State → Prop, (∀ t, P t → Steps p.tables e below (s₁.setTop (entryFrame m #[(.ref ca), (.int (0 : Int32)), (.ref ba), (.int (0 : Int32)), (.int (4 : Int32))] 7)) t) ∧ (∀ t, Steps p.tables e below (s₁.setTop (entryFrame m #[(.ref ca), (.int (0 : Int32)), (.ref ba), (.int (0 : Int32)), (.int (4 : Int32))] 7)) t → P t) := ⟨_, fun t k => k, fun t k => k⟩
  have pre0 : ∀ t, Sx p e below s₁ m 0 #[xvr ca, xvi (0 : Int32), xvr ba, xvi (0 : Int32), xvi (4 : Int32), xun, xun] [] t → TG t := fun t k => hT2 t (castTop (ef_rmCmp m ca (0 : Int32) ba (0 : Int32) (4 : Int32) ) k)
  obtain ⟨cl101, Ar101, q101, S101, M101, H101, G101⟩ := id Vc
  have in101 : ¬ ((0 : Int32) < 0 ∨ cl101.slots.size ≤ ((0 : Int32)).toNatClampNeg) := inb_of S101 ⟨by decide, by decide⟩
  have c102 : ∀ t, Sx p e below s₁ m 20 #[xvr ca, xvi (0 : Int32), xvr ba, xvi (0 : Int32), xvi (4 : Int32), xvi (0 : Int32), xvi cc0] [xwi (255 : Int32), xwi cc0] t → TG t := fun t k => pre0 t (by
    refine y_iconst X0 hx (0 : Int32) 1 (hb hby d6_0) rfl rfl ?_
    refine XS.istore X0.here hx rfl (hb hby d6_1) rfl (l' := #[xvr ca, xvi (0 : Int32), xvr ba, xvi (0 : Int32), xvi (4 : Int32), xvi (0 : Int32), xun]) rfl ?_
    show Sx p e below s₁ m 3 #[xvr ca, xvi (0 : Int32), xvr ba, xvi (0 : Int32), xvi (4 : Int32), xvi (0 : Int32), xun] [] _
    refine y_iload X0 hx 5 (hb hby d6_3) rfl rfl ?_
    refine y_iload X0 hx 7 (hb hby d6_5) rfl rfl ?_
    refine y_icmpNo X0 hx 10 (hb hby d6_7) (XT.ii_ge_f (by decide)) rfl ?_
    refine y_aloadN X0 hx 11 (hb hby d6_10) rfl rfl rfl ?_
    refine y_iloadN X0 hx 12 (hb hby d6_11) rfl rfl ?_
    refine X0.caload hx (j := (0 : Int32)) (v := (.int cc0)) (by rw [e0]; exact Ar101.1) (State.isArrayOf_alike hZ.alike Ar101.2.1) Ar101.2.2 in101 (Has.at H101 in101 rfl) (g := (mkF m 12 #[xvr ca, xvi (0 : Int32), xvr ba, xvi (0 : Int32), xvi (4 : Int32), xvi (0 : Int32), xun] [xwi (0 : Int32), xwr ca])) rfl rfl (hb hby d6_12) _ ?_
    show Sx p e below s₁ m 13 #[xvr ca, xvi (0 : Int32), xvr ba, xvi (0 : Int32), xvi (4 : Int32), xvi (0 : Int32), xun] [xwi cc0] _
    refine XS.istore X0.here hx rfl (hb hby d6_13) rfl (l' := #[xvr ca, xvi (0 : Int32), xvr ba, xvi (0 : Int32), xvi (4 : Int32), xvi (0 : Int32), xvi cc0]) rfl ?_
    show Sx p e below s₁ m 15 #[xvr ca, xvi (0 : Int32), xvr ba, xvi (0 : Int32), xvi (4 : Int32), xvi (0 : Int32), xvi cc0] [] _
    refine y_iload X0 hx 17 (hb hby d6_15) rfl rfl ?_
    refine y_sipush X0 hx (255 : Int32) 20 (hb hby d6_17) rfl rfl ?_
    exact k)
  by_cases hc103 : (255 : Int32) < cc0
  · obtain ⟨fs, hr, hrun, hended, hW, hsame⟩ := X0.leave (v := some (.int (0 : Int32))) (fun h => by rw [Bd.returns] at h; cases h)
    refine ⟨_, _, hTG _ (c102 _ ?_), hrun, hended, _, _, rfl, ?_, ⟨_, rfl⟩, hW, hsame.mono (by decide) (by decide)⟩
    · refine y_icmpNo X0 hx 23 (hb hby d6_20) (XT.ii_le_f hc103) rfl ?_
      refine y_iload X0 hx 25 (hb hby d6_23) rfl rfl ?_
      show Sx p e below s₁ m 25 #[xvr ca, xvi (0 : Int32), xvr ba, xvi (0 : Int32), xvi (4 : Int32), xvi (0 : Int32), xvi cc0] [xwi (0 : Int32)] _
      exact retOut X0 hx Bd.returns rfl (Or.inl ⟨rfl, Or.inl rfl, _, rfl⟩) (hb hby d6_25) hr
    · show QrmCmp Z G ca ck ba bk cc0 cc1 cc2 cc3 h0 n0 _ s₁.heap _
      rw [e0]
      exact ⟨(0 : Int32), ([(.int (0 : Int32)), (.int (0 : Int32)), (.int (0 : Int32)), (.int (0 : Int32))] : List Value), rfl, N0, (Keep.refl h0 [ba]), Vb, (Or.inr (Or.inl ⟨rfl, hc103⟩))⟩
  · obtain ⟨cl104, Ar104, q104, S104, M104, H104, G104⟩ := id Vb
    have in104 : ¬ ((0 : Int32) < 0 ∨ cl104.slots.size ≤ ((0 : Int32)).toNatClampNeg) := inb_of S104 ⟨by decide, by decide⟩
    obtain ⟨T105, h105, X105, e105, W105, st105⟩ := stB X0 hx hZ e0 Ar104 (j := (0 : Int32)) in104 (g := (mkF m 31 #[xvr ca, xvi (0 : Int32), xvr ba, xvi (0 : Int32), xvi (4 : Int32), xvi (0 : Int32), xvi cc0] [xwi (cc0.toInt8.toInt32), xwi (0 : Int32), xwr ba])) rfl rfl (hb hby d6_31)
    have V105 : Arv Z h105 ba bk .byte (4 : Int32) [(.int (cc0.toInt8.toInt32)), (.int (0 : Int32)), (.int (0 : Int32)), (.int (0 : Int32))] (.int (0 : Int32)) := by have q := Arv.set Ar104 q104 S104 M104 H104 G104 (fits_nar_byte _) W105 0 rfl (Nat.le_of_ble_eq_true rfl); rw [own_nb] at q; exact q
    have N105 := Fr.snoc X105 N0 gb
    have f106 := (Vc.other W105 (Ne.symm nab))
    obtain ⟨cl107, Ar107, q107, S107, M107, H107, G107⟩ := id f106
    have in107 : ¬ ((1 : Int32) < 0 ∨ cl107.slots.size ≤ ((1 : Int32)).toNatClampNeg) := inb_of S107 ⟨by decide, by decide⟩
    have c108 : ∀ t, Sx p e below T105 m 20 #[xvr ca, xvi (1 : Int32), xvr ba, xvi (1 : Int32), xvi (4 : Int32), xvi (1 : Int32), xvi cc1] [xwi (255 : Int32), xwi cc1] t → TG t := fun t k => c102 t (by
      refine y_icmpYes X0 hx 26 (hb hby d6_20) (XT.ii_le_t hc103) (by decide) (by decide) ?_
      refine y_aloadN X0 hx 27 (hb hby d6_26) rfl rfl rfl ?_
      refine y_iloadN X0 hx 28 (hb hby d6_27) rfl rfl ?_
      refine y_iload X0 hx 30 (hb hby d6_28) rfl rfl ?_
      refine XS.i2b X0.here hx rfl (hb hby d6_30) rfl ?_
      show Sx p e below s₁ m 31 #[xvr ca, xvi (0 : Int32), xvr ba, xvi (0 : Int32), xvi (4 : Int32), xvi (0 : Int32), xvi cc0] [xwi (cc0.toInt8.toInt32), xwi (0 : Int32), xwr ba] _
      refine st105 _ ?_
      show Sx p e below T105 m 32 #[xvr ca, xvi (0 : Int32), xvr ba, xvi (0 : Int32), xvi (4 : Int32), xvi (0 : Int32), xvi cc0] [] _
      refine XS.iinc X105.here hx rfl (hb hby d6_32) rfl (l' := #[xvr ca, xvi ((0 : Int32) + (1 : Int32)), xvr ba, xvi (0 : Int32), xvi (4 : Int32), xvi (0 : Int32), xvi cc0]) rfl ?_
      rw [show ((0 : Int32) + (1 : Int32)) = (1 : Int32) from by decide]
      show Sx p e below T105 m 35 #[xvr ca, xvi (1 : Int32), xvr ba, xvi (0 : Int32), xvi (4 : Int32), xvi (0 : Int32), xvi cc0] [] _
      refine XS.iinc X105.here hx rfl (hb hby d6_35) rfl (l' := #[xvr ca, xvi (1 : Int32), xvr ba, xvi ((0 : Int32) + (1 : Int32)), xvi (4 : Int32), xvi (0 : Int32), xvi cc0]) rfl ?_
      rw [show ((0 : Int32) + (1 : Int32)) = (1 : Int32) from by decide]
      show Sx p e below T105 m 38 #[xvr ca, xvi (1 : Int32), xvr ba, xvi (1 : Int32), xvi (4 : Int32), xvi (0 : Int32), xvi cc0] [] _
      refine XS.iinc X105.here hx rfl (hb hby d6_38) rfl (l' := #[xvr ca, xvi (1 : Int32), xvr ba, xvi (1 : Int32), xvi (4 : Int32), xvi ((0 : Int32) + (1 : Int32)), xvi cc0]) rfl ?_
      rw [show ((0 : Int32) + (1 : Int32)) = (1 : Int32) from by decide]
      show Sx p e below T105 m 41 #[xvr ca, xvi (1 : Int32), xvr ba, xvi (1 : Int32), xvi (4 : Int32), xvi (1 : Int32), xvi cc0] [] _
      refine y_goto X105 hx 3 (hb hby d6_41) (by decide) (by decide) ?_
      refine y_iload X105 hx 5 (hb hby d6_3) rfl rfl ?_
      refine y_iload X105 hx 7 (hb hby d6_5) rfl rfl ?_
      refine y_icmpNo X105 hx 10 (hb hby d6_7) (XT.ii_ge_f (by decide)) rfl ?_
      refine y_aloadN X105 hx 11 (hb hby d6_10) rfl rfl rfl ?_
      refine y_iloadN X105 hx 12 (hb hby d6_11) rfl rfl ?_
      refine X105.caload hx (j := (1 : Int32)) (v := (.int cc1)) (by rw [e105]; exact Ar107.1) (State.isArrayOf_alike hZ.alike Ar107.2.1) Ar107.2.2 in107 (Has.at H107 in107 rfl) (g := (mkF m 12 #[xvr ca, xvi (1 : Int32), xvr ba, xvi (1 : Int32), xvi (4 : Int32), xvi (1 : Int32), xvi cc0] [xwi (1 : Int32), xwr ca])) rfl rfl (hb hby d6_12) _ ?_
      show Sx p e below T105 m 13 #[xvr ca, xvi (1 : Int32), xvr ba, xvi (1 : Int32), xvi (4 : Int32), xvi (1 : Int32), xvi cc0] [xwi cc1] _
      refine XS.istore X105.here hx rfl (hb hby d6_13) rfl (l' := #[xvr ca, xvi (1 : Int32), xvr ba, xvi (1 : Int32), xvi (4 : Int32), xvi (1 : Int32), xvi cc1]) rfl ?_
      show Sx p e below T105 m 15 #[xvr ca, xvi (1 : Int32), xvr ba, xvi (1 : Int32), xvi (4 : Int32), xvi (1 : Int32), xvi cc1] [] _
      refine y_iload X105 hx 17 (hb hby d6_15) rfl rfl ?_
      refine y_sipush X105 hx (255 : Int32) 20 (hb hby d6_17) rfl rfl ?_
      exact k)
    by_cases hc109 : (255 : Int32) < cc1
    · obtain ⟨fs, hr, hrun, hended, hW, hsame⟩ := X105.leave (v := some (.int (1 : Int32))) (fun h => by rw [Bd.returns] at h; cases h)
      refine ⟨_, _, hTG _ (c108 _ ?_), hrun, hended, _, _, rfl, ?_, ⟨_, rfl⟩, hW, hsame.mono (by decide) (by decide)⟩
      · refine y_icmpNo X105 hx 23 (hb hby d6_20) (XT.ii_le_f hc109) rfl ?_
        refine y_iload X105 hx 25 (hb hby d6_23) rfl rfl ?_
        show Sx p e below T105 m 25 #[xvr ca, xvi (1 : Int32), xvr ba, xvi (1 : Int32), xvi (4 : Int32), xvi (1 : Int32), xvi cc1] [xwi (1 : Int32)] _
        exact retOut X105 hx Bd.returns rfl (Or.inl ⟨rfl, Or.inl rfl, _, rfl⟩) (hb hby d6_25) hr
      · show QrmCmp Z G ca ck ba bk cc0 cc1 cc2 cc3 h0 n0 _ T105.heap _
        rw [e105]
        exact ⟨(1 : Int32), ([(.int (cc0.toInt8.toInt32)), (.int (0 : Int32)), (.int (0 : Int32)), (.int (0 : Int32))] : List Value), rfl, N105, ((Keep.refl h0 [ba]).wr W105 (Or.inl (List.mem_of_getElem? (i := 0) rfl))), V105, (Or.inr (Or.inr (Or.inl ⟨rfl, hc109⟩)))⟩
    · obtain ⟨cl110, Ar110, q110, S110, M110, H110, G110⟩ := id V105
      have in110 : ¬ ((1 : Int32) < 0 ∨ cl110.slots.size ≤ ((1 : Int32)).toNatClampNeg) := inb_of S110 ⟨by decide, by decide⟩
      obtain ⟨T111, h111, X111, e111, W111, st111⟩ := stB X105 hx hZ e105 Ar110 (j := (1 : Int32)) in110 (g := (mkF m 31 #[xvr ca, xvi (1 : Int32), xvr ba, xvi (1 : Int32), xvi (4 : Int32), xvi (1 : Int32), xvi cc1] [xwi (cc1.toInt8.toInt32), xwi (1 : Int32), xwr ba])) rfl rfl (hb hby d6_31)
      have V111 : Arv Z h111 ba bk .byte (4 : Int32) [(.int (cc0.toInt8.toInt32)), (.int (cc1.toInt8.toInt32)), (.int (0 : Int32)), (.int (0 : Int32))] (.int (0 : Int32)) := by have q := Arv.set Ar110 q110 S110 M110 H110 G110 (fits_nar_byte _) W111 1 rfl (Nat.le_of_ble_eq_true rfl); rw [own_nb] at q; exact q
      have N111 := Fr.snoc X111 N105 gb
      have f112 := (f106.other W111 (Ne.symm nab))
      obtain ⟨cl113, Ar113, q113, S113, M113, H113, G113⟩ := id f112
      have in113 : ¬ ((2 : Int32) < 0 ∨ cl113.slots.size ≤ ((2 : Int32)).toNatClampNeg) := inb_of S113 ⟨by decide, by decide⟩
      have c114 : ∀ t, Sx p e below T111 m 20 #[xvr ca, xvi (2 : Int32), xvr ba, xvi (2 : Int32), xvi (4 : Int32), xvi (2 : Int32), xvi cc2] [xwi (255 : Int32), xwi cc2] t → TG t := fun t k => c108 t (by
        refine y_icmpYes X105 hx 26 (hb hby d6_20) (XT.ii_le_t hc109) (by decide) (by decide) ?_
        refine y_aloadN X105 hx 27 (hb hby d6_26) rfl rfl rfl ?_
        refine y_iloadN X105 hx 28 (hb hby d6_27) rfl rfl ?_
        refine y_iload X105 hx 30 (hb hby d6_28) rfl rfl ?_
        refine XS.i2b X105.here hx rfl (hb hby d6_30) rfl ?_
        show Sx p e below T105 m 31 #[xvr ca, xvi (1 : Int32), xvr ba, xvi (1 : Int32), xvi (4 : Int32), xvi (1 : Int32), xvi cc1] [xwi (cc1.toInt8.toInt32), xwi (1 : Int32), xwr ba] _
        refine st111 _ ?_
        show Sx p e below T111 m 32 #[xvr ca, xvi (1 : Int32), xvr ba, xvi (1 : Int32), xvi (4 : Int32), xvi (1 : Int32), xvi cc1] [] _
        refine XS.iinc X111.here hx rfl (hb hby d6_32) rfl (l' := #[xvr ca, xvi ((1 : Int32) + (1 : Int32)), xvr ba, xvi (1 : Int32), xvi (4 : Int32), xvi (1 : Int32), xvi cc1]) rfl ?_
        rw [show ((1 : Int32) + (1 : Int32)) = (2 : Int32) from by decide]
        show Sx p e below T111 m 35 #[xvr ca, xvi (2 : Int32), xvr ba, xvi (1 : Int32), xvi (4 : Int32), xvi (1 : Int32), xvi cc1] [] _
        refine XS.iinc X111.here hx rfl (hb hby d6_35) rfl (l' := #[xvr ca, xvi (2 : Int32), xvr ba, xvi ((1 : Int32) + (1 : Int32)), xvi (4 : Int32), xvi (1 : Int32), xvi cc1]) rfl ?_
        rw [show ((1 : Int32) + (1 : Int32)) = (2 : Int32) from by decide]
        show Sx p e below T111 m 38 #[xvr ca, xvi (2 : Int32), xvr ba, xvi (2 : Int32), xvi (4 : Int32), xvi (1 : Int32), xvi cc1] [] _
        refine XS.iinc X111.here hx rfl (hb hby d6_38) rfl (l' := #[xvr ca, xvi (2 : Int32), xvr ba, xvi (2 : Int32), xvi (4 : Int32), xvi ((1 : Int32) + (1 : Int32)), xvi cc1]) rfl ?_
        rw [show ((1 : Int32) + (1 : Int32)) = (2 : Int32) from by decide]
        show Sx p e below T111 m 41 #[xvr ca, xvi (2 : Int32), xvr ba, xvi (2 : Int32), xvi (4 : Int32), xvi (2 : Int32), xvi cc1] [] _
        refine y_goto X111 hx 3 (hb hby d6_41) (by decide) (by decide) ?_
        refine y_iload X111 hx 5 (hb hby d6_3) rfl rfl ?_
        refine y_iload X111 hx 7 (hb hby d6_5) rfl rfl ?_
        refine y_icmpNo X111 hx 10 (hb hby d6_7) (XT.ii_ge_f (by decide)) rfl ?_
        refine y_aloadN X111 hx 11 (hb hby d6_10) rfl rfl rfl ?_
        refine y_iloadN X111 hx 12 (hb hby d6_11) rfl rfl ?_
        refine X111.caload hx (j := (2 : Int32)) (v := (.int cc2)) (by rw [e111]; exact Ar113.1) (State.isArrayOf_alike hZ.alike Ar113.2.1) Ar113.2.2 in113 (Has.at H113 in113 rfl) (g := (mkF m 12 #[xvr ca, xvi (2 : Int32), xvr ba, xvi (2 : Int32), xvi (4 : Int32), xvi (2 : Int32), xvi cc1] [xwi (2 : Int32), xwr ca])) rfl rfl (hb hby d6_12) _ ?_
        show Sx p e below T111 m 13 #[xvr ca, xvi (2 : Int32), xvr ba, xvi (2 : Int32), xvi (4 : Int32), xvi (2 : Int32), xvi cc1] [xwi cc2] _
        refine XS.istore X111.here hx rfl (hb hby d6_13) rfl (l' := #[xvr ca, xvi (2 : Int32), xvr ba, xvi (2 : Int32), xvi (4 : Int32), xvi (2 : Int32), xvi cc2]) rfl ?_
        show Sx p e below T111 m 15 #[xvr ca, xvi (2 : Int32), xvr ba, xvi (2 : Int32), xvi (4 : Int32), xvi (2 : Int32), xvi cc2] [] _
        refine y_iload X111 hx 17 (hb hby d6_15) rfl rfl ?_
        refine y_sipush X111 hx (255 : Int32) 20 (hb hby d6_17) rfl rfl ?_
        exact k)
      by_cases hc115 : (255 : Int32) < cc2
      · obtain ⟨fs, hr, hrun, hended, hW, hsame⟩ := X111.leave (v := some (.int (2 : Int32))) (fun h => by rw [Bd.returns] at h; cases h)
        refine ⟨_, _, hTG _ (c114 _ ?_), hrun, hended, _, _, rfl, ?_, ⟨_, rfl⟩, hW, hsame.mono (by decide) (by decide)⟩
        · refine y_icmpNo X111 hx 23 (hb hby d6_20) (XT.ii_le_f hc115) rfl ?_
          refine y_iload X111 hx 25 (hb hby d6_23) rfl rfl ?_
          show Sx p e below T111 m 25 #[xvr ca, xvi (2 : Int32), xvr ba, xvi (2 : Int32), xvi (4 : Int32), xvi (2 : Int32), xvi cc2] [xwi (2 : Int32)] _
          exact retOut X111 hx Bd.returns rfl (Or.inl ⟨rfl, Or.inl rfl, _, rfl⟩) (hb hby d6_25) hr
        · show QrmCmp Z G ca ck ba bk cc0 cc1 cc2 cc3 h0 n0 _ T111.heap _
          rw [e111]
          exact ⟨(2 : Int32), ([(.int (cc0.toInt8.toInt32)), (.int (cc1.toInt8.toInt32)), (.int (0 : Int32)), (.int (0 : Int32))] : List Value), rfl, N111, (((Keep.refl h0 [ba]).wr W105 (Or.inl (List.mem_of_getElem? (i := 0) rfl))).wr W111 (Or.inl (List.mem_of_getElem? (i := 0) rfl))), V111, (Or.inr (Or.inr (Or.inr (Or.inl ⟨rfl, hc115⟩))))⟩
      · obtain ⟨cl116, Ar116, q116, S116, M116, H116, G116⟩ := id V111
        have in116 : ¬ ((2 : Int32) < 0 ∨ cl116.slots.size ≤ ((2 : Int32)).toNatClampNeg) := inb_of S116 ⟨by decide, by decide⟩
        obtain ⟨T117, h117, X117, e117, W117, st117⟩ := stB X111 hx hZ e111 Ar116 (j := (2 : Int32)) in116 (g := (mkF m 31 #[xvr ca, xvi (2 : Int32), xvr ba, xvi (2 : Int32), xvi (4 : Int32), xvi (2 : Int32), xvi cc2] [xwi (cc2.toInt8.toInt32), xwi (2 : Int32), xwr ba])) rfl rfl (hb hby d6_31)
        have V117 : Arv Z h117 ba bk .byte (4 : Int32) [(.int (cc0.toInt8.toInt32)), (.int (cc1.toInt8.toInt32)), (.int (cc2.toInt8.toInt32)), (.int (0 : Int32))] (.int (0 : Int32)) := by have q := Arv.set Ar116 q116 S116 M116 H116 G116 (fits_nar_byte _) W117 2 rfl (Nat.le_of_ble_eq_true rfl); rw [own_nb] at q; exact q
        have N117 := Fr.snoc X117 N111 gb
        have f118 := (f112.other W117 (Ne.symm nab))
        obtain ⟨cl119, Ar119, q119, S119, M119, H119, G119⟩ := id f118
        have in119 : ¬ ((3 : Int32) < 0 ∨ cl119.slots.size ≤ ((3 : Int32)).toNatClampNeg) := inb_of S119 ⟨by decide, by decide⟩
        have c120 : ∀ t, Sx p e below T117 m 20 #[xvr ca, xvi (3 : Int32), xvr ba, xvi (3 : Int32), xvi (4 : Int32), xvi (3 : Int32), xvi cc3] [xwi (255 : Int32), xwi cc3] t → TG t := fun t k => c114 t (by
          refine y_icmpYes X111 hx 26 (hb hby d6_20) (XT.ii_le_t hc115) (by decide) (by decide) ?_
          refine y_aloadN X111 hx 27 (hb hby d6_26) rfl rfl rfl ?_
          refine y_iloadN X111 hx 28 (hb hby d6_27) rfl rfl ?_
          refine y_iload X111 hx 30 (hb hby d6_28) rfl rfl ?_
          refine XS.i2b X111.here hx rfl (hb hby d6_30) rfl ?_
          show Sx p e below T111 m 31 #[xvr ca, xvi (2 : Int32), xvr ba, xvi (2 : Int32), xvi (4 : Int32), xvi (2 : Int32), xvi cc2] [xwi (cc2.toInt8.toInt32), xwi (2 : Int32), xwr ba] _
          refine st117 _ ?_
          show Sx p e below T117 m 32 #[xvr ca, xvi (2 : Int32), xvr ba, xvi (2 : Int32), xvi (4 : Int32), xvi (2 : Int32), xvi cc2] [] _
          refine XS.iinc X117.here hx rfl (hb hby d6_32) rfl (l' := #[xvr ca, xvi ((2 : Int32) + (1 : Int32)), xvr ba, xvi (2 : Int32), xvi (4 : Int32), xvi (2 : Int32), xvi cc2]) rfl ?_
          rw [show ((2 : Int32) + (1 : Int32)) = (3 : Int32) from by decide]
          show Sx p e below T117 m 35 #[xvr ca, xvi (3 : Int32), xvr ba, xvi (2 : Int32), xvi (4 : Int32), xvi (2 : Int32), xvi cc2] [] _
          refine XS.iinc X117.here hx rfl (hb hby d6_35) rfl (l' := #[xvr ca, xvi (3 : Int32), xvr ba, xvi ((2 : Int32) + (1 : Int32)), xvi (4 : Int32), xvi (2 : Int32), xvi cc2]) rfl ?_
          rw [show ((2 : Int32) + (1 : Int32)) = (3 : Int32) from by decide]
          show Sx p e below T117 m 38 #[xvr ca, xvi (3 : Int32), xvr ba, xvi (3 : Int32), xvi (4 : Int32), xvi (2 : Int32), xvi cc2] [] _
          refine XS.iinc X117.here hx rfl (hb hby d6_38) rfl (l' := #[xvr ca, xvi (3 : Int32), xvr ba, xvi (3 : Int32), xvi (4 : Int32), xvi ((2 : Int32) + (1 : Int32)), xvi cc2]) rfl ?_
          rw [show ((2 : Int32) + (1 : Int32)) = (3 : Int32) from by decide]
          show Sx p e below T117 m 41 #[xvr ca, xvi (3 : Int32), xvr ba, xvi (3 : Int32), xvi (4 : Int32), xvi (3 : Int32), xvi cc2] [] _
          refine y_goto X117 hx 3 (hb hby d6_41) (by decide) (by decide) ?_
          refine y_iload X117 hx 5 (hb hby d6_3) rfl rfl ?_
          refine y_iload X117 hx 7 (hb hby d6_5) rfl rfl ?_
          refine y_icmpNo X117 hx 10 (hb hby d6_7) (XT.ii_ge_f (by decide)) rfl ?_
          refine y_aloadN X117 hx 11 (hb hby d6_10) rfl rfl rfl ?_
          refine y_iloadN X117 hx 12 (hb hby d6_11) rfl rfl ?_
          refine X117.caload hx (j := (3 : Int32)) (v := (.int cc3)) (by rw [e117]; exact Ar119.1) (State.isArrayOf_alike hZ.alike Ar119.2.1) Ar119.2.2 in119 (Has.at H119 in119 rfl) (g := (mkF m 12 #[xvr ca, xvi (3 : Int32), xvr ba, xvi (3 : Int32), xvi (4 : Int32), xvi (3 : Int32), xvi cc2] [xwi (3 : Int32), xwr ca])) rfl rfl (hb hby d6_12) _ ?_
          show Sx p e below T117 m 13 #[xvr ca, xvi (3 : Int32), xvr ba, xvi (3 : Int32), xvi (4 : Int32), xvi (3 : Int32), xvi cc2] [xwi cc3] _
          refine XS.istore X117.here hx rfl (hb hby d6_13) rfl (l' := #[xvr ca, xvi (3 : Int32), xvr ba, xvi (3 : Int32), xvi (4 : Int32), xvi (3 : Int32), xvi cc3]) rfl ?_
          show Sx p e below T117 m 15 #[xvr ca, xvi (3 : Int32), xvr ba, xvi (3 : Int32), xvi (4 : Int32), xvi (3 : Int32), xvi cc3] [] _
          refine y_iload X117 hx 17 (hb hby d6_15) rfl rfl ?_
          refine y_sipush X117 hx (255 : Int32) 20 (hb hby d6_17) rfl rfl ?_
          exact k)
        by_cases hc121 : (255 : Int32) < cc3
        · obtain ⟨fs, hr, hrun, hended, hW, hsame⟩ := X117.leave (v := some (.int (3 : Int32))) (fun h => by rw [Bd.returns] at h; cases h)
          refine ⟨_, _, hTG _ (c120 _ ?_), hrun, hended, _, _, rfl, ?_, ⟨_, rfl⟩, hW, hsame.mono (by decide) (by decide)⟩
          · refine y_icmpNo X117 hx 23 (hb hby d6_20) (XT.ii_le_f hc121) rfl ?_
            refine y_iload X117 hx 25 (hb hby d6_23) rfl rfl ?_
            show Sx p e below T117 m 25 #[xvr ca, xvi (3 : Int32), xvr ba, xvi (3 : Int32), xvi (4 : Int32), xvi (3 : Int32), xvi cc3] [xwi (3 : Int32)] _
            exact retOut X117 hx Bd.returns rfl (Or.inl ⟨rfl, Or.inl rfl, _, rfl⟩) (hb hby d6_25) hr
          · show QrmCmp Z G ca ck ba bk cc0 cc1 cc2 cc3 h0 n0 _ T117.heap _
            rw [e117]
            exact ⟨(3 : Int32), ([(.int (cc0.toInt8.toInt32)), (.int (cc1.toInt8.toInt32)), (.int (cc2.toInt8.toInt32)), (.int (0 : Int32))] : List Value), rfl, N117, ((((Keep.refl h0 [ba]).wr W105 (Or.inl (List.mem_of_getElem? (i := 0) rfl))).wr W111 (Or.inl (List.mem_of_getElem? (i := 0) rfl))).wr W117 (Or.inl (List.mem_of_getElem? (i := 0) rfl))), V117, (Or.inr (Or.inr (Or.inr (Or.inr ⟨rfl, hc121⟩))))⟩
        · obtain ⟨cl122, Ar122, q122, S122, M122, H122, G122⟩ := id V117
          have in122 : ¬ ((3 : Int32) < 0 ∨ cl122.slots.size ≤ ((3 : Int32)).toNatClampNeg) := inb_of S122 ⟨by decide, by decide⟩
          obtain ⟨T123, h123, X123, e123, W123, st123⟩ := stB X117 hx hZ e117 Ar122 (j := (3 : Int32)) in122 (g := (mkF m 31 #[xvr ca, xvi (3 : Int32), xvr ba, xvi (3 : Int32), xvi (4 : Int32), xvi (3 : Int32), xvi cc3] [xwi (cc3.toInt8.toInt32), xwi (3 : Int32), xwr ba])) rfl rfl (hb hby d6_31)
          have V123 : Arv Z h123 ba bk .byte (4 : Int32) [(.int (cc0.toInt8.toInt32)), (.int (cc1.toInt8.toInt32)), (.int (cc2.toInt8.toInt32)), (.int (cc3.toInt8.toInt32))] (.int (0 : Int32)) := by have q := Arv.set Ar122 q122 S122 M122 H122 G122 (fits_nar_byte _) W123 3 rfl (Nat.le_of_ble_eq_true rfl); rw [own_nb] at q; exact q
          have N123 := Fr.snoc X123 N117 gb
          obtain ⟨fs, hr, hrun, hended, hW, hsame⟩ := X123.leave (v := some (.int (4 : Int32))) (fun h => by rw [Bd.returns] at h; cases h)
          refine ⟨_, _, hTG _ (c120 _ ?_), hrun, hended, _, _, rfl, ?_, ⟨_, rfl⟩, hW, hsame.mono (by decide) (by decide)⟩
          · refine y_icmpYes X117 hx 26 (hb hby d6_20) (XT.ii_le_t hc121) (by decide) (by decide) ?_
            refine y_aloadN X117 hx 27 (hb hby d6_26) rfl rfl rfl ?_
            refine y_iloadN X117 hx 28 (hb hby d6_27) rfl rfl ?_
            refine y_iload X117 hx 30 (hb hby d6_28) rfl rfl ?_
            refine XS.i2b X117.here hx rfl (hb hby d6_30) rfl ?_
            show Sx p e below T117 m 31 #[xvr ca, xvi (3 : Int32), xvr ba, xvi (3 : Int32), xvi (4 : Int32), xvi (3 : Int32), xvi cc3] [xwi (cc3.toInt8.toInt32), xwi (3 : Int32), xwr ba] _
            refine st123 _ ?_
            show Sx p e below T123 m 32 #[xvr ca, xvi (3 : Int32), xvr ba, xvi (3 : Int32), xvi (4 : Int32), xvi (3 : Int32), xvi cc3] [] _
            refine XS.iinc X123.here hx rfl (hb hby d6_32) rfl (l' := #[xvr ca, xvi ((3 : Int32) + (1 : Int32)), xvr ba, xvi (3 : Int32), xvi (4 : Int32), xvi (3 : Int32), xvi cc3]) rfl ?_
            rw [show ((3 : Int32) + (1 : Int32)) = (4 : Int32) from by decide]
            show Sx p e below T123 m 35 #[xvr ca, xvi (4 : Int32), xvr ba, xvi (3 : Int32), xvi (4 : Int32), xvi (3 : Int32), xvi cc3] [] _
            refine XS.iinc X123.here hx rfl (hb hby d6_35) rfl (l' := #[xvr ca, xvi (4 : Int32), xvr ba, xvi ((3 : Int32) + (1 : Int32)), xvi (4 : Int32), xvi (3 : Int32), xvi cc3]) rfl ?_
            rw [show ((3 : Int32) + (1 : Int32)) = (4 : Int32) from by decide]
            show Sx p e below T123 m 38 #[xvr ca, xvi (4 : Int32), xvr ba, xvi (4 : Int32), xvi (4 : Int32), xvi (3 : Int32), xvi cc3] [] _
            refine XS.iinc X123.here hx rfl (hb hby d6_38) rfl (l' := #[xvr ca, xvi (4 : Int32), xvr ba, xvi (4 : Int32), xvi (4 : Int32), xvi ((3 : Int32) + (1 : Int32)), xvi cc3]) rfl ?_
            rw [show ((3 : Int32) + (1 : Int32)) = (4 : Int32) from by decide]
            show Sx p e below T123 m 41 #[xvr ca, xvi (4 : Int32), xvr ba, xvi (4 : Int32), xvi (4 : Int32), xvi (4 : Int32), xvi cc3] [] _
            refine y_goto X123 hx 3 (hb hby d6_41) (by decide) (by decide) ?_
            refine y_iload X123 hx 5 (hb hby d6_3) rfl rfl ?_
            refine y_iload X123 hx 7 (hb hby d6_5) rfl rfl ?_
            refine y_icmpYes X123 hx 44 (hb hby d6_7) (XT.ii_ge_t (by decide)) (by decide) (by decide) ?_
            refine y_iload X123 hx 46 (hb hby d6_44) rfl rfl ?_
            show Sx p e below T123 m 46 #[xvr ca, xvi (4 : Int32), xvr ba, xvi (4 : Int32), xvi (4 : Int32), xvi (4 : Int32), xvi cc3] [xwi (4 : Int32)] _
            exact retOut X123 hx Bd.returns rfl (Or.inl ⟨rfl, Or.inl rfl, _, rfl⟩) (hb hby d6_46) hr
          · show QrmCmp Z G ca ck ba bk cc0 cc1 cc2 cc3 h0 n0 _ T123.heap _
            rw [e123]
            exact ⟨(4 : Int32), ([(.int (cc0.toInt8.toInt32)), (.int (cc1.toInt8.toInt32)), (.int (cc2.toInt8.toInt32)), (.int (cc3.toInt8.toInt32))] : List Value), rfl, N123, (((((Keep.refl h0 [ba]).wr W105 (Or.inl (List.mem_of_getElem? (i := 0) rfl))).wr W111 (Or.inl (List.mem_of_getElem? (i := 0) rfl))).wr W117 (Or.inl (List.mem_of_getElem? (i := 0) rfl))).wr W123 (Or.inl (List.mem_of_getElem? (i := 0) rfl))), V123, (Or.inl ⟨rfl, rfl, hc103, hc109, hc115, hc121⟩)⟩
theorem ef_rmTBs (m : MethodId) (x0 : Addr) (x1 : Int32) (x2 : Int32)  : entryFrame m #[(.ref x0), (.int x1), (.int x2)] 5 = mkF m 0 #[.val (.ref x0), .val (.int x1), .val (.int x2), .unset, .unset] [] := by first | (simp [entryFrame, mkF, argsToLocals, Value.category]; done) | rfl
theorem d15_0 : decode jdk_52_method_14_code 0 = .ok (.iload_n 2, 1) := by decide +kernel
theorem d15_1 : decode jdk_52_method_14_code 1 = .ok (.invokestatic 107, 3) := by decide +kernel
theorem ef_rmA1 (m : MethodId) (x0 : Int32)  : entryFrame m #[(.int x0)] 1 = mkF m 0 #[.val (.int x0)] [] := by first | (simp [entryFrame, mkF, argsToLocals, Value.category]; done) | rfl
theorem d16_0 : decode jdk_52_method_2_code 0 = .ok (.iload_n 0, 1) := by decide +kernel
theorem d16_1 : decode jdk_52_method_2_code 1 = .ok (.invokestatic 11, 3) := by decide +kernel
theorem ef_rmA2 (m : MethodId) (x0 : Int32)  : entryFrame m #[(.int x0)] 1 = mkF m 0 #[.val (.int x0)] [] := by first | (simp [entryFrame, mkF, argsToLocals, Value.category]; done) | rfl
theorem d17_0 : decode jdk_52_method_3_code 0 = .ok (.iload_n 0, 1) := by decide +kernel
theorem d17_1 : decode jdk_52_method_3_code 1 = .ok (.ifCond .ge 11, 3) := by decide +kernel
theorem d17_12 : decode jdk_52_method_3_code 12 = .ok (.iload_n 0, 1) := by decide +kernel
theorem d17_13 : decode jdk_52_method_3_code 13 = .ok (.ldc 20, 2) := by decide +kernel
theorem d17_15 : decode jdk_52_method_3_code 15 = .ok (.if_icmp .lt 40, 3) := by decide +kernel
theorem d17_55 : decode jdk_52_method_3_code 55 = .ok (.iload_n 0, 1) := by decide +kernel
theorem d17_56 : decode jdk_52_method_3_code 56 = .ok (.iconst 1, 1) := by decide +kernel
theorem d17_57 : decode jdk_52_method_3_code 57 = .ok (.ishl, 1) := by decide +kernel
theorem d17_58 : decode jdk_52_method_3_code 58 = .ok (.ireturn, 1) := by decide +kernel
def QrmA2 (Z : State) (G : Gs)  (h0 : Heap) (n0 : Nat) (v : Option Value) (h : Heap) (L : List Loc) : Prop := v = some (.int (8 : Int32)) ∧ Fr n0 L ∧ h = h0
set_option maxRecDepth 65536 in
set_option maxHeartbeats 40000000 in
theorem rmA2 (l : Launch) (Z : State) (a0 : Array Value) (hw : HW a0 Z) (G : Gs) (ST : StartF Z G) (ws : List Jvm.Cond)  (h0 : Heap) (n0 : Nat) (X00 : Old Z n0 h0) :
    MetFree l (⟨"java/lang/StringUTF16", "newBytesLength", "(I)I"⟩ : MethodName) (head1 (Jvm.Cond.code (⟨"java/lang/StringUTF16", "newBytesLength", "(I)I"⟩ : MethodName) jdk_52_method_3_code 1 (some .int) :: ws) ({ frames := 0, cells := 0, slots := 0, locals := 0 } : Room)) (fun a U => a = #[(.int (4 : Int32))] ∧ Z.Warmed39 U.vm ∧ U.heap = h0) (fun _ _ _ _ _ => True) (fun _ U o U' => ∃ v L, o = .returned v ∧ QrmA2 Z G  h0 n0 v U'.heap L ∧ FrameEnd U o U' L ({ frames := 0, cells := 0, slots := 0, locals := 0 } : Room).cells ({ frames := 0, cells := 0, slots := 0, locals := 0 } : Room).slots) := by
  refine MetFree.of_bodySF (plainFor_of_name pn_0) hisR ?_
  intro p e s m args below meth c s₁ Bd hml0 hP hK
  obtain ⟨rfl, hZ, hh⟩ := hP
  have hx := Bd.exec
  have hby := Bd.bytes
  have hml : c.maxLocals = 1 := hml0
  have hown : s.vm.findClass "java/lang/StringUTF16" = some m.cls := findClass_of_methodNamed Bd.named
  have hnm := (name_of_methodNamed Bd.named Bd.method).1
  have X0 : Stand p l e ({ frames := 0, cells := 0, slots := 0, locals := 0 } : Room) s m #[(.int (4 : Int32))] below meth c s₁ [] 0 0 := Stand.of_body Bd
  have e0 : s₁.heap = h0 := by rw [← hh, Bd.state]; rfl
  have N0 := Fr.nil n0
  have Z0 : n0 ≤ h0.size := by have q := X00.2.1; rw [X00.1] at q; exact q
  obtain ⟨TG, hTG, hT2⟩ : ∃ P : State → Prop, (∀ t, P t → Steps p.tables e below (s₁.setTop (entryFrame m #[(.int (4 : Int32))] 1)) t) ∧ (∀ t, Steps p.tables e below (s₁.setTop (entryFrame m #[(.int (4 : Int32))] 1)) t → P t) := ⟨_, fun t k => k, fun t k => k⟩
  have pre0 : ∀ t, Sx p e below s₁ m 0 #[xvi (4 : Int32)] [] t → TG t := fun t k => hT2 t (castTop (ef_rmA2 m (4 : Int32) ) k)
  obtain ⟨fs, hr, hrun, hended, hW, hsame⟩ := X0.leave (v := some (.int (8 : Int32))) (fun h => by rw [Bd.returns] at h; cases h)
  refine ⟨_, _, hTG _ (pre0 _ ?_), hrun, hended, _, _, rfl, ?_, ⟨_, rfl⟩, hW, hsame.mono (by decide) (by decide)⟩
  · refine y_iloadN X0 hx 1 (hb hby d17_0) rfl rfl ?_
    refine y_ifYes X0 hx 12 (hb hby d17_1) (XT.i0_ge_t (by decide)) (by decide) (by decide) ?_
    refine y_iloadN X0 hx 13 (hb hby d17_12) rfl rfl ?_
    refine X0.ldcInt hx hown (mvT hZ (w_74 hw)) (g := (mkF m 13 #[xvi (4 : Int32)] [xwi (4 : Int32)])) rfl (hb hby d17_13) _ ?_
    show Sx p e below s₁ m 15 #[xvi (4 : Int32)] [xwi (1073741823 : Int32), xwi (4 : Int32)] _
    refine y_icmpYes X0 hx 55 (hb hby d17_15) (XT.ii_lt_t (by decide)) (by decide) (by decide) ?_
    refine y_iloadN X0 hx 56 (hb hby d17_55) rfl rfl ?_
    refine y_iconst X0 hx (1 : Int32) 57 (hb hby d17_56) rfl rfl ?_
    refine XS.ishl X0.here hx rfl (hb hby d17_57) rfl ?_
    rw [show ((4 : Int32) <<< ((1 : Int32) &&& 31)) = (8 : Int32) from by decide]
    show Sx p e below s₁ m 58 #[xvi (4 : Int32)] [xwi (8 : Int32)] _
    exact retOut X0 hx Bd.returns rfl (Or.inl ⟨rfl, Or.inl rfl, _, rfl⟩) (hb hby d17_58) hr
  · show QrmA2 Z G  h0 n0 _ s₁.heap _
    rw [e0]
    exact ⟨rfl, N0, rfl⟩
theorem pd_0 : parseMethodDescriptor "(I)I" = some ⟨[.int], some .int⟩ := by decide +kernel
theorem d16_4 : decode jdk_52_method_2_code 4 = .ok (.newarray .byte, 2) := by decide +kernel
theorem d16_6 : decode jdk_52_method_2_code 6 = .ok (.areturn, 1) := by decide +kernel
def QrmA1 (Z : State) (G : Gs)  (h0 : Heap) (n0 : Nat) (v : Option Value) (h : Heap) (L : List Loc) : Prop := ∃ (yo1 : Addr), ∃ (yk_yo1 : ClassId), v = some (.ref yo1) ∧ Fr n0 L ∧ Keep h0 h [] ∧ h0.size ≤ yo1 ∧ Arv Z h yo1 yk_yo1 .byte (8 : Int32) [(.int (0 : Int32)), (.int (0 : Int32)), (.int (0 : Int32)), (.int (0 : Int32)), (.int (0 : Int32)), (.int (0 : Int32)), (.int (0 : Int32)), (.int (0 : Int32))] (.int (0 : Int32))
set_option maxRecDepth 65536 in
set_option maxHeartbeats 40000000 in
theorem rmA1 (l : Launch) (Z : State) (a0 : Array Value) (hw : HW a0 Z) (G : Gs) (ST : StartF Z G) (ws : List Jvm.Cond)  (h0 : Heap) (n0 : Nat) (X00 : Old Z n0 h0) :
    MetFree l (⟨"java/lang/StringUTF16", "newBytesFor", "(I)[B"⟩ : MethodName) (head1 (Jvm.Cond.code (⟨"java/lang/StringUTF16", "newBytesFor", "(I)[B"⟩ : MethodName) jdk_52_method_2_code 1 (some (.array .byte)) :: ws) ({ frames := 1, cells := 1, slots := 8, locals := 12 } : Room)) (fun a U => a = #[(.int (4 : Int32))] ∧ Z.Warmed39 U.vm ∧ U.heap = h0) (fun _ _ _ _ _ => True) (fun _ U o U' => ∃ v L, o = .returned v ∧ QrmA1 Z G  h0 n0 v U'.heap L ∧ FrameEnd U o U' L ({ frames := 1, cells := 1, slots := 8, locals := 12 } : Room).cells ({ frames := 1, cells := 1, slots := 8, locals := 12 } : Room).slots) := by
  refine MetFree.of_bodySF (plainFor_of_name pn_0) hisR ?_
  intro p e s m args below meth c s₁ Bd hml0 hP hK
  obtain ⟨rfl, hZ, hh⟩ := hP
  have hx := Bd.exec
  have hby := Bd.bytes
  have hml : c.maxLocals = 1 := hml0
  have hown : s.vm.findClass "java/lang/StringUTF16" = some m.cls := findClass_of_methodNamed Bd.named
  have hnm := (name_of_methodNamed Bd.named Bd.method).1
  have X0 : Stand p l e ({ frames := 1, cells := 1, slots := 8, locals := 12 } : Room) s m #[(.int (4 : Int32))] below meth c s₁ [] 0 0 := Stand.of_body Bd
  have e0 : s₁.heap = h0 := by rw [← hh, Bd.state]; rfl
  have N0 := Fr.nil n0
  have Z0 : n0 ≤ h0.size := by have q := X00.2.1; rw [X00.1] at q; exact q
  obtain ⟨TG, hTG, hT2⟩ : ∃ P : State → Prop, (∀ t, P t → Steps p.tables e below (s₁.setTop (entryFrame m #[(.int (4 : Int32))] 1)) t) ∧ (∀ t, Steps p.tables e below (s₁.setTop (entryFrame m #[(.int (4 : Int32))] 1)) t → P t) := ⟨_, fun t k => k, fun t k => k⟩
  have pre0 : ∀ t, Sx p e below s₁ m 0 #[xvi (4 : Int32)] [] t → TG t := fun t k => hT2 t (castTop (ef_rmA1 m (4 : Int32) ) k)
  obtain ⟨_, _, ⟨T124, L124, k124, n124⟩, -, X124, ⟨Lc124, hQ124, l124, y124, z124⟩, st124⟩ := Jvm.LawKit.callS X0 hx (y := (⟨"java/lang/StringUTF16", "newBytesLength", "(I)I"⟩ : MethodName)) hown (mvT hZ (w_71 hw)) (mvT hZ (w_72 hw)) (mvT hZ (w_23 hw)) (mvT hZ (w_73 hw)) (by decide) (backOf (W := 0) (rmA2 l Z a0 hw G ST []  h0 n0 X00 ) hZ (w_73 hw) (w_23 hw) (by decide) (by decide)) (g := (mkF m 1 #[xvi (4 : Int32)] [xwi (4 : Int32)])) rfl (by rw [hml]; rfl) (argsL := [(.int (4 : Int32))]) (rest := []) (lenOf pd_0 rfl) rfl (by show 2 * 0 + _ ≤ _; exact Nat.le_of_eq rfl) (hb hby d16_1) (fun _ _ => ⟨rfl, e0, (by decide : 0 + 0 ≤ _), (by decide : 0 + 0 ≤ _)⟩)
  dsimp only [Pt.U, Pt.locs, Pt.cells, Pt.slots] at X124 l124 y124 z124 st124 hQ124
  subst l124 y124 z124
  obtain ⟨rfl, N124q, e124⟩ := hQ124
  have N124 := Fr.app N0 N124q
  obtain ⟨T125, h125, k125, X125, e125, E125, A125, st125⟩ := newP (aty := .byte) X124 hx hZ (w_25 hw) e124 (g := (mkF m 4 #[xvi (4 : Int32)] [xwi (8 : Int32)])) rfl (hb hby d16_4) rfl (by decide) (cap := 8) (by decide) (by decide) (by decide) (by decide)
  obtain ⟨b125, g125⟩ : ∃ z, z = h0.size := ⟨_, rfl⟩
  rw [← g125] at A125 st125
  have V125 : Arv Z h125 b125 k125 .byte (8 : Int32) [(.int (0 : Int32)), (.int (0 : Int32)), (.int (0 : Int32)), (.int (0 : Int32)), (.int (0 : Int32)), (.int (0 : Int32)), (.int (0 : Int32)), (.int (0 : Int32))] (.int (0 : Int32)) := (Arv.new A125 (by decide)).pad (pad_rep [] (.int (0 : Int32)) 8)
  obtain ⟨fs, hr, hrun, hended, hW, hsame⟩ := X125.leave (v := some (.ref b125)) (fun h => by rw [Bd.returns] at h; cases h)
  refine ⟨_, _, hTG _ (pre0 _ ?_), hrun, hended, _, _, rfl, ?_, ⟨_, rfl⟩, hW, hsame.mono (by decide) (by decide)⟩
  · refine y_iloadN X0 hx 1 (hb hby d16_0) rfl rfl ?_
    refine st124 _ ?_
    show Sx p e below T124 m 4 #[xvi (4 : Int32)] [xwi (8 : Int32)] _
    refine st125 _ ?_
    show Sx p e below T125 m 6 #[xvi (4 : Int32)] [xwr b125] _
    exact retOut X125 hx Bd.returns rfl (Or.inr (Or.inr (Or.inr (Or.inr ⟨rfl, rfl, rfl⟩)))) (hb hby d16_6) hr
  · show QrmA1 Z G  h0 n0 _ T125.heap _
    rw [e125]
    exact ⟨b125, k125, rfl, N124, ((Keep.refl h0 []).ext E125), (Nat.le_trans (Nat.le_refl _) (Nat.le_of_eq g125.symm)), V125⟩
theorem pd_1 : parseMethodDescriptor "(I)[B" = some ⟨[.int], some (.array .byte)⟩ := by decide +kernel
theorem d15_4 : decode jdk_52_method_14_code 4 = .ok (.astore_n 3, 1) := by decide +kernel
theorem d15_5 : decode jdk_52_method_14_code 5 = .ok (.iconst 0, 1) := by decide +kernel
theorem d15_6 : decode jdk_52_method_14_code 6 = .ok (.istore 4, 2) := by decide +kernel
theorem d15_8 : decode jdk_52_method_14_code 8 = .ok (.iload 4, 2) := by decide +kernel
theorem d15_10 : decode jdk_52_method_14_code 10 = .ok (.iload_n 2, 1) := by decide +kernel
theorem d15_11 : decode jdk_52_method_14_code 11 = .ok (.if_icmp .ge 21, 3) := by decide +kernel
theorem d15_14 : decode jdk_52_method_14_code 14 = .ok (.aload_n 3, 1) := by decide +kernel
theorem d15_15 : decode jdk_52_method_14_code 15 = .ok (.iload 4, 2) := by decide +kernel
theorem d15_17 : decode jdk_52_method_14_code 17 = .ok (.aload_n 0, 1) := by decide +kernel
theorem d15_18 : decode jdk_52_method_14_code 18 = .ok (.iload_n 1, 1) := by decide +kernel
theorem d15_19 : decode jdk_52_method_14_code 19 = .ok (.caload, 1) := by decide +kernel
theorem d15_20 : decode jdk_52_method_14_code 20 = .ok (.invokestatic 111, 3) := by decide +kernel
theorem ef_rmA3 (m : MethodId) (x0 : Addr) (x1 : Int32) (x2 : Int32)  : entryFrame m #[(.ref x0), (.int x1), (.int x2)] 3 = mkF m 0 #[.val (.ref x0), .val (.int x1), .val (.int x2)] [] := by first | (simp [entryFrame, mkF, argsToLocals, Value.category]; done) | rfl
theorem d18_0 : decode jdk_52_method_4_code 0 = .ok (.getstatic 44, 3) := by decide +kernel
theorem d18_3 : decode jdk_52_method_4_code 3 = .ok (.ifCond .ne 25, 3) := by decide +kernel
theorem d18_28 : decode jdk_52_method_4_code 28 = .ok (.iload_n 1, 1) := by decide +kernel
theorem d18_29 : decode jdk_52_method_4_code 29 = .ok (.iconst 1, 1) := by decide +kernel
theorem d18_30 : decode jdk_52_method_4_code 30 = .ok (.ishl, 1) := by decide +kernel
theorem d18_31 : decode jdk_52_method_4_code 31 = .ok (.istore_n 1, 1) := by decide +kernel
theorem d18_32 : decode jdk_52_method_4_code 32 = .ok (.aload_n 0, 1) := by decide +kernel
theorem d18_33 : decode jdk_52_method_4_code 33 = .ok (.iload_n 1, 1) := by decide +kernel
theorem d18_34 : decode jdk_52_method_4_code 34 = .ok (.iinc 1 1, 3) := by decide +kernel
theorem d18_37 : decode jdk_52_method_4_code 37 = .ok (.iload_n 2, 1) := by decide +kernel
theorem d18_38 : decode jdk_52_method_4_code 38 = .ok (.getstatic 59, 3) := by decide +kernel
theorem d18_41 : decode jdk_52_method_4_code 41 = .ok (.ishr, 1) := by decide +kernel
theorem d18_42 : decode jdk_52_method_4_code 42 = .ok (.i2b, 1) := by decide +kernel
theorem d18_43 : decode jdk_52_method_4_code 43 = .ok (.bastore, 1) := by decide +kernel
theorem d18_44 : decode jdk_52_method_4_code 44 = .ok (.aload_n 0, 1) := by decide +kernel
theorem d18_45 : decode jdk_52_method_4_code 45 = .ok (.iload_n 1, 1) := by decide +kernel
theorem d18_46 : decode jdk_52_method_4_code 46 = .ok (.iload_n 2, 1) := by decide +kernel
theorem d18_47 : decode jdk_52_method_4_code 47 = .ok (.getstatic 63, 3) := by decide +kernel
theorem d18_50 : decode jdk_52_method_4_code 50 = .ok (.ishr, 1) := by decide +kernel
theorem d18_51 : decode jdk_52_method_4_code 51 = .ok (.i2b, 1) := by decide +kernel
theorem d18_52 : decode jdk_52_method_4_code 52 = .ok (.bastore, 1) := by decide +kernel
theorem d18_53 : decode jdk_52_method_4_code 53 = .ok (.return_, 1) := by decide +kernel
def QrmA3 (Z : State) (G : Gs) (xa1 : Addr) (xi1 : Int32) (xk_xa1 : ClassId) (h0 : Heap) (n0 : Nat) (v : Option Value) (h : Heap) (L : List Loc) : Prop := v = none ∧ Fr n0 L ∧ Keep h0 h [xa1] ∧ Arv Z h xa1 xk_xa1 .byte (8 : Int32) [(.int ((xi1 >>> ((0 : Int32) &&& 31)).toInt8.toInt32)), (.int ((xi1 >>> ((8 : Int32) &&& 31)).toInt8.toInt32)), (.int (0 : Int32)), (.int (0 : Int32)), (.int (0 : Int32)), (.int (0 : Int32)), (.int (0 : Int32)), (.int (0 : Int32))] (.int (0 : Int32))
set_option maxRecDepth 65536 in
set_option maxHeartbeats 40000000 in
theorem rmA3 (l : Launch) (Z : State) (a0 : Array Value) (hw : HW a0 Z) (G : Gs) (ST : StartF Z G) (ws : List Jvm.Cond) (xa1 : Addr) (xi1 : Int32) (xk_xa1 : ClassId) (h0 : Heap) (n0 : Nat) (X00 : Old Z n0 h0) (xV_xa1 : Arv Z h0 xa1 xk_xa1 .byte (8 : Int32) [(.int (0 : Int32)), (.int (0 : Int32)), (.int (0 : Int32)), (.int (0 : Int32)), (.int (0 : Int32)), (.int (0 : Int32)), (.int (0 : Int32)), (.int (0 : Int32))] (.int (0 : Int32))) (xg_xa1 : n0 ≤ xa1) :
    MetFree l (⟨"java/lang/StringUTF16", "putChar", "([BII)V"⟩ : MethodName) (head1 (Jvm.Cond.code (⟨"java/lang/StringUTF16", "putChar", "([BII)V"⟩ : MethodName) jdk_52_method_4_code 3 none :: ws) ({ frames := 0, cells := 0, slots := 0, locals := 0 } : Room)) (fun a U => a = #[(.ref xa1), (.int (0 : Int32)), (.int xi1)] ∧ Z.Warmed39 U.vm ∧ U.heap = h0) (fun _ _ _ _ _ => True) (fun _ U o U' => ∃ v L, o = .returned v ∧ QrmA3 Z G xa1 xi1 xk_xa1 h0 n0 v U'.heap L ∧ FrameEnd U o U' L ({ frames := 0, cells := 0, slots := 0, locals := 0 } : Room).cells ({ frames := 0, cells := 0, slots := 0, locals := 0 } : Room).slots) := by
  refine MetFree.of_bodySF (plainFor_of_name pn_0) hisR ?_
  intro p e s m args below meth c s₁ Bd hml0 hP hK
  obtain ⟨rfl, hZ, hh⟩ := hP
  have hx := Bd.exec
  have hby := Bd.bytes
  have hml : c.maxLocals = 3 := hml0
  have hown : s.vm.findClass "java/lang/StringUTF16" = some m.cls := findClass_of_methodNamed Bd.named
  have hnm := (name_of_methodNamed Bd.named Bd.method).1
  have X0 : Stand p l e ({ frames := 0, cells := 0, slots := 0, locals := 0 } : Room) s m #[(.ref xa1), (.int (0 : Int32)), (.int xi1)] below meth c s₁ [] 0 0 := Stand.of_body Bd
  have e0 : s₁.heap = h0 := by rw [← hh, Bd.state]; rfl
  have N0 := Fr.nil n0
  have Z0 : n0 ≤ h0.size := by have q := X00.2.1; rw [X00.1] at q; exact q
  obtain ⟨TG, hTG, hT2⟩ : ∃ P : State → Prop, (∀ t, P t → Steps p.tables e below (s₁.setTop (entryFrame m #[(.ref xa1), (.int (0 : Int32)), (.int xi1)] 3)) t) ∧ (∀ t, Steps p.tables e below (s₁.setTop (entryFrame m #[(.ref xa1), (.int (0 : Int32)), (.int xi1)] 3)) t → P t) := ⟨_, fun t k => k, fun t k => k⟩
  have pre0 : ∀ t, Sx p e below s₁ m 0 #[xvr xa1, xvi (0 : Int32), xvi xi1] [] t → TG t := fun t k => hT2 t (castTop (ef_rmA3 m xa1 (0 : Int32) xi1 ) k)
  obtain ⟨T133, X133, e133, st133⟩ := getS2 X0 hx hZ hown (host := "") (Or.inl (w_78 hw)) Via.refl e0 (ST.c4.ext X00.2) (g := (mkF m 0 #[xvr xa1, xvi (0 : Int32), xvi xi1] [])) rfl (hb hby d18_0)
  obtain ⟨T134, X134, e134, st134⟩ := getS2 X133 hx hZ hown (host := "") (Or.inl (w_79 hw)) Via.refl e133 (ST.c5.ext X00.2) (g := (mkF m 38 #[xvr xa1, xvi (1 : Int32), xvi xi1] [xwi xi1, xwi (0 : Int32), xwr xa1])) rfl (hb hby d18_38)
  obtain ⟨cl135, Ar135, q135, S135, M135, H135, G135⟩ := id xV_xa1
  have in135 : ¬ ((0 : Int32) < 0 ∨ cl135.slots.size ≤ ((0 : Int32)).toNatClampNeg) := inb_of S135 ⟨by decide, by decide⟩
  obtain ⟨T136, h136, X136, e136, W136, st136⟩ := stB X134 hx hZ e134 Ar135 (j := (0 : Int32)) in135 (g := (mkF m 43 #[xvr xa1, xvi (1 : Int32), xvi xi1] [xwi ((xi1 >>> ((0 : Int32) &&& 31)).toInt8.toInt32), xwi (0 : Int32), xwr xa1])) rfl rfl (hb hby d18_43)
  have V136 : Arv Z h136 xa1 xk_xa1 .byte (8 : Int32) [(.int ((xi1 >>> ((0 : Int32) &&& 31)).toInt8.toInt32)), (.int (0 : Int32)), (.int (0 : Int32)), (.int (0 : Int32)), (.int (0 : Int32)), (.int (0 : Int32)), (.int (0 : Int32)), (.int (0 : Int32))] (.int (0 : Int32)) := by have q := Arv.set Ar135 q135 S135 M135 H135 G135 (fits_nar_byte _) W136 0 rfl (Nat.le_of_ble_eq_true rfl); rw [own_nb] at q; exact q
  have N136 := Fr.snoc X136 N0 xg_xa1
  have Ol137 : Old Z n0 h136 := (X00.wr W136 xg_xa1)
  obtain ⟨T138, X138, e138, st138⟩ := getS2 X136 hx hZ hown (host := "") (Or.inl (w_80 hw)) Via.refl e136 (ST.c6.ext Ol137.2) (g := (mkF m 47 #[xvr xa1, xvi (1 : Int32), xvi xi1] [xwi xi1, xwi (1 : Int32), xwr xa1])) rfl (hb hby d18_47)
  obtain ⟨cl139, Ar139, q139, S139, M139, H139, G139⟩ := id V136
  have in139 : ¬ ((1 : Int32) < 0 ∨ cl139.slots.size ≤ ((1 : Int32)).toNatClampNeg) := inb_of S139 ⟨by decide, by decide⟩
  obtain ⟨T140, h140, X140, e140, W140, st140⟩ := stB X138 hx hZ e138 Ar139 (j := (1 : Int32)) in139 (g := (mkF m 52 #[xvr xa1, xvi (1 : Int32), xvi xi1] [xwi ((xi1 >>> ((8 : Int32) &&& 31)).toInt8.toInt32), xwi (1 : Int32), xwr xa1])) rfl rfl (hb hby d18_52)
  have V140 : Arv Z h140 xa1 xk_xa1 .byte (8 : Int32) [(.int ((xi1 >>> ((0 : Int32) &&& 31)).toInt8.toInt32)), (.int ((xi1 >>> ((8 : Int32) &&& 31)).toInt8.toInt32)), (.int (0 : Int32)), (.int (0 : Int32)), (.int (0 : Int32)), (.int (0 : Int32)), (.int (0 : Int32)), (.int (0 : Int32))] (.int (0 : Int32)) := by have q := Arv.set Ar139 q139 S139 M139 H139 G139 (fits_nar_byte _) W140 1 rfl (Nat.le_of_ble_eq_true rfl); rw [own_nb] at q; exact q
  have N140 := Fr.snoc X140 N136 xg_xa1
  obtain ⟨fs, hr, hrun, hended, hW, hsame⟩ := X140.leave (v := none) (fun _ => rfl)
  refine ⟨_, _, hTG _ (pre0 _ ?_), hrun, hended, _, _, rfl, ?_, ⟨_, rfl⟩, hW, hsame.mono (by decide) (by decide)⟩
  · refine st133 _ ?_
    show Sx p e below T133 m 3 #[xvr xa1, xvi (0 : Int32), xvi xi1] [xwi (1 : Int32)] _
    refine y_ifYes X133 hx 28 (hb hby d18_3) (XT.i0_ne_t (by decide)) (by decide) (by decide) ?_
    refine y_iloadN X133 hx 29 (hb hby d18_28) rfl rfl ?_
    refine y_iconst X133 hx (1 : Int32) 30 (hb hby d18_29) rfl rfl ?_
    refine XS.ishl X133.here hx rfl (hb hby d18_30) rfl ?_
    rw [show ((0 : Int32) <<< ((1 : Int32) &&& 31)) = (0 : Int32) from by decide]
    show Sx p e below T133 m 31 #[xvr xa1, xvi (0 : Int32), xvi xi1] [xwi (0 : Int32)] _
    refine XS.istoreN X133.here hx rfl (hb hby d18_31) rfl (l' := #[xvr xa1, xvi (0 : Int32), xvi xi1]) rfl ?_
    show Sx p e below T133 m 32 #[xvr xa1, xvi (0 : Int32), xvi xi1] [] _
    refine y_aloadN X133 hx 33 (hb hby d18_32) rfl rfl rfl ?_
    refine y_iloadN X133 hx 34 (hb hby d18_33) rfl rfl ?_
    refine XS.iinc X133.here hx rfl (hb hby d18_34) rfl (l' := #[xvr xa1, xvi ((0 : Int32) + (1 : Int32)), xvi xi1]) rfl ?_
    rw [show ((0 : Int32) + (1 : Int32)) = (1 : Int32) from by decide]
    show Sx p e below T133 m 37 #[xvr xa1, xvi (1 : Int32), xvi xi1] [xwi (0 : Int32), xwr xa1] _
    refine y_iloadN X133 hx 38 (hb hby d18_37) rfl rfl ?_
    refine st134 _ ?_
    show Sx p e below T134 m 41 #[xvr xa1, xvi (1 : Int32), xvi xi1] [xwi (0 : Int32), xwi xi1, xwi (0 : Int32), xwr xa1] _
    refine XS.ishr X134.here hx rfl (hb hby d18_41) rfl ?_
    show Sx p e below T134 m 42 #[xvr xa1, xvi (1 : Int32), xvi xi1] [xwi (xi1 >>> ((0 : Int32) &&& 31)), xwi (0 : Int32), xwr xa1] _
    refine XS.i2b X134.here hx rfl (hb hby d18_42) rfl ?_
    show Sx p e below T134 m 43 #[xvr xa1, xvi (1 : Int32), xvi xi1] [xwi ((xi1 >>> ((0 : Int32) &&& 31)).toInt8.toInt32), xwi (0 : Int32), xwr xa1] _
    refine st136 _ ?_
    show Sx p e below T136 m 44 #[xvr xa1, xvi (1 : Int32), xvi xi1] [] _
    refine y_aloadN X136 hx 45 (hb hby d18_44) rfl rfl rfl ?_
    refine y_iloadN X136 hx 46 (hb hby d18_45) rfl rfl ?_
    refine y_iloadN X136 hx 47 (hb hby d18_46) rfl rfl ?_
    refine st138 _ ?_
    show Sx p e below T138 m 50 #[xvr xa1, xvi (1 : Int32), xvi xi1] [xwi (8 : Int32), xwi xi1, xwi (1 : Int32), xwr xa1] _
    refine XS.ishr X138.here hx rfl (hb hby d18_50) rfl ?_
    show Sx p e below T138 m 51 #[xvr xa1, xvi (1 : Int32), xvi xi1] [xwi (xi1 >>> ((8 : Int32) &&& 31)), xwi (1 : Int32), xwr xa1] _
    refine XS.i2b X138.here hx rfl (hb hby d18_51) rfl ?_
    show Sx p e below T138 m 52 #[xvr xa1, xvi (1 : Int32), xvi xi1] [xwi ((xi1 >>> ((8 : Int32) &&& 31)).toInt8.toInt32), xwi (1 : Int32), xwr xa1] _
    refine st140 _ ?_
    show Sx p e below T140 m 53 #[xvr xa1, xvi (1 : Int32), xvi xi1] [] _
    exact X140.returnOut hx Bd.returns (hb hby d18_53) hr
  · show QrmA3 Z G xa1 xi1 xk_xa1 h0 n0 _ T140.heap _
    rw [e140]
    exact ⟨rfl, N140, (((Keep.refl h0 [xa1]).wr W136 (Or.inl (List.mem_of_getElem? (i := 0) rfl))).wr W140 (Or.inl (List.mem_of_getElem? (i := 0) rfl))), V140⟩
theorem pd_2 : parseMethodDescriptor "([BII)V" = some ⟨[(.array .byte), .int, .int], none⟩ := by decide +kernel
theorem d15_23 : decode jdk_52_method_14_code 23 = .ok (.iinc 1 1, 3) := by decide +kernel
theorem d15_26 : decode jdk_52_method_14_code 26 = .ok (.iinc 4 1, 3) := by decide +kernel
theorem d15_29 : decode jdk_52_method_14_code 29 = .ok (.goto (-21), 3) := by decide +kernel
theorem ef_rmA4 (m : MethodId) (x0 : Addr) (x1 : Int32) (x2 : Int32)  : entryFrame m #[(.ref x0), (.int x1), (.int x2)] 3 = mkF m 0 #[.val (.ref x0), .val (.int x1), .val (.int x2)] [] := by first | (simp [entryFrame, mkF, argsToLocals, Value.category]; done) | rfl
def QrmA4 (Z : State) (G : Gs) (xa1 : Addr) (xi1 : Int32) (xk_xa1 : ClassId) (xi2 : Int32) (xi3 : Int32) (h0 : Heap) (n0 : Nat) (v : Option Value) (h : Heap) (L : List Loc) : Prop := v = none ∧ Fr n0 L ∧ Keep h0 h [xa1] ∧ Arv Z h xa1 xk_xa1 .byte (8 : Int32) [(.int xi2), (.int xi3), (.int ((xi1 >>> ((0 : Int32) &&& 31)).toInt8.toInt32)), (.int ((xi1 >>> ((8 : Int32) &&& 31)).toInt8.toInt32)), (.int (0 : Int32)), (.int (0 : Int32)), (.int (0 : Int32)), (.int (0 : Int32))] (.int (0 : Int32))
set_option maxRecDepth 65536 in
set_option maxHeartbeats 40000000 in
theorem rmA4 (l : Launch) (Z : State) (a0 : Array Value) (hw : HW a0 Z) (G : Gs) (ST : StartF Z G) (ws : List Jvm.Cond) (xa1 : Addr) (xi1 : Int32) (xk_xa1 : ClassId) (xi2 : Int32) (xi3 : Int32) (h0 : Heap) (n0 : Nat) (X00 : Old Z n0 h0) (xV_xa1 : Arv Z h0 xa1 xk_xa1 .byte (8 : Int32) [(.int xi2), (.int xi3), (.int (0 : Int32)), (.int (0 : Int32)), (.int (0 : Int32)), (.int (0 : Int32)), (.int (0 : Int32)), (.int (0 : Int32))] (.int (0 : Int32))) (xg_xa1 : n0 ≤ xa1) :
    MetFree l (⟨"java/lang/StringUTF16", "putChar", "([BII)V"⟩ : MethodName) (head1 (Jvm.Cond.code (⟨"java/lang/StringUTF16", "putChar", "([BII)V"⟩ : MethodName) jdk_52_method_4_code 3 none :: ws) ({ frames := 0, cells := 0, slots := 0, locals := 0 } : Room)) (fun a U => a = #[(.ref xa1), (.int (1 : Int32)), (.int xi1)] ∧ Z.Warmed39 U.vm ∧ U.heap = h0) (fun _ _ _ _ _ => True) (fun _ U o U' => ∃ v L, o = .returned v ∧ QrmA4 Z G xa1 xi1 xk_xa1 xi2 xi3 h0 n0 v U'.heap L ∧ FrameEnd U o U' L ({ frames := 0, cells := 0, slots := 0, locals := 0 } : Room).cells ({ frames := 0, cells := 0, slots := 0, locals := 0 } : Room).slots) := by
  refine MetFree.of_bodySF (plainFor_of_name pn_0) hisR ?_
  intro p e s m args below meth c s₁ Bd hml0 hP hK
  obtain ⟨rfl, hZ, hh⟩ := hP
  have hx := Bd.exec
  have hby := Bd.bytes
  have hml : c.maxLocals = 3 := hml0
  have hown : s.vm.findClass "java/lang/StringUTF16" = some m.cls := findClass_of_methodNamed Bd.named
  have hnm := (name_of_methodNamed Bd.named Bd.method).1
  have X0 : Stand p l e ({ frames := 0, cells := 0, slots := 0, locals := 0 } : Room) s m #[(.ref xa1), (.int (1 : Int32)), (.int xi1)] below meth c s₁ [] 0 0 := Stand.of_body Bd
  have e0 : s₁.heap = h0 := by rw [← hh, Bd.state]; rfl
  have N0 := Fr.nil n0
  have Z0 : n0 ≤ h0.size := by have q := X00.2.1; rw [X00.1] at q; exact q
  obtain ⟨TG, hTG, hT2⟩ : ∃ P : State → Prop, (∀ t, P t → Steps p.tables e below (s₁.setTop (entryFrame m #[(.ref xa1), (.int (1 : Int32)), (.int xi1)] 3)) t) ∧ (∀ t, Steps p.tables e below (s₁.setTop (entryFrame m #[(.ref xa1), (.int (1 : Int32)), (.int xi1)] 3)) t → P t) := ⟨_, fun t k => k, fun t k => k⟩
  have pre0 : ∀ t, Sx p e below s₁ m 0 #[xvr xa1, xvi (1 : Int32), xvi xi1] [] t → TG t := fun t k => hT2 t (castTop (ef_rmA4 m xa1 (1 : Int32) xi1 ) k)
  obtain ⟨T146, X146, e146, st146⟩ := getS2 X0 hx hZ hown (host := "") (Or.inl (w_78 hw)) Via.refl e0 (ST.c4.ext X00.2) (g := (mkF m 0 #[xvr xa1, xvi (1 : Int32), xvi xi1] [])) rfl (hb hby d18_0)
  obtain ⟨T147, X147, e147, st147⟩ := getS2 X146 hx hZ hown (host := "") (Or.inl (w_79 hw)) Via.refl e146 (ST.c5.ext X00.2) (g := (mkF m 38 #[xvr xa1, xvi (3 : Int32), xvi xi1] [xwi xi1, xwi (2 : Int32), xwr xa1])) rfl (hb hby d18_38)
  obtain ⟨cl148, Ar148, q148, S148, M148, H148, G148⟩ := id xV_xa1
  have in148 : ¬ ((2 : Int32) < 0 ∨ cl148.slots.size ≤ ((2 : Int32)).toNatClampNeg) := inb_of S148 ⟨by decide, by decide⟩
  obtain ⟨T149, h149, X149, e149, W149, st149⟩ := stB X147 hx hZ e147 Ar148 (j := (2 : Int32)) in148 (g := (mkF m 43 #[xvr xa1, xvi (3 : Int32), xvi xi1] [xwi ((xi1 >>> ((0 : Int32) &&& 31)).toInt8.toInt32), xwi (2 : Int32), xwr xa1])) rfl rfl (hb hby d18_43)
  have V149 : Arv Z h149 xa1 xk_xa1 .byte (8 : Int32) [(.int xi2), (.int xi3), (.int ((xi1 >>> ((0 : Int32) &&& 31)).toInt8.toInt32)), (.int (0 : Int32)), (.int (0 : Int32)), (.int (0 : Int32)), (.int (0 : Int32)), (.int (0 : Int32))] (.int (0 : Int32)) := by have q := Arv.set Ar148 q148 S148 M148 H148 G148 (fits_nar_byte _) W149 2 rfl (Nat.le_of_ble_eq_true rfl); rw [own_nb] at q; exact q
  have N149 := Fr.snoc X149 N0 xg_xa1
  have Ol150 : Old Z n0 h149 := (X00.wr W149 xg_xa1)
  obtain ⟨T151, X151, e151, st151⟩ := getS2 X149 hx hZ hown (host := "") (Or.inl (w_80 hw)) Via.refl e149 (ST.c6.ext Ol150.2) (g := (mkF m 47 #[xvr xa1, xvi (3 : Int32), xvi xi1] [xwi xi1, xwi (3 : Int32), xwr xa1])) rfl (hb hby d18_47)
  obtain ⟨cl152, Ar152, q152, S152, M152, H152, G152⟩ := id V149
  have in152 : ¬ ((3 : Int32) < 0 ∨ cl152.slots.size ≤ ((3 : Int32)).toNatClampNeg) := inb_of S152 ⟨by decide, by decide⟩
  obtain ⟨T153, h153, X153, e153, W153, st153⟩ := stB X151 hx hZ e151 Ar152 (j := (3 : Int32)) in152 (g := (mkF m 52 #[xvr xa1, xvi (3 : Int32), xvi xi1] [xwi ((xi1 >>> ((8 : Int32) &&& 31)).toInt8.toInt32), xwi (3 : Int32), xwr xa1])) rfl rfl (hb hby d18_52)
  have V153 : Arv Z h153 xa1 xk_xa1 .byte (8 : Int32) [(.int xi2), (.int xi3), (.int ((xi1 >>> ((0 : Int32) &&& 31)).toInt8.toInt32)), (.int ((xi1 >>> ((8 : Int32) &&& 31)).toInt8.toInt32)), (.int (0 : Int32)), (.int (0 : Int32)), (.int (0 : Int32)), (.int (0 : Int32))] (.int (0 : Int32)) := by have q := Arv.set Ar152 q152 S152 M152 H152 G152 (fits_nar_byte _) W153 3 rfl (Nat.le_of_ble_eq_true rfl); rw [own_nb] at q; exact q
  have N153 := Fr.snoc X153 N149 xg_xa1
  obtain ⟨fs, hr, hrun, hended, hW, hsame⟩ := X153.leave (v := none) (fun _ => rfl)
  refine ⟨_, _, hTG _ (pre0 _ ?_), hrun, hended, _, _, rfl, ?_, ⟨_, rfl⟩, hW, hsame.mono (by decide) (by decide)⟩
  · refine st146 _ ?_
    show Sx p e below T146 m 3 #[xvr xa1, xvi (1 : Int32), xvi xi1] [xwi (1 : Int32)] _
    refine y_ifYes X146 hx 28 (hb hby d18_3) (XT.i0_ne_t (by decide)) (by decide) (by decide) ?_
    refine y_iloadN X146 hx 29 (hb hby d18_28) rfl rfl ?_
    refine y_iconst X146 hx (1 : Int32) 30 (hb hby d18_29) rfl rfl ?_
    refine XS.ishl X146.here hx rfl (hb hby d18_30) rfl ?_
    rw [show ((1 : Int32) <<< ((1 : Int32) &&& 31)) = (2 : Int32) from by decide]
    show Sx p e below T146 m 31 #[xvr xa1, xvi (1 : Int32), xvi xi1] [xwi (2 : Int32)] _
    refine XS.istoreN X146.here hx rfl (hb hby d18_31) rfl (l' := #[xvr xa1, xvi (2 : Int32), xvi xi1]) rfl ?_
    show Sx p e below T146 m 32 #[xvr xa1, xvi (2 : Int32), xvi xi1] [] _
    refine y_aloadN X146 hx 33 (hb hby d18_32) rfl rfl rfl ?_
    refine y_iloadN X146 hx 34 (hb hby d18_33) rfl rfl ?_
    refine XS.iinc X146.here hx rfl (hb hby d18_34) rfl (l' := #[xvr xa1, xvi ((2 : Int32) + (1 : Int32)), xvi xi1]) rfl ?_
    rw [show ((2 : Int32) + (1 : Int32)) = (3 : Int32) from by decide]
    show Sx p e below T146 m 37 #[xvr xa1, xvi (3 : Int32), xvi xi1] [xwi (2 : Int32), xwr xa1] _
    refine y_iloadN X146 hx 38 (hb hby d18_37) rfl rfl ?_
    refine st147 _ ?_
    show Sx p e below T147 m 41 #[xvr xa1, xvi (3 : Int32), xvi xi1] [xwi (0 : Int32), xwi xi1, xwi (2 : Int32), xwr xa1] _
    refine XS.ishr X147.here hx rfl (hb hby d18_41) rfl ?_
    show Sx p e below T147 m 42 #[xvr xa1, xvi (3 : Int32), xvi xi1] [xwi (xi1 >>> ((0 : Int32) &&& 31)), xwi (2 : Int32), xwr xa1] _
    refine XS.i2b X147.here hx rfl (hb hby d18_42) rfl ?_
    show Sx p e below T147 m 43 #[xvr xa1, xvi (3 : Int32), xvi xi1] [xwi ((xi1 >>> ((0 : Int32) &&& 31)).toInt8.toInt32), xwi (2 : Int32), xwr xa1] _
    refine st149 _ ?_
    show Sx p e below T149 m 44 #[xvr xa1, xvi (3 : Int32), xvi xi1] [] _
    refine y_aloadN X149 hx 45 (hb hby d18_44) rfl rfl rfl ?_
    refine y_iloadN X149 hx 46 (hb hby d18_45) rfl rfl ?_
    refine y_iloadN X149 hx 47 (hb hby d18_46) rfl rfl ?_
    refine st151 _ ?_
    show Sx p e below T151 m 50 #[xvr xa1, xvi (3 : Int32), xvi xi1] [xwi (8 : Int32), xwi xi1, xwi (3 : Int32), xwr xa1] _
    refine XS.ishr X151.here hx rfl (hb hby d18_50) rfl ?_
    show Sx p e below T151 m 51 #[xvr xa1, xvi (3 : Int32), xvi xi1] [xwi (xi1 >>> ((8 : Int32) &&& 31)), xwi (3 : Int32), xwr xa1] _
    refine XS.i2b X151.here hx rfl (hb hby d18_51) rfl ?_
    show Sx p e below T151 m 52 #[xvr xa1, xvi (3 : Int32), xvi xi1] [xwi ((xi1 >>> ((8 : Int32) &&& 31)).toInt8.toInt32), xwi (3 : Int32), xwr xa1] _
    refine st153 _ ?_
    show Sx p e below T153 m 53 #[xvr xa1, xvi (3 : Int32), xvi xi1] [] _
    exact X153.returnOut hx Bd.returns (hb hby d18_53) hr
  · show QrmA4 Z G xa1 xi1 xk_xa1 xi2 xi3 h0 n0 _ T153.heap _
    rw [e153]
    exact ⟨rfl, N153, (((Keep.refl h0 [xa1]).wr W149 (Or.inl (List.mem_of_getElem? (i := 0) rfl))).wr W153 (Or.inl (List.mem_of_getElem? (i := 0) rfl))), V153⟩
theorem ef_rmA5 (m : MethodId) (x0 : Addr) (x1 : Int32) (x2 : Int32)  : entryFrame m #[(.ref x0), (.int x1), (.int x2)] 3 = mkF m 0 #[.val (.ref x0), .val (.int x1), .val (.int x2)] [] := by first | (simp [entryFrame, mkF, argsToLocals, Value.category]; done) | rfl
def QrmA5 (Z : State) (G : Gs) (xa1 : Addr) (xi1 : Int32) (xk_xa1 : ClassId) (xi2 : Int32) (xi3 : Int32) (xi4 : Int32) (xi5 : Int32) (h0 : Heap) (n0 : Nat) (v : Option Value) (h : Heap) (L : List Loc) : Prop := v = none ∧ Fr n0 L ∧ Keep h0 h [xa1] ∧ Arv Z h xa1 xk_xa1 .byte (8 : Int32) [(.int xi2), (.int xi3), (.int xi4), (.int xi5), (.int ((xi1 >>> ((0 : Int32) &&& 31)).toInt8.toInt32)), (.int ((xi1 >>> ((8 : Int32) &&& 31)).toInt8.toInt32)), (.int (0 : Int32)), (.int (0 : Int32))] (.int (0 : Int32))
set_option maxRecDepth 65536 in
set_option maxHeartbeats 40000000 in
theorem rmA5 (l : Launch) (Z : State) (a0 : Array Value) (hw : HW a0 Z) (G : Gs) (ST : StartF Z G) (ws : List Jvm.Cond) (xa1 : Addr) (xi1 : Int32) (xk_xa1 : ClassId) (xi2 : Int32) (xi3 : Int32) (xi4 : Int32) (xi5 : Int32) (h0 : Heap) (n0 : Nat) (X00 : Old Z n0 h0) (xV_xa1 : Arv Z h0 xa1 xk_xa1 .byte (8 : Int32) [(.int xi2), (.int xi3), (.int xi4), (.int xi5), (.int (0 : Int32)), (.int (0 : Int32)), (.int (0 : Int32)), (.int (0 : Int32))] (.int (0 : Int32))) (xg_xa1 : n0 ≤ xa1) :
    MetFree l (⟨"java/lang/StringUTF16", "putChar", "([BII)V"⟩ : MethodName) (head1 (Jvm.Cond.code (⟨"java/lang/StringUTF16", "putChar", "([BII)V"⟩ : MethodName) jdk_52_method_4_code 3 none :: ws) ({ frames := 0, cells := 0, slots := 0, locals := 0 } : Room)) (fun a U => a = #[(.ref xa1), (.int (2 : Int32)), (.int xi1)] ∧ Z.Warmed39 U.vm ∧ U.heap = h0) (fun _ _ _ _ _ => True) (fun _ U o U' => ∃ v L, o = .returned v ∧ QrmA5 Z G xa1 xi1 xk_xa1 xi2 xi3 xi4 xi5 h0 n0 v U'.heap L ∧ FrameEnd U o U' L ({ frames := 0, cells := 0, slots := 0, locals := 0 } : Room).cells ({ frames := 0, cells := 0, slots := 0, locals := 0 } : Room).slots) := by
  refine MetFree.of_bodySF (plainFor_of_name pn_0) hisR ?_
  intro p e s m args below meth c s₁ Bd hml0 hP hK
  obtain ⟨rfl, hZ, hh⟩ := hP
  have hx := Bd.exec
  have hby := Bd.bytes
  have hml : c.maxLocals = 3 := hml0
  have hown : s.vm.findClass "java/lang/StringUTF16" = some m.cls := findClass_of_methodNamed Bd.named
  have hnm := (name_of_methodNamed Bd.named Bd.method).1
  have X0 : Stand p l e ({ frames := 0, cells := 0, slots := 0, locals := 0 } : Room) s m #[(.ref xa1), (.int (2 : Int32)), (.int xi1)] below meth c s₁ [] 0 0 := Stand.of_body Bd
  have e0 : s₁.heap = h0 := by rw [← hh, Bd.state]; rfl
  have N0 := Fr.nil n0
  have Z0 : n0 ≤ h0.size := by have q := X00.2.1; rw [X00.1] at q; exact q
  obtain ⟨TG, hTG, hT2⟩ : ∃ P : State → Prop, (∀ t, P t → Steps p.tables e below (s₁.setTop (entryFrame m #[(.ref xa1), (.int (2 : Int32)), (.int xi1)] 3)) t) ∧ (∀ t, Steps p.tables e below (s₁.setTop (entryFrame m #[(.ref xa1), (.int (2 : Int32)), (.int xi1)] 3)) t → P t) := ⟨_, fun t k => k, fun t k => k⟩
  have pre0 : ∀ t, Sx p e below s₁ m 0 #[xvr xa1, xvi (2 : Int32), xvi xi1] [] t → TG t := fun t k => hT2 t (castTop (ef_rmA5 m xa1 (2 : Int32) xi1 ) k)
  obtain ⟨T159, X159, e159, st159⟩ := getS2 X0 hx hZ hown (host := "") (Or.inl (w_78 hw)) Via.refl e0 (ST.c4.ext X00.2) (g := (mkF m 0 #[xvr xa1, xvi (2 : Int32), xvi xi1] [])) rfl (hb hby d18_0)
  obtain ⟨T160, X160, e160, st160⟩ := getS2 X159 hx hZ hown (host := "") (Or.inl (w_79 hw)) Via.refl e159 (ST.c5.ext X00.2) (g := (mkF m 38 #[xvr xa1, xvi (5 : Int32), xvi xi1] [xwi xi1, xwi (4 : Int32), xwr xa1])) rfl (hb hby d18_38)
  obtain ⟨cl161, Ar161, q161, S161, M161, H161, G161⟩ := id xV_xa1
  have in161 : ¬ ((4 : Int32) < 0 ∨ cl161.slots.size ≤ ((4 : Int32)).toNatClampNeg) := inb_of S161 ⟨by decide, by decide⟩
  obtain ⟨T162, h162, X162, e162, W162, st162⟩ := stB X160 hx hZ e160 Ar161 (j := (4 : Int32)) in161 (g := (mkF m 43 #[xvr xa1, xvi (5 : Int32), xvi xi1] [xwi ((xi1 >>> ((0 : Int32) &&& 31)).toInt8.toInt32), xwi (4 : Int32), xwr xa1])) rfl rfl (hb hby d18_43)
  have V162 : Arv Z h162 xa1 xk_xa1 .byte (8 : Int32) [(.int xi2), (.int xi3), (.int xi4), (.int xi5), (.int ((xi1 >>> ((0 : Int32) &&& 31)).toInt8.toInt32)), (.int (0 : Int32)), (.int (0 : Int32)), (.int (0 : Int32))] (.int (0 : Int32)) := by have q := Arv.set Ar161 q161 S161 M161 H161 G161 (fits_nar_byte _) W162 4 rfl (Nat.le_of_ble_eq_true rfl); rw [own_nb] at q; exact q
  have N162 := Fr.snoc X162 N0 xg_xa1
  have Ol163 : Old Z n0 h162 := (X00.wr W162 xg_xa1)
  obtain ⟨T164, X164, e164, st164⟩ := getS2 X162 hx hZ hown (host := "") (Or.inl (w_80 hw)) Via.refl e162 (ST.c6.ext Ol163.2) (g := (mkF m 47 #[xvr xa1, xvi (5 : Int32), xvi xi1] [xwi xi1, xwi (5 : Int32), xwr xa1])) rfl (hb hby d18_47)
  obtain ⟨cl165, Ar165, q165, S165, M165, H165, G165⟩ := id V162
  have in165 : ¬ ((5 : Int32) < 0 ∨ cl165.slots.size ≤ ((5 : Int32)).toNatClampNeg) := inb_of S165 ⟨by decide, by decide⟩
  obtain ⟨T166, h166, X166, e166, W166, st166⟩ := stB X164 hx hZ e164 Ar165 (j := (5 : Int32)) in165 (g := (mkF m 52 #[xvr xa1, xvi (5 : Int32), xvi xi1] [xwi ((xi1 >>> ((8 : Int32) &&& 31)).toInt8.toInt32), xwi (5 : Int32), xwr xa1])) rfl rfl (hb hby d18_52)
  have V166 : Arv Z h166 xa1 xk_xa1 .byte (8 : Int32) [(.int xi2), (.int xi3), (.int xi4), (.int xi5), (.int ((xi1 >>> ((0 : Int32) &&& 31)).toInt8.toInt32)), (.int ((xi1 >>> ((8 : Int32) &&& 31)).toInt8.toInt32)), (.int (0 : Int32)), (.int (0 : Int32))] (.int (0 : Int32)) := by have q := Arv.set Ar165 q165 S165 M165 H165 G165 (fits_nar_byte _) W166 5 rfl (Nat.le_of_ble_eq_true rfl); rw [own_nb] at q; exact q
  have N166 := Fr.snoc X166 N162 xg_xa1
  obtain ⟨fs, hr, hrun, hended, hW, hsame⟩ := X166.leave (v := none) (fun _ => rfl)
  refine ⟨_, _, hTG _ (pre0 _ ?_), hrun, hended, _, _, rfl, ?_, ⟨_, rfl⟩, hW, hsame.mono (by decide) (by decide)⟩
  · refine st159 _ ?_
    show Sx p e below T159 m 3 #[xvr xa1, xvi (2 : Int32), xvi xi1] [xwi (1 : Int32)] _
    refine y_ifYes X159 hx 28 (hb hby d18_3) (XT.i0_ne_t (by decide)) (by decide) (by decide) ?_
    refine y_iloadN X159 hx 29 (hb hby d18_28) rfl rfl ?_
    refine y_iconst X159 hx (1 : Int32) 30 (hb hby d18_29) rfl rfl ?_
    refine XS.ishl X159.here hx rfl (hb hby d18_30) rfl ?_
    rw [show ((2 : Int32) <<< ((1 : Int32) &&& 31)) = (4 : Int32) from by decide]
    show Sx p e below T159 m 31 #[xvr xa1, xvi (2 : Int32), xvi xi1] [xwi (4 : Int32)] _
    refine XS.istoreN X159.here hx rfl (hb hby d18_31) rfl (l' := #[xvr xa1, xvi (4 : Int32), xvi xi1]) rfl ?_
    show Sx p e below T159 m 32 #[xvr xa1, xvi (4 : Int32), xvi xi1] [] _
    refine y_aloadN X159 hx 33 (hb hby d18_32) rfl rfl rfl ?_
    refine y_iloadN X159 hx 34 (hb hby d18_33) rfl rfl ?_
    refine XS.iinc X159.here hx rfl (hb hby d18_34) rfl (l' := #[xvr xa1, xvi ((4 : Int32) + (1 : Int32)), xvi xi1]) rfl ?_
    rw [show ((4 : Int32) + (1 : Int32)) = (5 : Int32) from by decide]
    show Sx p e below T159 m 37 #[xvr xa1, xvi (5 : Int32), xvi xi1] [xwi (4 : Int32), xwr xa1] _
    refine y_iloadN X159 hx 38 (hb hby d18_37) rfl rfl ?_
    refine st160 _ ?_
    show Sx p e below T160 m 41 #[xvr xa1, xvi (5 : Int32), xvi xi1] [xwi (0 : Int32), xwi xi1, xwi (4 : Int32), xwr xa1] _
    refine XS.ishr X160.here hx rfl (hb hby d18_41) rfl ?_
    show Sx p e below T160 m 42 #[xvr xa1, xvi (5 : Int32), xvi xi1] [xwi (xi1 >>> ((0 : Int32) &&& 31)), xwi (4 : Int32), xwr xa1] _
    refine XS.i2b X160.here hx rfl (hb hby d18_42) rfl ?_
    show Sx p e below T160 m 43 #[xvr xa1, xvi (5 : Int32), xvi xi1] [xwi ((xi1 >>> ((0 : Int32) &&& 31)).toInt8.toInt32), xwi (4 : Int32), xwr xa1] _
    refine st162 _ ?_
    show Sx p e below T162 m 44 #[xvr xa1, xvi (5 : Int32), xvi xi1] [] _
    refine y_aloadN X162 hx 45 (hb hby d18_44) rfl rfl rfl ?_
    refine y_iloadN X162 hx 46 (hb hby d18_45) rfl rfl ?_
    refine y_iloadN X162 hx 47 (hb hby d18_46) rfl rfl ?_
    refine st164 _ ?_
    show Sx p e below T164 m 50 #[xvr xa1, xvi (5 : Int32), xvi xi1] [xwi (8 : Int32), xwi xi1, xwi (5 : Int32), xwr xa1] _
    refine XS.ishr X164.here hx rfl (hb hby d18_50) rfl ?_
    show Sx p e below T164 m 51 #[xvr xa1, xvi (5 : Int32), xvi xi1] [xwi (xi1 >>> ((8 : Int32) &&& 31)), xwi (5 : Int32), xwr xa1] _
    refine XS.i2b X164.here hx rfl (hb hby d18_51) rfl ?_
    show Sx p e below T164 m 52 #[xvr xa1, xvi (5 : Int32), xvi xi1] [xwi ((xi1 >>> ((8 : Int32) &&& 31)).toInt8.toInt32), xwi (5 : Int32), xwr xa1] _
    refine st166 _ ?_
    show Sx p e below T166 m 53 #[xvr xa1, xvi (5 : Int32), xvi xi1] [] _
    exact X166.returnOut hx Bd.returns (hb hby d18_53) hr
  · show QrmA5 Z G xa1 xi1 xk_xa1 xi2 xi3 xi4 xi5 h0 n0 _ T166.heap _
    rw [e166]
    exact ⟨rfl, N166, (((Keep.refl h0 [xa1]).wr W162 (Or.inl (List.mem_of_getElem? (i := 0) rfl))).wr W166 (Or.inl (List.mem_of_getElem? (i := 0) rfl))), V166⟩
theorem ef_rmA6 (m : MethodId) (x0 : Addr) (x1 : Int32) (x2 : Int32)  : entryFrame m #[(.ref x0), (.int x1), (.int x2)] 3 = mkF m 0 #[.val (.ref x0), .val (.int x1), .val (.int x2)] [] := by first | (simp [entryFrame, mkF, argsToLocals, Value.category]; done) | rfl
def QrmA6 (Z : State) (G : Gs) (xa1 : Addr) (xi1 : Int32) (xk_xa1 : ClassId) (xi2 : Int32) (xi3 : Int32) (xi4 : Int32) (xi5 : Int32) (xi6 : Int32) (xi7 : Int32) (h0 : Heap) (n0 : Nat) (v : Option Value) (h : Heap) (L : List Loc) : Prop := v = none ∧ Fr n0 L ∧ Keep h0 h [xa1] ∧ Arv Z h xa1 xk_xa1 .byte (8 : Int32) [(.int xi2), (.int xi3), (.int xi4), (.int xi5), (.int xi6), (.int xi7), (.int ((xi1 >>> ((0 : Int32) &&& 31)).toInt8.toInt32)), (.int ((xi1 >>> ((8 : Int32) &&& 31)).toInt8.toInt32))] (.int (0 : Int32))
set_option maxRecDepth 65536 in
set_option maxHeartbeats 40000000 in
theorem rmA6 (l : Launch) (Z : State) (a0 : Array Value) (hw : HW a0 Z) (G : Gs) (ST : StartF Z G) (ws : List Jvm.Cond) (xa1 : Addr) (xi1 : Int32) (xk_xa1 : ClassId) (xi2 : Int32) (xi3 : Int32) (xi4 : Int32) (xi5 : Int32) (xi6 : Int32) (xi7 : Int32) (h0 : Heap) (n0 : Nat) (X00 : Old Z n0 h0) (xV_xa1 : Arv Z h0 xa1 xk_xa1 .byte (8 : Int32) [(.int xi2), (.int xi3), (.int xi4), (.int xi5), (.int xi6), (.int xi7), (.int (0 : Int32)), (.int (0 : Int32))] (.int (0 : Int32))) (xg_xa1 : n0 ≤ xa1) :
    MetFree l (⟨"java/lang/StringUTF16", "putChar", "([BII)V"⟩ : MethodName) (head1 (Jvm.Cond.code (⟨"java/lang/StringUTF16", "putChar", "([BII)V"⟩ : MethodName) jdk_52_method_4_code 3 none :: ws) ({ frames := 0, cells := 0, slots := 0, locals := 0 } : Room)) (fun a U => a = #[(.ref xa1), (.int (3 : Int32)), (.int xi1)] ∧ Z.Warmed39 U.vm ∧ U.heap = h0) (fun _ _ _ _ _ => True) (fun _ U o U' => ∃ v L, o = .returned v ∧ QrmA6 Z G xa1 xi1 xk_xa1 xi2 xi3 xi4 xi5 xi6 xi7 h0 n0 v U'.heap L ∧ FrameEnd U o U' L ({ frames := 0, cells := 0, slots := 0, locals := 0 } : Room).cells ({ frames := 0, cells := 0, slots := 0, locals := 0 } : Room).slots) := by
  refine MetFree.of_bodySF (plainFor_of_name pn_0) hisR ?_
  intro p e s m args below meth c s₁ Bd hml0 hP hK
  obtain ⟨rfl, hZ, hh⟩ := hP
  have hx := Bd.exec
  have hby := Bd.bytes
  have hml : c.maxLocals = 3 := hml0
  have hown : s.vm.findClass "java/lang/StringUTF16" = some m.cls := findClass_of_methodNamed Bd.named
  have hnm := (name_of_methodNamed Bd.named Bd.method).1
  have X0 : Stand p l e ({ frames := 0, cells := 0, slots := 0, locals := 0 } : Room) s m #[(.ref xa1), (.int (3 : Int32)), (.int xi1)] below meth c s₁ [] 0 0 := Stand.of_body Bd
  have e0 : s₁.heap = h0 := by rw [← hh, Bd.state]; rfl
  have N0 := Fr.nil n0
  have Z0 : n0 ≤ h0.size := by have q := X00.2.1; rw [X00.1] at q; exact q
  obtain ⟨TG, hTG, hT2⟩ : ∃ P : State → Prop, (∀ t, P t → Steps p.tables e below (s₁.setTop (entryFrame m #[(.ref xa1), (.int (3 : Int32)), (.int xi1)] 3)) t) ∧ (∀ t, Steps p.tables e below (s₁.setTop (entryFrame m #[(.ref xa1), (.int (3 : Int32)), (.int xi1)] 3)) t → P t) := ⟨_, fun t k => k, fun t k => k⟩
  have pre0 : ∀ t, Sx p e below s₁ m 0 #[xvr xa1, xvi (3 : Int32), xvi xi1] [] t → TG t := fun t k => hT2 t (castTop (ef_rmA6 m xa1 (3 : Int32) xi1 ) k)
  obtain ⟨T172, X172, e172, st172⟩ := getS2 X0 hx hZ hown (host := "") (Or.inl (w_78 hw)) Via.refl e0 (ST.c4.ext X00.2) (g := (mkF m 0 #[xvr xa1, xvi (3 : Int32), xvi xi1] [])) rfl (hb hby d18_0)
  obtain ⟨T173, X173, e173, st173⟩ := getS2 X172 hx hZ hown (host := "") (Or.inl (w_79 hw)) Via.refl e172 (ST.c5.ext X00.2) (g := (mkF m 38 #[xvr xa1, xvi (7 : Int32), xvi xi1] [xwi xi1, xwi (6 : Int32), xwr xa1])) rfl (hb hby d18_38)
  obtain ⟨cl174, Ar174, q174, S174, M174, H174, G174⟩ := id xV_xa1
  have in174 : ¬ ((6 : Int32) < 0 ∨ cl174.slots.size ≤ ((6 : Int32)).toNatClampNeg) := inb_of S174 ⟨by decide, by decide⟩
  obtain ⟨T175, h175, X175, e175, W175, st175⟩ := stB X173 hx hZ e173 Ar174 (j := (6 : Int32)) in174 (g := (mkF m 43 #[xvr xa1, xvi (7 : Int32), xvi xi1] [xwi ((xi1 >>> ((0 : Int32) &&& 31)).toInt8.toInt32), xwi (6 : Int32), xwr xa1])) rfl rfl (hb hby d18_43)
  have V175 : Arv Z h175 xa1 xk_xa1 .byte (8 : Int32) [(.int xi2), (.int xi3), (.int xi4), (.int xi5), (.int xi6), (.int xi7), (.int ((xi1 >>> ((0 : Int32) &&& 31)).toInt8.toInt32)), (.int (0 : Int32))] (.int (0 : Int32)) := by have q := Arv.set Ar174 q174 S174 M174 H174 G174 (fits_nar_byte _) W175 6 rfl (Nat.le_of_ble_eq_true rfl); rw [own_nb] at q; exact q
  have N175 := Fr.snoc X175 N0 xg_xa1
  have Ol176 : Old Z n0 h175 := (X00.wr W175 xg_xa1)
  obtain ⟨T177, X177, e177, st177⟩ := getS2 X175 hx hZ hown (host := "") (Or.inl (w_80 hw)) Via.refl e175 (ST.c6.ext Ol176.2) (g := (mkF m 47 #[xvr xa1, xvi (7 : Int32), xvi xi1] [xwi xi1, xwi (7 : Int32), xwr xa1])) rfl (hb hby d18_47)
  obtain ⟨cl178, Ar178, q178, S178, M178, H178, G178⟩ := id V175
  have in178 : ¬ ((7 : Int32) < 0 ∨ cl178.slots.size ≤ ((7 : Int32)).toNatClampNeg) := inb_of S178 ⟨by decide, by decide⟩
  obtain ⟨T179, h179, X179, e179, W179, st179⟩ := stB X177 hx hZ e177 Ar178 (j := (7 : Int32)) in178 (g := (mkF m 52 #[xvr xa1, xvi (7 : Int32), xvi xi1] [xwi ((xi1 >>> ((8 : Int32) &&& 31)).toInt8.toInt32), xwi (7 : Int32), xwr xa1])) rfl rfl (hb hby d18_52)
  have V179 : Arv Z h179 xa1 xk_xa1 .byte (8 : Int32) [(.int xi2), (.int xi3), (.int xi4), (.int xi5), (.int xi6), (.int xi7), (.int ((xi1 >>> ((0 : Int32) &&& 31)).toInt8.toInt32)), (.int ((xi1 >>> ((8 : Int32) &&& 31)).toInt8.toInt32))] (.int (0 : Int32)) := by have q := Arv.set Ar178 q178 S178 M178 H178 G178 (fits_nar_byte _) W179 7 rfl (Nat.le_of_ble_eq_true rfl); rw [own_nb] at q; exact q
  have N179 := Fr.snoc X179 N175 xg_xa1
  obtain ⟨fs, hr, hrun, hended, hW, hsame⟩ := X179.leave (v := none) (fun _ => rfl)
  refine ⟨_, _, hTG _ (pre0 _ ?_), hrun, hended, _, _, rfl, ?_, ⟨_, rfl⟩, hW, hsame.mono (by decide) (by decide)⟩
  · refine st172 _ ?_
    show Sx p e below T172 m 3 #[xvr xa1, xvi (3 : Int32), xvi xi1] [xwi (1 : Int32)] _
    refine y_ifYes X172 hx 28 (hb hby d18_3) (XT.i0_ne_t (by decide)) (by decide) (by decide) ?_
    refine y_iloadN X172 hx 29 (hb hby d18_28) rfl rfl ?_
    refine y_iconst X172 hx (1 : Int32) 30 (hb hby d18_29) rfl rfl ?_
    refine XS.ishl X172.here hx rfl (hb hby d18_30) rfl ?_
    rw [show ((3 : Int32) <<< ((1 : Int32) &&& 31)) = (6 : Int32) from by decide]
    show Sx p e below T172 m 31 #[xvr xa1, xvi (3 : Int32), xvi xi1] [xwi (6 : Int32)] _
    refine XS.istoreN X172.here hx rfl (hb hby d18_31) rfl (l' := #[xvr xa1, xvi (6 : Int32), xvi xi1]) rfl ?_
    show Sx p e below T172 m 32 #[xvr xa1, xvi (6 : Int32), xvi xi1] [] _
    refine y_aloadN X172 hx 33 (hb hby d18_32) rfl rfl rfl ?_
    refine y_iloadN X172 hx 34 (hb hby d18_33) rfl rfl ?_
    refine XS.iinc X172.here hx rfl (hb hby d18_34) rfl (l' := #[xvr xa1, xvi ((6 : Int32) + (1 : Int32)), xvi xi1]) rfl ?_
    rw [show ((6 : Int32) + (1 : Int32)) = (7 : Int32) from by decide]
    show Sx p e below T172 m 37 #[xvr xa1, xvi (7 : Int32), xvi xi1] [xwi (6 : Int32), xwr xa1] _
    refine y_iloadN X172 hx 38 (hb hby d18_37) rfl rfl ?_
    refine st173 _ ?_
    show Sx p e below T173 m 41 #[xvr xa1, xvi (7 : Int32), xvi xi1] [xwi (0 : Int32), xwi xi1, xwi (6 : Int32), xwr xa1] _
    refine XS.ishr X173.here hx rfl (hb hby d18_41) rfl ?_
    show Sx p e below T173 m 42 #[xvr xa1, xvi (7 : Int32), xvi xi1] [xwi (xi1 >>> ((0 : Int32) &&& 31)), xwi (6 : Int32), xwr xa1] _
    refine XS.i2b X173.here hx rfl (hb hby d18_42) rfl ?_
    show Sx p e below T173 m 43 #[xvr xa1, xvi (7 : Int32), xvi xi1] [xwi ((xi1 >>> ((0 : Int32) &&& 31)).toInt8.toInt32), xwi (6 : Int32), xwr xa1] _
    refine st175 _ ?_
    show Sx p e below T175 m 44 #[xvr xa1, xvi (7 : Int32), xvi xi1] [] _
    refine y_aloadN X175 hx 45 (hb hby d18_44) rfl rfl rfl ?_
    refine y_iloadN X175 hx 46 (hb hby d18_45) rfl rfl ?_
    refine y_iloadN X175 hx 47 (hb hby d18_46) rfl rfl ?_
    refine st177 _ ?_
    show Sx p e below T177 m 50 #[xvr xa1, xvi (7 : Int32), xvi xi1] [xwi (8 : Int32), xwi xi1, xwi (7 : Int32), xwr xa1] _
    refine XS.ishr X177.here hx rfl (hb hby d18_50) rfl ?_
    show Sx p e below T177 m 51 #[xvr xa1, xvi (7 : Int32), xvi xi1] [xwi (xi1 >>> ((8 : Int32) &&& 31)), xwi (7 : Int32), xwr xa1] _
    refine XS.i2b X177.here hx rfl (hb hby d18_51) rfl ?_
    show Sx p e below T177 m 52 #[xvr xa1, xvi (7 : Int32), xvi xi1] [xwi ((xi1 >>> ((8 : Int32) &&& 31)).toInt8.toInt32), xwi (7 : Int32), xwr xa1] _
    refine st179 _ ?_
    show Sx p e below T179 m 53 #[xvr xa1, xvi (7 : Int32), xvi xi1] [] _
    exact X179.returnOut hx Bd.returns (hb hby d18_53) hr
  · show QrmA6 Z G xa1 xi1 xk_xa1 xi2 xi3 xi4 xi5 xi6 xi7 h0 n0 _ T179.heap _
    rw [e179]
    exact ⟨rfl, N179, (((Keep.refl h0 [xa1]).wr W175 (Or.inl (List.mem_of_getElem? (i := 0) rfl))).wr W179 (Or.inl (List.mem_of_getElem? (i := 0) rfl))), V179⟩
theorem d15_32 : decode jdk_52_method_14_code 32 = .ok (.aload_n 3, 1) := by decide +kernel
theorem d15_33 : decode jdk_52_method_14_code 33 = .ok (.areturn, 1) := by decide +kernel
def QrmTBs (Z : State) (G : Gs) (ca : Addr) (ck : ClassId) (cc0 : Int32) (cc1 : Int32) (cc2 : Int32) (cc3 : Int32) (h0 : Heap) (n0 : Nat) (v : Option Value) (h : Heap) (L : List Loc) : Prop := ∃ (bx : Addr), ∃ (kx : ClassId), v = some (.ref bx) ∧ Fr n0 L ∧ Keep h0 h [] ∧ h0.size ≤ bx ∧ Arv Z h bx kx .byte (8 : Int32) [(.int ((cc0 >>> ((0 : Int32) &&& 31)).toInt8.toInt32)), (.int ((cc0 >>> ((8 : Int32) &&& 31)).toInt8.toInt32)), (.int ((cc1 >>> ((0 : Int32) &&& 31)).toInt8.toInt32)), (.int ((cc1 >>> ((8 : Int32) &&& 31)).toInt8.toInt32)), (.int ((cc2 >>> ((0 : Int32) &&& 31)).toInt8.toInt32)), (.int ((cc2 >>> ((8 : Int32) &&& 31)).toInt8.toInt32)), (.int ((cc3 >>> ((0 : Int32) &&& 31)).toInt8.toInt32)), (.int ((cc3 >>> ((8 : Int32) &&& 31)).toInt8.toInt32))] (.int (0 : Int32))
set_option maxRecDepth 65536 in
set_option maxHeartbeats 40000000 in
theorem rmTBs (l : Launch) (Z : State) (a0 : Array Value) (hw : HW a0 Z) (G : Gs) (ST : StartF Z G) (ws : List Jvm.Cond) (ca : Addr) (ck : ClassId) (cc0 : Int32) (cc1 : Int32) (cc2 : Int32) (cc3 : Int32) (h0 : Heap) (n0 : Nat) (X00 : Old Z n0 h0) (Vc : Arv Z h0 ca ck .char (4 : Int32) [(.int cc0), (.int cc1), (.int cc2), (.int cc3)] (.int (0 : Int32))) :
    MetFree l (⟨"java/lang/StringUTF16", "toBytes", "([CII)[B"⟩ : MethodName) (head1 (Jvm.Cond.code (⟨"java/lang/StringUTF16", "toBytes", "([CII)[B"⟩ : MethodName) jdk_52_method_14_code 5 (some (.array .byte)) :: ws) ({ frames := 2, cells := 1, slots := 8, locals := 24 } : Room)) (fun a U => a = #[(.ref ca), (.int (0 : Int32)), (.int (4 : Int32))] ∧ Z.Warmed39 U.vm ∧ U.heap = h0) (fun _ _ _ _ _ => True) (fun _ U o U' => ∃ v L, o = .returned v ∧ QrmTBs Z G ca ck cc0 cc1 cc2 cc3 h0 n0 v U'.heap L ∧ FrameEnd U o U' L ({ frames := 2, cells := 1, slots := 8, locals := 24 } : Room).cells ({ frames := 2, cells := 1, slots := 8, locals := 24 } : Room).slots) := by
  refine MetFree.of_bodySF (plainFor_of_name pn_0) hisR ?_
  intro p e s m args below meth c s₁ Bd hml0 hP hK
  obtain ⟨rfl, hZ, hh⟩ := hP
  have hx := Bd.exec
  have hby := Bd.bytes
  have hml : c.maxLocals = 5 := hml0
  have hown : s.vm.findClass "java/lang/StringUTF16" = some m.cls := findClass_of_methodNamed Bd.named
  have hnm := (name_of_methodNamed Bd.named Bd.method).1
  have X0 : Stand p l e ({ frames := 2, cells := 1, slots := 8, locals := 24 } : Room) s m #[(.ref ca), (.int (0 : Int32)), (.int (4 : Int32))] below meth c s₁ [] 0 0 := Stand.of_body Bd
  have e0 : s₁.heap = h0 := by rw [← hh, Bd.state]; rfl
  have N0 := Fr.nil n0
  have Z0 : n0 ≤ h0.size := by have q := X00.2.1; rw [X00.1] at q; exact q
  obtain ⟨TG, hTG, hT2⟩ : ∃ P : State → Prop, (∀ t, P t → Steps p.tables e below (s₁.setTop (entryFrame m #[(.ref ca), (.int (0 : Int32)), (.int (4 : Int32))] 5)) t) ∧ (∀ t, Steps p.tables e below (s₁.setTop (entryFrame m #[(.ref ca), (.int (0 : Int32)), (.int (4 : Int32))] 5)) t → P t) := ⟨_, fun t k => k, fun t k => k⟩
  have pre0 : ∀ t, Sx p e below s₁ m 0 #[xvr ca, xvi (0 : Int32), xvi (4 : Int32), xun, xun] [] t → TG t := fun t k => hT2 t (castTop (ef_rmTBs m ca (0 : Int32) (4 : Int32) ) k)
  obtain ⟨_, _, ⟨T126, L126, k126, n126⟩, -, X126, ⟨Lc126, hQ126, l126, y126, z126⟩, st126⟩ := Jvm.LawKit.callS X0 hx (y := (⟨"java/lang/StringUTF16", "newBytesFor", "(I)[B"⟩ : MethodName)) hown (mvT hZ (w_68 hw)) (mvT hZ (w_69 hw)) (mvT hZ (w_23 hw)) (mvT hZ (w_70 hw)) (by decide) (backOf (W := 0) (rmA1 l Z a0 hw G ST []  h0 n0 X00 ) hZ (w_70 hw) (w_23 hw) (by decide) (by decide)) (g := (mkF m 1 #[xvr ca, xvi (0 : Int32), xvi (4 : Int32), xun, xun] [xwi (4 : Int32)])) rfl (by rw [hml]; rfl) (argsL := [(.int (4 : Int32))]) (rest := []) (lenOf pd_1 rfl) rfl (by show 2 * 0 + _ ≤ _; exact Nat.le_of_eq rfl) (hb hby d15_1) (fun _ _ => ⟨rfl, e0, (by decide : 0 + 1 ≤ _), (by decide : 0 + 8 ≤ _)⟩)
  dsimp only [Pt.U, Pt.locs, Pt.cells, Pt.slots] at X126 l126 y126 z126 st126 hQ126
  subst l126 y126 z126
  obtain ⟨hp126, e126⟩ : ∃ z, T126.heap = z := ⟨_, rfl⟩
  rw [e126] at hQ126
  obtain ⟨o127, o128, rfl, N126q, K126, p129, p130⟩ := hQ126
  have N126 := Fr.app N0 N126q
  have f131 := (Vc.keep K126 nin0)
  obtain ⟨cl132, Ar132, q132, S132, M132, H132, G132⟩ := id f131
  have in132 : ¬ ((0 : Int32) < 0 ∨ cl132.slots.size ≤ ((0 : Int32)).toNatClampNeg) := inb_of S132 ⟨by decide, by decide⟩
  have Ol141 : Old Z n0 hp126 := (X00.keep K126 all0)
  obtain ⟨_, _, ⟨T142, L142, k142, n142⟩, -, X142, ⟨Lc142, hQ142, l142, y142, z142⟩, st142⟩ := Jvm.LawKit.callS X126 hx (y := (⟨"java/lang/StringUTF16", "putChar", "([BII)V"⟩ : MethodName)) hown (mvT hZ (w_75 hw)) (mvT hZ (w_76 hw)) (mvT hZ (w_23 hw)) (mvT hZ (w_77 hw)) (by decide) (backOf (W := 0) (rmA3 l Z a0 hw G ST [] o127 cc0 o128 hp126 n0 Ol141 p130 (Nat.le_trans Z0 (Nat.le_trans (Nat.le_refl _) p129))) hZ (w_77 hw) (w_23 hw) (by decide) (by decide)) (g := (mkF m 20 #[xvr ca, xvi (0 : Int32), xvi (4 : Int32), xvr o127, xvi (0 : Int32)] [xwi cc0, xwi (0 : Int32), xwr o127])) rfl (by rw [hml]; rfl) (argsL := [(.ref o127), (.int (0 : Int32)), (.int cc0)]) (rest := []) (lenOf pd_2 rfl) rfl (by show 2 * 0 + _ ≤ _; exact Nat.le_of_eq rfl) (hb hby d15_20) (fun _ _ => ⟨rfl, e126, (by decide : 1 + 0 ≤ _), (by decide : 8 + 0 ≤ _)⟩)
  dsimp only [Pt.U, Pt.locs, Pt.cells, Pt.slots] at X142 l142 y142 z142 st142 hQ142
  subst l142 y142 z142
  obtain ⟨hp142, e142⟩ : ∃ z, T142.heap = z := ⟨_, rfl⟩
  rw [e142] at hQ142
  obtain ⟨rfl, N142q, K142, p143⟩ := hQ142
  have N142 := Fr.app N126 N142q
  have f144 := (f131.keep K142 (ninS (Nat.ne_of_lt (Nat.lt_of_lt_of_le (Nat.lt_of_lt_of_le Vc.lt (Nat.le_refl _)) p129)) nin0))
  obtain ⟨cl145, Ar145, q145, S145, M145, H145, G145⟩ := id f144
  have in145 : ¬ ((1 : Int32) < 0 ∨ cl145.slots.size ≤ ((1 : Int32)).toNatClampNeg) := inb_of S145 ⟨by decide, by decide⟩
  have Ol154 : Old Z n0 hp142 := (Ol141.keep K142 (allS (Nat.le_trans Z0 (Nat.le_trans (Nat.le_refl _) p129)) all0))
  obtain ⟨_, _, ⟨T155, L155, k155, n155⟩, -, X155, ⟨Lc155, hQ155, l155, y155, z155⟩, st155⟩ := Jvm.LawKit.callS X142 hx (y := (⟨"java/lang/StringUTF16", "putChar", "([BII)V"⟩ : MethodName)) hown (mvT hZ (w_75 hw)) (mvT hZ (w_76 hw)) (mvT hZ (w_23 hw)) (mvT hZ (w_77 hw)) (by decide) (backOf (W := 0) (rmA4 l Z a0 hw G ST [] o127 cc1 o128 ((cc0 >>> ((0 : Int32) &&& 31)).toInt8.toInt32) ((cc0 >>> ((8 : Int32) &&& 31)).toInt8.toInt32) hp142 n0 Ol154 p143 (Nat.le_trans Z0 (Nat.le_trans (Nat.le_refl _) p129))) hZ (w_77 hw) (w_23 hw) (by decide) (by decide)) (g := (mkF m 20 #[xvr ca, xvi (1 : Int32), xvi (4 : Int32), xvr o127, xvi (1 : Int32)] [xwi cc1, xwi (1 : Int32), xwr o127])) rfl (by rw [hml]; rfl) (argsL := [(.ref o127), (.int (1 : Int32)), (.int cc1)]) (rest := []) (lenOf pd_2 rfl) rfl (by show 2 * 0 + _ ≤ _; exact Nat.le_of_eq rfl) (hb hby d15_20) (fun _ _ => ⟨rfl, e142, (by decide : 1 + 0 ≤ _), (by decide : 8 + 0 ≤ _)⟩)
  dsimp only [Pt.U, Pt.locs, Pt.cells, Pt.slots] at X155 l155 y155 z155 st155 hQ155
  subst l155 y155 z155
  obtain ⟨hp155, e155⟩ : ∃ z, T155.heap = z := ⟨_, rfl⟩
  rw [e155] at hQ155
  obtain ⟨rfl, N155q, K155, p156⟩ := hQ155
  have N155 := Fr.app N142 N155q
  have f157 := (f144.keep K155 (ninS (Nat.ne_of_lt (Nat.lt_of_lt_of_le (Nat.lt_of_lt_of_le Vc.lt (Nat.le_refl _)) p129)) nin0))
  obtain ⟨cl158, Ar158, q158, S158, M158, H158, G158⟩ := id f157
  have in158 : ¬ ((2 : Int32) < 0 ∨ cl158.slots.size ≤ ((2 : Int32)).toNatClampNeg) := inb_of S158 ⟨by decide, by decide⟩
  have Ol167 : Old Z n0 hp155 := (Ol154.keep K155 (allS (Nat.le_trans Z0 (Nat.le_trans (Nat.le_refl _) p129)) all0))
  obtain ⟨_, _, ⟨T168, L168, k168, n168⟩, -, X168, ⟨Lc168, hQ168, l168, y168, z168⟩, st168⟩ := Jvm.LawKit.callS X155 hx (y := (⟨"java/lang/StringUTF16", "putChar", "([BII)V"⟩ : MethodName)) hown (mvT hZ (w_75 hw)) (mvT hZ (w_76 hw)) (mvT hZ (w_23 hw)) (mvT hZ (w_77 hw)) (by decide) (backOf (W := 0) (rmA5 l Z a0 hw G ST [] o127 cc2 o128 ((cc0 >>> ((0 : Int32) &&& 31)).toInt8.toInt32) ((cc0 >>> ((8 : Int32) &&& 31)).toInt8.toInt32) ((cc1 >>> ((0 : Int32) &&& 31)).toInt8.toInt32) ((cc1 >>> ((8 : Int32) &&& 31)).toInt8.toInt32) hp155 n0 Ol167 p156 (Nat.le_trans Z0 (Nat.le_trans (Nat.le_refl _) p129))) hZ (w_77 hw) (w_23 hw) (by decide) (by decide)) (g := (mkF m 20 #[xvr ca, xvi (2 : Int32), xvi (4 : Int32), xvr o127, xvi (2 : Int32)] [xwi cc2, xwi (2 : Int32), xwr o127])) rfl (by rw [hml]; rfl) (argsL := [(.ref o127), (.int (2 : Int32)), (.int cc2)]) (rest := []) (lenOf pd_2 rfl) rfl (by show 2 * 0 + _ ≤ _; exact Nat.le_of_eq rfl) (hb hby d15_20) (fun _ _ => ⟨rfl, e155, (by decide : 1 + 0 ≤ _), (by decide : 8 + 0 ≤ _)⟩)
  dsimp only [Pt.U, Pt.locs, Pt.cells, Pt.slots] at X168 l168 y168 z168 st168 hQ168
  subst l168 y168 z168
  obtain ⟨hp168, e168⟩ : ∃ z, T168.heap = z := ⟨_, rfl⟩
  rw [e168] at hQ168
  obtain ⟨rfl, N168q, K168, p169⟩ := hQ168
  have N168 := Fr.app N155 N168q
  have f170 := (f157.keep K168 (ninS (Nat.ne_of_lt (Nat.lt_of_lt_of_le (Nat.lt_of_lt_of_le Vc.lt (Nat.le_refl _)) p129)) nin0))
  obtain ⟨cl171, Ar171, q171, S171, M171, H171, G171⟩ := id f170
  have in171 : ¬ ((3 : Int32) < 0 ∨ cl171.slots.size ≤ ((3 : Int32)).toNatClampNeg) := inb_of S171 ⟨by decide, by decide⟩
  have Ol180 : Old Z n0 hp168 := (Ol167.keep K168 (allS (Nat.le_trans Z0 (Nat.le_trans (Nat.le_refl _) p129)) all0))
  obtain ⟨_, _, ⟨T181, L181, k181, n181⟩, -, X181, ⟨Lc181, hQ181, l181, y181, z181⟩, st181⟩ := Jvm.LawKit.callS X168 hx (y := (⟨"java/lang/StringUTF16", "putChar", "([BII)V"⟩ : MethodName)) hown (mvT hZ (w_75 hw)) (mvT hZ (w_76 hw)) (mvT hZ (w_23 hw)) (mvT hZ (w_77 hw)) (by decide) (backOf (W := 0) (rmA6 l Z a0 hw G ST [] o127 cc3 o128 ((cc0 >>> ((0 : Int32) &&& 31)).toInt8.toInt32) ((cc0 >>> ((8 : Int32) &&& 31)).toInt8.toInt32) ((cc1 >>> ((0 : Int32) &&& 31)).toInt8.toInt32) ((cc1 >>> ((8 : Int32) &&& 31)).toInt8.toInt32) ((cc2 >>> ((0 : Int32) &&& 31)).toInt8.toInt32) ((cc2 >>> ((8 : Int32) &&& 31)).toInt8.toInt32) hp168 n0 Ol180 p169 (Nat.le_trans Z0 (Nat.le_trans (Nat.le_refl _) p129))) hZ (w_77 hw) (w_23 hw) (by decide) (by decide)) (g := (mkF m 20 #[xvr ca, xvi (3 : Int32), xvi (4 : Int32), xvr o127, xvi (3 : Int32)] [xwi cc3, xwi (3 : Int32), xwr o127])) rfl (by rw [hml]; rfl) (argsL := [(.ref o127), (.int (3 : Int32)), (.int cc3)]) (rest := []) (lenOf pd_2 rfl) rfl (by show 2 * 0 + _ ≤ _; exact Nat.le_of_eq rfl) (hb hby d15_20) (fun _ _ => ⟨rfl, e168, (by decide : 1 + 0 ≤ _), (by decide : 8 + 0 ≤ _)⟩)
  dsimp only [Pt.U, Pt.locs, Pt.cells, Pt.slots] at X181 l181 y181 z181 st181 hQ181
  subst l181 y181 z181
  obtain ⟨hp181, e181⟩ : ∃ z, T181.heap = z := ⟨_, rfl⟩
  rw [e181] at hQ181
  obtain ⟨rfl, N181q, K181, p182⟩ := hQ181
  have N181 := Fr.app N168 N181q
  obtain ⟨fs, hr, hrun, hended, hW, hsame⟩ := X181.leave (v := some (.ref o127)) (fun h => by rw [Bd.returns] at h; cases h)
  refine ⟨_, _, hTG _ (pre0 _ ?_), hrun, hended, _, _, rfl, ?_, ⟨_, rfl⟩, hW, hsame.mono (by decide) (by decide)⟩
  · refine y_iloadN X0 hx 1 (hb hby d15_0) rfl rfl ?_
    refine st126 _ ?_
    show Sx p e below T126 m 4 #[xvr ca, xvi (0 : Int32), xvi (4 : Int32), xun, xun] [xwr o127] _
    refine XS.astoreN X126.here hx rfl (hb hby d15_4) rfl rfl (l' := #[xvr ca, xvi (0 : Int32), xvi (4 : Int32), xvr o127, xun]) rfl ?_
    show Sx p e below T126 m 5 #[xvr ca, xvi (0 : Int32), xvi (4 : Int32), xvr o127, xun] [] _
    refine y_iconst X126 hx (0 : Int32) 6 (hb hby d15_5) rfl rfl ?_
    refine XS.istore X126.here hx rfl (hb hby d15_6) rfl (l' := #[xvr ca, xvi (0 : Int32), xvi (4 : Int32), xvr o127, xvi (0 : Int32)]) rfl ?_
    show Sx p e below T126 m 8 #[xvr ca, xvi (0 : Int32), xvi (4 : Int32), xvr o127, xvi (0 : Int32)] [] _
    refine y_iload X126 hx 10 (hb hby d15_8) rfl rfl ?_
    refine y_iloadN X126 hx 11 (hb hby d15_10) rfl rfl ?_
    refine y_icmpNo X126 hx 14 (hb hby d15_11) (XT.ii_ge_f (by decide)) rfl ?_
    refine y_aloadN X126 hx 15 (hb hby d15_14) rfl rfl rfl ?_
    refine y_iload X126 hx 17 (hb hby d15_15) rfl rfl ?_
    refine y_aloadN X126 hx 18 (hb hby d15_17) rfl rfl rfl ?_
    refine y_iloadN X126 hx 19 (hb hby d15_18) rfl rfl ?_
    refine X126.caload hx (j := (0 : Int32)) (v := (.int cc0)) (by rw [e126]; exact Ar132.1) (State.isArrayOf_alike hZ.alike Ar132.2.1) Ar132.2.2 in132 (Has.at H132 in132 rfl) (g := (mkF m 19 #[xvr ca, xvi (0 : Int32), xvi (4 : Int32), xvr o127, xvi (0 : Int32)] [xwi (0 : Int32), xwr ca, xwi (0 : Int32), xwr o127])) rfl rfl (hb hby d15_19) _ ?_
    show Sx p e below T126 m 20 #[xvr ca, xvi (0 : Int32), xvi (4 : Int32), xvr o127, xvi (0 : Int32)] [xwi cc0, xwi (0 : Int32), xwr o127] _
    refine st142 _ ?_
    show Sx p e below T142 m 23 #[xvr ca, xvi (0 : Int32), xvi (4 : Int32), xvr o127, xvi (0 : Int32)] [] _
    refine XS.iinc X142.here hx rfl (hb hby d15_23) rfl (l' := #[xvr ca, xvi ((0 : Int32) + (1 : Int32)), xvi (4 : Int32), xvr o127, xvi (0 : Int32)]) rfl ?_
    rw [show ((0 : Int32) + (1 : Int32)) = (1 : Int32) from by decide]
    show Sx p e below T142 m 26 #[xvr ca, xvi (1 : Int32), xvi (4 : Int32), xvr o127, xvi (0 : Int32)] [] _
    refine XS.iinc X142.here hx rfl (hb hby d15_26) rfl (l' := #[xvr ca, xvi (1 : Int32), xvi (4 : Int32), xvr o127, xvi ((0 : Int32) + (1 : Int32))]) rfl ?_
    rw [show ((0 : Int32) + (1 : Int32)) = (1 : Int32) from by decide]
    show Sx p e below T142 m 29 #[xvr ca, xvi (1 : Int32), xvi (4 : Int32), xvr o127, xvi (1 : Int32)] [] _
    refine y_goto X142 hx 8 (hb hby d15_29) (by decide) (by decide) ?_
    refine y_iload X142 hx 10 (hb hby d15_8) rfl rfl ?_
    refine y_iloadN X142 hx 11 (hb hby d15_10) rfl rfl ?_
    refine y_icmpNo X142 hx 14 (hb hby d15_11) (XT.ii_ge_f (by decide)) rfl ?_
    refine y_aloadN X142 hx 15 (hb hby d15_14) rfl rfl rfl ?_
    refine y_iload X142 hx 17 (hb hby d15_15) rfl rfl ?_
    refine y_aloadN X142 hx 18 (hb hby d15_17) rfl rfl rfl ?_
    refine y_iloadN X142 hx 19 (hb hby d15_18) rfl rfl ?_
    refine X142.caload hx (j := (1 : Int32)) (v := (.int cc1)) (by rw [e142]; exact Ar145.1) (State.isArrayOf_alike hZ.alike Ar145.2.1) Ar145.2.2 in145 (Has.at H145 in145 rfl) (g := (mkF m 19 #[xvr ca, xvi (1 : Int32), xvi (4 : Int32), xvr o127, xvi (1 : Int32)] [xwi (1 : Int32), xwr ca, xwi (1 : Int32), xwr o127])) rfl rfl (hb hby d15_19) _ ?_
    show Sx p e below T142 m 20 #[xvr ca, xvi (1 : Int32), xvi (4 : Int32), xvr o127, xvi (1 : Int32)] [xwi cc1, xwi (1 : Int32), xwr o127] _
    refine st155 _ ?_
    show Sx p e below T155 m 23 #[xvr ca, xvi (1 : Int32), xvi (4 : Int32), xvr o127, xvi (1 : Int32)] [] _
    refine XS.iinc X155.here hx rfl (hb hby d15_23) rfl (l' := #[xvr ca, xvi ((1 : Int32) + (1 : Int32)), xvi (4 : Int32), xvr o127, xvi (1 : Int32)]) rfl ?_
    rw [show ((1 : Int32) + (1 : Int32)) = (2 : Int32) from by decide]
    show Sx p e below T155 m 26 #[xvr ca, xvi (2 : Int32), xvi (4 : Int32), xvr o127, xvi (1 : Int32)] [] _
    refine XS.iinc X155.here hx rfl (hb hby d15_26) rfl (l' := #[xvr ca, xvi (2 : Int32), xvi (4 : Int32), xvr o127, xvi ((1 : Int32) + (1 : Int32))]) rfl ?_
    rw [show ((1 : Int32) + (1 : Int32)) = (2 : Int32) from by decide]
    show Sx p e below T155 m 29 #[xvr ca, xvi (2 : Int32), xvi (4 : Int32), xvr o127, xvi (2 : Int32)] [] _
    refine y_goto X155 hx 8 (hb hby d15_29) (by decide) (by decide) ?_
    refine y_iload X155 hx 10 (hb hby d15_8) rfl rfl ?_
    refine y_iloadN X155 hx 11 (hb hby d15_10) rfl rfl ?_
    refine y_icmpNo X155 hx 14 (hb hby d15_11) (XT.ii_ge_f (by decide)) rfl ?_
    refine y_aloadN X155 hx 15 (hb hby d15_14) rfl rfl rfl ?_
    refine y_iload X155 hx 17 (hb hby d15_15) rfl rfl ?_
    refine y_aloadN X155 hx 18 (hb hby d15_17) rfl rfl rfl ?_
    refine y_iloadN X155 hx 19 (hb hby d15_18) rfl rfl ?_
    refine X155.caload hx (j := (2 : Int32)) (v := (.int cc2)) (by rw [e155]; exact Ar158.1) (State.isArrayOf_alike hZ.alike Ar158.2.1) Ar158.2.2 in158 (Has.at H158 in158 rfl) (g := (mkF m 19 #[xvr ca, xvi (2 : Int32), xvi (4 : Int32), xvr o127, xvi (2 : Int32)] [xwi (2 : Int32), xwr ca, xwi (2 : Int32), xwr o127])) rfl rfl (hb hby d15_19) _ ?_
    show Sx p e below T155 m 20 #[xvr ca, xvi (2 : Int32), xvi (4 : Int32), xvr o127, xvi (2 : Int32)] [xwi cc2, xwi (2 : Int32), xwr o127] _
    refine st168 _ ?_
    show Sx p e below T168 m 23 #[xvr ca, xvi (2 : Int32), xvi (4 : Int32), xvr o127, xvi (2 : Int32)] [] _
    refine XS.iinc X168.here hx rfl (hb hby d15_23) rfl (l' := #[xvr ca, xvi ((2 : Int32) + (1 : Int32)), xvi (4 : Int32), xvr o127, xvi (2 : Int32)]) rfl ?_
    rw [show ((2 : Int32) + (1 : Int32)) = (3 : Int32) from by decide]
    show Sx p e below T168 m 26 #[xvr ca, xvi (3 : Int32), xvi (4 : Int32), xvr o127, xvi (2 : Int32)] [] _
    refine XS.iinc X168.here hx rfl (hb hby d15_26) rfl (l' := #[xvr ca, xvi (3 : Int32), xvi (4 : Int32), xvr o127, xvi ((2 : Int32) + (1 : Int32))]) rfl ?_
    rw [show ((2 : Int32) + (1 : Int32)) = (3 : Int32) from by decide]
    show Sx p e below T168 m 29 #[xvr ca, xvi (3 : Int32), xvi (4 : Int32), xvr o127, xvi (3 : Int32)] [] _
    refine y_goto X168 hx 8 (hb hby d15_29) (by decide) (by decide) ?_
    refine y_iload X168 hx 10 (hb hby d15_8) rfl rfl ?_
    refine y_iloadN X168 hx 11 (hb hby d15_10) rfl rfl ?_
    refine y_icmpNo X168 hx 14 (hb hby d15_11) (XT.ii_ge_f (by decide)) rfl ?_
    refine y_aloadN X168 hx 15 (hb hby d15_14) rfl rfl rfl ?_
    refine y_iload X168 hx 17 (hb hby d15_15) rfl rfl ?_
    refine y_aloadN X168 hx 18 (hb hby d15_17) rfl rfl rfl ?_
    refine y_iloadN X168 hx 19 (hb hby d15_18) rfl rfl ?_
    refine X168.caload hx (j := (3 : Int32)) (v := (.int cc3)) (by rw [e168]; exact Ar171.1) (State.isArrayOf_alike hZ.alike Ar171.2.1) Ar171.2.2 in171 (Has.at H171 in171 rfl) (g := (mkF m 19 #[xvr ca, xvi (3 : Int32), xvi (4 : Int32), xvr o127, xvi (3 : Int32)] [xwi (3 : Int32), xwr ca, xwi (3 : Int32), xwr o127])) rfl rfl (hb hby d15_19) _ ?_
    show Sx p e below T168 m 20 #[xvr ca, xvi (3 : Int32), xvi (4 : Int32), xvr o127, xvi (3 : Int32)] [xwi cc3, xwi (3 : Int32), xwr o127] _
    refine st181 _ ?_
    show Sx p e below T181 m 23 #[xvr ca, xvi (3 : Int32), xvi (4 : Int32), xvr o127, xvi (3 : Int32)] [] _
    refine XS.iinc X181.here hx rfl (hb hby d15_23) rfl (l' := #[xvr ca, xvi ((3 : Int32) + (1 : Int32)), xvi (4 : Int32), xvr o127, xvi (3 : Int32)]) rfl ?_
    rw [show ((3 : Int32) + (1 : Int32)) = (4 : Int32) from by decide]
    show Sx p e below T181 m 26 #[xvr ca, xvi (4 : Int32), xvi (4 : Int32), xvr o127, xvi (3 : Int32)] [] _
    refine XS.iinc X181.here hx rfl (hb hby d15_26) rfl (l' := #[xvr ca, xvi (4 : Int32), xvi (4 : Int32), xvr o127, xvi ((3 : Int32) + (1 : Int32))]) rfl ?_
    rw [show ((3 : Int32) + (1 : Int32)) = (4 : Int32) from by decide]
    show Sx p e below T181 m 29 #[xvr ca, xvi (4 : Int32), xvi (4 : Int32), xvr o127, xvi (4 : Int32)] [] _
    refine y_goto X181 hx 8 (hb hby d15_29) (by decide) (by decide) ?_
    refine y_iload X181 hx 10 (hb hby d15_8) rfl rfl ?_
    refine y_iloadN X181 hx 11 (hb hby d15_10) rfl rfl ?_
    refine y_icmpYes X181 hx 32 (hb hby d15_11) (XT.ii_ge_t (by decide)) (by decide) (by decide) ?_
    refine y_aloadN X181 hx 33 (hb hby d15_32) rfl rfl rfl ?_
    show Sx p e below T181 m 33 #[xvr ca, xvi (4 : Int32), xvi (4 : Int32), xvr o127, xvi (4 : Int32)] [xwr o127] _
    exact retOut X181 hx Bd.returns rfl (Or.inr (Or.inr (Or.inr (Or.inr ⟨rfl, rfl, rfl⟩)))) (hb hby d15_33) hr
  · show QrmTBs Z G ca ck cc0 cc1 cc2 cc3 h0 n0 _ T181.heap _
    rw [e181]
    exact ⟨o127, o128, rfl, N181, ((((((Keep.refl h0 []).trans K126 all0).trans K142 (allS (Or.inr (Nat.le_trans (Nat.le_refl _) p129)) all0)).trans K155 (allS (Or.inr (Nat.le_trans (Nat.le_refl _) p129)) all0)).trans K168 (allS (Or.inr (Nat.le_trans (Nat.le_refl _) p129)) all0)).trans K181 (allS (Or.inr (Nat.le_trans (Nat.le_refl _) p129)) all0)), (Nat.le_trans (Nat.le_refl _) p129), p182⟩
theorem ef_rmGC0 (m : MethodId) (x0 : Addr) (x1 : Int32)  : entryFrame m #[(.ref x0), (.int x1)] 2 = mkF m 0 #[.val (.ref x0), .val (.int x1)] [] := by first | (simp [entryFrame, mkF, argsToLocals, Value.category]; done) | rfl
theorem d19_0 : decode jdk_52_method_5_code 0 = .ok (.getstatic 44, 3) := by decide +kernel
theorem d19_3 : decode jdk_52_method_5_code 3 = .ok (.ifCond .ne 25, 3) := by decide +kernel
theorem d19_28 : decode jdk_52_method_5_code 28 = .ok (.iload_n 1, 1) := by decide +kernel
theorem d19_29 : decode jdk_52_method_5_code 29 = .ok (.iconst 1, 1) := by decide +kernel
theorem d19_30 : decode jdk_52_method_5_code 30 = .ok (.ishl, 1) := by decide +kernel
theorem d19_31 : decode jdk_52_method_5_code 31 = .ok (.istore_n 1, 1) := by decide +kernel
theorem d19_32 : decode jdk_52_method_5_code 32 = .ok (.aload_n 0, 1) := by decide +kernel
theorem d19_33 : decode jdk_52_method_5_code 33 = .ok (.iload_n 1, 1) := by decide +kernel
theorem d19_34 : decode jdk_52_method_5_code 34 = .ok (.iinc 1 1, 3) := by decide +kernel
theorem d19_37 : decode jdk_52_method_5_code 37 = .ok (.baload, 1) := by decide +kernel
theorem d19_38 : decode jdk_52_method_5_code 38 = .ok (.sipush 255, 3) := by decide +kernel
theorem d19_41 : decode jdk_52_method_5_code 41 = .ok (.iand, 1) := by decide +kernel
theorem d19_42 : decode jdk_52_method_5_code 42 = .ok (.getstatic 59, 3) := by decide +kernel
theorem d19_45 : decode jdk_52_method_5_code 45 = .ok (.ishl, 1) := by decide +kernel
theorem d19_46 : decode jdk_52_method_5_code 46 = .ok (.aload_n 0, 1) := by decide +kernel
theorem d19_47 : decode jdk_52_method_5_code 47 = .ok (.iload_n 1, 1) := by decide +kernel
theorem d19_48 : decode jdk_52_method_5_code 48 = .ok (.baload, 1) := by decide +kernel
theorem d19_49 : decode jdk_52_method_5_code 49 = .ok (.sipush 255, 3) := by decide +kernel
theorem d19_52 : decode jdk_52_method_5_code 52 = .ok (.iand, 1) := by decide +kernel
theorem d19_53 : decode jdk_52_method_5_code 53 = .ok (.getstatic 63, 3) := by decide +kernel
theorem d19_56 : decode jdk_52_method_5_code 56 = .ok (.ishl, 1) := by decide +kernel
theorem d19_57 : decode jdk_52_method_5_code 57 = .ok (.ior, 1) := by decide +kernel
theorem d19_58 : decode jdk_52_method_5_code 58 = .ok (.i2c, 1) := by decide +kernel
theorem d19_59 : decode jdk_52_method_5_code 59 = .ok (.ireturn, 1) := by decide +kernel
def QrmGC0 (Z : State) (G : Gs) (tx : Addr) (kx : ClassId) (cc0 : Int32) (cc1 : Int32) (cc2 : Int32) (cc3 : Int32) (h0 : Heap) (n0 : Nat) (v : Option Value) (h : Heap) (L : List Loc) : Prop := v = some (.int cc0) ∧ Fr n0 L ∧ h = h0
set_option maxRecDepth 65536 in
set_option maxHeartbeats 40000000 in
theorem rmGC0 (l : Launch) (Z : State) (a0 : Array Value) (hw : HW a0 Z) (G : Gs) (ST : StartF Z G) (ws : List Jvm.Cond) (tx : Addr) (kx : ClassId) (cc0 : Int32) (cc1 : Int32) (cc2 : Int32) (cc3 : Int32) (h0 : Heap) (n0 : Nat) (X00 : Old Z n0 h0) (V1 : Arv Z h0 tx kx .byte (8 : Int32) [(.int ((cc0 >>> ((0 : Int32) &&& 31)).toInt8.toInt32)), (.int ((cc0 >>> ((8 : Int32) &&& 31)).toInt8.toInt32)), (.int ((cc1 >>> ((0 : Int32) &&& 31)).toInt8.toInt32)), (.int ((cc1 >>> ((8 : Int32) &&& 31)).toInt8.toInt32)), (.int ((cc2 >>> ((0 : Int32) &&& 31)).toInt8.toInt32)), (.int ((cc2 >>> ((8 : Int32) &&& 31)).toInt8.toInt32)), (.int ((cc3 >>> ((0 : Int32) &&& 31)).toInt8.toInt32)), (.int ((cc3 >>> ((8 : Int32) &&& 31)).toInt8.toInt32))] (.int (0 : Int32))) (hr_cc0 : own_c16 cc0) (hr_cc1 : own_c16 cc1) (hr_cc2 : own_c16 cc2) (hr_cc3 : own_c16 cc3) :
    MetFree l (⟨"java/lang/StringUTF16", "getChar", "([BI)C"⟩ : MethodName) (head1 (Jvm.Cond.code (⟨"java/lang/StringUTF16", "getChar", "([BI)C"⟩ : MethodName) jdk_52_method_5_code 2 (some .char) :: ws) ({ frames := 0, cells := 0, slots := 0, locals := 0 } : Room)) (fun a U => a = #[(.ref tx), (.int (0 : Int32))] ∧ Z.Warmed39 U.vm ∧ U.heap = h0) (fun _ _ _ _ _ => True) (fun _ U o U' => ∃ v L, o = .returned v ∧ QrmGC0 Z G tx kx cc0 cc1 cc2 cc3 h0 n0 v U'.heap L ∧ FrameEnd U o U' L ({ frames := 0, cells := 0, slots := 0, locals := 0 } : Room).cells ({ frames := 0, cells := 0, slots := 0, locals := 0 } : Room).slots) := by
  refine MetFree.of_bodySF (plainFor_of_name pn_0) hisR ?_
  intro p e s m args below meth c s₁ Bd hml0 hP hK
  obtain ⟨rfl, hZ, hh⟩ := hP
  have hx := Bd.exec
  have hby := Bd.bytes
  have hml : c.maxLocals = 2 := hml0
  have hown : s.vm.findClass "java/lang/StringUTF16" = some m.cls := findClass_of_methodNamed Bd.named
  have hnm := (name_of_methodNamed Bd.named Bd.method).1
  have X0 : Stand p l e ({ frames := 0, cells := 0, slots := 0, locals := 0 } : Room) s m #[(.ref tx), (.int (0 : Int32))] below meth c s₁ [] 0 0 := Stand.of_body Bd
  have e0 : s₁.heap = h0 := by rw [← hh, Bd.state]; rfl
  have N0 := Fr.nil n0
  have Z0 : n0 ≤ h0.size := by have q := X00.2.1; rw [X00.1] at q; exact q
  obtain ⟨TG, hTG, hT2⟩ : ∃ P : State → Prop, (∀ t, P t → Steps p.tables e below (s₁.setTop (entryFrame m #[(.ref tx), (.int (0 : Int32))] 2)) t) ∧ (∀ t, Steps p.tables e below (s₁.setTop (entryFrame m #[(.ref tx), (.int (0 : Int32))] 2)) t → P t) := ⟨_, fun t k => k, fun t k => k⟩
  have pre0 : ∀ t, Sx p e below s₁ m 0 #[xvr tx, xvi (0 : Int32)] [] t → TG t := fun t k => hT2 t (castTop (ef_rmGC0 m tx (0 : Int32) ) k)
  obtain ⟨T183, X183, e183, st183⟩ := getS2 X0 hx hZ hown (host := "") (Or.inl (w_78 hw)) Via.refl e0 (ST.c4.ext X00.2) (g := (mkF m 0 #[xvr tx, xvi (0 : Int32)] [])) rfl (hb hby d19_0)
  obtain ⟨cl184, Ar184, q184, S184, M184, H184, G184⟩ := id V1
  have in184 : ¬ ((0 : Int32) < 0 ∨ cl184.slots.size ≤ ((0 : Int32)).toNatClampNeg) := inb_of S184 ⟨by decide, by decide⟩
  obtain ⟨T185, X185, e185, st185⟩ := getS2 X183 hx hZ hown (host := "") (Or.inl (w_79 hw)) Via.refl e183 (ST.c5.ext X00.2) (g := (mkF m 42 #[xvr tx, xvi (1 : Int32)] [xwi (((cc0 >>> ((0 : Int32) &&& 31)).toInt8.toInt32) &&& (255 : Int32))])) rfl (hb hby d19_42)
  obtain ⟨cl186, Ar186, q186, S186, M186, H186, G186⟩ := id V1
  have in186 : ¬ ((1 : Int32) < 0 ∨ cl186.slots.size ≤ ((1 : Int32)).toNatClampNeg) := inb_of S186 ⟨by decide, by decide⟩
  obtain ⟨T187, X187, e187, st187⟩ := getS2 X185 hx hZ hown (host := "") (Or.inl (w_80 hw)) Via.refl e185 (ST.c6.ext X00.2) (g := (mkF m 53 #[xvr tx, xvi (1 : Int32)] [xwi (((cc0 >>> ((8 : Int32) &&& 31)).toInt8.toInt32) &&& (255 : Int32)), xwi ((((cc0 >>> ((0 : Int32) &&& 31)).toInt8.toInt32) &&& (255 : Int32)) <<< ((0 : Int32) &&& 31))])) rfl (hb hby d19_53)
  obtain ⟨fs, hr, hrun, hended, hW, hsame⟩ := X187.leave (v := some (.int cc0)) (fun h => by rw [Bd.returns] at h; cases h)
  refine ⟨_, _, hTG _ (pre0 _ ?_), hrun, hended, _, _, rfl, ?_, ⟨_, rfl⟩, hW, hsame.mono (by decide) (by decide)⟩
  · refine st183 _ ?_
    show Sx p e below T183 m 3 #[xvr tx, xvi (0 : Int32)] [xwi (1 : Int32)] _
    refine y_ifYes X183 hx 28 (hb hby d19_3) (XT.i0_ne_t (by decide)) (by decide) (by decide) ?_
    refine y_iloadN X183 hx 29 (hb hby d19_28) rfl rfl ?_
    refine y_iconst X183 hx (1 : Int32) 30 (hb hby d19_29) rfl rfl ?_
    refine XS.ishl X183.here hx rfl (hb hby d19_30) rfl ?_
    rw [show ((0 : Int32) <<< ((1 : Int32) &&& 31)) = (0 : Int32) from by decide]
    show Sx p e below T183 m 31 #[xvr tx, xvi (0 : Int32)] [xwi (0 : Int32)] _
    refine XS.istoreN X183.here hx rfl (hb hby d19_31) rfl (l' := #[xvr tx, xvi (0 : Int32)]) rfl ?_
    show Sx p e below T183 m 32 #[xvr tx, xvi (0 : Int32)] [] _
    refine y_aloadN X183 hx 33 (hb hby d19_32) rfl rfl rfl ?_
    refine y_iloadN X183 hx 34 (hb hby d19_33) rfl rfl ?_
    refine XS.iinc X183.here hx rfl (hb hby d19_34) rfl (l' := #[xvr tx, xvi ((0 : Int32) + (1 : Int32))]) rfl ?_
    rw [show ((0 : Int32) + (1 : Int32)) = (1 : Int32) from by decide]
    show Sx p e below T183 m 37 #[xvr tx, xvi (1 : Int32)] [xwi (0 : Int32), xwr tx] _
    refine X183.baloadBytes hx (j := (0 : Int32)) (v := (.int ((cc0 >>> ((0 : Int32) &&& 31)).toInt8.toInt32))) (by rw [e183]; exact Ar184.1) (State.isArrayOf_alike hZ.alike Ar184.2.1) Ar184.2.2 in184 (Has.at H184 in184 rfl) (g := (mkF m 37 #[xvr tx, xvi (1 : Int32)] [xwi (0 : Int32), xwr tx])) rfl rfl (hb hby d19_37) _ ?_
    show Sx p e below T183 m 38 #[xvr tx, xvi (1 : Int32)] [xwi ((cc0 >>> ((0 : Int32) &&& 31)).toInt8.toInt32)] _
    refine y_sipush X183 hx (255 : Int32) 41 (hb hby d19_38) rfl rfl ?_
    refine y_iand X183 hx 42 (hb hby d19_41) rfl ?_
    refine st185 _ ?_
    show Sx p e below T185 m 45 #[xvr tx, xvi (1 : Int32)] [xwi (0 : Int32), xwi (((cc0 >>> ((0 : Int32) &&& 31)).toInt8.toInt32) &&& (255 : Int32))] _
    refine XS.ishl X185.here hx rfl (hb hby d19_45) rfl ?_
    show Sx p e below T185 m 46 #[xvr tx, xvi (1 : Int32)] [xwi ((((cc0 >>> ((0 : Int32) &&& 31)).toInt8.toInt32) &&& (255 : Int32)) <<< ((0 : Int32) &&& 31))] _
    refine y_aloadN X185 hx 47 (hb hby d19_46) rfl rfl rfl ?_
    refine y_iloadN X185 hx 48 (hb hby d19_47) rfl rfl ?_
    refine X185.baloadBytes hx (j := (1 : Int32)) (v := (.int ((cc0 >>> ((8 : Int32) &&& 31)).toInt8.toInt32))) (by rw [e185]; exact Ar186.1) (State.isArrayOf_alike hZ.alike Ar186.2.1) Ar186.2.2 in186 (Has.at H186 in186 rfl) (g := (mkF m 48 #[xvr tx, xvi (1 : Int32)] [xwi (1 : Int32), xwr tx, xwi ((((cc0 >>> ((0 : Int32) &&& 31)).toInt8.toInt32) &&& (255 : Int32)) <<< ((0 : Int32) &&& 31))])) rfl rfl (hb hby d19_48) _ ?_
    show Sx p e below T185 m 49 #[xvr tx, xvi (1 : Int32)] [xwi ((cc0 >>> ((8 : Int32) &&& 31)).toInt8.toInt32), xwi ((((cc0 >>> ((0 : Int32) &&& 31)).toInt8.toInt32) &&& (255 : Int32)) <<< ((0 : Int32) &&& 31))] _
    refine y_sipush X185 hx (255 : Int32) 52 (hb hby d19_49) rfl rfl ?_
    refine y_iand X185 hx 53 (hb hby d19_52) rfl ?_
    refine st187 _ ?_
    show Sx p e below T187 m 56 #[xvr tx, xvi (1 : Int32)] [xwi (8 : Int32), xwi (((cc0 >>> ((8 : Int32) &&& 31)).toInt8.toInt32) &&& (255 : Int32)), xwi ((((cc0 >>> ((0 : Int32) &&& 31)).toInt8.toInt32) &&& (255 : Int32)) <<< ((0 : Int32) &&& 31))] _
    refine XS.ishl X187.here hx rfl (hb hby d19_56) rfl ?_
    show Sx p e below T187 m 57 #[xvr tx, xvi (1 : Int32)] [xwi ((((cc0 >>> ((8 : Int32) &&& 31)).toInt8.toInt32) &&& (255 : Int32)) <<< ((8 : Int32) &&& 31)), xwi ((((cc0 >>> ((0 : Int32) &&& 31)).toInt8.toInt32) &&& (255 : Int32)) <<< ((0 : Int32) &&& 31))] _
    refine y_ior X187 hx 58 (hb hby d19_57) rfl ?_
    refine XS.i2c X187.here hx rfl (hb hby d19_58) rfl ?_
    show Sx p e below T187 m 59 #[xvr tx, xvi (1 : Int32)] [xwi ((((((cc0 >>> ((0 : Int32) &&& 31)).toInt8.toInt32) &&& (255 : Int32)) <<< ((0 : Int32) &&& 31)) ||| ((((cc0 >>> ((8 : Int32) &&& 31)).toInt8.toInt32) &&& (255 : Int32)) <<< ((8 : Int32) &&& 31))).toUInt32.toUInt16.toUInt32.toInt32)] _
    rw [own_u16 hr_cc0]
    show Sx p e below T187 m 59 #[xvr tx, xvi (1 : Int32)] [xwi cc0] _
    exact retN X187 hx (t := .char) Bd.returns (by simp) (hb hby d19_59) ((by rw [own_nar16 hr_cc0]; exact hr))
  · show QrmGC0 Z G tx kx cc0 cc1 cc2 cc3 h0 n0 _ T187.heap _
    rw [e187]
    exact ⟨rfl, N0, rfl⟩
theorem ef_rmGC1 (m : MethodId) (x0 : Addr) (x1 : Int32)  : entryFrame m #[(.ref x0), (.int x1)] 2 = mkF m 0 #[.val (.ref x0), .val (.int x1)] [] := by first | (simp [entryFrame, mkF, argsToLocals, Value.category]; done) | rfl
def QrmGC1 (Z : State) (G : Gs) (tx : Addr) (kx : ClassId) (cc0 : Int32) (cc1 : Int32) (cc2 : Int32) (cc3 : Int32) (h0 : Heap) (n0 : Nat) (v : Option Value) (h : Heap) (L : List Loc) : Prop := v = some (.int cc1) ∧ Fr n0 L ∧ h = h0
set_option maxRecDepth 65536 in
set_option maxHeartbeats 40000000 in
theorem rmGC1 (l : Launch) (Z : State) (a0 : Array Value) (hw : HW a0 Z) (G : Gs) (ST : StartF Z G) (ws : List Jvm.Cond) (tx : Addr) (kx : ClassId) (cc0 : Int32) (cc1 : Int32) (cc2 : Int32) (cc3 : Int32) (h0 : Heap) (n0 : Nat) (X00 : Old Z n0 h0) (V1 : Arv Z h0 tx kx .byte (8 : Int32) [(.int ((cc0 >>> ((0 : Int32) &&& 31)).toInt8.toInt32)), (.int ((cc0 >>> ((8 : Int32) &&& 31)).toInt8.toInt32)), (.int ((cc1 >>> ((0 : Int32) &&& 31)).toInt8.toInt32)), (.int ((cc1 >>> ((8 : Int32) &&& 31)).toInt8.toInt32)), (.int ((cc2 >>> ((0 : Int32) &&& 31)).toInt8.toInt32)), (.int ((cc2 >>> ((8 : Int32) &&& 31)).toInt8.toInt32)), (.int ((cc3 >>> ((0 : Int32) &&& 31)).toInt8.toInt32)), (.int ((cc3 >>> ((8 : Int32) &&& 31)).toInt8.toInt32))] (.int (0 : Int32))) (hr_cc0 : own_c16 cc0) (hr_cc1 : own_c16 cc1) (hr_cc2 : own_c16 cc2) (hr_cc3 : own_c16 cc3) :
    MetFree l (⟨"java/lang/StringUTF16", "getChar", "([BI)C"⟩ : MethodName) (head1 (Jvm.Cond.code (⟨"java/lang/StringUTF16", "getChar", "([BI)C"⟩ : MethodName) jdk_52_method_5_code 2 (some .char) :: ws) ({ frames := 0, cells := 0, slots := 0, locals := 0 } : Room)) (fun a U => a = #[(.ref tx), (.int (1 : Int32))] ∧ Z.Warmed39 U.vm ∧ U.heap = h0) (fun _ _ _ _ _ => True) (fun _ U o U' => ∃ v L, o = .returned v ∧ QrmGC1 Z G tx kx cc0 cc1 cc2 cc3 h0 n0 v U'.heap L ∧ FrameEnd U o U' L ({ frames := 0, cells := 0, slots := 0, locals := 0 } : Room).cells ({ frames := 0, cells := 0, slots := 0, locals := 0 } : Room).slots) := by
  refine MetFree.of_bodySF (plainFor_of_name pn_0) hisR ?_
  intro p e s m args below meth c s₁ Bd hml0 hP hK
  obtain ⟨rfl, hZ, hh⟩ := hP
  have hx := Bd.exec
  have hby := Bd.bytes
  have hml : c.maxLocals = 2 := hml0
  have hown : s.vm.findClass "java/lang/StringUTF16" = some m.cls := findClass_of_methodNamed Bd.named
  have hnm := (name_of_methodNamed Bd.named Bd.method).1
  have X0 : Stand p l e ({ frames := 0, cells := 0, slots := 0, locals := 0 } : Room) s m #[(.ref tx), (.int (1 : Int32))] below meth c s₁ [] 0 0 := Stand.of_body Bd
  have e0 : s₁.heap = h0 := by rw [← hh, Bd.state]; rfl
  have N0 := Fr.nil n0
  have Z0 : n0 ≤ h0.size := by have q := X00.2.1; rw [X00.1] at q; exact q
  obtain ⟨TG, hTG, hT2⟩ : ∃ P : State → Prop, (∀ t, P t → Steps p.tables e below (s₁.setTop (entryFrame m #[(.ref tx), (.int (1 : Int32))] 2)) t) ∧ (∀ t, Steps p.tables e below (s₁.setTop (entryFrame m #[(.ref tx), (.int (1 : Int32))] 2)) t → P t) := ⟨_, fun t k => k, fun t k => k⟩
  have pre0 : ∀ t, Sx p e below s₁ m 0 #[xvr tx, xvi (1 : Int32)] [] t → TG t := fun t k => hT2 t (castTop (ef_rmGC1 m tx (1 : Int32) ) k)
  obtain ⟨T188, X188, e188, st188⟩ := getS2 X0 hx hZ hown (host := "") (Or.inl (w_78 hw)) Via.refl e0 (ST.c4.ext X00.2) (g := (mkF m 0 #[xvr tx, xvi (1 : Int32)] [])) rfl (hb hby d19_0)
  obtain ⟨cl189, Ar189, q189, S189, M189, H189, G189⟩ := id V1
  have in189 : ¬ ((2 : Int32) < 0 ∨ cl189.slots.size ≤ ((2 : Int32)).toNatClampNeg) := inb_of S189 ⟨by decide, by decide⟩
  obtain ⟨T190, X190, e190, st190⟩ := getS2 X188 hx hZ hown (host := "") (Or.inl (w_79 hw)) Via.refl e188 (ST.c5.ext X00.2) (g := (mkF m 42 #[xvr tx, xvi (3 : Int32)] [xwi (((cc1 >>> ((0 : Int32) &&& 31)).toInt8.toInt32) &&& (255 : Int32))])) rfl (hb hby d19_42)
  obtain ⟨cl191, Ar191, q191, S191, M191, H191, G191⟩ := id V1
  have in191 : ¬ ((3 : Int32) < 0 ∨ cl191.slots.size ≤ ((3 : Int32)).toNatClampNeg) := inb_of S191 ⟨by decide, by decide⟩
  obtain ⟨T192, X192, e192, st192⟩ := getS2 X190 hx hZ hown (host := "") (Or.inl (w_80 hw)) Via.refl e190 (ST.c6.ext X00.2) (g := (mkF m 53 #[xvr tx, xvi (3 : Int32)] [xwi (((cc1 >>> ((8 : Int32) &&& 31)).toInt8.toInt32) &&& (255 : Int32)), xwi ((((cc1 >>> ((0 : Int32) &&& 31)).toInt8.toInt32) &&& (255 : Int32)) <<< ((0 : Int32) &&& 31))])) rfl (hb hby d19_53)
  obtain ⟨fs, hr, hrun, hended, hW, hsame⟩ := X192.leave (v := some (.int cc1)) (fun h => by rw [Bd.returns] at h; cases h)
  refine ⟨_, _, hTG _ (pre0 _ ?_), hrun, hended, _, _, rfl, ?_, ⟨_, rfl⟩, hW, hsame.mono (by decide) (by decide)⟩
  · refine st188 _ ?_
    show Sx p e below T188 m 3 #[xvr tx, xvi (1 : Int32)] [xwi (1 : Int32)] _
    refine y_ifYes X188 hx 28 (hb hby d19_3) (XT.i0_ne_t (by decide)) (by decide) (by decide) ?_
    refine y_iloadN X188 hx 29 (hb hby d19_28) rfl rfl ?_
    refine y_iconst X188 hx (1 : Int32) 30 (hb hby d19_29) rfl rfl ?_
    refine XS.ishl X188.here hx rfl (hb hby d19_30) rfl ?_
    rw [show ((1 : Int32) <<< ((1 : Int32) &&& 31)) = (2 : Int32) from by decide]
    show Sx p e below T188 m 31 #[xvr tx, xvi (1 : Int32)] [xwi (2 : Int32)] _
    refine XS.istoreN X188.here hx rfl (hb hby d19_31) rfl (l' := #[xvr tx, xvi (2 : Int32)]) rfl ?_
    show Sx p e below T188 m 32 #[xvr tx, xvi (2 : Int32)] [] _
    refine y_aloadN X188 hx 33 (hb hby d19_32) rfl rfl rfl ?_
    refine y_iloadN X188 hx 34 (hb hby d19_33) rfl rfl ?_
    refine XS.iinc X188.here hx rfl (hb hby d19_34) rfl (l' := #[xvr tx, xvi ((2 : Int32) + (1 : Int32))]) rfl ?_
    rw [show ((2 : Int32) + (1 : Int32)) = (3 : Int32) from by decide]
    show Sx p e below T188 m 37 #[xvr tx, xvi (3 : Int32)] [xwi (2 : Int32), xwr tx] _
    refine X188.baloadBytes hx (j := (2 : Int32)) (v := (.int ((cc1 >>> ((0 : Int32) &&& 31)).toInt8.toInt32))) (by rw [e188]; exact Ar189.1) (State.isArrayOf_alike hZ.alike Ar189.2.1) Ar189.2.2 in189 (Has.at H189 in189 rfl) (g := (mkF m 37 #[xvr tx, xvi (3 : Int32)] [xwi (2 : Int32), xwr tx])) rfl rfl (hb hby d19_37) _ ?_
    show Sx p e below T188 m 38 #[xvr tx, xvi (3 : Int32)] [xwi ((cc1 >>> ((0 : Int32) &&& 31)).toInt8.toInt32)] _
    refine y_sipush X188 hx (255 : Int32) 41 (hb hby d19_38) rfl rfl ?_
    refine y_iand X188 hx 42 (hb hby d19_41) rfl ?_
    refine st190 _ ?_
    show Sx p e below T190 m 45 #[xvr tx, xvi (3 : Int32)] [xwi (0 : Int32), xwi (((cc1 >>> ((0 : Int32) &&& 31)).toInt8.toInt32) &&& (255 : Int32))] _
    refine XS.ishl X190.here hx rfl (hb hby d19_45) rfl ?_
    show Sx p e below T190 m 46 #[xvr tx, xvi (3 : Int32)] [xwi ((((cc1 >>> ((0 : Int32) &&& 31)).toInt8.toInt32) &&& (255 : Int32)) <<< ((0 : Int32) &&& 31))] _
    refine y_aloadN X190 hx 47 (hb hby d19_46) rfl rfl rfl ?_
    refine y_iloadN X190 hx 48 (hb hby d19_47) rfl rfl ?_
    refine X190.baloadBytes hx (j := (3 : Int32)) (v := (.int ((cc1 >>> ((8 : Int32) &&& 31)).toInt8.toInt32))) (by rw [e190]; exact Ar191.1) (State.isArrayOf_alike hZ.alike Ar191.2.1) Ar191.2.2 in191 (Has.at H191 in191 rfl) (g := (mkF m 48 #[xvr tx, xvi (3 : Int32)] [xwi (3 : Int32), xwr tx, xwi ((((cc1 >>> ((0 : Int32) &&& 31)).toInt8.toInt32) &&& (255 : Int32)) <<< ((0 : Int32) &&& 31))])) rfl rfl (hb hby d19_48) _ ?_
    show Sx p e below T190 m 49 #[xvr tx, xvi (3 : Int32)] [xwi ((cc1 >>> ((8 : Int32) &&& 31)).toInt8.toInt32), xwi ((((cc1 >>> ((0 : Int32) &&& 31)).toInt8.toInt32) &&& (255 : Int32)) <<< ((0 : Int32) &&& 31))] _
    refine y_sipush X190 hx (255 : Int32) 52 (hb hby d19_49) rfl rfl ?_
    refine y_iand X190 hx 53 (hb hby d19_52) rfl ?_
    refine st192 _ ?_
    show Sx p e below T192 m 56 #[xvr tx, xvi (3 : Int32)] [xwi (8 : Int32), xwi (((cc1 >>> ((8 : Int32) &&& 31)).toInt8.toInt32) &&& (255 : Int32)), xwi ((((cc1 >>> ((0 : Int32) &&& 31)).toInt8.toInt32) &&& (255 : Int32)) <<< ((0 : Int32) &&& 31))] _
    refine XS.ishl X192.here hx rfl (hb hby d19_56) rfl ?_
    show Sx p e below T192 m 57 #[xvr tx, xvi (3 : Int32)] [xwi ((((cc1 >>> ((8 : Int32) &&& 31)).toInt8.toInt32) &&& (255 : Int32)) <<< ((8 : Int32) &&& 31)), xwi ((((cc1 >>> ((0 : Int32) &&& 31)).toInt8.toInt32) &&& (255 : Int32)) <<< ((0 : Int32) &&& 31))] _
    refine y_ior X192 hx 58 (hb hby d19_57) rfl ?_
    refine XS.i2c X192.here hx rfl (hb hby d19_58) rfl ?_
    show Sx p e below T192 m 59 #[xvr tx, xvi (3 : Int32)] [xwi ((((((cc1 >>> ((0 : Int32) &&& 31)).toInt8.toInt32) &&& (255 : Int32)) <<< ((0 : Int32) &&& 31)) ||| ((((cc1 >>> ((8 : Int32) &&& 31)).toInt8.toInt32) &&& (255 : Int32)) <<< ((8 : Int32) &&& 31))).toUInt32.toUInt16.toUInt32.toInt32)] _
    rw [own_u16 hr_cc1]
    show Sx p e below T192 m 59 #[xvr tx, xvi (3 : Int32)] [xwi cc1] _
    exact retN X192 hx (t := .char) Bd.returns (by simp) (hb hby d19_59) ((by rw [own_nar16 hr_cc1]; exact hr))
  · show QrmGC1 Z G tx kx cc0 cc1 cc2 cc3 h0 n0 _ T192.heap _
    rw [e192]
    exact ⟨rfl, N0, rfl⟩
theorem ef_rmGC2 (m : MethodId) (x0 : Addr) (x1 : Int32)  : entryFrame m #[(.ref x0), (.int x1)] 2 = mkF m 0 #[.val (.ref x0), .val (.int x1)] [] := by first | (simp [entryFrame, mkF, argsToLocals, Value.category]; done) | rfl
def QrmGC2 (Z : State) (G : Gs) (tx : Addr) (kx : ClassId) (cc0 : Int32) (cc1 : Int32) (cc2 : Int32) (cc3 : Int32) (h0 : Heap) (n0 : Nat) (v : Option Value) (h : Heap) (L : List Loc) : Prop := v = some (.int cc2) ∧ Fr n0 L ∧ h = h0
set_option maxRecDepth 65536 in
set_option maxHeartbeats 40000000 in
theorem rmGC2 (l : Launch) (Z : State) (a0 : Array Value) (hw : HW a0 Z) (G : Gs) (ST : StartF Z G) (ws : List Jvm.Cond) (tx : Addr) (kx : ClassId) (cc0 : Int32) (cc1 : Int32) (cc2 : Int32) (cc3 : Int32) (h0 : Heap) (n0 : Nat) (X00 : Old Z n0 h0) (V1 : Arv Z h0 tx kx .byte (8 : Int32) [(.int ((cc0 >>> ((0 : Int32) &&& 31)).toInt8.toInt32)), (.int ((cc0 >>> ((8 : Int32) &&& 31)).toInt8.toInt32)), (.int ((cc1 >>> ((0 : Int32) &&& 31)).toInt8.toInt32)), (.int ((cc1 >>> ((8 : Int32) &&& 31)).toInt8.toInt32)), (.int ((cc2 >>> ((0 : Int32) &&& 31)).toInt8.toInt32)), (.int ((cc2 >>> ((8 : Int32) &&& 31)).toInt8.toInt32)), (.int ((cc3 >>> ((0 : Int32) &&& 31)).toInt8.toInt32)), (.int ((cc3 >>> ((8 : Int32) &&& 31)).toInt8.toInt32))] (.int (0 : Int32))) (hr_cc0 : own_c16 cc0) (hr_cc1 : own_c16 cc1) (hr_cc2 : own_c16 cc2) (hr_cc3 : own_c16 cc3) :
    MetFree l (⟨"java/lang/StringUTF16", "getChar", "([BI)C"⟩ : MethodName) (head1 (Jvm.Cond.code (⟨"java/lang/StringUTF16", "getChar", "([BI)C"⟩ : MethodName) jdk_52_method_5_code 2 (some .char) :: ws) ({ frames := 0, cells := 0, slots := 0, locals := 0 } : Room)) (fun a U => a = #[(.ref tx), (.int (2 : Int32))] ∧ Z.Warmed39 U.vm ∧ U.heap = h0) (fun _ _ _ _ _ => True) (fun _ U o U' => ∃ v L, o = .returned v ∧ QrmGC2 Z G tx kx cc0 cc1 cc2 cc3 h0 n0 v U'.heap L ∧ FrameEnd U o U' L ({ frames := 0, cells := 0, slots := 0, locals := 0 } : Room).cells ({ frames := 0, cells := 0, slots := 0, locals := 0 } : Room).slots) := by
  refine MetFree.of_bodySF (plainFor_of_name pn_0) hisR ?_
  intro p e s m args below meth c s₁ Bd hml0 hP hK
  obtain ⟨rfl, hZ, hh⟩ := hP
  have hx := Bd.exec
  have hby := Bd.bytes
  have hml : c.maxLocals = 2 := hml0
  have hown : s.vm.findClass "java/lang/StringUTF16" = some m.cls := findClass_of_methodNamed Bd.named
  have hnm := (name_of_methodNamed Bd.named Bd.method).1
  have X0 : Stand p l e ({ frames := 0, cells := 0, slots := 0, locals := 0 } : Room) s m #[(.ref tx), (.int (2 : Int32))] below meth c s₁ [] 0 0 := Stand.of_body Bd
  have e0 : s₁.heap = h0 := by rw [← hh, Bd.state]; rfl
  have N0 := Fr.nil n0
  have Z0 : n0 ≤ h0.size := by have q := X00.2.1; rw [X00.1] at q; exact q
  obtain ⟨TG, hTG, hT2⟩ : ∃ P : State → Prop, (∀ t, P t → Steps p.tables e below (s₁.setTop (entryFrame m #[(.ref tx), (.int (2 : Int32))] 2)) t) ∧ (∀ t, Steps p.tables e below (s₁.setTop (entryFrame m #[(.ref tx), (.int (2 : Int32))] 2)) t → P t) := ⟨_, fun t k => k, fun t k => k⟩
  have pre0 : ∀ t, Sx p e below s₁ m 0 #[xvr tx, xvi (2 : Int32)] [] t → TG t := fun t k => hT2 t (castTop (ef_rmGC2 m tx (2 : Int32) ) k)
  obtain ⟨T193, X193, e193, st193⟩ := getS2 X0 hx hZ hown (host := "") (Or.inl (w_78 hw)) Via.refl e0 (ST.c4.ext X00.2) (g := (mkF m 0 #[xvr tx, xvi (2 : Int32)] [])) rfl (hb hby d19_0)
  obtain ⟨cl194, Ar194, q194, S194, M194, H194, G194⟩ := id V1
  have in194 : ¬ ((4 : Int32) < 0 ∨ cl194.slots.size ≤ ((4 : Int32)).toNatClampNeg) := inb_of S194 ⟨by decide, by decide⟩
  obtain ⟨T195, X195, e195, st195⟩ := getS2 X193 hx hZ hown (host := "") (Or.inl (w_79 hw)) Via.refl e193 (ST.c5.ext X00.2) (g := (mkF m 42 #[xvr tx, xvi (5 : Int32)] [xwi (((cc2 >>> ((0 : Int32) &&& 31)).toInt8.toInt32) &&& (255 : Int32))])) rfl (hb hby d19_42)
  obtain ⟨cl196, Ar196, q196, S196, M196, H196, G196⟩ := id V1
  have in196 : ¬ ((5 : Int32) < 0 ∨ cl196.slots.size ≤ ((5 : Int32)).toNatClampNeg) := inb_of S196 ⟨by decide, by decide⟩
  obtain ⟨T197, X197, e197, st197⟩ := getS2 X195 hx hZ hown (host := "") (Or.inl (w_80 hw)) Via.refl e195 (ST.c6.ext X00.2) (g := (mkF m 53 #[xvr tx, xvi (5 : Int32)] [xwi (((cc2 >>> ((8 : Int32) &&& 31)).toInt8.toInt32) &&& (255 : Int32)), xwi ((((cc2 >>> ((0 : Int32) &&& 31)).toInt8.toInt32) &&& (255 : Int32)) <<< ((0 : Int32) &&& 31))])) rfl (hb hby d19_53)
  obtain ⟨fs, hr, hrun, hended, hW, hsame⟩ := X197.leave (v := some (.int cc2)) (fun h => by rw [Bd.returns] at h; cases h)
  refine ⟨_, _, hTG _ (pre0 _ ?_), hrun, hended, _, _, rfl, ?_, ⟨_, rfl⟩, hW, hsame.mono (by decide) (by decide)⟩
  · refine st193 _ ?_
    show Sx p e below T193 m 3 #[xvr tx, xvi (2 : Int32)] [xwi (1 : Int32)] _
    refine y_ifYes X193 hx 28 (hb hby d19_3) (XT.i0_ne_t (by decide)) (by decide) (by decide) ?_
    refine y_iloadN X193 hx 29 (hb hby d19_28) rfl rfl ?_
    refine y_iconst X193 hx (1 : Int32) 30 (hb hby d19_29) rfl rfl ?_
    refine XS.ishl X193.here hx rfl (hb hby d19_30) rfl ?_
    rw [show ((2 : Int32) <<< ((1 : Int32) &&& 31)) = (4 : Int32) from by decide]
    show Sx p e below T193 m 31 #[xvr tx, xvi (2 : Int32)] [xwi (4 : Int32)] _
    refine XS.istoreN X193.here hx rfl (hb hby d19_31) rfl (l' := #[xvr tx, xvi (4 : Int32)]) rfl ?_
    show Sx p e below T193 m 32 #[xvr tx, xvi (4 : Int32)] [] _
    refine y_aloadN X193 hx 33 (hb hby d19_32) rfl rfl rfl ?_
    refine y_iloadN X193 hx 34 (hb hby d19_33) rfl rfl ?_
    refine XS.iinc X193.here hx rfl (hb hby d19_34) rfl (l' := #[xvr tx, xvi ((4 : Int32) + (1 : Int32))]) rfl ?_
    rw [show ((4 : Int32) + (1 : Int32)) = (5 : Int32) from by decide]
    show Sx p e below T193 m 37 #[xvr tx, xvi (5 : Int32)] [xwi (4 : Int32), xwr tx] _
    refine X193.baloadBytes hx (j := (4 : Int32)) (v := (.int ((cc2 >>> ((0 : Int32) &&& 31)).toInt8.toInt32))) (by rw [e193]; exact Ar194.1) (State.isArrayOf_alike hZ.alike Ar194.2.1) Ar194.2.2 in194 (Has.at H194 in194 rfl) (g := (mkF m 37 #[xvr tx, xvi (5 : Int32)] [xwi (4 : Int32), xwr tx])) rfl rfl (hb hby d19_37) _ ?_
    show Sx p e below T193 m 38 #[xvr tx, xvi (5 : Int32)] [xwi ((cc2 >>> ((0 : Int32) &&& 31)).toInt8.toInt32)] _
    refine y_sipush X193 hx (255 : Int32) 41 (hb hby d19_38) rfl rfl ?_
    refine y_iand X193 hx 42 (hb hby d19_41) rfl ?_
    refine st195 _ ?_
    show Sx p e below T195 m 45 #[xvr tx, xvi (5 : Int32)] [xwi (0 : Int32), xwi (((cc2 >>> ((0 : Int32) &&& 31)).toInt8.toInt32) &&& (255 : Int32))] _
    refine XS.ishl X195.here hx rfl (hb hby d19_45) rfl ?_
    show Sx p e below T195 m 46 #[xvr tx, xvi (5 : Int32)] [xwi ((((cc2 >>> ((0 : Int32) &&& 31)).toInt8.toInt32) &&& (255 : Int32)) <<< ((0 : Int32) &&& 31))] _
    refine y_aloadN X195 hx 47 (hb hby d19_46) rfl rfl rfl ?_
    refine y_iloadN X195 hx 48 (hb hby d19_47) rfl rfl ?_
    refine X195.baloadBytes hx (j := (5 : Int32)) (v := (.int ((cc2 >>> ((8 : Int32) &&& 31)).toInt8.toInt32))) (by rw [e195]; exact Ar196.1) (State.isArrayOf_alike hZ.alike Ar196.2.1) Ar196.2.2 in196 (Has.at H196 in196 rfl) (g := (mkF m 48 #[xvr tx, xvi (5 : Int32)] [xwi (5 : Int32), xwr tx, xwi ((((cc2 >>> ((0 : Int32) &&& 31)).toInt8.toInt32) &&& (255 : Int32)) <<< ((0 : Int32) &&& 31))])) rfl rfl (hb hby d19_48) _ ?_
    show Sx p e below T195 m 49 #[xvr tx, xvi (5 : Int32)] [xwi ((cc2 >>> ((8 : Int32) &&& 31)).toInt8.toInt32), xwi ((((cc2 >>> ((0 : Int32) &&& 31)).toInt8.toInt32) &&& (255 : Int32)) <<< ((0 : Int32) &&& 31))] _
    refine y_sipush X195 hx (255 : Int32) 52 (hb hby d19_49) rfl rfl ?_
    refine y_iand X195 hx 53 (hb hby d19_52) rfl ?_
    refine st197 _ ?_
    show Sx p e below T197 m 56 #[xvr tx, xvi (5 : Int32)] [xwi (8 : Int32), xwi (((cc2 >>> ((8 : Int32) &&& 31)).toInt8.toInt32) &&& (255 : Int32)), xwi ((((cc2 >>> ((0 : Int32) &&& 31)).toInt8.toInt32) &&& (255 : Int32)) <<< ((0 : Int32) &&& 31))] _
    refine XS.ishl X197.here hx rfl (hb hby d19_56) rfl ?_
    show Sx p e below T197 m 57 #[xvr tx, xvi (5 : Int32)] [xwi ((((cc2 >>> ((8 : Int32) &&& 31)).toInt8.toInt32) &&& (255 : Int32)) <<< ((8 : Int32) &&& 31)), xwi ((((cc2 >>> ((0 : Int32) &&& 31)).toInt8.toInt32) &&& (255 : Int32)) <<< ((0 : Int32) &&& 31))] _
    refine y_ior X197 hx 58 (hb hby d19_57) rfl ?_
    refine XS.i2c X197.here hx rfl (hb hby d19_58) rfl ?_
    show Sx p e below T197 m 59 #[xvr tx, xvi (5 : Int32)] [xwi ((((((cc2 >>> ((0 : Int32) &&& 31)).toInt8.toInt32) &&& (255 : Int32)) <<< ((0 : Int32) &&& 31)) ||| ((((cc2 >>> ((8 : Int32) &&& 31)).toInt8.toInt32) &&& (255 : Int32)) <<< ((8 : Int32) &&& 31))).toUInt32.toUInt16.toUInt32.toInt32)] _
    rw [own_u16 hr_cc2]
    show Sx p e below T197 m 59 #[xvr tx, xvi (5 : Int32)] [xwi cc2] _
    exact retN X197 hx (t := .char) Bd.returns (by simp) (hb hby d19_59) ((by rw [own_nar16 hr_cc2]; exact hr))
  · show QrmGC2 Z G tx kx cc0 cc1 cc2 cc3 h0 n0 _ T197.heap _
    rw [e197]
    exact ⟨rfl, N0, rfl⟩
theorem ef_rmGC3 (m : MethodId) (x0 : Addr) (x1 : Int32)  : entryFrame m #[(.ref x0), (.int x1)] 2 = mkF m 0 #[.val (.ref x0), .val (.int x1)] [] := by first | (simp [entryFrame, mkF, argsToLocals, Value.category]; done) | rfl
def QrmGC3 (Z : State) (G : Gs) (tx : Addr) (kx : ClassId) (cc0 : Int32) (cc1 : Int32) (cc2 : Int32) (cc3 : Int32) (h0 : Heap) (n0 : Nat) (v : Option Value) (h : Heap) (L : List Loc) : Prop := v = some (.int cc3) ∧ Fr n0 L ∧ h = h0
set_option maxRecDepth 65536 in
set_option maxHeartbeats 40000000 in
theorem rmGC3 (l : Launch) (Z : State) (a0 : Array Value) (hw : HW a0 Z) (G : Gs) (ST : StartF Z G) (ws : List Jvm.Cond) (tx : Addr) (kx : ClassId) (cc0 : Int32) (cc1 : Int32) (cc2 : Int32) (cc3 : Int32) (h0 : Heap) (n0 : Nat) (X00 : Old Z n0 h0) (V1 : Arv Z h0 tx kx .byte (8 : Int32) [(.int ((cc0 >>> ((0 : Int32) &&& 31)).toInt8.toInt32)), (.int ((cc0 >>> ((8 : Int32) &&& 31)).toInt8.toInt32)), (.int ((cc1 >>> ((0 : Int32) &&& 31)).toInt8.toInt32)), (.int ((cc1 >>> ((8 : Int32) &&& 31)).toInt8.toInt32)), (.int ((cc2 >>> ((0 : Int32) &&& 31)).toInt8.toInt32)), (.int ((cc2 >>> ((8 : Int32) &&& 31)).toInt8.toInt32)), (.int ((cc3 >>> ((0 : Int32) &&& 31)).toInt8.toInt32)), (.int ((cc3 >>> ((8 : Int32) &&& 31)).toInt8.toInt32))] (.int (0 : Int32))) (hr_cc0 : own_c16 cc0) (hr_cc1 : own_c16 cc1) (hr_cc2 : own_c16 cc2) (hr_cc3 : own_c16 cc3) :
    MetFree l (⟨"java/lang/StringUTF16", "getChar", "([BI)C"⟩ : MethodName) (head1 (Jvm.Cond.code (⟨"java/lang/StringUTF16", "getChar", "([BI)C"⟩ : MethodName) jdk_52_method_5_code 2 (some .char) :: ws) ({ frames := 0, cells := 0, slots := 0, locals := 0 } : Room)) (fun a U => a = #[(.ref tx), (.int (3 : Int32))] ∧ Z.Warmed39 U.vm ∧ U.heap = h0) (fun _ _ _ _ _ => True) (fun _ U o U' => ∃ v L, o = .returned v ∧ QrmGC3 Z G tx kx cc0 cc1 cc2 cc3 h0 n0 v U'.heap L ∧ FrameEnd U o U' L ({ frames := 0, cells := 0, slots := 0, locals := 0 } : Room).cells ({ frames := 0, cells := 0, slots := 0, locals := 0 } : Room).slots) := by
  refine MetFree.of_bodySF (plainFor_of_name pn_0) hisR ?_
  intro p e s m args below meth c s₁ Bd hml0 hP hK
  obtain ⟨rfl, hZ, hh⟩ := hP
  have hx := Bd.exec
  have hby := Bd.bytes
  have hml : c.maxLocals = 2 := hml0
  have hown : s.vm.findClass "java/lang/StringUTF16" = some m.cls := findClass_of_methodNamed Bd.named
  have hnm := (name_of_methodNamed Bd.named Bd.method).1
  have X0 : Stand p l e ({ frames := 0, cells := 0, slots := 0, locals := 0 } : Room) s m #[(.ref tx), (.int (3 : Int32))] below meth c s₁ [] 0 0 := Stand.of_body Bd
  have e0 : s₁.heap = h0 := by rw [← hh, Bd.state]; rfl
  have N0 := Fr.nil n0
  have Z0 : n0 ≤ h0.size := by have q := X00.2.1; rw [X00.1] at q; exact q
  obtain ⟨TG, hTG, hT2⟩ : ∃ P : State → Prop, (∀ t, P t → Steps p.tables e below (s₁.setTop (entryFrame m #[(.ref tx), (.int (3 : Int32))] 2)) t) ∧ (∀ t, Steps p.tables e below (s₁.setTop (entryFrame m #[(.ref tx), (.int (3 : Int32))] 2)) t → P t) := ⟨_, fun t k => k, fun t k => k⟩
  have pre0 : ∀ t, Sx p e below s₁ m 0 #[xvr tx, xvi (3 : Int32)] [] t → TG t := fun t k => hT2 t (castTop (ef_rmGC3 m tx (3 : Int32) ) k)
  obtain ⟨T198, X198, e198, st198⟩ := getS2 X0 hx hZ hown (host := "") (Or.inl (w_78 hw)) Via.refl e0 (ST.c4.ext X00.2) (g := (mkF m 0 #[xvr tx, xvi (3 : Int32)] [])) rfl (hb hby d19_0)
  obtain ⟨cl199, Ar199, q199, S199, M199, H199, G199⟩ := id V1
  have in199 : ¬ ((6 : Int32) < 0 ∨ cl199.slots.size ≤ ((6 : Int32)).toNatClampNeg) := inb_of S199 ⟨by decide, by decide⟩
  obtain ⟨T200, X200, e200, st200⟩ := getS2 X198 hx hZ hown (host := "") (Or.inl (w_79 hw)) Via.refl e198 (ST.c5.ext X00.2) (g := (mkF m 42 #[xvr tx, xvi (7 : Int32)] [xwi (((cc3 >>> ((0 : Int32) &&& 31)).toInt8.toInt32) &&& (255 : Int32))])) rfl (hb hby d19_42)
  obtain ⟨cl201, Ar201, q201, S201, M201, H201, G201⟩ := id V1
  have in201 : ¬ ((7 : Int32) < 0 ∨ cl201.slots.size ≤ ((7 : Int32)).toNatClampNeg) := inb_of S201 ⟨by decide, by decide⟩
  obtain ⟨T202, X202, e202, st202⟩ := getS2 X200 hx hZ hown (host := "") (Or.inl (w_80 hw)) Via.refl e200 (ST.c6.ext X00.2) (g := (mkF m 53 #[xvr tx, xvi (7 : Int32)] [xwi (((cc3 >>> ((8 : Int32) &&& 31)).toInt8.toInt32) &&& (255 : Int32)), xwi ((((cc3 >>> ((0 : Int32) &&& 31)).toInt8.toInt32) &&& (255 : Int32)) <<< ((0 : Int32) &&& 31))])) rfl (hb hby d19_53)
  obtain ⟨fs, hr, hrun, hended, hW, hsame⟩ := X202.leave (v := some (.int cc3)) (fun h => by rw [Bd.returns] at h; cases h)
  refine ⟨_, _, hTG _ (pre0 _ ?_), hrun, hended, _, _, rfl, ?_, ⟨_, rfl⟩, hW, hsame.mono (by decide) (by decide)⟩
  · refine st198 _ ?_
    show Sx p e below T198 m 3 #[xvr tx, xvi (3 : Int32)] [xwi (1 : Int32)] _
    refine y_ifYes X198 hx 28 (hb hby d19_3) (XT.i0_ne_t (by decide)) (by decide) (by decide) ?_
    refine y_iloadN X198 hx 29 (hb hby d19_28) rfl rfl ?_
    refine y_iconst X198 hx (1 : Int32) 30 (hb hby d19_29) rfl rfl ?_
    refine XS.ishl X198.here hx rfl (hb hby d19_30) rfl ?_
    rw [show ((3 : Int32) <<< ((1 : Int32) &&& 31)) = (6 : Int32) from by decide]
    show Sx p e below T198 m 31 #[xvr tx, xvi (3 : Int32)] [xwi (6 : Int32)] _
    refine XS.istoreN X198.here hx rfl (hb hby d19_31) rfl (l' := #[xvr tx, xvi (6 : Int32)]) rfl ?_
    show Sx p e below T198 m 32 #[xvr tx, xvi (6 : Int32)] [] _
    refine y_aloadN X198 hx 33 (hb hby d19_32) rfl rfl rfl ?_
    refine y_iloadN X198 hx 34 (hb hby d19_33) rfl rfl ?_
    refine XS.iinc X198.here hx rfl (hb hby d19_34) rfl (l' := #[xvr tx, xvi ((6 : Int32) + (1 : Int32))]) rfl ?_
    rw [show ((6 : Int32) + (1 : Int32)) = (7 : Int32) from by decide]
    show Sx p e below T198 m 37 #[xvr tx, xvi (7 : Int32)] [xwi (6 : Int32), xwr tx] _
    refine X198.baloadBytes hx (j := (6 : Int32)) (v := (.int ((cc3 >>> ((0 : Int32) &&& 31)).toInt8.toInt32))) (by rw [e198]; exact Ar199.1) (State.isArrayOf_alike hZ.alike Ar199.2.1) Ar199.2.2 in199 (Has.at H199 in199 rfl) (g := (mkF m 37 #[xvr tx, xvi (7 : Int32)] [xwi (6 : Int32), xwr tx])) rfl rfl (hb hby d19_37) _ ?_
    show Sx p e below T198 m 38 #[xvr tx, xvi (7 : Int32)] [xwi ((cc3 >>> ((0 : Int32) &&& 31)).toInt8.toInt32)] _
    refine y_sipush X198 hx (255 : Int32) 41 (hb hby d19_38) rfl rfl ?_
    refine y_iand X198 hx 42 (hb hby d19_41) rfl ?_
    refine st200 _ ?_
    show Sx p e below T200 m 45 #[xvr tx, xvi (7 : Int32)] [xwi (0 : Int32), xwi (((cc3 >>> ((0 : Int32) &&& 31)).toInt8.toInt32) &&& (255 : Int32))] _
    refine XS.ishl X200.here hx rfl (hb hby d19_45) rfl ?_
    show Sx p e below T200 m 46 #[xvr tx, xvi (7 : Int32)] [xwi ((((cc3 >>> ((0 : Int32) &&& 31)).toInt8.toInt32) &&& (255 : Int32)) <<< ((0 : Int32) &&& 31))] _
    refine y_aloadN X200 hx 47 (hb hby d19_46) rfl rfl rfl ?_
    refine y_iloadN X200 hx 48 (hb hby d19_47) rfl rfl ?_
    refine X200.baloadBytes hx (j := (7 : Int32)) (v := (.int ((cc3 >>> ((8 : Int32) &&& 31)).toInt8.toInt32))) (by rw [e200]; exact Ar201.1) (State.isArrayOf_alike hZ.alike Ar201.2.1) Ar201.2.2 in201 (Has.at H201 in201 rfl) (g := (mkF m 48 #[xvr tx, xvi (7 : Int32)] [xwi (7 : Int32), xwr tx, xwi ((((cc3 >>> ((0 : Int32) &&& 31)).toInt8.toInt32) &&& (255 : Int32)) <<< ((0 : Int32) &&& 31))])) rfl rfl (hb hby d19_48) _ ?_
    show Sx p e below T200 m 49 #[xvr tx, xvi (7 : Int32)] [xwi ((cc3 >>> ((8 : Int32) &&& 31)).toInt8.toInt32), xwi ((((cc3 >>> ((0 : Int32) &&& 31)).toInt8.toInt32) &&& (255 : Int32)) <<< ((0 : Int32) &&& 31))] _
    refine y_sipush X200 hx (255 : Int32) 52 (hb hby d19_49) rfl rfl ?_
    refine y_iand X200 hx 53 (hb hby d19_52) rfl ?_
    refine st202 _ ?_
    show Sx p e below T202 m 56 #[xvr tx, xvi (7 : Int32)] [xwi (8 : Int32), xwi (((cc3 >>> ((8 : Int32) &&& 31)).toInt8.toInt32) &&& (255 : Int32)), xwi ((((cc3 >>> ((0 : Int32) &&& 31)).toInt8.toInt32) &&& (255 : Int32)) <<< ((0 : Int32) &&& 31))] _
    refine XS.ishl X202.here hx rfl (hb hby d19_56) rfl ?_
    show Sx p e below T202 m 57 #[xvr tx, xvi (7 : Int32)] [xwi ((((cc3 >>> ((8 : Int32) &&& 31)).toInt8.toInt32) &&& (255 : Int32)) <<< ((8 : Int32) &&& 31)), xwi ((((cc3 >>> ((0 : Int32) &&& 31)).toInt8.toInt32) &&& (255 : Int32)) <<< ((0 : Int32) &&& 31))] _
    refine y_ior X202 hx 58 (hb hby d19_57) rfl ?_
    refine XS.i2c X202.here hx rfl (hb hby d19_58) rfl ?_
    show Sx p e below T202 m 59 #[xvr tx, xvi (7 : Int32)] [xwi ((((((cc3 >>> ((0 : Int32) &&& 31)).toInt8.toInt32) &&& (255 : Int32)) <<< ((0 : Int32) &&& 31)) ||| ((((cc3 >>> ((8 : Int32) &&& 31)).toInt8.toInt32) &&& (255 : Int32)) <<< ((8 : Int32) &&& 31))).toUInt32.toUInt16.toUInt32.toInt32)] _
    rw [own_u16 hr_cc3]
    show Sx p e below T202 m 59 #[xvr tx, xvi (7 : Int32)] [xwi cc3] _
    exact retN X202 hx (t := .char) Bd.returns (by simp) (hb hby d19_59) ((by rw [own_nar16 hr_cc3]; exact hr))
  · show QrmGC3 Z G tx kx cc0 cc1 cc2 cc3 h0 n0 _ T202.heap _
    rw [e202]
    exact ⟨rfl, N0, rfl⟩
theorem ef_rmCb (m : MethodId) (x0 : Addr) (x1 : Int32) (x2 : Int32)  : entryFrame m #[(.ref x0), (.int x1), (.int x2)] 6 = mkF m 0 #[.val (.ref x0), .val (.int x1), .val (.int x2), .unset, .unset, .unset] [] := by first | (simp [entryFrame, mkF, argsToLocals, Value.category]; done) | rfl
theorem d5_0 : decode jdk_52_method_16_code 0 = .ok (.iload_n 2, 1) := by decide +kernel
theorem d5_1 : decode jdk_52_method_16_code 1 = .ok (.newarray .byte, 2) := by decide +kernel
theorem d5_3 : decode jdk_52_method_16_code 3 = .ok (.astore_n 3, 1) := by decide +kernel
theorem d5_4 : decode jdk_52_method_16_code 4 = .ok (.aload_n 0, 1) := by decide +kernel
theorem d5_5 : decode jdk_52_method_16_code 5 = .ok (.iload_n 1, 1) := by decide +kernel
theorem d5_6 : decode jdk_52_method_16_code 6 = .ok (.aload_n 3, 1) := by decide +kernel
theorem d5_7 : decode jdk_52_method_16_code 7 = .ok (.iconst 0, 1) := by decide +kernel
theorem d5_8 : decode jdk_52_method_16_code 8 = .ok (.iload_n 2, 1) := by decide +kernel
theorem d5_9 : decode jdk_52_method_16_code 9 = .ok (.invokestatic 115, 3) := by decide +kernel
theorem pd_3 : parseMethodDescriptor "([CI[BII)I" = some ⟨[(.array .char), .int, (.array .byte), .int, .int], some .int⟩ := by decide +kernel
theorem d5_12 : decode jdk_52_method_16_code 12 = .ok (.istore 4, 2) := by decide +kernel
theorem d5_14 : decode jdk_52_method_16_code 14 = .ok (.iload 4, 2) := by decide +kernel
theorem d5_16 : decode jdk_52_method_16_code 16 = .ok (.iload_n 2, 1) := by decide +kernel
theorem d5_17 : decode jdk_52_method_16_code 17 = .ok (.if_icmp .eq 40, 3) := by decide +kernel
theorem d5_57 : decode jdk_52_method_16_code 57 = .ok (.aload_n 3, 1) := by decide +kernel
theorem d5_58 : decode jdk_52_method_16_code 58 = .ok (.areturn, 1) := by decide +kernel
theorem d5_20 : decode jdk_52_method_16_code 20 = .ok (.aload_n 0, 1) := by decide +kernel
theorem d5_21 : decode jdk_52_method_16_code 21 = .ok (.iload_n 1, 1) := by decide +kernel
theorem d5_22 : decode jdk_52_method_16_code 22 = .ok (.iload_n 2, 1) := by decide +kernel
theorem d5_23 : decode jdk_52_method_16_code 23 = .ok (.invokestatic 119, 3) := by decide +kernel
theorem pd_4 : parseMethodDescriptor "([CII)[B" = some ⟨[(.array .char), .int, .int], some (.array .byte)⟩ := by decide +kernel
theorem d5_26 : decode jdk_52_method_16_code 26 = .ok (.astore 5, 2) := by decide +kernel
theorem d5_28 : decode jdk_52_method_16_code 28 = .ok (.aload 5, 2) := by decide +kernel
theorem d5_30 : decode jdk_52_method_16_code 30 = .ok (.iload 4, 2) := by decide +kernel
theorem d5_32 : decode jdk_52_method_16_code 32 = .ok (.invokestatic 71, 3) := by decide +kernel
theorem pd_5 : parseMethodDescriptor "([BI)C" = some ⟨[(.array .byte), .int], some .char⟩ := by decide +kernel
theorem d5_35 : decode jdk_52_method_16_code 35 = .ok (.sipush 255, 3) := by decide +kernel
theorem d5_38 : decode jdk_52_method_16_code 38 = .ok (.if_icmp .gt 16, 3) := by decide +kernel
theorem d5_54 : decode jdk_52_method_16_code 54 = .ok (.aload 5, 2) := by decide +kernel
theorem d5_56 : decode jdk_52_method_16_code 56 = .ok (.areturn, 1) := by decide +kernel
def QrmCb (Z : State) (G : Gs) (ca : Addr) (ck : ClassId) (cc0 : Int32) (cc1 : Int32) (cc2 : Int32) (cc3 : Int32) (h0 : Heap) (n0 : Nat) (v : Option Value) (h : Heap) (L : List Loc) : Prop := ∃ (bx : Addr), ∃ (kx : ClassId), ∃ (zx : Int32), ∃ (bs : List Value), v = some (.ref bx) ∧ Fr n0 L ∧ Keep h0 h [] ∧ h0.size ≤ bx ∧ Arv Z h bx kx .byte zx bs (.int (0 : Int32)) ∧ ((zx = 4 ∧ bs = [(.int (cc0.toInt8.toInt32)), (.int (cc1.toInt8.toInt32)), (.int (cc2.toInt8.toInt32)), (.int (cc3.toInt8.toInt32))] ∧ ¬ (255 : Int32) < cc0 ∧ ¬ (255 : Int32) < cc1 ∧ ¬ (255 : Int32) < cc2 ∧ ¬ (255 : Int32) < cc3) ∨ (zx = 8 ∧ bs = [(.int ((cc0 >>> ((0 : Int32) &&& 31)).toInt8.toInt32)), (.int ((cc0 >>> ((8 : Int32) &&& 31)).toInt8.toInt32)), (.int ((cc1 >>> ((0 : Int32) &&& 31)).toInt8.toInt32)), (.int ((cc1 >>> ((8 : Int32) &&& 31)).toInt8.toInt32)), (.int ((cc2 >>> ((0 : Int32) &&& 31)).toInt8.toInt32)), (.int ((cc2 >>> ((8 : Int32) &&& 31)).toInt8.toInt32)), (.int ((cc3 >>> ((0 : Int32) &&& 31)).toInt8.toInt32)), (.int ((cc3 >>> ((8 : Int32) &&& 31)).toInt8.toInt32))]))
set_option maxRecDepth 65536 in
set_option maxHeartbeats 40000000 in
theorem rmCb (l : Launch) (Z : State) (a0 : Array Value) (hw : HW a0 Z) (G : Gs) (ST : StartF Z G) (ws : List Jvm.Cond) (ca : Addr) (ck : ClassId) (cc0 : Int32) (cc1 : Int32) (cc2 : Int32) (cc3 : Int32) (h0 : Heap) (n0 : Nat) (X00 : Old Z n0 h0) (Vc : Arv Z h0 ca ck .char (4 : Int32) [(.int cc0), (.int cc1), (.int cc2), (.int cc3)] (.int (0 : Int32))) (hr_cc0 : own_c16 cc0) (hr_cc1 : own_c16 cc1) (hr_cc2 : own_c16 cc2) (hr_cc3 : own_c16 cc3) :
    MetFree l (⟨"java/lang/StringUTF16", "compress", "([CII)[B"⟩ : MethodName) (head1 (Jvm.Cond.code (⟨"java/lang/StringUTF16", "compress", "([CII)[B"⟩ : MethodName) jdk_52_method_16_code 6 (some (.array .byte)) :: ws) ({ frames := 3, cells := 2, slots := 12, locals := 40 } : Room)) (fun a U => a = #[(.ref ca), (.int (0 : Int32)), (.int (4 : Int32))] ∧ Z.Warmed39 U.vm ∧ U.heap = h0) (fun _ _ _ _ _ => True) (fun _ U o U' => ∃ v L, o = .returned v ∧ QrmCb Z G ca ck cc0 cc1 cc2 cc3 h0 n0 v U'.heap L ∧ FrameEnd U o U' L ({ frames := 3, cells := 2, slots := 12, locals := 40 } : Room).cells ({ frames := 3, cells := 2, slots := 12, locals := 40 } : Room).slots) := by
  refine MetFree.of_bodySF (plainFor_of_name pn_0) hisR ?_
  intro p e s m args below meth c s₁ Bd hml0 hP hK
  obtain ⟨rfl, hZ, hh⟩ := hP
  have hx := Bd.exec
  have hby := Bd.bytes
  have hml : c.maxLocals = 6 := hml0
  have hown : s.vm.findClass "java/lang/StringUTF16" = some m.cls := findClass_of_methodNamed Bd.named
  have hnm := (name_of_methodNamed Bd.named Bd.method).1
  have X0 : Stand p l e ({ frames := 3, cells := 2, slots := 12, locals := 40 } : Room) s m #[(.ref ca), (.int (0 : Int32)), (.int (4 : Int32))] below meth c s₁ [] 0 0 := Stand.of_body Bd
  have e0 : s₁.heap = h0 := by rw [← hh, Bd.state]; rfl
  have N0 := Fr.nil n0
  have Z0 : n0 ≤ h0.size := by have q := X00.2.1; rw [X00.1] at q; exact q
  obtain ⟨TG, hTG, hT2⟩ : ∃ P : State → Prop, (∀ t, P t → Steps p.tables e below (s₁.setTop (entryFrame m #[(.ref ca), (.int (0 : Int32)), (.int (4 : Int32))] 6)) t) ∧ (∀ t, Steps p.tables e below (s₁.setTop (entryFrame m #[(.ref ca), (.int (0 : Int32)), (.int (4 : Int32))] 6)) t → P t) := ⟨_, fun t k => k, fun t k => k⟩
  have pre0 : ∀ t, Sx p e below s₁ m 0 #[xvr ca, xvi (0 : Int32), xvi (4 : Int32), xun, xun, xun] [] t → TG t := fun t k => hT2 t (castTop (ef_rmCb m ca (0 : Int32) (4 : Int32) ) k)
  obtain ⟨T203, h203, k203, X203, e203, E203, A203, st203⟩ := newP (aty := .byte) X0 hx hZ (w_25 hw) e0 (g := (mkF m 1 #[xvr ca, xvi (0 : Int32), xvi (4 : Int32), xun, xun, xun] [xwi (4 : Int32)])) rfl (hb hby d5_1) rfl (by decide) (cap := 4) (by decide) (by decide) (by decide) (by decide)
  obtain ⟨b203, g203⟩ : ∃ z, z = h0.size := ⟨_, rfl⟩
  rw [← g203] at A203 st203
  have V203 : Arv Z h203 b203 k203 .byte (4 : Int32) [(.int (0 : Int32)), (.int (0 : Int32)), (.int (0 : Int32)), (.int (0 : Int32))] (.int (0 : Int32)) := (Arv.new A203 (by decide)).pad (pad_rep [] (.int (0 : Int32)) 4)
  have f204 := (Vc.ext E203)
  have Ol205 : Old Z n0 h203 := (X00.ext E203)
  obtain ⟨_, _, ⟨T206, L206, k206, n206⟩, -, X206, ⟨Lc206, hQ206, l206, y206, z206⟩, st206⟩ := Jvm.LawKit.callS X203 hx (y := (⟨"java/lang/StringUTF16", "compress", "([CI[BII)I"⟩ : MethodName)) hown (mvT hZ (w_26 hw)) (mvT hZ (w_27 hw)) (mvT hZ (w_23 hw)) (mvT hZ (w_28 hw)) (by decide) (backOf (W := 0) (rmCmp l Z a0 hw G ST [] ca ck b203 k203 cc0 cc1 cc2 cc3 h203 n0 Ol205 f204 V203 (Nat.le_trans Z0 (Nat.le_trans (Nat.le_refl _) (Nat.le_of_eq g203.symm))) (Ne.symm (Nat.ne_of_lt (Nat.lt_of_lt_of_le (Nat.lt_of_lt_of_le Vc.lt (Nat.le_refl _)) (Nat.le_of_eq g203.symm))))) hZ (w_28 hw) (w_23 hw) (by decide) (by decide)) (g := (mkF m 9 #[xvr ca, xvi (0 : Int32), xvi (4 : Int32), xvr b203, xun, xun] [xwi (4 : Int32), xwi (0 : Int32), xwr b203, xwi (0 : Int32), xwr ca])) rfl (by rw [hml]; rfl) (argsL := [(.ref ca), (.int (0 : Int32)), (.ref b203), (.int (0 : Int32)), (.int (4 : Int32))]) (rest := []) (lenOf pd_3 rfl) rfl (by show 2 * 0 + _ ≤ _; exact Nat.le_of_eq rfl) (hb hby d5_9) (fun _ _ => ⟨rfl, e203, (by decide : 1 + 0 ≤ _), (by decide : 4 + 0 ≤ _)⟩)
  dsimp only [Pt.U, Pt.locs, Pt.cells, Pt.slots] at X206 l206 y206 z206 st206 hQ206
  subst l206 y206 z206
  obtain ⟨hp206, e206⟩ : ∃ z, T206.heap = z := ⟨_, rfl⟩
  rw [e206] at hQ206
  obtain ⟨o207, o208, rfl, N206q, K206, p209, p210⟩ := hQ206
  have N206 := Fr.app N0 N206q
  have c211 : ∀ t, Sx p e below T206 m 12 #[xvr ca, xvi (0 : Int32), xvi (4 : Int32), xvr b203, xun, xun] [xwi o207] t → TG t := fun t k => pre0 t (by
    refine y_iloadN X0 hx 1 (hb hby d5_0) rfl rfl ?_
    refine st203 _ ?_
    show Sx p e below T203 m 3 #[xvr ca, xvi (0 : Int32), xvi (4 : Int32), xun, xun, xun] [xwr b203] _
    refine XS.astoreN X203.here hx rfl (hb hby d5_3) rfl rfl (l' := #[xvr ca, xvi (0 : Int32), xvi (4 : Int32), xvr b203, xun, xun]) rfl ?_
    show Sx p e below T203 m 4 #[xvr ca, xvi (0 : Int32), xvi (4 : Int32), xvr b203, xun, xun] [] _
    refine y_aloadN X203 hx 5 (hb hby d5_4) rfl rfl rfl ?_
    refine y_iloadN X203 hx 6 (hb hby d5_5) rfl rfl ?_
    refine y_aloadN X203 hx 7 (hb hby d5_6) rfl rfl rfl ?_
    refine y_iconst X203 hx (0 : Int32) 8 (hb hby d5_7) rfl rfl ?_
    refine y_iloadN X203 hx 9 (hb hby d5_8) rfl rfl ?_
    refine st206 _ ?_
    exact k)
  rcases p210 with hk212 | hk212 | hk212 | hk212 | hk212
  · obtain ⟨fs, hr, hrun, hended, hW, hsame⟩ := X206.leave (v := some (.ref b203)) (fun h => by rw [Bd.returns] at h; cases h)
    refine ⟨_, _, hTG _ (c211 _ ?_), hrun, hended, _, _, rfl, ?_, ⟨_, rfl⟩, hW, hsame.mono (by decide) (by decide)⟩
    · rw [hk212.1]
      refine XS.istore X206.here hx rfl (hb hby d5_12) rfl (l' := #[xvr ca, xvi (0 : Int32), xvi (4 : Int32), xvr b203, xvi (4 : Int32), xun]) rfl ?_
      show Sx p e below T206 m 14 #[xvr ca, xvi (0 : Int32), xvi (4 : Int32), xvr b203, xvi (4 : Int32), xun] [] _
      refine y_iload X206 hx 16 (hb hby d5_14) rfl rfl ?_
      refine y_iloadN X206 hx 17 (hb hby d5_16) rfl rfl ?_
      refine y_icmpYes X206 hx 57 (hb hby d5_17) (XT.ii_eq_t (by decide)) (by decide) (by decide) ?_
      refine y_aloadN X206 hx 58 (hb hby d5_57) rfl rfl rfl ?_
      show Sx p e below T206 m 58 #[xvr ca, xvi (0 : Int32), xvi (4 : Int32), xvr b203, xvi (4 : Int32), xun] [xwr b203] _
      exact retOut X206 hx Bd.returns rfl (Or.inr (Or.inr (Or.inr (Or.inr ⟨rfl, rfl, rfl⟩)))) (hb hby d5_58) hr
    · show QrmCb Z G ca ck cc0 cc1 cc2 cc3 h0 n0 _ T206.heap _
      rw [e206]
      exact ⟨b203, k203, (4 : Int32), (o208 : List Value), rfl, N206, (((Keep.refl h0 []).ext E203).trans K206 (allS (Or.inr (Nat.le_trans (Nat.le_refl _) (Nat.le_of_eq g203.symm))) all0)), (Nat.le_trans (Nat.le_refl _) (Nat.le_of_eq g203.symm)), p209, (Or.inl ⟨rfl, hk212.2⟩)⟩
  · have f213 := (f204.keep K206 (ninS (Nat.ne_of_lt (Nat.lt_of_lt_of_le (Nat.lt_of_lt_of_le Vc.lt (Nat.le_refl _)) (Nat.le_of_eq g203.symm))) nin0))
    have Ol214 : Old Z n0 hp206 := (Ol205.keep K206 (allS (Nat.le_trans Z0 (Nat.le_trans (Nat.le_refl _) (Nat.le_of_eq g203.symm))) all0))
    obtain ⟨_, _, ⟨T215, L215, k215, n215⟩, -, X215, ⟨Lc215, hQ215, l215, y215, z215⟩, st215⟩ := Jvm.LawKit.callS X206 hx (y := (⟨"java/lang/StringUTF16", "toBytes", "([CII)[B"⟩ : MethodName)) hown (mvT hZ (w_65 hw)) (mvT hZ (w_66 hw)) (mvT hZ (w_23 hw)) (mvT hZ (w_67 hw)) (by decide) (backOf (W := 0) (rmTBs l Z a0 hw G ST [] ca ck cc0 cc1 cc2 cc3 hp206 n0 Ol214 f213) hZ (w_67 hw) (w_23 hw) (by decide) (by decide)) (g := (mkF m 23 #[xvr ca, xvi (0 : Int32), xvi (4 : Int32), xvr b203, xvi (0 : Int32), xun] [xwi (4 : Int32), xwi (0 : Int32), xwr ca])) rfl (by rw [hml]; rfl) (argsL := [(.ref ca), (.int (0 : Int32)), (.int (4 : Int32))]) (rest := []) (lenOf pd_4 rfl) rfl (by show 2 * 0 + _ ≤ _; exact Nat.le_of_eq rfl) (hb hby d5_23) (fun _ _ => ⟨rfl, e206, (by decide : 1 + 1 ≤ _), (by decide : 4 + 8 ≤ _)⟩)
    dsimp only [Pt.U, Pt.locs, Pt.cells, Pt.slots] at X215 l215 y215 z215 st215 hQ215
    subst l215 y215 z215
    obtain ⟨hp215, e215⟩ : ∃ z, T215.heap = z := ⟨_, rfl⟩
    rw [e215] at hQ215
    obtain ⟨o216, o217, rfl, N215q, K215, p218, p219⟩ := hQ215
    have N215 := Fr.app N206 N215q
    have Ol220 : Old Z n0 hp215 := (Ol214.keep K215 all0)
    obtain ⟨_, _, ⟨T221, L221, k221, n221⟩, -, X221, ⟨Lc221, hQ221, l221, y221, z221⟩, st221⟩ := Jvm.LawKit.callS X215 hx (y := (⟨"java/lang/StringUTF16", "getChar", "([BI)C"⟩ : MethodName)) hown (mvT hZ (w_81 hw)) (mvT hZ (w_82 hw)) (mvT hZ (w_23 hw)) (mvT hZ (w_83 hw)) (by decide) (backOf (W := 0) (rmGC0 l Z a0 hw G ST [] o216 o217 cc0 cc1 cc2 cc3 hp215 n0 Ol220 p219 hr_cc0 hr_cc1 hr_cc2 hr_cc3) hZ (w_83 hw) (w_23 hw) (by decide) (by decide)) (g := (mkF m 32 #[xvr ca, xvi (0 : Int32), xvi (4 : Int32), xvr b203, xvi (0 : Int32), xvr o216] [xwi (0 : Int32), xwr o216])) rfl (by rw [hml]; rfl) (argsL := [(.ref o216), (.int (0 : Int32))]) (rest := []) (lenOf pd_5 rfl) rfl (by show 2 * 0 + _ ≤ _; exact Nat.le_of_eq rfl) (hb hby d5_32) (fun _ _ => ⟨rfl, e215, (by decide : 2 + 0 ≤ _), (by decide : 12 + 0 ≤ _)⟩)
    dsimp only [Pt.U, Pt.locs, Pt.cells, Pt.slots] at X221 l221 y221 z221 st221 hQ221
    subst l221 y221 z221
    obtain ⟨rfl, N221q, e221⟩ := hQ221
    have N221 := Fr.app N215 N221q
    obtain ⟨fs, hr, hrun, hended, hW, hsame⟩ := X221.leave (v := some (.ref o216)) (fun h => by rw [Bd.returns] at h; cases h)
    refine ⟨_, _, hTG _ (c211 _ ?_), hrun, hended, _, _, rfl, ?_, ⟨_, rfl⟩, hW, hsame.mono (by decide) (by decide)⟩
    · rw [hk212.1]
      refine XS.istore X206.here hx rfl (hb hby d5_12) rfl (l' := #[xvr ca, xvi (0 : Int32), xvi (4 : Int32), xvr b203, xvi (0 : Int32), xun]) rfl ?_
      show Sx p e below T206 m 14 #[xvr ca, xvi (0 : Int32), xvi (4 : Int32), xvr b203, xvi (0 : Int32), xun] [] _
      refine y_iload X206 hx 16 (hb hby d5_14) rfl rfl ?_
      refine y_iloadN X206 hx 17 (hb hby d5_16) rfl rfl ?_
      refine y_icmpNo X206 hx 20 (hb hby d5_17) (XT.ii_eq_f (by decide)) rfl ?_
      refine y_aloadN X206 hx 21 (hb hby d5_20) rfl rfl rfl ?_
      refine y_iloadN X206 hx 22 (hb hby d5_21) rfl rfl ?_
      refine y_iloadN X206 hx 23 (hb hby d5_22) rfl rfl ?_
      refine st215 _ ?_
      show Sx p e below T215 m 26 #[xvr ca, xvi (0 : Int32), xvi (4 : Int32), xvr b203, xvi (0 : Int32), xun] [xwr o216] _
      refine XS.astore X215.here hx rfl (hb hby d5_26) rfl rfl (l' := #[xvr ca, xvi (0 : Int32), xvi (4 : Int32), xvr b203, xvi (0 : Int32), xvr o216]) rfl ?_
      show Sx p e below T215 m 28 #[xvr ca, xvi (0 : Int32), xvi (4 : Int32), xvr b203, xvi (0 : Int32), xvr o216] [] _
      refine y_aload X215 hx 30 (hb hby d5_28) rfl rfl rfl ?_
      refine y_iload X215 hx 32 (hb hby d5_30) rfl rfl ?_
      refine st221 _ ?_
      show Sx p e below T221 m 35 #[xvr ca, xvi (0 : Int32), xvi (4 : Int32), xvr b203, xvi (0 : Int32), xvr o216] [xwi cc0] _
      refine y_sipush X221 hx (255 : Int32) 38 (hb hby d5_35) rfl rfl ?_
      refine y_icmpYes X221 hx 54 (hb hby d5_38) (XT.ii_gt_t hk212.2) (by decide) (by decide) ?_
      refine y_aload X221 hx 56 (hb hby d5_54) rfl rfl rfl ?_
      show Sx p e below T221 m 56 #[xvr ca, xvi (0 : Int32), xvi (4 : Int32), xvr b203, xvi (0 : Int32), xvr o216] [xwr o216] _
      exact retOut X221 hx Bd.returns rfl (Or.inr (Or.inr (Or.inr (Or.inr ⟨rfl, rfl, rfl⟩)))) (hb hby d5_56) hr
    · show QrmCb Z G ca ck cc0 cc1 cc2 cc3 h0 n0 _ T221.heap _
      rw [e221]
      exact ⟨o216, o217, (8 : Int32), ([(.int ((cc0 >>> ((0 : Int32) &&& 31)).toInt8.toInt32)), (.int ((cc0 >>> ((8 : Int32) &&& 31)).toInt8.toInt32)), (.int ((cc1 >>> ((0 : Int32) &&& 31)).toInt8.toInt32)), (.int ((cc1 >>> ((8 : Int32) &&& 31)).toInt8.toInt32)), (.int ((cc2 >>> ((0 : Int32) &&& 31)).toInt8.toInt32)), (.int ((cc2 >>> ((8 : Int32) &&& 31)).toInt8.toInt32)), (.int ((cc3 >>> ((0 : Int32) &&& 31)).toInt8.toInt32)), (.int ((cc3 >>> ((8 : Int32) &&& 31)).toInt8.toInt32))] : List Value), rfl, N221, ((((Keep.refl h0 []).ext E203).trans K206 (allS (Or.inr (Nat.le_trans (Nat.le_refl _) (Nat.le_of_eq g203.symm))) all0)).trans K215 all0), (Nat.le_trans (Nat.le_trans E203.1 K206.1) p218), p219, (Or.inr ⟨rfl, rfl⟩)⟩
  · have f222 := (f204.keep K206 (ninS (Nat.ne_of_lt (Nat.lt_of_lt_of_le (Nat.lt_of_lt_of_le Vc.lt (Nat.le_refl _)) (Nat.le_of_eq g203.symm))) nin0))
    have Ol223 : Old Z n0 hp206 := (Ol205.keep K206 (allS (Nat.le_trans Z0 (Nat.le_trans (Nat.le_refl _) (Nat.le_of_eq g203.symm))) all0))
    obtain ⟨_, _, ⟨T224, L224, k224, n224⟩, -, X224, ⟨Lc224, hQ224, l224, y224, z224⟩, st224⟩ := Jvm.LawKit.callS X206 hx (y := (⟨"java/lang/StringUTF16", "toBytes", "([CII)[B"⟩ : MethodName)) hown (mvT hZ (w_65 hw)) (mvT hZ (w_66 hw)) (mvT hZ (w_23 hw)) (mvT hZ (w_67 hw)) (by decide) (backOf (W := 0) (rmTBs l Z a0 hw G ST [] ca ck cc0 cc1 cc2 cc3 hp206 n0 Ol223 f222) hZ (w_67 hw) (w_23 hw) (by decide) (by decide)) (g := (mkF m 23 #[xvr ca, xvi (0 : Int32), xvi (4 : Int32), xvr b203, xvi (1 : Int32), xun] [xwi (4 : Int32), xwi (0 : Int32), xwr ca])) rfl (by rw [hml]; rfl) (argsL := [(.ref ca), (.int (0 : Int32)), (.int (4 : Int32))]) (rest := []) (lenOf pd_4 rfl) rfl (by show 2 * 0 + _ ≤ _; exact Nat.le_of_eq rfl) (hb hby d5_23) (fun _ _ => ⟨rfl, e206, (by decide : 1 + 1 ≤ _), (by decide : 4 + 8 ≤ _)⟩)
    dsimp only [Pt.U, Pt.locs, Pt.cells, Pt.slots] at X224 l224 y224 z224 st224 hQ224
    subst l224 y224 z224
    obtain ⟨hp224, e224⟩ : ∃ z, T224.heap = z := ⟨_, rfl⟩
    rw [e224] at hQ224
    obtain ⟨o225, o226, rfl, N224q, K224, p227, p228⟩ := hQ224
    have N224 := Fr.app N206 N224q
    have Ol229 : Old Z n0 hp224 := (Ol223.keep K224 all0)
    obtain ⟨_, _, ⟨T230, L230, k230, n230⟩, -, X230, ⟨Lc230, hQ230, l230, y230, z230⟩, st230⟩ := Jvm.LawKit.callS X224 hx (y := (⟨"java/lang/StringUTF16", "getChar", "([BI)C"⟩ : MethodName)) hown (mvT hZ (w_81 hw)) (mvT hZ (w_82 hw)) (mvT hZ (w_23 hw)) (mvT hZ (w_83 hw)) (by decide) (backOf (W := 0) (rmGC1 l Z a0 hw G ST [] o225 o226 cc0 cc1 cc2 cc3 hp224 n0 Ol229 p228 hr_cc0 hr_cc1 hr_cc2 hr_cc3) hZ (w_83 hw) (w_23 hw) (by decide) (by decide)) (g := (mkF m 32 #[xvr ca, xvi (0 : Int32), xvi (4 : Int32), xvr b203, xvi (1 : Int32), xvr o225] [xwi (1 : Int32), xwr o225])) rfl (by rw [hml]; rfl) (argsL := [(.ref o225), (.int (1 : Int32))]) (rest := []) (lenOf pd_5 rfl) rfl (by show 2 * 0 + _ ≤ _; exact Nat.le_of_eq rfl) (hb hby d5_32) (fun _ _ => ⟨rfl, e224, (by decide : 2 + 0 ≤ _), (by decide : 12 + 0 ≤ _)⟩)
    dsimp only [Pt.U, Pt.locs, Pt.cells, Pt.slots] at X230 l230 y230 z230 st230 hQ230
    subst l230 y230 z230
    obtain ⟨rfl, N230q, e230⟩ := hQ230
    have N230 := Fr.app N224 N230q
    obtain ⟨fs, hr, hrun, hended, hW, hsame⟩ := X230.leave (v := some (.ref o225)) (fun h => by rw [Bd.returns] at h; cases h)
    refine ⟨_, _, hTG _ (c211 _ ?_), hrun, hended, _, _, rfl, ?_, ⟨_, rfl⟩, hW, hsame.mono (by decide) (by decide)⟩
    · rw [hk212.1]
      refine XS.istore X206.here hx rfl (hb hby d5_12) rfl (l' := #[xvr ca, xvi (0 : Int32), xvi (4 : Int32), xvr b203, xvi (1 : Int32), xun]) rfl ?_
      show Sx p e below T206 m 14 #[xvr ca, xvi (0 : Int32), xvi (4 : Int32), xvr b203, xvi (1 : Int32), xun] [] _
      refine y_iload X206 hx 16 (hb hby d5_14) rfl rfl ?_
      refine y_iloadN X206 hx 17 (hb hby d5_16) rfl rfl ?_
      refine y_icmpNo X206 hx 20 (hb hby d5_17) (XT.ii_eq_f (by decide)) rfl ?_
      refine y_aloadN X206 hx 21 (hb hby d5_20) rfl rfl rfl ?_
      refine y_iloadN X206 hx 22 (hb hby d5_21) rfl rfl ?_
      refine y_iloadN X206 hx 23 (hb hby d5_22) rfl rfl ?_
      refine st224 _ ?_
      show Sx p e below T224 m 26 #[xvr ca, xvi (0 : Int32), xvi (4 : Int32), xvr b203, xvi (1 : Int32), xun] [xwr o225] _
      refine XS.astore X224.here hx rfl (hb hby d5_26) rfl rfl (l' := #[xvr ca, xvi (0 : Int32), xvi (4 : Int32), xvr b203, xvi (1 : Int32), xvr o225]) rfl ?_
      show Sx p e below T224 m 28 #[xvr ca, xvi (0 : Int32), xvi (4 : Int32), xvr b203, xvi (1 : Int32), xvr o225] [] _
      refine y_aload X224 hx 30 (hb hby d5_28) rfl rfl rfl ?_
      refine y_iload X224 hx 32 (hb hby d5_30) rfl rfl ?_
      refine st230 _ ?_
      show Sx p e below T230 m 35 #[xvr ca, xvi (0 : Int32), xvi (4 : Int32), xvr b203, xvi (1 : Int32), xvr o225] [xwi cc1] _
      refine y_sipush X230 hx (255 : Int32) 38 (hb hby d5_35) rfl rfl ?_
      refine y_icmpYes X230 hx 54 (hb hby d5_38) (XT.ii_gt_t hk212.2) (by decide) (by decide) ?_
      refine y_aload X230 hx 56 (hb hby d5_54) rfl rfl rfl ?_
      show Sx p e below T230 m 56 #[xvr ca, xvi (0 : Int32), xvi (4 : Int32), xvr b203, xvi (1 : Int32), xvr o225] [xwr o225] _
      exact retOut X230 hx Bd.returns rfl (Or.inr (Or.inr (Or.inr (Or.inr ⟨rfl, rfl, rfl⟩)))) (hb hby d5_56) hr
    · show QrmCb Z G ca ck cc0 cc1 cc2 cc3 h0 n0 _ T230.heap _
      rw [e230]
      exact ⟨o225, o226, (8 : Int32), ([(.int ((cc0 >>> ((0 : Int32) &&& 31)).toInt8.toInt32)), (.int ((cc0 >>> ((8 : Int32) &&& 31)).toInt8.toInt32)), (.int ((cc1 >>> ((0 : Int32) &&& 31)).toInt8.toInt32)), (.int ((cc1 >>> ((8 : Int32) &&& 31)).toInt8.toInt32)), (.int ((cc2 >>> ((0 : Int32) &&& 31)).toInt8.toInt32)), (.int ((cc2 >>> ((8 : Int32) &&& 31)).toInt8.toInt32)), (.int ((cc3 >>> ((0 : Int32) &&& 31)).toInt8.toInt32)), (.int ((cc3 >>> ((8 : Int32) &&& 31)).toInt8.toInt32))] : List Value), rfl, N230, ((((Keep.refl h0 []).ext E203).trans K206 (allS (Or.inr (Nat.le_trans (Nat.le_refl _) (Nat.le_of_eq g203.symm))) all0)).trans K224 all0), (Nat.le_trans (Nat.le_trans E203.1 K206.1) p227), p228, (Or.inr ⟨rfl, rfl⟩)⟩
  · have f231 := (f204.keep K206 (ninS (Nat.ne_of_lt (Nat.lt_of_lt_of_le (Nat.lt_of_lt_of_le Vc.lt (Nat.le_refl _)) (Nat.le_of_eq g203.symm))) nin0))
    have Ol232 : Old Z n0 hp206 := (Ol205.keep K206 (allS (Nat.le_trans Z0 (Nat.le_trans (Nat.le_refl _) (Nat.le_of_eq g203.symm))) all0))
    obtain ⟨_, _, ⟨T233, L233, k233, n233⟩, -, X233, ⟨Lc233, hQ233, l233, y233, z233⟩, st233⟩ := Jvm.LawKit.callS X206 hx (y := (⟨"java/lang/StringUTF16", "toBytes", "([CII)[B"⟩ : MethodName)) hown (mvT hZ (w_65 hw)) (mvT hZ (w_66 hw)) (mvT hZ (w_23 hw)) (mvT hZ (w_67 hw)) (by decide) (backOf (W := 0) (rmTBs l Z a0 hw G ST [] ca ck cc0 cc1 cc2 cc3 hp206 n0 Ol232 f231) hZ (w_67 hw) (w_23 hw) (by decide) (by decide)) (g := (mkF m 23 #[xvr ca, xvi (0 : Int32), xvi (4 : Int32), xvr b203, xvi (2 : Int32), xun] [xwi (4 : Int32), xwi (0 : Int32), xwr ca])) rfl (by rw [hml]; rfl) (argsL := [(.ref ca), (.int (0 : Int32)), (.int (4 : Int32))]) (rest := []) (lenOf pd_4 rfl) rfl (by show 2 * 0 + _ ≤ _; exact Nat.le_of_eq rfl) (hb hby d5_23) (fun _ _ => ⟨rfl, e206, (by decide : 1 + 1 ≤ _), (by decide : 4 + 8 ≤ _)⟩)
    dsimp only [Pt.U, Pt.locs, Pt.cells, Pt.slots] at X233 l233 y233 z233 st233 hQ233
    subst l233 y233 z233
    obtain ⟨hp233, e233⟩ : ∃ z, T233.heap = z := ⟨_, rfl⟩
    rw [e233] at hQ233
    obtain ⟨o234, o235, rfl, N233q, K233, p236, p237⟩ := hQ233
    have N233 := Fr.app N206 N233q
    have Ol238 : Old Z n0 hp233 := (Ol232.keep K233 all0)
    obtain ⟨_, _, ⟨T239, L239, k239, n239⟩, -, X239, ⟨Lc239, hQ239, l239, y239, z239⟩, st239⟩ := Jvm.LawKit.callS X233 hx (y := (⟨"java/lang/StringUTF16", "getChar", "([BI)C"⟩ : MethodName)) hown (mvT hZ (w_81 hw)) (mvT hZ (w_82 hw)) (mvT hZ (w_23 hw)) (mvT hZ (w_83 hw)) (by decide) (backOf (W := 0) (rmGC2 l Z a0 hw G ST [] o234 o235 cc0 cc1 cc2 cc3 hp233 n0 Ol238 p237 hr_cc0 hr_cc1 hr_cc2 hr_cc3) hZ (w_83 hw) (w_23 hw) (by decide) (by decide)) (g := (mkF m 32 #[xvr ca, xvi (0 : Int32), xvi (4 : Int32), xvr b203, xvi (2 : Int32), xvr o234] [xwi (2 : Int32), xwr o234])) rfl (by rw [hml]; rfl) (argsL := [(.ref o234), (.int (2 : Int32))]) (rest := []) (lenOf pd_5 rfl) rfl (by show 2 * 0 + _ ≤ _; exact Nat.le_of_eq rfl) (hb hby d5_32) (fun _ _ => ⟨rfl, e233, (by decide : 2 + 0 ≤ _), (by decide : 12 + 0 ≤ _)⟩)
    dsimp only [Pt.U, Pt.locs, Pt.cells, Pt.slots] at X239 l239 y239 z239 st239 hQ239
    subst l239 y239 z239
    obtain ⟨rfl, N239q, e239⟩ := hQ239
    have N239 := Fr.app N233 N239q
    obtain ⟨fs, hr, hrun, hended, hW, hsame⟩ := X239.leave (v := some (.ref o234)) (fun h => by rw [Bd.returns] at h; cases h)
    refine ⟨_, _, hTG _ (c211 _ ?_), hrun, hended, _, _, rfl, ?_, ⟨_, rfl⟩, hW, hsame.mono (by decide) (by decide)⟩
    · rw [hk212.1]
      refine XS.istore X206.here hx rfl (hb hby d5_12) rfl (l' := #[xvr ca, xvi (0 : Int32), xvi (4 : Int32), xvr b203, xvi (2 : Int32), xun]) rfl ?_
      show Sx p e below T206 m 14 #[xvr ca, xvi (0 : Int32), xvi (4 : Int32), xvr b203, xvi (2 : Int32), xun] [] _
      refine y_iload X206 hx 16 (hb hby d5_14) rfl rfl ?_
      refine y_iloadN X206 hx 17 (hb hby d5_16) rfl rfl ?_
      refine y_icmpNo X206 hx 20 (hb hby d5_17) (XT.ii_eq_f (by decide)) rfl ?_
      refine y_aloadN X206 hx 21 (hb hby d5_20) rfl rfl rfl ?_
      refine y_iloadN X206 hx 22 (hb hby d5_21) rfl rfl ?_
      refine y_iloadN X206 hx 23 (hb hby d5_22) rfl rfl ?_
      refine st233 _ ?_
      show Sx p e below T233 m 26 #[xvr ca, xvi (0 : Int32), xvi (4 : Int32), xvr b203, xvi (2 : Int32), xun] [xwr o234] _
      refine XS.astore X233.here hx rfl (hb hby d5_26) rfl rfl (l' := #[xvr ca, xvi (0 : Int32), xvi (4 : Int32), xvr b203, xvi (2 : Int32), xvr o234]) rfl ?_
      show Sx p e below T233 m 28 #[xvr ca, xvi (0 : Int32), xvi (4 : Int32), xvr b203, xvi (2 : Int32), xvr o234] [] _
      refine y_aload X233 hx 30 (hb hby d5_28) rfl rfl rfl ?_
      refine y_iload X233 hx 32 (hb hby d5_30) rfl rfl ?_
      refine st239 _ ?_
      show Sx p e below T239 m 35 #[xvr ca, xvi (0 : Int32), xvi (4 : Int32), xvr b203, xvi (2 : Int32), xvr o234] [xwi cc2] _
      refine y_sipush X239 hx (255 : Int32) 38 (hb hby d5_35) rfl rfl ?_
      refine y_icmpYes X239 hx 54 (hb hby d5_38) (XT.ii_gt_t hk212.2) (by decide) (by decide) ?_
      refine y_aload X239 hx 56 (hb hby d5_54) rfl rfl rfl ?_
      show Sx p e below T239 m 56 #[xvr ca, xvi (0 : Int32), xvi (4 : Int32), xvr b203, xvi (2 : Int32), xvr o234] [xwr o234] _
      exact retOut X239 hx Bd.returns rfl (Or.inr (Or.inr (Or.inr (Or.inr ⟨rfl, rfl, rfl⟩)))) (hb hby d5_56) hr
    · show QrmCb Z G ca ck cc0 cc1 cc2 cc3 h0 n0 _ T239.heap _
      rw [e239]
      exact ⟨o234, o235, (8 : Int32), ([(.int ((cc0 >>> ((0 : Int32) &&& 31)).toInt8.toInt32)), (.int ((cc0 >>> ((8 : Int32) &&& 31)).toInt8.toInt32)), (.int ((cc1 >>> ((0 : Int32) &&& 31)).toInt8.toInt32)), (.int ((cc1 >>> ((8 : Int32) &&& 31)).toInt8.toInt32)), (.int ((cc2 >>> ((0 : Int32) &&& 31)).toInt8.toInt32)), (.int ((cc2 >>> ((8 : Int32) &&& 31)).toInt8.toInt32)), (.int ((cc3 >>> ((0 : Int32) &&& 31)).toInt8.toInt32)), (.int ((cc3 >>> ((8 : Int32) &&& 31)).toInt8.toInt32))] : List Value), rfl, N239, ((((Keep.refl h0 []).ext E203).trans K206 (allS (Or.inr (Nat.le_trans (Nat.le_refl _) (Nat.le_of_eq g203.symm))) all0)).trans K233 all0), (Nat.le_trans (Nat.le_trans E203.1 K206.1) p236), p237, (Or.inr ⟨rfl, rfl⟩)⟩
  · have f240 := (f204.keep K206 (ninS (Nat.ne_of_lt (Nat.lt_of_lt_of_le (Nat.lt_of_lt_of_le Vc.lt (Nat.le_refl _)) (Nat.le_of_eq g203.symm))) nin0))
    have Ol241 : Old Z n0 hp206 := (Ol205.keep K206 (allS (Nat.le_trans Z0 (Nat.le_trans (Nat.le_refl _) (Nat.le_of_eq g203.symm))) all0))
    obtain ⟨_, _, ⟨T242, L242, k242, n242⟩, -, X242, ⟨Lc242, hQ242, l242, y242, z242⟩, st242⟩ := Jvm.LawKit.callS X206 hx (y := (⟨"java/lang/StringUTF16", "toBytes", "([CII)[B"⟩ : MethodName)) hown (mvT hZ (w_65 hw)) (mvT hZ (w_66 hw)) (mvT hZ (w_23 hw)) (mvT hZ (w_67 hw)) (by decide) (backOf (W := 0) (rmTBs l Z a0 hw G ST [] ca ck cc0 cc1 cc2 cc3 hp206 n0 Ol241 f240) hZ (w_67 hw) (w_23 hw) (by decide) (by decide)) (g := (mkF m 23 #[xvr ca, xvi (0 : Int32), xvi (4 : Int32), xvr b203, xvi (3 : Int32), xun] [xwi (4 : Int32), xwi (0 : Int32), xwr ca])) rfl (by rw [hml]; rfl) (argsL := [(.ref ca), (.int (0 : Int32)), (.int (4 : Int32))]) (rest := []) (lenOf pd_4 rfl) rfl (by show 2 * 0 + _ ≤ _; exact Nat.le_of_eq rfl) (hb hby d5_23) (fun _ _ => ⟨rfl, e206, (by decide : 1 + 1 ≤ _), (by decide : 4 + 8 ≤ _)⟩)
    dsimp only [Pt.U, Pt.locs, Pt.cells, Pt.slots] at X242 l242 y242 z242 st242 hQ242
    subst l242 y242 z242
    obtain ⟨hp242, e242⟩ : ∃ z, T242.heap = z := ⟨_, rfl⟩
    rw [e242] at hQ242
    obtain ⟨o243, o244, rfl, N242q, K242, p245, p246⟩ := hQ242
    have N242 := Fr.app N206 N242q
    have Ol247 : Old Z n0 hp242 := (Ol241.keep K242 all0)
    obtain ⟨_, _, ⟨T248, L248, k248, n248⟩, -, X248, ⟨Lc248, hQ248, l248, y248, z248⟩, st248⟩ := Jvm.LawKit.callS X242 hx (y := (⟨"java/lang/StringUTF16", "getChar", "([BI)C"⟩ : MethodName)) hown (mvT hZ (w_81 hw)) (mvT hZ (w_82 hw)) (mvT hZ (w_23 hw)) (mvT hZ (w_83 hw)) (by decide) (backOf (W := 0) (rmGC3 l Z a0 hw G ST [] o243 o244 cc0 cc1 cc2 cc3 hp242 n0 Ol247 p246 hr_cc0 hr_cc1 hr_cc2 hr_cc3) hZ (w_83 hw) (w_23 hw) (by decide) (by decide)) (g := (mkF m 32 #[xvr ca, xvi (0 : Int32), xvi (4 : Int32), xvr b203, xvi (3 : Int32), xvr o243] [xwi (3 : Int32), xwr o243])) rfl (by rw [hml]; rfl) (argsL := [(.ref o243), (.int (3 : Int32))]) (rest := []) (lenOf pd_5 rfl) rfl (by show 2 * 0 + _ ≤ _; exact Nat.le_of_eq rfl) (hb hby d5_32) (fun _ _ => ⟨rfl, e242, (by decide : 2 + 0 ≤ _), (by decide : 12 + 0 ≤ _)⟩)
    dsimp only [Pt.U, Pt.locs, Pt.cells, Pt.slots] at X248 l248 y248 z248 st248 hQ248
    subst l248 y248 z248
    obtain ⟨rfl, N248q, e248⟩ := hQ248
    have N248 := Fr.app N242 N248q
    obtain ⟨fs, hr, hrun, hended, hW, hsame⟩ := X248.leave (v := some (.ref o243)) (fun h => by rw [Bd.returns] at h; cases h)
    refine ⟨_, _, hTG _ (c211 _ ?_), hrun, hended, _, _, rfl, ?_, ⟨_, rfl⟩, hW, hsame.mono (by decide) (by decide)⟩
    · rw [hk212.1]
      refine XS.istore X206.here hx rfl (hb hby d5_12) rfl (l' := #[xvr ca, xvi (0 : Int32), xvi (4 : Int32), xvr b203, xvi (3 : Int32), xun]) rfl ?_
      show Sx p e below T206 m 14 #[xvr ca, xvi (0 : Int32), xvi (4 : Int32), xvr b203, xvi (3 : Int32), xun] [] _
      refine y_iload X206 hx 16 (hb hby d5_14) rfl rfl ?_
      refine y_iloadN X206 hx 17 (hb hby d5_16) rfl rfl ?_
      refine y_icmpNo X206 hx 20 (hb hby d5_17) (XT.ii_eq_f (by decide)) rfl ?_
      refine y_aloadN X206 hx 21 (hb hby d5_20) rfl rfl rfl ?_
      refine y_iloadN X206 hx 22 (hb hby d5_21) rfl rfl ?_
      refine y_iloadN X206 hx 23 (hb hby d5_22) rfl rfl ?_
      refine st242 _ ?_
      show Sx p e below T242 m 26 #[xvr ca, xvi (0 : Int32), xvi (4 : Int32), xvr b203, xvi (3 : Int32), xun] [xwr o243] _
      refine XS.astore X242.here hx rfl (hb hby d5_26) rfl rfl (l' := #[xvr ca, xvi (0 : Int32), xvi (4 : Int32), xvr b203, xvi (3 : Int32), xvr o243]) rfl ?_
      show Sx p e below T242 m 28 #[xvr ca, xvi (0 : Int32), xvi (4 : Int32), xvr b203, xvi (3 : Int32), xvr o243] [] _
      refine y_aload X242 hx 30 (hb hby d5_28) rfl rfl rfl ?_
      refine y_iload X242 hx 32 (hb hby d5_30) rfl rfl ?_
      refine st248 _ ?_
      show Sx p e below T248 m 35 #[xvr ca, xvi (0 : Int32), xvi (4 : Int32), xvr b203, xvi (3 : Int32), xvr o243] [xwi cc3] _
      refine y_sipush X248 hx (255 : Int32) 38 (hb hby d5_35) rfl rfl ?_
      refine y_icmpYes X248 hx 54 (hb hby d5_38) (XT.ii_gt_t hk212.2) (by decide) (by decide) ?_
      refine y_aload X248 hx 56 (hb hby d5_54) rfl rfl rfl ?_
      show Sx p e below T248 m 56 #[xvr ca, xvi (0 : Int32), xvi (4 : Int32), xvr b203, xvi (3 : Int32), xvr o243] [xwr o243] _
      exact retOut X248 hx Bd.returns rfl (Or.inr (Or.inr (Or.inr (Or.inr ⟨rfl, rfl, rfl⟩)))) (hb hby d5_56) hr
    · show QrmCb Z G ca ck cc0 cc1 cc2 cc3 h0 n0 _ T248.heap _
      rw [e248]
      exact ⟨o243, o244, (8 : Int32), ([(.int ((cc0 >>> ((0 : Int32) &&& 31)).toInt8.toInt32)), (.int ((cc0 >>> ((8 : Int32) &&& 31)).toInt8.toInt32)), (.int ((cc1 >>> ((0 : Int32) &&& 31)).toInt8.toInt32)), (.int ((cc1 >>> ((8 : Int32) &&& 31)).toInt8.toInt32)), (.int ((cc2 >>> ((0 : Int32) &&& 31)).toInt8.toInt32)), (.int ((cc2 >>> ((8 : Int32) &&& 31)).toInt8.toInt32)), (.int ((cc3 >>> ((0 : Int32) &&& 31)).toInt8.toInt32)), (.int ((cc3 >>> ((8 : Int32) &&& 31)).toInt8.toInt32))] : List Value), rfl, N248, ((((Keep.refl h0 []).ext E203).trans K206 (allS (Or.inr (Nat.le_trans (Nat.le_refl _) (Nat.le_of_eq g203.symm))) all0)).trans K242 all0), (Nat.le_trans (Nat.le_trans E203.1 K206.1) p245), p246, (Or.inr ⟨rfl, rfl⟩)⟩
theorem ef_rmI5 (m : MethodId) (x0 : Addr) (x1 : Addr) (x2 : Int32) (x3 : Int32)  : entryFrame m #[(.ref x0), (.ref x1), (.int x2), (.int x3), .null] 6 = mkF m 0 #[.val (.ref x0), .val (.ref x1), .val (.int x2), .val (.int x3), .val .null, .unset] [] := by first | (simp [entryFrame, mkF, argsToLocals, Value.category]; done) | rfl
theorem d3_0 : decode jdk_42_method_149_code 0 = .ok (.aload_n 0, 1) := by decide +kernel
theorem d3_1 : decode jdk_42_method_149_code 1 = .ok (.invokespecial 1, 3) := by decide +kernel
theorem d3_4 : decode jdk_42_method_149_code 4 = .ok (.iload_n 3, 1) := by decide +kernel
theorem d3_5 : decode jdk_42_method_149_code 5 = .ok (.ifCond .ne 22, 3) := by decide +kernel
theorem d3_27 : decode jdk_42_method_149_code 27 = .ok (.getstatic 38, 3) := by decide +kernel
theorem d3_30 : decode jdk_42_method_149_code 30 = .ok (.ifCond .eq 28, 3) := by decide +kernel
theorem d3_33 : decode jdk_42_method_149_code 33 = .ok (.aload_n 1, 1) := by decide +kernel
theorem d3_34 : decode jdk_42_method_149_code 34 = .ok (.iload_n 2, 1) := by decide +kernel
theorem d3_35 : decode jdk_42_method_149_code 35 = .ok (.iload_n 3, 1) := by decide +kernel
theorem d3_36 : decode jdk_42_method_149_code 36 = .ok (.invokestatic 177, 3) := by decide +kernel
theorem d3_39 : decode jdk_42_method_149_code 39 = .ok (.astore 5, 2) := by decide +kernel
theorem d3_41 : decode jdk_42_method_149_code 41 = .ok (.aload_n 0, 1) := by decide +kernel
theorem d3_42 : decode jdk_42_method_149_code 42 = .ok (.aload 5, 2) := by decide +kernel
theorem d3_44 : decode jdk_42_method_149_code 44 = .ok (.iload_n 3, 1) := by decide +kernel
theorem d3_45 : decode jdk_42_method_149_code 45 = .ok (.invokestatic 47, 3) := by decide +kernel
theorem ef_rmA7 (m : MethodId) (x0 : Addr) (x1 : Int32)  : entryFrame m #[(.ref x0), (.int x1)] 2 = mkF m 0 #[.val (.ref x0), .val (.int x1)] [] := by first | (simp [entryFrame, mkF, argsToLocals, Value.category]; done) | rfl
theorem d7_0 : decode jdk_52_method_15_code 0 = .ok (.iload_n 1, 1) := by decide +kernel
theorem d7_1 : decode jdk_52_method_15_code 1 = .ok (.aload_n 0, 1) := by decide +kernel
theorem d7_2 : decode jdk_52_method_15_code 2 = .ok (.arraylength, 1) := by decide +kernel
theorem d7_3 : decode jdk_52_method_15_code 3 = .ok (.isub, 1) := by decide +kernel
theorem d7_4 : decode jdk_52_method_15_code 4 = .ok (.bipush 31, 2) := by decide +kernel
theorem d7_6 : decode jdk_52_method_15_code 6 = .ok (.iushr, 1) := by decide +kernel
theorem d7_7 : decode jdk_52_method_15_code 7 = .ok (.i2b, 1) := by decide +kernel
theorem d7_8 : decode jdk_52_method_15_code 8 = .ok (.ireturn, 1) := by decide +kernel
def QrmA7 (Z : State) (G : Gs) (xa1 : Addr) (xk_xa1 : ClassId) (xi1 : Int32) (xi2 : Int32) (xi3 : Int32) (xi4 : Int32) (h0 : Heap) (n0 : Nat) (v : Option Value) (h : Heap) (L : List Loc) : Prop := v = some (.int (0 : Int32)) ∧ Fr n0 L ∧ h = h0
set_option maxRecDepth 65536 in
set_option maxHeartbeats 40000000 in
theorem rmA7 (l : Launch) (Z : State) (a0 : Array Value) (hw : HW a0 Z) (G : Gs) (ST : StartF Z G) (ws : List Jvm.Cond) (xa1 : Addr) (xk_xa1 : ClassId) (xi1 : Int32) (xi2 : Int32) (xi3 : Int32) (xi4 : Int32) (h0 : Heap) (n0 : Nat) (X00 : Old Z n0 h0) (xV_xa1 : Arv Z h0 xa1 xk_xa1 .byte (4 : Int32) [(.int xi1), (.int xi2), (.int xi3), (.int xi4)] (.int (0 : Int32))) :
    MetFree l (⟨"java/lang/StringUTF16", "coderFromArrayLen", "([BI)B"⟩ : MethodName) (head1 (Jvm.Cond.code (⟨"java/lang/StringUTF16", "coderFromArrayLen", "([BI)B"⟩ : MethodName) jdk_52_method_15_code 2 (some .byte) :: ws) ({ frames := 0, cells := 0, slots := 0, locals := 0 } : Room)) (fun a U => a = #[(.ref xa1), (.int (4 : Int32))] ∧ Z.Warmed39 U.vm ∧ U.heap = h0) (fun _ _ _ _ _ => True) (fun _ U o U' => ∃ v L, o = .returned v ∧ QrmA7 Z G xa1 xk_xa1 xi1 xi2 xi3 xi4 h0 n0 v U'.heap L ∧ FrameEnd U o U' L ({ frames := 0, cells := 0, slots := 0, locals := 0 } : Room).cells ({ frames := 0, cells := 0, slots := 0, locals := 0 } : Room).slots) := by
  refine MetFree.of_bodySF (plainFor_of_name pn_0) hisR ?_
  intro p e s m args below meth c s₁ Bd hml0 hP hK
  obtain ⟨rfl, hZ, hh⟩ := hP
  have hx := Bd.exec
  have hby := Bd.bytes
  have hml : c.maxLocals = 2 := hml0
  have hown : s.vm.findClass "java/lang/StringUTF16" = some m.cls := findClass_of_methodNamed Bd.named
  have hnm := (name_of_methodNamed Bd.named Bd.method).1
  have X0 : Stand p l e ({ frames := 0, cells := 0, slots := 0, locals := 0 } : Room) s m #[(.ref xa1), (.int (4 : Int32))] below meth c s₁ [] 0 0 := Stand.of_body Bd
  have e0 : s₁.heap = h0 := by rw [← hh, Bd.state]; rfl
  have N0 := Fr.nil n0
  have Z0 : n0 ≤ h0.size := by have q := X00.2.1; rw [X00.1] at q; exact q
  obtain ⟨TG, hTG, hT2⟩ : ∃ P : State → Prop, (∀ t, P t → Steps p.tables e below (s₁.setTop (entryFrame m #[(.ref xa1), (.int (4 : Int32))] 2)) t) ∧ (∀ t, Steps p.tables e below (s₁.setTop (entryFrame m #[(.ref xa1), (.int (4 : Int32))] 2)) t → P t) := ⟨_, fun t k => k, fun t k => k⟩
  have pre0 : ∀ t, Sx p e below s₁ m 0 #[xvr xa1, xvi (4 : Int32)] [] t → TG t := fun t k => hT2 t (castTop (ef_rmA7 m xa1 (4 : Int32) ) k)
  obtain ⟨cl262, Ar262, q262, S262, M262, H262, G262⟩ := id xV_xa1
  obtain ⟨fs, hr, hrun, hended, hW, hsame⟩ := X0.leave (v := some (.int (0 : Int32))) (fun h => by rw [Bd.returns] at h; cases h)
  refine ⟨_, _, hTG _ (pre0 _ ?_), hrun, hended, _, _, rfl, ?_, ⟨_, rfl⟩, hW, hsame.mono (by decide) (by decide)⟩
  · refine y_iloadN X0 hx 1 (hb hby d7_0) rfl rfl ?_
    refine y_aloadN X0 hx 2 (hb hby d7_1) rfl rfl rfl ?_
    refine X0.arraylength hx (by rw [e0]; exact Ar262.1) (State.isArrayOf_alike hZ.alike Ar262.2.1) (g := (mkF m 2 #[xvr xa1, xvi (4 : Int32)] [xwr xa1, xwi (4 : Int32)])) rfl rfl (hb hby d7_2) _ ?_
    rw [len_of S262 M262]
    show Sx p e below s₁ m 3 #[xvr xa1, xvi (4 : Int32)] [xwi (4 : Int32), xwi (4 : Int32)] _
    refine y_isub X0 hx 4 (hb hby d7_3) rfl ?_
    rw [show ((4 : Int32) - (4 : Int32)) = (0 : Int32) from by decide]
    refine y_bipush X0 hx (31 : Int32) 6 (hb hby d7_4) rfl rfl ?_
    refine XS.iushr X0.here hx rfl (hb hby d7_6) rfl ?_
    rw [show (((0 : Int32).toUInt32 >>> ((31 : Int32) &&& 31).toUInt32).toInt32) = (0 : Int32) from by decide]
    show Sx p e below s₁ m 7 #[xvr xa1, xvi (4 : Int32)] [xwi (0 : Int32)] _
    refine XS.i2b X0.here hx rfl (hb hby d7_7) rfl ?_
    rw [show ((0 : Int32).toInt8.toInt32) = (0 : Int32) from by decide]
    show Sx p e below s₁ m 8 #[xvr xa1, xvi (4 : Int32)] [xwi (0 : Int32)] _
    exact retN X0 hx (t := .byte) Bd.returns (by simp) (hb hby d7_8) (hr)
  · show QrmA7 Z G xa1 xk_xa1 xi1 xi2 xi3 xi4 h0 n0 _ s₁.heap _
    rw [e0]
    exact ⟨rfl, N0, rfl⟩
theorem pd_6 : parseMethodDescriptor "([BI)B" = some ⟨[(.array .byte), .int], some .byte⟩ := by decide +kernel
theorem d3_48 : decode jdk_42_method_149_code 48 = .ok (.putfield 15, 3) := by decide +kernel
theorem d3_51 : decode jdk_42_method_149_code 51 = .ok (.aload_n 0, 1) := by decide +kernel
theorem d3_52 : decode jdk_42_method_149_code 52 = .ok (.aload 5, 2) := by decide +kernel
theorem d3_54 : decode jdk_42_method_149_code 54 = .ok (.putfield 9, 3) := by decide +kernel
theorem d3_57 : decode jdk_42_method_149_code 57 = .ok (.return_, 1) := by decide +kernel
theorem ef_rmA8 (m : MethodId) (x0 : Addr) (x1 : Int32)  : entryFrame m #[(.ref x0), (.int x1)] 2 = mkF m 0 #[.val (.ref x0), .val (.int x1)] [] := by first | (simp [entryFrame, mkF, argsToLocals, Value.category]; done) | rfl
def QrmA8 (Z : State) (G : Gs) (xa1 : Addr) (xk_xa1 : ClassId) (xi1 : Int32) (xi2 : Int32) (xi3 : Int32) (xi4 : Int32) (xi5 : Int32) (xi6 : Int32) (xi7 : Int32) (xi8 : Int32) (h0 : Heap) (n0 : Nat) (v : Option Value) (h : Heap) (L : List Loc) : Prop := v = some (.int (1 : Int32)) ∧ Fr n0 L ∧ h = h0
set_option maxRecDepth 65536 in
set_option maxHeartbeats 40000000 in
theorem rmA8 (l : Launch) (Z : State) (a0 : Array Value) (hw : HW a0 Z) (G : Gs) (ST : StartF Z G) (ws : List Jvm.Cond) (xa1 : Addr) (xk_xa1 : ClassId) (xi1 : Int32) (xi2 : Int32) (xi3 : Int32) (xi4 : Int32) (xi5 : Int32) (xi6 : Int32) (xi7 : Int32) (xi8 : Int32) (h0 : Heap) (n0 : Nat) (X00 : Old Z n0 h0) (xV_xa1 : Arv Z h0 xa1 xk_xa1 .byte (8 : Int32) [(.int xi1), (.int xi2), (.int xi3), (.int xi4), (.int xi5), (.int xi6), (.int xi7), (.int xi8)] (.int (0 : Int32))) :
    MetFree l (⟨"java/lang/StringUTF16", "coderFromArrayLen", "([BI)B"⟩ : MethodName) (head1 (Jvm.Cond.code (⟨"java/lang/StringUTF16", "coderFromArrayLen", "([BI)B"⟩ : MethodName) jdk_52_method_15_code 2 (some .byte) :: ws) ({ frames := 0, cells := 0, slots := 0, locals := 0 } : Room)) (fun a U => a = #[(.ref xa1), (.int (4 : Int32))] ∧ Z.Warmed39 U.vm ∧ U.heap = h0) (fun _ _ _ _ _ => True) (fun _ U o U' => ∃ v L, o = .returned v ∧ QrmA8 Z G xa1 xk_xa1 xi1 xi2 xi3 xi4 xi5 xi6 xi7 xi8 h0 n0 v U'.heap L ∧ FrameEnd U o U' L ({ frames := 0, cells := 0, slots := 0, locals := 0 } : Room).cells ({ frames := 0, cells := 0, slots := 0, locals := 0 } : Room).slots) := by
  refine MetFree.of_bodySF (plainFor_of_name pn_0) hisR ?_
  intro p e s m args below meth c s₁ Bd hml0 hP hK
  obtain ⟨rfl, hZ, hh⟩ := hP
  have hx := Bd.exec
  have hby := Bd.bytes
  have hml : c.maxLocals = 2 := hml0
  have hown : s.vm.findClass "java/lang/StringUTF16" = some m.cls := findClass_of_methodNamed Bd.named
  have hnm := (name_of_methodNamed Bd.named Bd.method).1
  have X0 : Stand p l e ({ frames := 0, cells := 0, slots := 0, locals := 0 } : Room) s m #[(.ref xa1), (.int (4 : Int32))] below meth c s₁ [] 0 0 := Stand.of_body Bd
  have e0 : s₁.heap = h0 := by rw [← hh, Bd.state]; rfl
  have N0 := Fr.nil n0
  have Z0 : n0 ≤ h0.size := by have q := X00.2.1; rw [X00.1] at q; exact q
  obtain ⟨TG, hTG, hT2⟩ : ∃ P : State → Prop, (∀ t, P t → Steps p.tables e below (s₁.setTop (entryFrame m #[(.ref xa1), (.int (4 : Int32))] 2)) t) ∧ (∀ t, Steps p.tables e below (s₁.setTop (entryFrame m #[(.ref xa1), (.int (4 : Int32))] 2)) t → P t) := ⟨_, fun t k => k, fun t k => k⟩
  have pre0 : ∀ t, Sx p e below s₁ m 0 #[xvr xa1, xvi (4 : Int32)] [] t → TG t := fun t k => hT2 t (castTop (ef_rmA8 m xa1 (4 : Int32) ) k)
  obtain ⟨cl275, Ar275, q275, S275, M275, H275, G275⟩ := id xV_xa1
  obtain ⟨fs, hr, hrun, hended, hW, hsame⟩ := X0.leave (v := some (.int (1 : Int32))) (fun h => by rw [Bd.returns] at h; cases h)
  refine ⟨_, _, hTG _ (pre0 _ ?_), hrun, hended, _, _, rfl, ?_, ⟨_, rfl⟩, hW, hsame.mono (by decide) (by decide)⟩
  · refine y_iloadN X0 hx 1 (hb hby d7_0) rfl rfl ?_
    refine y_aloadN X0 hx 2 (hb hby d7_1) rfl rfl rfl ?_
    refine X0.arraylength hx (by rw [e0]; exact Ar275.1) (State.isArrayOf_alike hZ.alike Ar275.2.1) (g := (mkF m 2 #[xvr xa1, xvi (4 : Int32)] [xwr xa1, xwi (4 : Int32)])) rfl rfl (hb hby d7_2) _ ?_
    rw [len_of S275 M275]
    show Sx p e below s₁ m 3 #[xvr xa1, xvi (4 : Int32)] [xwi (8 : Int32), xwi (4 : Int32)] _
    refine y_isub X0 hx 4 (hb hby d7_3) rfl ?_
    rw [show ((4 : Int32) - (8 : Int32)) = (-4 : Int32) from by decide]
    refine y_bipush X0 hx (31 : Int32) 6 (hb hby d7_4) rfl rfl ?_
    refine XS.iushr X0.here hx rfl (hb hby d7_6) rfl ?_
    rw [show (((-4 : Int32).toUInt32 >>> ((31 : Int32) &&& 31).toUInt32).toInt32) = (1 : Int32) from by decide]
    show Sx p e below s₁ m 7 #[xvr xa1, xvi (4 : Int32)] [xwi (1 : Int32)] _
    refine XS.i2b X0.here hx rfl (hb hby d7_7) rfl ?_
    rw [show ((1 : Int32).toInt8.toInt32) = (1 : Int32) from by decide]
    show Sx p e below s₁ m 8 #[xvr xa1, xvi (4 : Int32)] [xwi (1 : Int32)] _
    exact retN X0 hx (t := .byte) Bd.returns (by simp) (hb hby d7_8) (hr)
  · show QrmA8 Z G xa1 xk_xa1 xi1 xi2 xi3 xi4 xi5 xi6 xi7 xi8 h0 n0 _ s₁.heap _
    rw [e0]
    exact ⟨rfl, N0, rfl⟩
theorem pn_1 : plainName "java/lang/String" = true := by first | (simp [plainName, overriddenIn]; done) | decide +kernel
def QrmI5 (Z : State) (G : Gs) (ax : Addr) (ca : Addr) (ck : ClassId) (cc0 : Int32) (cc1 : Int32) (cc2 : Int32) (cc3 : Int32) (h0 : Heap) (n0 : Nat) (v : Option Value) (h : Heap) (L : List Loc) : Prop := v = none ∧ Fr n0 L ∧ Keep h0 h [ax] ∧ own_S Z h ax cc0 cc1 cc2 cc3
set_option maxRecDepth 65536 in
set_option maxHeartbeats 40000000 in
theorem rmI5 (l : Launch) (Z : State) (a0 : Array Value) (hw : HW a0 Z) (G : Gs) (ST : StartF Z G) (ws : List Jvm.Cond) (ax : Addr) (ca : Addr) (ck : ClassId) (cc0 : Int32) (cc1 : Int32) (cc2 : Int32) (cc3 : Int32) (h0 : Heap) (n0 : Nat) (X00 : Old Z n0 h0) (E1 : Exa Z h0 ax "java/lang/String") (F1 : Fld Z h0 ax "java/lang/String" "value" "[B" .null) (F2 : Fld Z h0 ax "java/lang/String" "coder" "B" (.int (0 : Int32))) (g1 : n0 ≤ ax) (Vc : Arv Z h0 ca ck .char (4 : Int32) [(.int cc0), (.int cc1), (.int cc2), (.int cc3)] (.int (0 : Int32))) (nca : ax ≠ ca) (hr_cc0 : own_c16 cc0) (hr_cc1 : own_c16 cc1) (hr_cc2 : own_c16 cc2) (hr_cc3 : own_c16 cc3) :
    MetFree l (⟨"java/lang/String", "<init>", "([CIILjava/lang/Void;)V"⟩ : MethodName) (head1 (Jvm.Cond.code (⟨"java/lang/String", "<init>", "([CIILjava/lang/Void;)V"⟩ : MethodName) jdk_42_method_149_code 6 none :: ws) ({ frames := 4, cells := 2, slots := 12, locals := 57 } : Room)) (fun a U => a = #[(.ref ax), (.ref ca), (.int (0 : Int32)), (.int (4 : Int32)), .null] ∧ Z.Warmed39 U.vm ∧ U.heap = h0) (fun _ _ _ _ _ => True) (fun _ U o U' => ∃ v L, o = .returned v ∧ QrmI5 Z G ax ca ck cc0 cc1 cc2 cc3 h0 n0 v U'.heap L ∧ FrameEnd U o U' L ({ frames := 4, cells := 2, slots := 12, locals := 57 } : Room).cells ({ frames := 4, cells := 2, slots := 12, locals := 57 } : Room).slots) := by
  refine MetFree.of_bodySF (plainFor_of_name pn_1) hisR ?_
  intro p e s m args below meth c s₁ Bd hml0 hP hK
  obtain ⟨rfl, hZ, hh⟩ := hP
  have hx := Bd.exec
  have hby := Bd.bytes
  have hml : c.maxLocals = 6 := hml0
  have hown : s.vm.findClass "java/lang/String" = some m.cls := findClass_of_methodNamed Bd.named
  have hnm := (name_of_methodNamed Bd.named Bd.method).1
  have X0 : Stand p l e ({ frames := 4, cells := 2, slots := 12, locals := 57 } : Room) s m #[(.ref ax), (.ref ca), (.int (0 : Int32)), (.int (4 : Int32)), .null] below meth c s₁ [] 0 0 := Stand.of_body Bd
  have e0 : s₁.heap = h0 := by rw [← hh, Bd.state]; rfl
  have N0 := Fr.nil n0
  have Z0 : n0 ≤ h0.size := by have q := X00.2.1; rw [X00.1] at q; exact q
  obtain ⟨TG, hTG, hT2⟩ : ∃ P : State → Prop, (∀ t, P t → Steps p.tables e below (s₁.setTop (entryFrame m #[(.ref ax), (.ref ca), (.int (0 : Int32)), (.int (4 : Int32)), .null] 6)) t) ∧ (∀ t, Steps p.tables e below (s₁.setTop (entryFrame m #[(.ref ax), (.ref ca), (.int (0 : Int32)), (.int (4 : Int32)), .null] 6)) t → P t) := ⟨_, fun t k => k, fun t k => k⟩
  have pre0 : ∀ t, Sx p e below s₁ m 0 #[xvr ax, xvr ca, xvi (0 : Int32), xvi (4 : Int32), .val .null, xun] [] t → TG t := fun t k => hT2 t (castTop (ef_rmI5 m ax ca (0 : Int32) (4 : Int32) ) k)
  obtain ⟨T249, X249, e249, st249⟩ := initO X0 hx hZ hown (w_17 hw) (w_18 hw) (w_19 hw) e0 (g := (mkF m 1 #[xvr ax, xvr ca, xvi (0 : Int32), xvi (4 : Int32), .val .null, xun] [xwr ax])) rfl (by rw [hml]; rfl) rfl (hb hby d3_1) (by decide) (W := 0) (by show 2 * 0 + _ ≤ _; exact Nat.le_of_eq rfl) (by decide)
  obtain ⟨T250, X250, e250, st250⟩ := getS2 X249 hx hZ hown (host := "") (Or.inl (w_20 hw)) Via.refl e249 (ST.c0.ext X00.2) (g := (mkF m 27 #[xvr ax, xvr ca, xvi (0 : Int32), xvi (4 : Int32), .val .null, xun] [])) rfl (hb hby d3_27)
  obtain ⟨_, _, ⟨T251, L251, k251, n251⟩, -, X251, ⟨Lc251, hQ251, l251, y251, z251⟩, st251⟩ := Jvm.LawKit.callS X250 hx (y := (⟨"java/lang/StringUTF16", "compress", "([CII)[B"⟩ : MethodName)) hown (mvT hZ (w_21 hw)) (mvT hZ (w_22 hw)) (mvT hZ (w_23 hw)) (mvT hZ (w_24 hw)) (by decide) (backOf (W := 0) (rmCb l Z a0 hw G ST [] ca ck cc0 cc1 cc2 cc3 h0 n0 X00 Vc hr_cc0 hr_cc1 hr_cc2 hr_cc3) hZ (w_24 hw) (w_23 hw) (by decide) (by decide)) (g := (mkF m 36 #[xvr ax, xvr ca, xvi (0 : Int32), xvi (4 : Int32), .val .null, xun] [xwi (4 : Int32), xwi (0 : Int32), xwr ca])) rfl (by rw [hml]; rfl) (argsL := [(.ref ca), (.int (0 : Int32)), (.int (4 : Int32))]) (rest := []) (lenOf pd_4 rfl) rfl (by show 2 * 0 + _ ≤ _; exact Nat.le_of_eq rfl) (hb hby d3_36) (fun _ _ => ⟨rfl, e250, (by decide : 0 + 2 ≤ _), (by decide : 0 + 12 ≤ _)⟩)
  dsimp only [Pt.U, Pt.locs, Pt.cells, Pt.slots] at X251 l251 y251 z251 st251 hQ251
  subst l251 y251 z251
  obtain ⟨hp251, e251⟩ : ∃ z, T251.heap = z := ⟨_, rfl⟩
  rw [e251] at hQ251
  obtain ⟨o252, o253, o254, o255, rfl, N251q, K251, p256, p257, p258⟩ := hQ251
  have N251 := Fr.app N0 N251q
  have c259 : ∀ t, Sx p e below T251 m 39 #[xvr ax, xvr ca, xvi (0 : Int32), xvi (4 : Int32), .val .null, xun] [xwr o252] t → TG t := fun t k => pre0 t (by
    refine y_aloadN X0 hx 1 (hb hby d3_0) rfl rfl rfl ?_
    refine st249 _ ?_
    show Sx p e below T249 m 4 #[xvr ax, xvr ca, xvi (0 : Int32), xvi (4 : Int32), .val .null, xun] [] _
    refine y_iloadN X249 hx 5 (hb hby d3_4) rfl rfl ?_
    refine y_ifYes X249 hx 27 (hb hby d3_5) (XT.i0_ne_t (by decide)) (by decide) (by decide) ?_
    refine st250 _ ?_
    show Sx p e below T250 m 30 #[xvr ax, xvr ca, xvi (0 : Int32), xvi (4 : Int32), .val .null, xun] [xwi G.a0] _
    refine y_ifNo X250 hx 33 (hb hby d3_30) (XT.i0_eq_f ST.c1) rfl ?_
    refine y_aloadN X250 hx 34 (hb hby d3_33) rfl rfl rfl ?_
    refine y_iloadN X250 hx 35 (hb hby d3_34) rfl rfl ?_
    refine y_iloadN X250 hx 36 (hb hby d3_35) rfl rfl ?_
    refine st251 _ ?_
    exact k)
  rcases p258 with hk260 | hk260
  · have V261 : Arv Z hp251 o252 o253 .byte (4 : Int32) [(.int (cc0.toInt8.toInt32)), (.int (cc1.toInt8.toInt32)), (.int (cc2.toInt8.toInt32)), (.int (cc3.toInt8.toInt32))] (.int (0 : Int32)) := by have q := p257; rw [hk260.1, hk260.2.1] at q; exact q
    have Ol263 : Old Z n0 hp251 := (X00.keep K251 all0)
    obtain ⟨_, _, ⟨T264, L264, k264, n264⟩, -, X264, ⟨Lc264, hQ264, l264, y264, z264⟩, st264⟩ := Jvm.LawKit.callS X251 hx (y := (⟨"java/lang/StringUTF16", "coderFromArrayLen", "([BI)B"⟩ : MethodName)) hown (mvT hZ (w_29 hw)) (mvT hZ (w_30 hw)) (mvT hZ (w_23 hw)) (mvT hZ (w_31 hw)) (by decide) (backOf (W := 1) (rmA7 l Z a0 hw G ST [] o252 o253 (cc0.toInt8.toInt32) (cc1.toInt8.toInt32) (cc2.toInt8.toInt32) (cc3.toInt8.toInt32) hp251 n0 Ol263 V261) hZ (w_31 hw) (w_23 hw) (by decide) (by decide)) (g := (mkF m 45 #[xvr ax, xvr ca, xvi (0 : Int32), xvi (4 : Int32), .val .null, xvr o252] [xwi (4 : Int32), xwr o252, xwr ax])) rfl (by rw [hml]; rfl) (argsL := [(.ref o252), (.int (4 : Int32))]) (rest := [(.ref ax)]) (lenOf pd_6 rfl) rfl (by show 2 * 0 + _ ≤ _; exact Nat.le_of_eq rfl) (hb hby d3_45) (fun _ _ => ⟨rfl, e251, (by decide : 2 + 0 ≤ _), (by decide : 12 + 0 ≤ _)⟩)
    dsimp only [Pt.U, Pt.locs, Pt.cells, Pt.slots] at X264 l264 y264 z264 st264 hQ264
    subst l264 y264 z264
    obtain ⟨rfl, N264q, e264⟩ := hQ264
    have N264 := Fr.app N251 N264q
    have f265 := (F2.keep K251 nin0)
    have f266 := (E1.keep K251)
    obtain ⟨T267, h267, X267, e267, W267, st267⟩ := putFN X264 hx hZ hown (w_32 hw) Via.refl e264 f265 f266 (Or.inr ⟨(w_33 hw), rfl, hnm⟩) (w_8 hw) (ty := .byte) (v' := (.int (0 : Int32))) (by decide) (by decide) (by decide) (g := (mkF m 48 #[xvr ax, xvr ca, xvi (0 : Int32), xvi (4 : Int32), .val .null, xvr o252] [xwi (0 : Int32), xwr ax])) rfl rfl (hb hby d3_48)
    have Fw267 := f265.same W267
    have N267 := Fr.snoc X267 N264 g1
    have f268 := ((F1.keep K251 nin0).other W267 (Or.inr (slot_ne (Or.inr (w_35 hw)) (Or.inr (w_33 hw)) (by decide) (t := (.array .byte)) (t' := .byte) (by decide) (by decide))))
    have f269 := (f266.wr W267)
    obtain ⟨T270, h270, X270, e270, W270, st270⟩ := putF X267 hx hZ hown (host := "") (Or.inl (w_34 hw)) Via.refl e267 f268 f269 (Or.inr ⟨(w_35 hw), rfl, hnm⟩) (w_8 hw) (ty := (.array .byte)) (by decide) rfl rfl (g := (mkF m 54 #[xvr ax, xvr ca, xvi (0 : Int32), xvi (4 : Int32), .val .null, xvr o252] [xwr o252, xwr ax])) rfl rfl (hb hby d3_54)
    have Fw270 := f268.same W270
    have N270 := Fr.snoc X270 N267 g1
    have f271 := (f269.wr W270)
    have f272 := (Fw267.other W270 (Or.inr (slot_ne (Or.inr (w_33 hw)) (Or.inr (w_35 hw)) (by decide) (t := .byte) (t' := (.array .byte)) (by decide) (by decide))))
    have f273 := ((V261.other W267 (Ne.symm (Nat.ne_of_lt (Nat.lt_of_lt_of_le (Nat.lt_of_lt_of_le E1.lt (Nat.le_refl _)) p256)))).other W270 (Ne.symm (Nat.ne_of_lt (Nat.lt_of_lt_of_le (Nat.lt_of_lt_of_le E1.lt (Nat.le_refl _)) p256))))
    obtain ⟨fs, hr, hrun, hended, hW, hsame⟩ := X270.leave (v := none) (fun _ => rfl)
    refine ⟨_, _, hTG _ (c259 _ ?_), hrun, hended, _, _, rfl, ?_, ⟨_, rfl⟩, hW, hsame.mono (by decide) (by decide)⟩
    · refine XS.astore X251.here hx rfl (hb hby d3_39) rfl rfl (l' := #[xvr ax, xvr ca, xvi (0 : Int32), xvi (4 : Int32), .val .null, xvr o252]) rfl ?_
      show Sx p e below T251 m 41 #[xvr ax, xvr ca, xvi (0 : Int32), xvi (4 : Int32), .val .null, xvr o252] [] _
      refine y_aloadN X251 hx 42 (hb hby d3_41) rfl rfl rfl ?_
      refine y_aload X251 hx 44 (hb hby d3_42) rfl rfl rfl ?_
      refine y_iloadN X251 hx 45 (hb hby d3_44) rfl rfl ?_
      refine st264 _ ?_
      show Sx p e below T264 m 48 #[xvr ax, xvr ca, xvi (0 : Int32), xvi (4 : Int32), .val .null, xvr o252] [xwi (0 : Int32), xwr ax] _
      refine st267 _ ?_
      show Sx p e below T267 m 51 #[xvr ax, xvr ca, xvi (0 : Int32), xvi (4 : Int32), .val .null, xvr o252] [] _
      refine y_aloadN X267 hx 52 (hb hby d3_51) rfl rfl rfl ?_
      refine y_aload X267 hx 54 (hb hby d3_52) rfl rfl rfl ?_
      refine st270 _ ?_
      show Sx p e below T270 m 57 #[xvr ax, xvr ca, xvi (0 : Int32), xvi (4 : Int32), .val .null, xvr o252] [] _
      exact X270.returnOut hx Bd.returns (hb hby d3_57) hr
    · show QrmI5 Z G ax ca ck cc0 cc1 cc2 cc3 h0 n0 _ T270.heap _
      rw [e270]
      exact ⟨rfl, N270, ((((Keep.refl h0 [ax]).trans K251 all0).wr W267 (Or.inl (List.mem_of_getElem? (i := 0) rfl))).wr W270 (Or.inl (List.mem_of_getElem? (i := 0) rfl))), ⟨o252, o253, f271, Fw270, Or.inl ⟨f272, f273, hk260.2.2⟩⟩⟩
  · have V274 : Arv Z hp251 o252 o253 .byte (8 : Int32) [(.int ((cc0 >>> ((0 : Int32) &&& 31)).toInt8.toInt32)), (.int ((cc0 >>> ((8 : Int32) &&& 31)).toInt8.toInt32)), (.int ((cc1 >>> ((0 : Int32) &&& 31)).toInt8.toInt32)), (.int ((cc1 >>> ((8 : Int32) &&& 31)).toInt8.toInt32)), (.int ((cc2 >>> ((0 : Int32) &&& 31)).toInt8.toInt32)), (.int ((cc2 >>> ((8 : Int32) &&& 31)).toInt8.toInt32)), (.int ((cc3 >>> ((0 : Int32) &&& 31)).toInt8.toInt32)), (.int ((cc3 >>> ((8 : Int32) &&& 31)).toInt8.toInt32))] (.int (0 : Int32)) := by have q := p257; rw [hk260.1, hk260.2] at q; exact q
    have Ol276 : Old Z n0 hp251 := (X00.keep K251 all0)
    obtain ⟨_, _, ⟨T277, L277, k277, n277⟩, -, X277, ⟨Lc277, hQ277, l277, y277, z277⟩, st277⟩ := Jvm.LawKit.callS X251 hx (y := (⟨"java/lang/StringUTF16", "coderFromArrayLen", "([BI)B"⟩ : MethodName)) hown (mvT hZ (w_29 hw)) (mvT hZ (w_30 hw)) (mvT hZ (w_23 hw)) (mvT hZ (w_31 hw)) (by decide) (backOf (W := 1) (rmA8 l Z a0 hw G ST [] o252 o253 ((cc0 >>> ((0 : Int32) &&& 31)).toInt8.toInt32) ((cc0 >>> ((8 : Int32) &&& 31)).toInt8.toInt32) ((cc1 >>> ((0 : Int32) &&& 31)).toInt8.toInt32) ((cc1 >>> ((8 : Int32) &&& 31)).toInt8.toInt32) ((cc2 >>> ((0 : Int32) &&& 31)).toInt8.toInt32) ((cc2 >>> ((8 : Int32) &&& 31)).toInt8.toInt32) ((cc3 >>> ((0 : Int32) &&& 31)).toInt8.toInt32) ((cc3 >>> ((8 : Int32) &&& 31)).toInt8.toInt32) hp251 n0 Ol276 V274) hZ (w_31 hw) (w_23 hw) (by decide) (by decide)) (g := (mkF m 45 #[xvr ax, xvr ca, xvi (0 : Int32), xvi (4 : Int32), .val .null, xvr o252] [xwi (4 : Int32), xwr o252, xwr ax])) rfl (by rw [hml]; rfl) (argsL := [(.ref o252), (.int (4 : Int32))]) (rest := [(.ref ax)]) (lenOf pd_6 rfl) rfl (by show 2 * 0 + _ ≤ _; exact Nat.le_of_eq rfl) (hb hby d3_45) (fun _ _ => ⟨rfl, e251, (by decide : 2 + 0 ≤ _), (by decide : 12 + 0 ≤ _)⟩)
    dsimp only [Pt.U, Pt.locs, Pt.cells, Pt.slots] at X277 l277 y277 z277 st277 hQ277
    subst l277 y277 z277
    obtain ⟨rfl, N277q, e277⟩ := hQ277
    have N277 := Fr.app N251 N277q
    have f278 := (F2.keep K251 nin0)
    have f279 := (E1.keep K251)
    obtain ⟨T280, h280, X280, e280, W280, st280⟩ := putFN X277 hx hZ hown (w_32 hw) Via.refl e277 f278 f279 (Or.inr ⟨(w_33 hw), rfl, hnm⟩) (w_8 hw) (ty := .byte) (v' := (.int (1 : Int32))) (by decide) (by decide) (by decide) (g := (mkF m 48 #[xvr ax, xvr ca, xvi (0 : Int32), xvi (4 : Int32), .val .null, xvr o252] [xwi (1 : Int32), xwr ax])) rfl rfl (hb hby d3_48)
    have Fw280 := f278.same W280
    have N280 := Fr.snoc X280 N277 g1
    have f281 := ((F1.keep K251 nin0).other W280 (Or.inr (slot_ne (Or.inr (w_35 hw)) (Or.inr (w_33 hw)) (by decide) (t := (.array .byte)) (t' := .byte) (by decide) (by decide))))
    have f282 := (f279.wr W280)
    obtain ⟨T283, h283, X283, e283, W283, st283⟩ := putF X280 hx hZ hown (host := "") (Or.inl (w_34 hw)) Via.refl e280 f281 f282 (Or.inr ⟨(w_35 hw), rfl, hnm⟩) (w_8 hw) (ty := (.array .byte)) (by decide) rfl rfl (g := (mkF m 54 #[xvr ax, xvr ca, xvi (0 : Int32), xvi (4 : Int32), .val .null, xvr o252] [xwr o252, xwr ax])) rfl rfl (hb hby d3_54)
    have Fw283 := f281.same W283
    have N283 := Fr.snoc X283 N280 g1
    have f284 := (f282.wr W283)
    have f285 := (Fw280.other W283 (Or.inr (slot_ne (Or.inr (w_33 hw)) (Or.inr (w_35 hw)) (by decide) (t := .byte) (t' := (.array .byte)) (by decide) (by decide))))
    have f286 := ((V274.other W280 (Ne.symm (Nat.ne_of_lt (Nat.lt_of_lt_of_le (Nat.lt_of_lt_of_le E1.lt (Nat.le_refl _)) p256)))).other W283 (Ne.symm (Nat.ne_of_lt (Nat.lt_of_lt_of_le (Nat.lt_of_lt_of_le E1.lt (Nat.le_refl _)) p256))))
    obtain ⟨fs, hr, hrun, hended, hW, hsame⟩ := X283.leave (v := none) (fun _ => rfl)
    refine ⟨_, _, hTG _ (c259 _ ?_), hrun, hended, _, _, rfl, ?_, ⟨_, rfl⟩, hW, hsame.mono (by decide) (by decide)⟩
    · refine XS.astore X251.here hx rfl (hb hby d3_39) rfl rfl (l' := #[xvr ax, xvr ca, xvi (0 : Int32), xvi (4 : Int32), .val .null, xvr o252]) rfl ?_
      show Sx p e below T251 m 41 #[xvr ax, xvr ca, xvi (0 : Int32), xvi (4 : Int32), .val .null, xvr o252] [] _
      refine y_aloadN X251 hx 42 (hb hby d3_41) rfl rfl rfl ?_
      refine y_aload X251 hx 44 (hb hby d3_42) rfl rfl rfl ?_
      refine y_iloadN X251 hx 45 (hb hby d3_44) rfl rfl ?_
      refine st277 _ ?_
      show Sx p e below T277 m 48 #[xvr ax, xvr ca, xvi (0 : Int32), xvi (4 : Int32), .val .null, xvr o252] [xwi (1 : Int32), xwr ax] _
      refine st280 _ ?_
      show Sx p e below T280 m 51 #[xvr ax, xvr ca, xvi (0 : Int32), xvi (4 : Int32), .val .null, xvr o252] [] _
      refine y_aloadN X280 hx 52 (hb hby d3_51) rfl rfl rfl ?_
      refine y_aload X280 hx 54 (hb hby d3_52) rfl rfl rfl ?_
      refine st283 _ ?_
      show Sx p e below T283 m 57 #[xvr ax, xvr ca, xvi (0 : Int32), xvi (4 : Int32), .val .null, xvr o252] [] _
      exact X283.returnOut hx Bd.returns (hb hby d3_57) hr
    · show QrmI5 Z G ax ca ck cc0 cc1 cc2 cc3 h0 n0 _ T283.heap _
      rw [e283]
      exact ⟨rfl, N283, ((((Keep.refl h0 [ax]).trans K251 all0).wr W280 (Or.inl (List.mem_of_getElem? (i := 0) rfl))).wr W283 (Or.inl (List.mem_of_getElem? (i := 0) rfl))), ⟨o252, o253, f284, Fw283, Or.inr ⟨f285, f286⟩⟩⟩
theorem ef_rmI1 (m : MethodId) (x0 : Addr) (x1 : Addr)  : entryFrame m #[(.ref x0), (.ref x1)] 2 = mkF m 0 #[.val (.ref x0), .val (.ref x1)] [] := by first | (simp [entryFrame, mkF, argsToLocals, Value.category]; done) | rfl
theorem d2_0 : decode jdk_42_method_3_code 0 = .ok (.aload_n 0, 1) := by decide +kernel
theorem d2_1 : decode jdk_42_method_3_code 1 = .ok (.aload_n 1, 1) := by decide +kernel
theorem d2_2 : decode jdk_42_method_3_code 2 = .ok (.iconst 0, 1) := by decide +kernel
theorem d2_3 : decode jdk_42_method_3_code 3 = .ok (.aload_n 1, 1) := by decide +kernel
theorem d2_4 : decode jdk_42_method_3_code 4 = .ok (.arraylength, 1) := by decide +kernel
theorem d2_5 : decode jdk_42_method_3_code 5 = .ok (.aconst_null, 1) := by decide +kernel
theorem d2_6 : decode jdk_42_method_3_code 6 = .ok (.invokespecial 27, 3) := by decide +kernel
theorem pd_7 : parseMethodDescriptor "([CIILjava/lang/Void;)V" = some ⟨[(.array .char), .int, .int, (.object "java/lang/Void")], none⟩ := by decide +kernel
theorem d2_9 : decode jdk_42_method_3_code 9 = .ok (.return_, 1) := by decide +kernel
def QrmI1 (Z : State) (G : Gs) (ax : Addr) (ca : Addr) (ck : ClassId) (cc0 : Int32) (cc1 : Int32) (cc2 : Int32) (cc3 : Int32) (h0 : Heap) (n0 : Nat) (v : Option Value) (h : Heap) (L : List Loc) : Prop := v = none ∧ Fr n0 L ∧ Keep h0 h [ax] ∧ own_S Z h ax cc0 cc1 cc2 cc3
set_option maxRecDepth 65536 in
set_option maxHeartbeats 40000000 in
theorem rmI1 (l : Launch) (Z : State) (a0 : Array Value) (hw : HW a0 Z) (G : Gs) (ST : StartF Z G) (ws : List Jvm.Cond) (ax : Addr) (ca : Addr) (ck : ClassId) (cc0 : Int32) (cc1 : Int32) (cc2 : Int32) (cc3 : Int32) (h0 : Heap) (n0 : Nat) (X00 : Old Z n0 h0) (E1 : Exa Z h0 ax "java/lang/String") (F1 : Fld Z h0 ax "java/lang/String" "value" "[B" .null) (F2 : Fld Z h0 ax "java/lang/String" "coder" "B" (.int (0 : Int32))) (g1 : n0 ≤ ax) (Vc : Arv Z h0 ca ck .char (4 : Int32) [(.int cc0), (.int cc1), (.int cc2), (.int cc3)] (.int (0 : Int32))) (nca : ax ≠ ca) (hr_cc0 : own_c16 cc0) (hr_cc1 : own_c16 cc1) (hr_cc2 : own_c16 cc2) (hr_cc3 : own_c16 cc3) :
    MetFree l (⟨"java/lang/String", "<init>", "([C)V"⟩ : MethodName) (head1 (Jvm.Cond.code (⟨"java/lang/String", "<init>", "([C)V"⟩ : MethodName) jdk_42_method_3_code 2 none :: ws) ({ frames := 5, cells := 2, slots := 12, locals := 74 } : Room)) (fun a U => a = #[(.ref ax), (.ref ca)] ∧ Z.Warmed39 U.vm ∧ U.heap = h0) (fun _ _ _ _ _ => True) (fun _ U o U' => ∃ v L, o = .returned v ∧ QrmI1 Z G ax ca ck cc0 cc1 cc2 cc3 h0 n0 v U'.heap L ∧ FrameEnd U o U' L ({ frames := 5, cells := 2, slots := 12, locals := 74 } : Room).cells ({ frames := 5, cells := 2, slots := 12, locals := 74 } : Room).slots) := by
  refine MetFree.of_bodySF (plainFor_of_name pn_1) hisR ?_
  intro p e s m args below meth c s₁ Bd hml0 hP hK
  obtain ⟨rfl, hZ, hh⟩ := hP
  have hx := Bd.exec
  have hby := Bd.bytes
  have hml : c.maxLocals = 2 := hml0
  have hown : s.vm.findClass "java/lang/String" = some m.cls := findClass_of_methodNamed Bd.named
  have hnm := (name_of_methodNamed Bd.named Bd.method).1
  have X0 : Stand p l e ({ frames := 5, cells := 2, slots := 12, locals := 74 } : Room) s m #[(.ref ax), (.ref ca)] below meth c s₁ [] 0 0 := Stand.of_body Bd
  have e0 : s₁.heap = h0 := by rw [← hh, Bd.state]; rfl
  have N0 := Fr.nil n0
  have Z0 : n0 ≤ h0.size := by have q := X00.2.1; rw [X00.1] at q; exact q
  obtain ⟨TG, hTG, hT2⟩ : ∃ P : State → Prop, (∀ t, P t → Steps p.tables e below (s₁.setTop (entryFrame m #[(.ref ax), (.ref ca)] 2)) t) ∧ (∀ t, Steps p.tables e below (s₁.setTop (entryFrame m #[(.ref ax), (.ref ca)] 2)) t → P t) := ⟨_, fun t k => k, fun t k => k⟩
  have pre0 : ∀ t, Sx p e below s₁ m 0 #[xvr ax, xvr ca] [] t → TG t := fun t k => hT2 t (castTop (ef_rmI1 m ax ca ) k)
  obtain ⟨cl287, Ar287, q287, S287, M287, H287, G287⟩ := id Vc
  obtain ⟨_, _, ⟨T288, L288, k288, n288⟩, -, X288, ⟨Lc288, hQ288, l288, y288, z288⟩, st288⟩ := X0.specialBack hx (y := (⟨"java/lang/String", "<init>", "([CIILjava/lang/Void;)V"⟩ : MethodName)) rfl hown (mvT hZ (w_13 hw)) (mvT hZ (w_14 hw)) (mvT hZ (w_16 hw)) (by decide) (backOf (W := 0) (rmI5 l Z a0 hw G ST [] ax ca ck cc0 cc1 cc2 cc3 h0 n0 X00 E1 F1 F2 g1 Vc nca hr_cc0 hr_cc1 hr_cc2 hr_cc3) hZ (w_16 hw) (w_9 hw) (by decide) (by decide)) (g := (mkF m 6 #[xvr ax, xvr ca] [.null, xwi (4 : Int32), xwi (0 : Int32), xwr ca, xwr ax])) rfl (by rw [hml]; rfl) (Steps.refl _) (a := ax) (argsL := [(.ref ca), (.int (0 : Int32)), (.int (4 : Int32)), .null]) (rest := []) (lenOf pd_7 rfl) rfl (by show 2 * 0 + _ ≤ _; exact Nat.le_of_eq rfl) (hb hby d2_6) (fun _ _ => ⟨rfl, e0, (by decide : 0 + 2 ≤ _), (by decide : 0 + 12 ≤ _)⟩)
  dsimp only [Pt.U, Pt.locs, Pt.cells, Pt.slots] at X288 l288 y288 z288 st288 hQ288
  subst l288 y288 z288
  obtain ⟨hp288, e288⟩ : ∃ z, T288.heap = z := ⟨_, rfl⟩
  rw [e288] at hQ288
  obtain ⟨rfl, N288q, K288, p289⟩ := hQ288
  have N288 := Fr.app N0 N288q
  obtain ⟨fs, hr, hrun, hended, hW, hsame⟩ := X288.leave (v := none) (fun _ => rfl)
  refine ⟨_, _, hTG _ (pre0 _ ?_), hrun, hended, _, _, rfl, ?_, ⟨_, rfl⟩, hW, hsame.mono (by decide) (by decide)⟩
  · refine y_aloadN X0 hx 1 (hb hby d2_0) rfl rfl rfl ?_
    refine y_aloadN X0 hx 2 (hb hby d2_1) rfl rfl rfl ?_
    refine y_iconst X0 hx (0 : Int32) 3 (hb hby d2_2) rfl rfl ?_
    refine y_aloadN X0 hx 4 (hb hby d2_3) rfl rfl rfl ?_
    refine X0.arraylength hx (by rw [e0]; exact Ar287.1) (State.isArrayOf_alike hZ.alike Ar287.2.1) (g := (mkF m 4 #[xvr ax, xvr ca] [xwr ca, xwi (0 : Int32), xwr ca, xwr ax])) rfl rfl (hb hby d2_4) _ ?_
    rw [len_of S287 M287]
    show Sx p e below s₁ m 5 #[xvr ax, xvr ca] [xwi (4 : Int32), xwi (0 : Int32), xwr ca, xwr ax] _
    refine y_aconst_null X0 hx 6 (hb hby d2_5) rfl ?_
    refine st288.trans ?_
    show Sx p e below T288 m 9 #[xvr ax, xvr ca] [] _
    exact X288.returnOut hx Bd.returns (hb hby d2_9) hr
  · show QrmI1 Z G ax ca ck cc0 cc1 cc2 cc3 h0 n0 _ T288.heap _
    rw [e288]
    exact ⟨rfl, N288, ((Keep.refl h0 [ax]).trans K288 (allS (Or.inl (List.mem_of_getElem? (i := 0) rfl)) all0)), p289⟩
theorem ef_rmPk (m : MethodId) (x0 : Int32) (x1 : Int32)  : entryFrame m #[(.int x0), (.int x1)] 2 = mkF m 0 #[.val (.int x0), .val (.int x1)] [] := by first | (simp [entryFrame, mkF, argsToLocals, Value.category]; done) | rfl
theorem d1_0 : decode method_3_code 0 = .ok (.iload_n 1, 1) := by decide +kernel
theorem d1_1 : decode method_3_code 1 = .ok (.ifCond .eq 12, 3) := by decide +kernel
theorem d1_13 : decode method_3_code 13 = .ok (.iload_n 0, 1) := by decide +kernel
theorem d1_14 : decode method_3_code 14 = .ok (.i2c, 1) := by decide +kernel
theorem d1_15 : decode method_3_code 15 = .ok (.ireturn, 1) := by decide +kernel
theorem d1_4 : decode method_3_code 4 = .ok (.bipush 47, 2) := by decide +kernel
theorem d1_6 : decode method_3_code 6 = .ok (.iload_n 0, 1) := by decide +kernel
theorem d1_7 : decode method_3_code 7 = .ok (.bipush 12, 2) := by decide +kernel
theorem d1_9 : decode method_3_code 9 = .ok (.irem, 1) := by decide +kernel
theorem d1_10 : decode method_3_code 10 = .ok (.iadd, 1) := by decide +kernel
theorem d1_11 : decode method_3_code 11 = .ok (.i2c, 1) := by decide +kernel
theorem d1_12 : decode method_3_code 12 = .ok (.ireturn, 1) := by decide +kernel
theorem pn_2 : plainName "com/example/planwright/planwright/model/DecimalsIsDigitsPinLaw" = true := by first | (simp [plainName, overriddenIn]; done) | decide +kernel
def QrmPk (Z : State) (G : Gs) (px : Int32) (qx : Int32) (h0 : Heap) (n0 : Nat) (v : Option Value) (h : Heap) (L : List Loc) : Prop := ∃ (rx : Int32), v = some (.int rx) ∧ Fr n0 L ∧ h = h0 ∧ own_c16 rx
set_option maxRecDepth 65536 in
set_option maxHeartbeats 40000000 in
theorem rmPk (l : Launch) (Z : State) (a0 : Array Value) (hw : HW a0 Z) (G : Gs) (ST : StartF Z G) (ws : List Jvm.Cond) (px : Int32) (qx : Int32) (h0 : Heap) (n0 : Nat) (X00 : Old Z n0 h0) :
    MetFree l (⟨"com/example/planwright/planwright/model/DecimalsIsDigitsPinLaw", "pick", "(II)C"⟩ : MethodName) (head1 (Jvm.Cond.code (⟨"com/example/planwright/planwright/model/DecimalsIsDigitsPinLaw", "pick", "(II)C"⟩ : MethodName) method_3_code 2 (some .char) :: ws) ({ frames := 0, cells := 0, slots := 0, locals := 0 } : Room)) (fun a U => a = #[(.int px), (.int qx)] ∧ Z.Warmed39 U.vm ∧ U.heap = h0) (fun _ _ _ _ _ => True) (fun _ U o U' => ∃ v L, o = .returned v ∧ QrmPk Z G px qx h0 n0 v U'.heap L ∧ FrameEnd U o U' L ({ frames := 0, cells := 0, slots := 0, locals := 0 } : Room).cells ({ frames := 0, cells := 0, slots := 0, locals := 0 } : Room).slots) := by
  refine MetFree.of_bodySF (plainFor_of_name pn_2) hisR ?_
  intro p e s m args below meth c s₁ Bd hml0 hP hK
  obtain ⟨rfl, hZ, hh⟩ := hP
  have hx := Bd.exec
  have hby := Bd.bytes
  have hml : c.maxLocals = 2 := hml0
  have hown : s.vm.findClass "com/example/planwright/planwright/model/DecimalsIsDigitsPinLaw" = some m.cls := findClass_of_methodNamed Bd.named
  have hnm := (name_of_methodNamed Bd.named Bd.method).1
  have X0 : Stand p l e ({ frames := 0, cells := 0, slots := 0, locals := 0 } : Room) s m #[(.int px), (.int qx)] below meth c s₁ [] 0 0 := Stand.of_body Bd
  have e0 : s₁.heap = h0 := by rw [← hh, Bd.state]; rfl
  have N0 := Fr.nil n0
  have Z0 : n0 ≤ h0.size := by have q := X00.2.1; rw [X00.1] at q; exact q
  obtain ⟨TG, hTG, hT2⟩ : ∃ P : State → Prop, (∀ t, P t → Steps p.tables e below (s₁.setTop (entryFrame m #[(.int px), (.int qx)] 2)) t) ∧ (∀ t, Steps p.tables e below (s₁.setTop (entryFrame m #[(.int px), (.int qx)] 2)) t → P t) := ⟨_, fun t k => k, fun t k => k⟩
  have pre0 : ∀ t, Sx p e below s₁ m 0 #[xvi px, xvi qx] [] t → TG t := fun t k => hT2 t (castTop (ef_rmPk m px qx ) k)
  have c290 : ∀ t, Sx p e below s₁ m 1 #[xvi px, xvi qx] [xwi qx] t → TG t := fun t k => pre0 t (by
    refine y_iloadN X0 hx 1 (hb hby d1_0) rfl rfl ?_
    exact k)
  by_cases hc291 : qx = (0 : Int32)
  · obtain ⟨fs, hr, hrun, hended, hW, hsame⟩ := X0.leave (v := some (.int (nar .char (px.toUInt32.toUInt16.toUInt32.toInt32)))) (fun h => by rw [Bd.returns] at h; cases h)
    refine ⟨_, _, hTG _ (c290 _ ?_), hrun, hended, _, _, rfl, ?_, ⟨_, rfl⟩, hW, hsame.mono (by decide) (by decide)⟩
    · refine y_ifYes X0 hx 13 (hb hby d1_1) (XT.i0_eq_t hc291) (by decide) (by decide) ?_
      refine y_iloadN X0 hx 14 (hb hby d1_13) rfl rfl ?_
      refine XS.i2c X0.here hx rfl (hb hby d1_14) rfl ?_
      show Sx p e below s₁ m 15 #[xvi px, xvi qx] [xwi (px.toUInt32.toUInt16.toUInt32.toInt32)] _
      exact retN X0 hx (t := .char) Bd.returns (by simp) (hb hby d1_15) (hr)
    · show QrmPk Z G px qx h0 n0 _ s₁.heap _
      rw [e0]
      exact ⟨(nar .char (px.toUInt32.toUInt16.toUInt32.toInt32)), rfl, N0, rfl, (own_nc _)⟩
  · obtain ⟨fs, hr, hrun, hended, hW, hsame⟩ := X0.leave (v := some (.int (nar .char (((47 : Int32) + (px % (12 : Int32))).toUInt32.toUInt16.toUInt32.toInt32)))) (fun h => by rw [Bd.returns] at h; cases h)
    refine ⟨_, _, hTG _ (c290 _ ?_), hrun, hended, _, _, rfl, ?_, ⟨_, rfl⟩, hW, hsame.mono (by decide) (by decide)⟩
    · refine y_ifNo X0 hx 4 (hb hby d1_1) (XT.i0_eq_f hc291) rfl ?_
      refine y_bipush X0 hx (47 : Int32) 6 (hb hby d1_4) rfl rfl ?_
      refine y_iloadN X0 hx 7 (hb hby d1_6) rfl rfl ?_
      refine y_bipush X0 hx (12 : Int32) 9 (hb hby d1_7) rfl rfl ?_
      refine iremM X0 hx rfl (hb hby d1_9) rfl (by decide) ?_
      show Sx p e below s₁ m 10 #[xvi px, xvi qx] [xwi (px % (12 : Int32)), xwi (47 : Int32)] _
      refine y_iadd X0 hx 11 (hb hby d1_10) rfl ?_
      refine XS.i2c X0.here hx rfl (hb hby d1_11) rfl ?_
      show Sx p e below s₁ m 12 #[xvi px, xvi qx] [xwi (((47 : Int32) + (px % (12 : Int32))).toUInt32.toUInt16.toUInt32.toInt32)] _
      exact retN X0 hx (t := .char) Bd.returns (by simp) (hb hby d1_12) (hr)
    · show QrmPk Z G px qx h0 n0 _ s₁.heap _
      rw [e0]
      exact ⟨(nar .char (((47 : Int32) + (px % (12 : Int32))).toUInt32.toUInt16.toUInt32.toInt32)), rfl, N0, rfl, (own_nc _)⟩
theorem ef_rmOk (m : MethodId) (x0 : Int32) (x1 : Int32) (x2 : Int32) (x3 : Int32)  : entryFrame m #[(.int x0), (.int x1), (.int x2), (.int x3)] 5 = mkF m 0 #[.val (.int x0), .val (.int x1), .val (.int x2), .val (.int x3), .unset] [] := by first | (simp [entryFrame, mkF, argsToLocals, Value.category]; done) | rfl
theorem d8_0 : decode method_4_code 0 = .ok (.iload_n 1, 1) := by decide +kernel
theorem d8_1 : decode method_4_code 1 = .ok (.iload_n 2, 1) := by decide +kernel
theorem d8_2 : decode method_4_code 2 = .ok (.if_icmp .lt 8, 3) := by decide +kernel
theorem d8_10 : decode method_4_code 10 = .ok (.iconst 1, 1) := by decide +kernel
theorem d8_11 : decode method_4_code 11 = .ok (.ireturn, 1) := by decide +kernel
theorem d8_5 : decode method_4_code 5 = .ok (.iload_n 1, 1) := by decide +kernel
theorem d8_6 : decode method_4_code 6 = .ok (.iload_n 3, 1) := by decide +kernel
theorem d8_7 : decode method_4_code 7 = .ok (.if_icmp .lt 5, 3) := by decide +kernel
theorem d8_12 : decode method_4_code 12 = .ok (.iload_n 0, 1) := by decide +kernel
theorem d8_13 : decode method_4_code 13 = .ok (.bipush 48, 2) := by decide +kernel
theorem d8_15 : decode method_4_code 15 = .ok (.isub, 1) := by decide +kernel
theorem d8_16 : decode method_4_code 16 = .ok (.istore 4, 2) := by decide +kernel
theorem d8_18 : decode method_4_code 18 = .ok (.iload 4, 2) := by decide +kernel
theorem d8_20 : decode method_4_code 20 = .ok (.ifCond .lt 14, 3) := by decide +kernel
theorem d8_34 : decode method_4_code 34 = .ok (.iconst 0, 1) := by decide +kernel
theorem d8_35 : decode method_4_code 35 = .ok (.ireturn, 1) := by decide +kernel
theorem d8_23 : decode method_4_code 23 = .ok (.iload 4, 2) := by decide +kernel
theorem d8_25 : decode method_4_code 25 = .ok (.bipush 9, 2) := by decide +kernel
theorem d8_27 : decode method_4_code 27 = .ok (.if_icmp .gt 7, 3) := by decide +kernel
theorem d8_30 : decode method_4_code 30 = .ok (.iconst 1, 1) := by decide +kernel
theorem d8_31 : decode method_4_code 31 = .ok (.goto 4, 3) := by decide +kernel
def QrmOk (Z : State) (G : Gs) (cx : Int32) (ix : Int32) (sx : Int32) (ex : Int32) (h0 : Heap) (n0 : Nat) (v : Option Value) (h : Heap) (L : List Loc) : Prop := ∃ (rx : Int32), v = some (.int rx) ∧ Fr n0 L ∧ h = h0 ∧ ((rx = 1 ∧ own_okp cx ix sx ex) ∨ (rx = 0 ∧ ¬ own_okp cx ix sx ex))
set_option maxRecDepth 65536 in
set_option maxHeartbeats 40000000 in
theorem rmOk (l : Launch) (Z : State) (a0 : Array Value) (hw : HW a0 Z) (G : Gs) (ST : StartF Z G) (ws : List Jvm.Cond) (cx : Int32) (ix : Int32) (sx : Int32) (ex : Int32) (h0 : Heap) (n0 : Nat) (X00 : Old Z n0 h0) (hcx : own_c16 cx) :
    MetFree l (⟨"com/example/planwright/planwright/model/DecimalsIsDigitsPinLaw", "ok", "(CIII)Z"⟩ : MethodName) (head1 (Jvm.Cond.code (⟨"com/example/planwright/planwright/model/DecimalsIsDigitsPinLaw", "ok", "(CIII)Z"⟩ : MethodName) method_4_code 5 (some .boolean) :: ws) ({ frames := 0, cells := 0, slots := 0, locals := 0 } : Room)) (fun a U => a = #[(.int cx), (.int ix), (.int sx), (.int ex)] ∧ Z.Warmed39 U.vm ∧ U.heap = h0) (fun _ _ _ _ _ => True) (fun _ U o U' => ∃ v L, o = .returned v ∧ QrmOk Z G cx ix sx ex h0 n0 v U'.heap L ∧ FrameEnd U o U' L ({ frames := 0, cells := 0, slots := 0, locals := 0 } : Room).cells ({ frames := 0, cells := 0, slots := 0, locals := 0 } : Room).slots) := by
  refine MetFree.of_bodySF (plainFor_of_name pn_2) hisR ?_
  intro p e s m args below meth c s₁ Bd hml0 hP hK
  obtain ⟨rfl, hZ, hh⟩ := hP
  have hx := Bd.exec
  have hby := Bd.bytes
  have hml : c.maxLocals = 5 := hml0
  have hown : s.vm.findClass "com/example/planwright/planwright/model/DecimalsIsDigitsPinLaw" = some m.cls := findClass_of_methodNamed Bd.named
  have hnm := (name_of_methodNamed Bd.named Bd.method).1
  have X0 : Stand p l e ({ frames := 0, cells := 0, slots := 0, locals := 0 } : Room) s m #[(.int cx), (.int ix), (.int sx), (.int ex)] below meth c s₁ [] 0 0 := Stand.of_body Bd
  have e0 : s₁.heap = h0 := by rw [← hh, Bd.state]; rfl
  have N0 := Fr.nil n0
  have Z0 : n0 ≤ h0.size := by have q := X00.2.1; rw [X00.1] at q; exact q
  obtain ⟨TG, hTG, hT2⟩ : ∃ P : State → Prop, (∀ t, P t → Steps p.tables e below (s₁.setTop (entryFrame m #[(.int cx), (.int ix), (.int sx), (.int ex)] 5)) t) ∧ (∀ t, Steps p.tables e below (s₁.setTop (entryFrame m #[(.int cx), (.int ix), (.int sx), (.int ex)] 5)) t → P t) := ⟨_, fun t k => k, fun t k => k⟩
  have pre0 : ∀ t, Sx p e below s₁ m 0 #[xvi cx, xvi ix, xvi sx, xvi ex, xun] [] t → TG t := fun t k => hT2 t (castTop (ef_rmOk m cx ix sx ex ) k)
  have c292 : ∀ t, Sx p e below s₁ m 2 #[xvi cx, xvi ix, xvi sx, xvi ex, xun] [xwi sx, xwi ix] t → TG t := fun t k => pre0 t (by
    refine y_iloadN X0 hx 1 (hb hby d8_0) rfl rfl ?_
    refine y_iloadN X0 hx 2 (hb hby d8_1) rfl rfl ?_
    exact k)
  by_cases hc293 : ix < sx
  · obtain ⟨fs, hr, hrun, hended, hW, hsame⟩ := X0.leave (v := some (.int (1 : Int32))) (fun h => by rw [Bd.returns] at h; cases h)
    refine ⟨_, _, hTG _ (c292 _ ?_), hrun, hended, _, _, rfl, ?_, ⟨_, rfl⟩, hW, hsame.mono (by decide) (by decide)⟩
    · refine y_icmpYes X0 hx 10 (hb hby d8_2) (XT.ii_lt_t hc293) (by decide) (by decide) ?_
      refine y_iconst X0 hx (1 : Int32) 11 (hb hby d8_10) rfl rfl ?_
      show Sx p e below s₁ m 11 #[xvi cx, xvi ix, xvi sx, xvi ex, xun] [xwi (1 : Int32)] _
      exact retN X0 hx (t := .boolean) Bd.returns (by simp) (hb hby d8_11) (hr)
    · show QrmOk Z G cx ix sx ex h0 n0 _ s₁.heap _
      rw [e0]
      exact ⟨(1 : Int32), rfl, N0, rfl, (Or.inl ⟨rfl, Or.inl hc293⟩)⟩
  · have c294 : ∀ t, Sx p e below s₁ m 7 #[xvi cx, xvi ix, xvi sx, xvi ex, xun] [xwi ex, xwi ix] t → TG t := fun t k => c292 t (by
      refine y_icmpNo X0 hx 5 (hb hby d8_2) (XT.ii_lt_f hc293) rfl ?_
      refine y_iloadN X0 hx 6 (hb hby d8_5) rfl rfl ?_
      refine y_iloadN X0 hx 7 (hb hby d8_6) rfl rfl ?_
      exact k)
    by_cases hc295 : ix < ex
    · have c296 : ∀ t, Sx p e below s₁ m 20 #[xvi cx, xvi ix, xvi sx, xvi ex, xvi (cx - (48 : Int32))] [xwi (cx - (48 : Int32))] t → TG t := fun t k => c294 t (by
        refine y_icmpYes X0 hx 12 (hb hby d8_7) (XT.ii_lt_t hc295) (by decide) (by decide) ?_
        refine y_iloadN X0 hx 13 (hb hby d8_12) rfl rfl ?_
        refine y_bipush X0 hx (48 : Int32) 15 (hb hby d8_13) rfl rfl ?_
        refine y_isub X0 hx 16 (hb hby d8_15) rfl ?_
        refine XS.istore X0.here hx rfl (hb hby d8_16) rfl (l' := #[xvi cx, xvi ix, xvi sx, xvi ex, xvi (cx - (48 : Int32))]) rfl ?_
        show Sx p e below s₁ m 18 #[xvi cx, xvi ix, xvi sx, xvi ex, xvi (cx - (48 : Int32))] [] _
        refine y_iload X0 hx 20 (hb hby d8_18) rfl rfl ?_
        exact k)
      by_cases hc297 : (cx - (48 : Int32)) < (0 : Int32)
      · obtain ⟨fs, hr, hrun, hended, hW, hsame⟩ := X0.leave (v := some (.int (0 : Int32))) (fun h => by rw [Bd.returns] at h; cases h)
        refine ⟨_, _, hTG _ (c296 _ ?_), hrun, hended, _, _, rfl, ?_, ⟨_, rfl⟩, hW, hsame.mono (by decide) (by decide)⟩
        · refine y_ifYes X0 hx 34 (hb hby d8_20) (XT.i0_lt_t hc297) (by decide) (by decide) ?_
          refine y_iconst X0 hx (0 : Int32) 35 (hb hby d8_34) rfl rfl ?_
          show Sx p e below s₁ m 35 #[xvi cx, xvi ix, xvi sx, xvi ex, xvi (cx - (48 : Int32))] [xwi (0 : Int32)] _
          exact retN X0 hx (t := .boolean) Bd.returns (by simp) (hb hby d8_35) (hr)
        · show QrmOk Z G cx ix sx ex h0 n0 _ s₁.heap _
          rw [e0]
          exact ⟨(0 : Int32), rfl, N0, rfl, (Or.inr ⟨rfl, own_no hc293 hc295 (fun q => q.1 ((own_d0 hcx).mp hc297))⟩)⟩
      · have c298 : ∀ t, Sx p e below s₁ m 27 #[xvi cx, xvi ix, xvi sx, xvi ex, xvi (cx - (48 : Int32))] [xwi (9 : Int32), xwi (cx - (48 : Int32))] t → TG t := fun t k => c296 t (by
          refine y_ifNo X0 hx 23 (hb hby d8_20) (XT.i0_lt_f hc297) rfl ?_
          refine y_iload X0 hx 25 (hb hby d8_23) rfl rfl ?_
          refine y_bipush X0 hx (9 : Int32) 27 (hb hby d8_25) rfl rfl ?_
          exact k)
        by_cases hc299 : (9 : Int32) < (cx - (48 : Int32))
        · obtain ⟨fs, hr, hrun, hended, hW, hsame⟩ := X0.leave (v := some (.int (0 : Int32))) (fun h => by rw [Bd.returns] at h; cases h)
          refine ⟨_, _, hTG _ (c298 _ ?_), hrun, hended, _, _, rfl, ?_, ⟨_, rfl⟩, hW, hsame.mono (by decide) (by decide)⟩
          · refine y_icmpYes X0 hx 34 (hb hby d8_27) (XT.ii_gt_t hc299) (by decide) (by decide) ?_
            refine y_iconst X0 hx (0 : Int32) 35 (hb hby d8_34) rfl rfl ?_
            show Sx p e below s₁ m 35 #[xvi cx, xvi ix, xvi sx, xvi ex, xvi (cx - (48 : Int32))] [xwi (0 : Int32)] _
            exact retN X0 hx (t := .boolean) Bd.returns (by simp) (hb hby d8_35) (hr)
          · show QrmOk Z G cx ix sx ex h0 n0 _ s₁.heap _
            rw [e0]
            exact ⟨(0 : Int32), rfl, N0, rfl, (Or.inr ⟨rfl, own_no hc293 hc295 (fun q => q.2 ((own_d9 hcx).mp hc299))⟩)⟩
        · obtain ⟨fs, hr, hrun, hended, hW, hsame⟩ := X0.leave (v := some (.int (1 : Int32))) (fun h => by rw [Bd.returns] at h; cases h)
          refine ⟨_, _, hTG _ (c298 _ ?_), hrun, hended, _, _, rfl, ?_, ⟨_, rfl⟩, hW, hsame.mono (by decide) (by decide)⟩
          · refine y_icmpNo X0 hx 30 (hb hby d8_27) (XT.ii_gt_f hc299) rfl ?_
            refine y_iconst X0 hx (1 : Int32) 31 (hb hby d8_30) rfl rfl ?_
            refine y_goto X0 hx 35 (hb hby d8_31) (by decide) (by decide) ?_
            show Sx p e below s₁ m 35 #[xvi cx, xvi ix, xvi sx, xvi ex, xvi (cx - (48 : Int32))] [xwi (1 : Int32)] _
            exact retN X0 hx (t := .boolean) Bd.returns (by simp) (hb hby d8_35) (hr)
          · show QrmOk Z G cx ix sx ex h0 n0 _ s₁.heap _
            rw [e0]
            exact ⟨(1 : Int32), rfl, N0, rfl, (Or.inl ⟨rfl, Or.inr (Or.inr ⟨fun q => hc297 ((own_d0 hcx).mpr q), fun q => hc299 ((own_d9 hcx).mpr q)⟩)⟩)⟩
    · obtain ⟨fs, hr, hrun, hended, hW, hsame⟩ := X0.leave (v := some (.int (1 : Int32))) (fun h => by rw [Bd.returns] at h; cases h)
      refine ⟨_, _, hTG _ (c294 _ ?_), hrun, hended, _, _, rfl, ?_, ⟨_, rfl⟩, hW, hsame.mono (by decide) (by decide)⟩
      · refine y_icmpNo X0 hx 10 (hb hby d8_7) (XT.ii_lt_f hc295) rfl ?_
        refine y_iconst X0 hx (1 : Int32) 11 (hb hby d8_10) rfl rfl ?_
        show Sx p e below s₁ m 11 #[xvi cx, xvi ix, xvi sx, xvi ex, xun] [xwi (1 : Int32)] _
        exact retN X0 hx (t := .boolean) Bd.returns (by simp) (hb hby d8_11) (hr)
      · show QrmOk Z G cx ix sx ex h0 n0 _ s₁.heap _
        rw [e0]
        exact ⟨(1 : Int32), rfl, N0, rfl, (Or.inl ⟨rfl, Or.inr (Or.inl hc295)⟩)⟩
theorem ef_rmCI (m : MethodId) (x0 : Int32) (x1 : Int32) (x2 : Value) (hx2 : x2.isRef = true) : entryFrame m #[(.int x0), (.int x1), x2] 3 = mkF m 0 #[.val (.int x0), .val (.int x1), .val x2] [] := by
  rcases XT.refc hx2 with rfl | ⟨_, rfl⟩ <;> first | (simp [entryFrame, mkF, argsToLocals, Value.category]; done) | rfl
theorem d14_0 : decode jdk_41_method_11_code 0 = .ok (.iload_n 0, 1) := by decide +kernel
theorem d14_1 : decode jdk_41_method_11_code 1 = .ok (.ifCond .lt 8, 3) := by decide +kernel
theorem d14_4 : decode jdk_41_method_11_code 4 = .ok (.iload_n 0, 1) := by decide +kernel
theorem d14_5 : decode jdk_41_method_11_code 5 = .ok (.iload_n 1, 1) := by decide +kernel
theorem d14_6 : decode jdk_41_method_11_code 6 = .ok (.if_icmp .lt 10, 3) := by decide +kernel
theorem d14_16 : decode jdk_41_method_11_code 16 = .ok (.iload_n 0, 1) := by decide +kernel
theorem d14_17 : decode jdk_41_method_11_code 17 = .ok (.ireturn, 1) := by decide +kernel
theorem pn_3 : plainName "jdk/internal/util/Preconditions" = true := by first | (simp [plainName, overriddenIn]; done) | decide +kernel
def QrmCI (Z : State) (G : Gs) (jx : Int32) (zx : Int32) (fm : Value) (h0 : Heap) (n0 : Nat) (v : Option Value) (h : Heap) (L : List Loc) : Prop := v = some (.int jx) ∧ Fr n0 L ∧ h = h0
set_option maxRecDepth 65536 in
set_option maxHeartbeats 40000000 in
theorem rmCI (l : Launch) (Z : State) (a0 : Array Value) (hw : HW a0 Z) (G : Gs) (ST : StartF Z G) (ws : List Jvm.Cond) (jx : Int32) (zx : Int32) (fm : Value) (h0 : Heap) (n0 : Nat) (X00 : Old Z n0 h0) (hfm : fm.isRef = true) (h1 : ¬ jx < (0 : Int32)) (h2 : jx < zx) :
    MetFree l (⟨"jdk/internal/util/Preconditions", "checkIndex", "(IILjava/util/function/BiFunction;)I"⟩ : MethodName) (head1 (Jvm.Cond.code (⟨"jdk/internal/util/Preconditions", "checkIndex", "(IILjava/util/function/BiFunction;)I"⟩ : MethodName) jdk_41_method_11_code 3 (some .int) :: ws) ({ frames := 0, cells := 0, slots := 0, locals := 0 } : Room)) (fun a U => a = #[(.int jx), (.int zx), fm] ∧ Z.Warmed39 U.vm ∧ U.heap = h0) (fun _ _ _ _ _ => True) (fun _ U o U' => ∃ v L, o = .returned v ∧ QrmCI Z G jx zx fm h0 n0 v U'.heap L ∧ FrameEnd U o U' L ({ frames := 0, cells := 0, slots := 0, locals := 0 } : Room).cells ({ frames := 0, cells := 0, slots := 0, locals := 0 } : Room).slots) := by
  refine MetFree.of_bodySF (plainFor_of_name pn_3) hisR ?_
  intro p e s m args below meth c s₁ Bd hml0 hP hK
  obtain ⟨rfl, hZ, hh⟩ := hP
  have hx := Bd.exec
  have hby := Bd.bytes
  have hml : c.maxLocals = 3 := hml0
  have hown : s.vm.findClass "jdk/internal/util/Preconditions" = some m.cls := findClass_of_methodNamed Bd.named
  have hnm := (name_of_methodNamed Bd.named Bd.method).1
  have X0 : Stand p l e ({ frames := 0, cells := 0, slots := 0, locals := 0 } : Room) s m #[(.int jx), (.int zx), fm] below meth c s₁ [] 0 0 := Stand.of_body Bd
  have e0 : s₁.heap = h0 := by rw [← hh, Bd.state]; rfl
  have N0 := Fr.nil n0
  have Z0 : n0 ≤ h0.size := by have q := X00.2.1; rw [X00.1] at q; exact q
  obtain ⟨TG, hTG, hT2⟩ : ∃ P : State → Prop, (∀ t, P t → Steps p.tables e below (s₁.setTop (entryFrame m #[(.int jx), (.int zx), fm] 3)) t) ∧ (∀ t, Steps p.tables e below (s₁.setTop (entryFrame m #[(.int jx), (.int zx), fm] 3)) t → P t) := ⟨_, fun t k => k, fun t k => k⟩
  have pre0 : ∀ t, Sx p e below s₁ m 0 #[xvi jx, xvi zx, .val fm] [] t → TG t := fun t k => hT2 t (castTop (ef_rmCI m jx zx fm hfm) k)
  obtain ⟨fs, hr, hrun, hended, hW, hsame⟩ := X0.leave (v := some (.int jx)) (fun h => by rw [Bd.returns] at h; cases h)
  refine ⟨_, _, hTG _ (pre0 _ ?_), hrun, hended, _, _, rfl, ?_, ⟨_, rfl⟩, hW, hsame.mono (by decide) (by decide)⟩
  · refine y_iloadN X0 hx 1 (hb hby d14_0) rfl rfl ?_
    refine y_ifNo X0 hx 4 (hb hby d14_1) (XT.i0_lt_f h1) rfl ?_
    refine y_iloadN X0 hx 5 (hb hby d14_4) rfl rfl ?_
    refine y_iloadN X0 hx 6 (hb hby d14_5) rfl rfl ?_
    refine y_icmpYes X0 hx 16 (hb hby d14_6) (XT.ii_lt_t h2) (by decide) (by decide) ?_
    refine y_iloadN X0 hx 17 (hb hby d14_16) rfl rfl ?_
    show Sx p e below s₁ m 17 #[xvi jx, xvi zx, .val fm] [xwi jx] _
    exact retOut X0 hx Bd.returns rfl (Or.inl ⟨rfl, Or.inl rfl, _, rfl⟩) (hb hby d14_17) hr
  · show QrmCI Z G jx zx fm h0 n0 _ s₁.heap _
    rw [e0]
    exact ⟨rfl, N0, rfl⟩
theorem ef_rmCI2 (m : MethodId) (x0 : Int32) (x1 : Int32)  : entryFrame m #[(.int x0), (.int x1)] 2 = mkF m 0 #[.val (.int x0), .val (.int x1)] [] := by first | (simp [entryFrame, mkF, argsToLocals, Value.category]; done) | rfl
theorem d13_0 : decode jdk_42_method_155_code 0 = .ok (.iload_n 0, 1) := by decide +kernel
theorem d13_1 : decode jdk_42_method_155_code 1 = .ok (.iload_n 1, 1) := by decide +kernel
theorem d13_2 : decode jdk_42_method_155_code 2 = .ok (.getstatic 1053, 3) := by decide +kernel
theorem d13_5 : decode jdk_42_method_155_code 5 = .ok (.invokestatic 1059, 3) := by decide +kernel
theorem pd_8 : parseMethodDescriptor "(IILjava/util/function/BiFunction;)I" = some ⟨[.int, .int, (.object "java/util/function/BiFunction")], some .int⟩ := by decide +kernel
theorem d13_8 : decode jdk_42_method_155_code 8 = .ok (.pop, 1) := by decide +kernel
theorem d13_9 : decode jdk_42_method_155_code 9 = .ok (.return_, 1) := by decide +kernel
def QrmCI2 (Z : State) (G : Gs) (jx : Int32) (zx : Int32) (h0 : Heap) (n0 : Nat) (v : Option Value) (h : Heap) (L : List Loc) : Prop := v = none ∧ Fr n0 L ∧ h = h0
set_option maxRecDepth 65536 in
set_option maxHeartbeats 40000000 in
theorem rmCI2 (l : Launch) (Z : State) (a0 : Array Value) (hw : HW a0 Z) (G : Gs) (ST : StartF Z G) (ws : List Jvm.Cond) (jx : Int32) (zx : Int32) (h0 : Heap) (n0 : Nat) (X00 : Old Z n0 h0) (h1 : ¬ jx < (0 : Int32)) (h2 : jx < zx) :
    MetFree l (⟨"java/lang/String", "checkIndex", "(II)V"⟩ : MethodName) (head1 (Jvm.Cond.code (⟨"java/lang/String", "checkIndex", "(II)V"⟩ : MethodName) jdk_42_method_155_code 2 none :: ws) ({ frames := 1, cells := 0, slots := 0, locals := 14 } : Room)) (fun a U => a = #[(.int jx), (.int zx)] ∧ Z.Warmed39 U.vm ∧ U.heap = h0) (fun _ _ _ _ _ => True) (fun _ U o U' => ∃ v L, o = .returned v ∧ QrmCI2 Z G jx zx h0 n0 v U'.heap L ∧ FrameEnd U o U' L ({ frames := 1, cells := 0, slots := 0, locals := 14 } : Room).cells ({ frames := 1, cells := 0, slots := 0, locals := 14 } : Room).slots) := by
  refine MetFree.of_bodySF (plainFor_of_name pn_1) hisR ?_
  intro p e s m args below meth c s₁ Bd hml0 hP hK
  obtain ⟨rfl, hZ, hh⟩ := hP
  have hx := Bd.exec
  have hby := Bd.bytes
  have hml : c.maxLocals = 2 := hml0
  have hown : s.vm.findClass "java/lang/String" = some m.cls := findClass_of_methodNamed Bd.named
  have hnm := (name_of_methodNamed Bd.named Bd.method).1
  have X0 : Stand p l e ({ frames := 1, cells := 0, slots := 0, locals := 14 } : Room) s m #[(.int jx), (.int zx)] below meth c s₁ [] 0 0 := Stand.of_body Bd
  have e0 : s₁.heap = h0 := by rw [← hh, Bd.state]; rfl
  have N0 := Fr.nil n0
  have Z0 : n0 ≤ h0.size := by have q := X00.2.1; rw [X00.1] at q; exact q
  obtain ⟨TG, hTG, hT2⟩ : ∃ P : State → Prop, (∀ t, P t → Steps p.tables e below (s₁.setTop (entryFrame m #[(.int jx), (.int zx)] 2)) t) ∧ (∀ t, Steps p.tables e below (s₁.setTop (entryFrame m #[(.int jx), (.int zx)] 2)) t → P t) := ⟨_, fun t k => k, fun t k => k⟩
  have pre0 : ∀ t, Sx p e below s₁ m 0 #[xvi jx, xvi zx] [] t → TG t := fun t k => hT2 t (castTop (ef_rmCI2 m jx zx ) k)
  obtain ⟨T300, X300, e300, st300⟩ := getS2 X0 hx hZ hown (host := "") (Or.inl (w_60 hw)) Via.refl e0 (ST.c2.ext X00.2) (g := (mkF m 2 #[xvi jx, xvi zx] [xwi zx, xwi jx])) rfl (hb hby d13_2)
  obtain ⟨_, _, ⟨T301, L301, k301, n301⟩, -, X301, ⟨Lc301, hQ301, l301, y301, z301⟩, st301⟩ := Jvm.LawKit.callS X300 hx (y := (⟨"jdk/internal/util/Preconditions", "checkIndex", "(IILjava/util/function/BiFunction;)I"⟩ : MethodName)) hown (mvT hZ (w_62 hw)) (mvT hZ (w_63 hw)) (mvT hZ (w_61 hw)) (mvT hZ (w_64 hw)) (by decide) (backOf (W := 0) (rmCI l Z a0 hw G ST [] jx zx G.a1 h0 n0 X00 ST.c3 h1 h2) hZ (w_64 hw) (w_61 hw) (by decide) (by decide)) (g := (mkF m 5 #[xvi jx, xvi zx] [G.a1, xwi zx, xwi jx])) rfl (by rw [hml]; rfl) (argsL := [(.int jx), (.int zx), G.a1]) (rest := []) (lenOf pd_8 rfl) rfl (by show 2 * 0 + _ ≤ _; exact Nat.le_of_eq rfl) (hb hby d13_5) (fun _ _ => ⟨rfl, e300, (by decide : 0 + 0 ≤ _), (by decide : 0 + 0 ≤ _)⟩)
  dsimp only [Pt.U, Pt.locs, Pt.cells, Pt.slots] at X301 l301 y301 z301 st301 hQ301
  subst l301 y301 z301
  obtain ⟨rfl, N301q, e301⟩ := hQ301
  have N301 := Fr.app N0 N301q
  obtain ⟨fs, hr, hrun, hended, hW, hsame⟩ := X301.leave (v := none) (fun _ => rfl)
  refine ⟨_, _, hTG _ (pre0 _ ?_), hrun, hended, _, _, rfl, ?_, ⟨_, rfl⟩, hW, hsame.mono (by decide) (by decide)⟩
  · refine y_iloadN X0 hx 1 (hb hby d13_0) rfl rfl ?_
    refine y_iloadN X0 hx 2 (hb hby d13_1) rfl rfl ?_
    refine st300 _ ?_
    show Sx p e below T300 m 5 #[xvi jx, xvi zx] [G.a1, xwi zx, xwi jx] _
    refine st301 _ ?_
    show Sx p e below T301 m 8 #[xvi jx, xvi zx] [xwi jx] _
    refine y_pop X301 hx 9 (hb hby d13_8) rfl rfl ?_
    show Sx p e below T301 m 9 #[xvi jx, xvi zx] [] _
    exact X301.returnOut hx Bd.returns (hb hby d13_9) hr
  · show QrmCI2 Z G jx zx h0 n0 _ T301.heap _
    rw [e301]
    exact ⟨rfl, N301, rfl⟩
theorem ef_rmLt0 (m : MethodId) (x0 : Addr)  : entryFrame m #[(.ref x0)] 1 = mkF m 0 #[.val (.ref x0)] [] := by first | (simp [entryFrame, mkF, argsToLocals, Value.category]; done) | rfl
theorem d11_0 : decode jdk_42_method_154_code 0 = .ok (.getstatic 38, 3) := by decide +kernel
theorem d11_3 : decode jdk_42_method_154_code 3 = .ok (.ifCond .eq 14, 3) := by decide +kernel
theorem d11_6 : decode jdk_42_method_154_code 6 = .ok (.aload_n 0, 1) := by decide +kernel
theorem d11_7 : decode jdk_42_method_154_code 7 = .ok (.getfield 15, 3) := by decide +kernel
theorem d11_10 : decode jdk_42_method_154_code 10 = .ok (.ifCond .ne 7, 3) := by decide +kernel
theorem d11_13 : decode jdk_42_method_154_code 13 = .ok (.iconst 1, 1) := by decide +kernel
theorem d11_14 : decode jdk_42_method_154_code 14 = .ok (.goto 4, 3) := by decide +kernel
theorem d11_18 : decode jdk_42_method_154_code 18 = .ok (.ireturn, 1) := by decide +kernel
def QrmLt0 (Z : State) (G : Gs) (ax : Addr) (h0 : Heap) (n0 : Nat) (v : Option Value) (h : Heap) (L : List Loc) : Prop := v = some (.int (1 : Int32)) ∧ Fr n0 L ∧ h = h0
set_option maxRecDepth 65536 in
set_option maxHeartbeats 40000000 in
theorem rmLt0 (l : Launch) (Z : State) (a0 : Array Value) (hw : HW a0 Z) (G : Gs) (ST : StartF Z G) (ws : List Jvm.Cond) (ax : Addr) (h0 : Heap) (n0 : Nat) (X00 : Old Z n0 h0) (F2 : Fld Z h0 ax "java/lang/String" "coder" "B" (.int (0 : Int32))) :
    MetFree l (⟨"java/lang/String", "isLatin1", "()Z"⟩ : MethodName) (head1 (Jvm.Cond.code (⟨"java/lang/String", "isLatin1", "()Z"⟩ : MethodName) jdk_42_method_154_code 1 (some .boolean) :: ws) ({ frames := 0, cells := 0, slots := 0, locals := 0 } : Room)) (fun a U => a = #[(.ref ax)] ∧ Z.Warmed39 U.vm ∧ U.heap = h0) (fun _ _ _ _ _ => True) (fun _ U o U' => ∃ v L, o = .returned v ∧ QrmLt0 Z G ax h0 n0 v U'.heap L ∧ FrameEnd U o U' L ({ frames := 0, cells := 0, slots := 0, locals := 0 } : Room).cells ({ frames := 0, cells := 0, slots := 0, locals := 0 } : Room).slots) := by
  refine MetFree.of_bodySF (plainFor_of_name pn_1) hisR ?_
  intro p e s m args below meth c s₁ Bd hml0 hP hK
  obtain ⟨rfl, hZ, hh⟩ := hP
  have hx := Bd.exec
  have hby := Bd.bytes
  have hml : c.maxLocals = 1 := hml0
  have hown : s.vm.findClass "java/lang/String" = some m.cls := findClass_of_methodNamed Bd.named
  have hnm := (name_of_methodNamed Bd.named Bd.method).1
  have X0 : Stand p l e ({ frames := 0, cells := 0, slots := 0, locals := 0 } : Room) s m #[(.ref ax)] below meth c s₁ [] 0 0 := Stand.of_body Bd
  have e0 : s₁.heap = h0 := by rw [← hh, Bd.state]; rfl
  have N0 := Fr.nil n0
  have Z0 : n0 ≤ h0.size := by have q := X00.2.1; rw [X00.1] at q; exact q
  obtain ⟨TG, hTG, hT2⟩ : ∃ P : State → Prop, (∀ t, P t → Steps p.tables e below (s₁.setTop (entryFrame m #[(.ref ax)] 1)) t) ∧ (∀ t, Steps p.tables e below (s₁.setTop (entryFrame m #[(.ref ax)] 1)) t → P t) := ⟨_, fun t k => k, fun t k => k⟩
  have pre0 : ∀ t, Sx p e below s₁ m 0 #[xvr ax] [] t → TG t := fun t k => hT2 t (castTop (ef_rmLt0 m ax ) k)
  obtain ⟨T302, X302, e302, st302⟩ := getS2 X0 hx hZ hown (host := "") (Or.inl (w_20 hw)) Via.refl e0 (ST.c0.ext X00.2) (g := (mkF m 0 #[xvr ax] [])) rfl (hb hby d11_0)
  obtain ⟨T303, X303, e303, st303⟩ := getF X302 hx hZ hown (host := "") (Or.inl (w_32 hw)) Via.refl e302 F2 (g := (mkF m 7 #[xvr ax] [xwr ax])) rfl rfl (hb hby d11_7)
  obtain ⟨fs, hr, hrun, hended, hW, hsame⟩ := X303.leave (v := some (.int (1 : Int32))) (fun h => by rw [Bd.returns] at h; cases h)
  refine ⟨_, _, hTG _ (pre0 _ ?_), hrun, hended, _, _, rfl, ?_, ⟨_, rfl⟩, hW, hsame.mono (by decide) (by decide)⟩
  · refine st302 _ ?_
    show Sx p e below T302 m 3 #[xvr ax] [xwi G.a0] _
    refine y_ifNo X302 hx 6 (hb hby d11_3) (XT.i0_eq_f ST.c1) rfl ?_
    refine y_aloadN X302 hx 7 (hb hby d11_6) rfl rfl rfl ?_
    refine st303 _ ?_
    show Sx p e below T303 m 10 #[xvr ax] [xwi (0 : Int32)] _
    refine y_ifNo X303 hx 13 (hb hby d11_10) (XT.i0_ne_f (by decide)) rfl ?_
    refine y_iconst X303 hx (1 : Int32) 14 (hb hby d11_13) rfl rfl ?_
    refine y_goto X303 hx 18 (hb hby d11_14) (by decide) (by decide) ?_
    show Sx p e below T303 m 18 #[xvr ax] [xwi (1 : Int32)] _
    exact retN X303 hx (t := .boolean) Bd.returns (by simp) (hb hby d11_18) (hr)
  · show QrmLt0 Z G ax h0 n0 _ T303.heap _
    rw [e303]
    exact ⟨rfl, N0, rfl⟩
theorem ef_rmLt1 (m : MethodId) (x0 : Addr)  : entryFrame m #[(.ref x0)] 1 = mkF m 0 #[.val (.ref x0)] [] := by first | (simp [entryFrame, mkF, argsToLocals, Value.category]; done) | rfl
theorem d11_17 : decode jdk_42_method_154_code 17 = .ok (.iconst 0, 1) := by decide +kernel
def QrmLt1 (Z : State) (G : Gs) (ax : Addr) (h0 : Heap) (n0 : Nat) (v : Option Value) (h : Heap) (L : List Loc) : Prop := v = some (.int (0 : Int32)) ∧ Fr n0 L ∧ h = h0
set_option maxRecDepth 65536 in
set_option maxHeartbeats 40000000 in
theorem rmLt1 (l : Launch) (Z : State) (a0 : Array Value) (hw : HW a0 Z) (G : Gs) (ST : StartF Z G) (ws : List Jvm.Cond) (ax : Addr) (h0 : Heap) (n0 : Nat) (X00 : Old Z n0 h0) (F2 : Fld Z h0 ax "java/lang/String" "coder" "B" (.int (1 : Int32))) :
    MetFree l (⟨"java/lang/String", "isLatin1", "()Z"⟩ : MethodName) (head1 (Jvm.Cond.code (⟨"java/lang/String", "isLatin1", "()Z"⟩ : MethodName) jdk_42_method_154_code 1 (some .boolean) :: ws) ({ frames := 0, cells := 0, slots := 0, locals := 0 } : Room)) (fun a U => a = #[(.ref ax)] ∧ Z.Warmed39 U.vm ∧ U.heap = h0) (fun _ _ _ _ _ => True) (fun _ U o U' => ∃ v L, o = .returned v ∧ QrmLt1 Z G ax h0 n0 v U'.heap L ∧ FrameEnd U o U' L ({ frames := 0, cells := 0, slots := 0, locals := 0 } : Room).cells ({ frames := 0, cells := 0, slots := 0, locals := 0 } : Room).slots) := by
  refine MetFree.of_bodySF (plainFor_of_name pn_1) hisR ?_
  intro p e s m args below meth c s₁ Bd hml0 hP hK
  obtain ⟨rfl, hZ, hh⟩ := hP
  have hx := Bd.exec
  have hby := Bd.bytes
  have hml : c.maxLocals = 1 := hml0
  have hown : s.vm.findClass "java/lang/String" = some m.cls := findClass_of_methodNamed Bd.named
  have hnm := (name_of_methodNamed Bd.named Bd.method).1
  have X0 : Stand p l e ({ frames := 0, cells := 0, slots := 0, locals := 0 } : Room) s m #[(.ref ax)] below meth c s₁ [] 0 0 := Stand.of_body Bd
  have e0 : s₁.heap = h0 := by rw [← hh, Bd.state]; rfl
  have N0 := Fr.nil n0
  have Z0 : n0 ≤ h0.size := by have q := X00.2.1; rw [X00.1] at q; exact q
  obtain ⟨TG, hTG, hT2⟩ : ∃ P : State → Prop, (∀ t, P t → Steps p.tables e below (s₁.setTop (entryFrame m #[(.ref ax)] 1)) t) ∧ (∀ t, Steps p.tables e below (s₁.setTop (entryFrame m #[(.ref ax)] 1)) t → P t) := ⟨_, fun t k => k, fun t k => k⟩
  have pre0 : ∀ t, Sx p e below s₁ m 0 #[xvr ax] [] t → TG t := fun t k => hT2 t (castTop (ef_rmLt1 m ax ) k)
  obtain ⟨T304, X304, e304, st304⟩ := getS2 X0 hx hZ hown (host := "") (Or.inl (w_20 hw)) Via.refl e0 (ST.c0.ext X00.2) (g := (mkF m 0 #[xvr ax] [])) rfl (hb hby d11_0)
  obtain ⟨T305, X305, e305, st305⟩ := getF X304 hx hZ hown (host := "") (Or.inl (w_32 hw)) Via.refl e304 F2 (g := (mkF m 7 #[xvr ax] [xwr ax])) rfl rfl (hb hby d11_7)
  obtain ⟨fs, hr, hrun, hended, hW, hsame⟩ := X305.leave (v := some (.int (0 : Int32))) (fun h => by rw [Bd.returns] at h; cases h)
  refine ⟨_, _, hTG _ (pre0 _ ?_), hrun, hended, _, _, rfl, ?_, ⟨_, rfl⟩, hW, hsame.mono (by decide) (by decide)⟩
  · refine st304 _ ?_
    show Sx p e below T304 m 3 #[xvr ax] [xwi G.a0] _
    refine y_ifNo X304 hx 6 (hb hby d11_3) (XT.i0_eq_f ST.c1) rfl ?_
    refine y_aloadN X304 hx 7 (hb hby d11_6) rfl rfl rfl ?_
    refine st305 _ ?_
    show Sx p e below T305 m 10 #[xvr ax] [xwi (1 : Int32)] _
    refine y_ifYes X305 hx 17 (hb hby d11_10) (XT.i0_ne_t (by decide)) (by decide) (by decide) ?_
    refine y_iconst X305 hx (0 : Int32) 18 (hb hby d11_17) rfl rfl ?_
    show Sx p e below T305 m 18 #[xvr ax] [xwi (0 : Int32)] _
    exact retN X305 hx (t := .boolean) Bd.returns (by simp) (hb hby d11_18) (hr)
  · show QrmLt1 Z G ax h0 n0 _ T305.heap _
    rw [e305]
    exact ⟨rfl, N0, rfl⟩
theorem ef_rmLA0 (m : MethodId) (x0 : Addr) (x1 : Int32)  : entryFrame m #[(.ref x0), (.int x1)] 2 = mkF m 0 #[.val (.ref x0), .val (.int x1)] [] := by first | (simp [entryFrame, mkF, argsToLocals, Value.category]; done) | rfl
theorem d12_0 : decode jdk_43_method_2_code 0 = .ok (.iload_n 1, 1) := by decide +kernel
theorem d12_1 : decode jdk_43_method_2_code 1 = .ok (.aload_n 0, 1) := by decide +kernel
theorem d12_2 : decode jdk_43_method_2_code 2 = .ok (.arraylength, 1) := by decide +kernel
theorem d12_3 : decode jdk_43_method_2_code 3 = .ok (.invokestatic 9, 3) := by decide +kernel
theorem pd_9 : parseMethodDescriptor "(II)V" = some ⟨[.int, .int], none⟩ := by decide +kernel
theorem d12_6 : decode jdk_43_method_2_code 6 = .ok (.aload_n 0, 1) := by decide +kernel
theorem d12_7 : decode jdk_43_method_2_code 7 = .ok (.iload_n 1, 1) := by decide +kernel
theorem d12_8 : decode jdk_43_method_2_code 8 = .ok (.baload, 1) := by decide +kernel
theorem d12_9 : decode jdk_43_method_2_code 9 = .ok (.sipush 255, 3) := by decide +kernel
theorem d12_12 : decode jdk_43_method_2_code 12 = .ok (.iand, 1) := by decide +kernel
theorem d12_13 : decode jdk_43_method_2_code 13 = .ok (.i2c, 1) := by decide +kernel
theorem d12_14 : decode jdk_43_method_2_code 14 = .ok (.ireturn, 1) := by decide +kernel
theorem pn_4 : plainName "java/lang/StringLatin1" = true := by first | (simp [plainName, overriddenIn]; done) | decide +kernel
def QrmLA0 (Z : State) (G : Gs) (tx : Addr) (kx : ClassId) (cc0 : Int32) (cc1 : Int32) (cc2 : Int32) (cc3 : Int32) (h0 : Heap) (n0 : Nat) (v : Option Value) (h : Heap) (L : List Loc) : Prop := v = some (.int cc0) ∧ Fr n0 L ∧ h = h0
set_option maxRecDepth 65536 in
set_option maxHeartbeats 40000000 in
theorem rmLA0 (l : Launch) (Z : State) (a0 : Array Value) (hw : HW a0 Z) (G : Gs) (ST : StartF Z G) (ws : List Jvm.Cond) (tx : Addr) (kx : ClassId) (cc0 : Int32) (cc1 : Int32) (cc2 : Int32) (cc3 : Int32) (h0 : Heap) (n0 : Nat) (X00 : Old Z n0 h0) (V1 : Arv Z h0 tx kx .byte (4 : Int32) [(.int (cc0.toInt8.toInt32)), (.int (cc1.toInt8.toInt32)), (.int (cc2.toInt8.toInt32)), (.int (cc3.toInt8.toInt32))] (.int (0 : Int32))) (hr_cc0 : own_c16 cc0) (hr_cc1 : own_c16 cc1) (hr_cc2 : own_c16 cc2) (hr_cc3 : own_c16 cc3) (hl_cc0 : ¬ (255 : Int32) < cc0) (hl_cc1 : ¬ (255 : Int32) < cc1) (hl_cc2 : ¬ (255 : Int32) < cc2) (hl_cc3 : ¬ (255 : Int32) < cc3) :
    MetFree l (⟨"java/lang/StringLatin1", "charAt", "([BI)C"⟩ : MethodName) (head1 (Jvm.Cond.code (⟨"java/lang/StringLatin1", "charAt", "([BI)C"⟩ : MethodName) jdk_43_method_2_code 2 (some .char) :: ws) ({ frames := 2, cells := 0, slots := 0, locals := 27 } : Room)) (fun a U => a = #[(.ref tx), (.int (0 : Int32))] ∧ Z.Warmed39 U.vm ∧ U.heap = h0) (fun _ _ _ _ _ => True) (fun _ U o U' => ∃ v L, o = .returned v ∧ QrmLA0 Z G tx kx cc0 cc1 cc2 cc3 h0 n0 v U'.heap L ∧ FrameEnd U o U' L ({ frames := 2, cells := 0, slots := 0, locals := 27 } : Room).cells ({ frames := 2, cells := 0, slots := 0, locals := 27 } : Room).slots) := by
  refine MetFree.of_bodySF (plainFor_of_name pn_4) hisR ?_
  intro p e s m args below meth c s₁ Bd hml0 hP hK
  obtain ⟨rfl, hZ, hh⟩ := hP
  have hx := Bd.exec
  have hby := Bd.bytes
  have hml : c.maxLocals = 2 := hml0
  have hown : s.vm.findClass "java/lang/StringLatin1" = some m.cls := findClass_of_methodNamed Bd.named
  have hnm := (name_of_methodNamed Bd.named Bd.method).1
  have X0 : Stand p l e ({ frames := 2, cells := 0, slots := 0, locals := 27 } : Room) s m #[(.ref tx), (.int (0 : Int32))] below meth c s₁ [] 0 0 := Stand.of_body Bd
  have e0 : s₁.heap = h0 := by rw [← hh, Bd.state]; rfl
  have N0 := Fr.nil n0
  have Z0 : n0 ≤ h0.size := by have q := X00.2.1; rw [X00.1] at q; exact q
  obtain ⟨TG, hTG, hT2⟩ : ∃ P : State → Prop, (∀ t, P t → Steps p.tables e below (s₁.setTop (entryFrame m #[(.ref tx), (.int (0 : Int32))] 2)) t) ∧ (∀ t, Steps p.tables e below (s₁.setTop (entryFrame m #[(.ref tx), (.int (0 : Int32))] 2)) t → P t) := ⟨_, fun t k => k, fun t k => k⟩
  have pre0 : ∀ t, Sx p e below s₁ m 0 #[xvr tx, xvi (0 : Int32)] [] t → TG t := fun t k => hT2 t (castTop (ef_rmLA0 m tx (0 : Int32) ) k)
  obtain ⟨cl306, Ar306, q306, S306, M306, H306, G306⟩ := id V1
  obtain ⟨_, _, ⟨T307, L307, k307, n307⟩, -, X307, ⟨Lc307, hQ307, l307, y307, z307⟩, st307⟩ := Jvm.LawKit.callS X0 hx (y := (⟨"java/lang/String", "checkIndex", "(II)V"⟩ : MethodName)) hown (mvT hZ (w_57 hw)) (mvT hZ (w_58 hw)) (mvT hZ (w_9 hw)) (mvT hZ (w_59 hw)) (by decide) (backOf (W := 0) (rmCI2 l Z a0 hw G ST [] (0 : Int32) (4 : Int32) h0 n0 X00 (by first | assumption | decide) (by first | assumption | decide)) hZ (w_59 hw) (w_9 hw) (by decide) (by decide)) (g := (mkF m 3 #[xvr tx, xvi (0 : Int32)] [xwi (4 : Int32), xwi (0 : Int32)])) rfl (by rw [hml]; rfl) (argsL := [(.int (0 : Int32)), (.int (4 : Int32))]) (rest := []) (lenOf pd_9 rfl) rfl (by show 2 * 0 + _ ≤ _; exact Nat.le_of_eq rfl) (hb hby d12_3) (fun _ _ => ⟨rfl, e0, (by decide : 0 + 0 ≤ _), (by decide : 0 + 0 ≤ _)⟩)
  dsimp only [Pt.U, Pt.locs, Pt.cells, Pt.slots] at X307 l307 y307 z307 st307 hQ307
  subst l307 y307 z307
  obtain ⟨rfl, N307q, e307⟩ := hQ307
  have N307 := Fr.app N0 N307q
  obtain ⟨cl308, Ar308, q308, S308, M308, H308, G308⟩ := id V1
  have in308 : ¬ ((0 : Int32) < 0 ∨ cl308.slots.size ≤ ((0 : Int32)).toNatClampNeg) := inb_of S308 ⟨by decide, by decide⟩
  obtain ⟨fs, hr, hrun, hended, hW, hsame⟩ := X307.leave (v := some (.int cc0)) (fun h => by rw [Bd.returns] at h; cases h)
  refine ⟨_, _, hTG _ (pre0 _ ?_), hrun, hended, _, _, rfl, ?_, ⟨_, rfl⟩, hW, hsame.mono (by decide) (by decide)⟩
  · refine y_iloadN X0 hx 1 (hb hby d12_0) rfl rfl ?_
    refine y_aloadN X0 hx 2 (hb hby d12_1) rfl rfl rfl ?_
    refine X0.arraylength hx (by rw [e0]; exact Ar306.1) (State.isArrayOf_alike hZ.alike Ar306.2.1) (g := (mkF m 2 #[xvr tx, xvi (0 : Int32)] [xwr tx, xwi (0 : Int32)])) rfl rfl (hb hby d12_2) _ ?_
    rw [len_of S306 M306]
    show Sx p e below s₁ m 3 #[xvr tx, xvi (0 : Int32)] [xwi (4 : Int32), xwi (0 : Int32)] _
    refine st307 _ ?_
    show Sx p e below T307 m 6 #[xvr tx, xvi (0 : Int32)] [] _
    refine y_aloadN X307 hx 7 (hb hby d12_6) rfl rfl rfl ?_
    refine y_iloadN X307 hx 8 (hb hby d12_7) rfl rfl ?_
    refine X307.baloadBytes hx (j := (0 : Int32)) (v := (.int (cc0.toInt8.toInt32))) (by rw [e307]; exact Ar308.1) (State.isArrayOf_alike hZ.alike Ar308.2.1) Ar308.2.2 in308 (Has.at H308 in308 rfl) (g := (mkF m 8 #[xvr tx, xvi (0 : Int32)] [xwi (0 : Int32), xwr tx])) rfl rfl (hb hby d12_8) _ ?_
    show Sx p e below T307 m 9 #[xvr tx, xvi (0 : Int32)] [xwi (cc0.toInt8.toInt32)] _
    refine y_sipush X307 hx (255 : Int32) 12 (hb hby d12_9) rfl rfl ?_
    refine y_iand X307 hx 13 (hb hby d12_12) rfl ?_
    rw [own_b8 ⟨hr_cc0.1, hl_cc0⟩]
    refine XS.i2c X307.here hx rfl (hb hby d12_13) rfl ?_
    show Sx p e below T307 m 14 #[xvr tx, xvi (0 : Int32)] [xwi (cc0.toUInt32.toUInt16.toUInt32.toInt32)] _
    rw [own_i16 hr_cc0]
    show Sx p e below T307 m 14 #[xvr tx, xvi (0 : Int32)] [xwi cc0] _
    exact retN X307 hx (t := .char) Bd.returns (by simp) (hb hby d12_14) ((by rw [own_nar16 hr_cc0]; exact hr))
  · show QrmLA0 Z G tx kx cc0 cc1 cc2 cc3 h0 n0 _ T307.heap _
    rw [e307]
    exact ⟨rfl, N307, rfl⟩
theorem ef_rmUA0 (m : MethodId) (x0 : Addr) (x1 : Int32)  : entryFrame m #[(.ref x0), (.int x1)] 2 = mkF m 0 #[.val (.ref x0), .val (.int x1)] [] := by first | (simp [entryFrame, mkF, argsToLocals, Value.category]; done) | rfl
theorem d20_0 : decode jdk_52_method_83_code 0 = .ok (.iload_n 1, 1) := by decide +kernel
theorem d20_1 : decode jdk_52_method_83_code 1 = .ok (.aload_n 0, 1) := by decide +kernel
theorem d20_2 : decode jdk_52_method_83_code 2 = .ok (.invokestatic 67, 3) := by decide +kernel
theorem ef_rmA9 (m : MethodId) (x0 : Int32) (x1 : Addr)  : entryFrame m #[(.int x0), (.ref x1)] 2 = mkF m 0 #[.val (.int x0), .val (.ref x1)] [] := by first | (simp [entryFrame, mkF, argsToLocals, Value.category]; done) | rfl
theorem d21_0 : decode jdk_52_method_91_code 0 = .ok (.iload_n 0, 1) := by decide +kernel
theorem d21_1 : decode jdk_52_method_91_code 1 = .ok (.aload_n 1, 1) := by decide +kernel
theorem d21_2 : decode jdk_52_method_91_code 2 = .ok (.invokestatic 48, 3) := by decide +kernel
theorem ef_rmA10 (m : MethodId) (x0 : Addr)  : entryFrame m #[(.ref x0)] 1 = mkF m 0 #[.val (.ref x0)] [] := by first | (simp [entryFrame, mkF, argsToLocals, Value.category]; done) | rfl
theorem d22_0 : decode jdk_52_method_6_code 0 = .ok (.aload_n 0, 1) := by decide +kernel
theorem d22_1 : decode jdk_52_method_6_code 1 = .ok (.arraylength, 1) := by decide +kernel
theorem d22_2 : decode jdk_52_method_6_code 2 = .ok (.iconst 1, 1) := by decide +kernel
theorem d22_3 : decode jdk_52_method_6_code 3 = .ok (.ishr, 1) := by decide +kernel
theorem d22_4 : decode jdk_52_method_6_code 4 = .ok (.ireturn, 1) := by decide +kernel
def QrmA10 (Z : State) (G : Gs) (xa1 : Addr) (xk_xa1 : ClassId) (xi1 : Int32) (xi2 : Int32) (xi3 : Int32) (xi4 : Int32) (xi5 : Int32) (xi6 : Int32) (xi7 : Int32) (xi8 : Int32) (h0 : Heap) (n0 : Nat) (v : Option Value) (h : Heap) (L : List Loc) : Prop := v = some (.int (4 : Int32)) ∧ Fr n0 L ∧ h = h0
set_option maxRecDepth 65536 in
set_option maxHeartbeats 40000000 in
theorem rmA10 (l : Launch) (Z : State) (a0 : Array Value) (hw : HW a0 Z) (G : Gs) (ST : StartF Z G) (ws : List Jvm.Cond) (xa1 : Addr) (xk_xa1 : ClassId) (xi1 : Int32) (xi2 : Int32) (xi3 : Int32) (xi4 : Int32) (xi5 : Int32) (xi6 : Int32) (xi7 : Int32) (xi8 : Int32) (h0 : Heap) (n0 : Nat) (X00 : Old Z n0 h0) (xV_xa1 : Arv Z h0 xa1 xk_xa1 .byte (8 : Int32) [(.int xi1), (.int xi2), (.int xi3), (.int xi4), (.int xi5), (.int xi6), (.int xi7), (.int xi8)] (.int (0 : Int32))) :
    MetFree l (⟨"java/lang/StringUTF16", "length", "([B)I"⟩ : MethodName) (head1 (Jvm.Cond.code (⟨"java/lang/StringUTF16", "length", "([B)I"⟩ : MethodName) jdk_52_method_6_code 1 (some .int) :: ws) ({ frames := 0, cells := 0, slots := 0, locals := 0 } : Room)) (fun a U => a = #[(.ref xa1)] ∧ Z.Warmed39 U.vm ∧ U.heap = h0) (fun _ _ _ _ _ => True) (fun _ U o U' => ∃ v L, o = .returned v ∧ QrmA10 Z G xa1 xk_xa1 xi1 xi2 xi3 xi4 xi5 xi6 xi7 xi8 h0 n0 v U'.heap L ∧ FrameEnd U o U' L ({ frames := 0, cells := 0, slots := 0, locals := 0 } : Room).cells ({ frames := 0, cells := 0, slots := 0, locals := 0 } : Room).slots) := by
  refine MetFree.of_bodySF (plainFor_of_name pn_0) hisR ?_
  intro p e s m args below meth c s₁ Bd hml0 hP hK
  obtain ⟨rfl, hZ, hh⟩ := hP
  have hx := Bd.exec
  have hby := Bd.bytes
  have hml : c.maxLocals = 1 := hml0
  have hown : s.vm.findClass "java/lang/StringUTF16" = some m.cls := findClass_of_methodNamed Bd.named
  have hnm := (name_of_methodNamed Bd.named Bd.method).1
  have X0 : Stand p l e ({ frames := 0, cells := 0, slots := 0, locals := 0 } : Room) s m #[(.ref xa1)] below meth c s₁ [] 0 0 := Stand.of_body Bd
  have e0 : s₁.heap = h0 := by rw [← hh, Bd.state]; rfl
  have N0 := Fr.nil n0
  have Z0 : n0 ≤ h0.size := by have q := X00.2.1; rw [X00.1] at q; exact q
  obtain ⟨TG, hTG, hT2⟩ : ∃ P : State → Prop, (∀ t, P t → Steps p.tables e below (s₁.setTop (entryFrame m #[(.ref xa1)] 1)) t) ∧ (∀ t, Steps p.tables e below (s₁.setTop (entryFrame m #[(.ref xa1)] 1)) t → P t) := ⟨_, fun t k => k, fun t k => k⟩
  have pre0 : ∀ t, Sx p e below s₁ m 0 #[xvr xa1] [] t → TG t := fun t k => hT2 t (castTop (ef_rmA10 m xa1 ) k)
  obtain ⟨cl309, Ar309, q309, S309, M309, H309, G309⟩ := id xV_xa1
  obtain ⟨fs, hr, hrun, hended, hW, hsame⟩ := X0.leave (v := some (.int (4 : Int32))) (fun h => by rw [Bd.returns] at h; cases h)
  refine ⟨_, _, hTG _ (pre0 _ ?_), hrun, hended, _, _, rfl, ?_, ⟨_, rfl⟩, hW, hsame.mono (by decide) (by decide)⟩
  · refine y_aloadN X0 hx 1 (hb hby d22_0) rfl rfl rfl ?_
    refine X0.arraylength hx (by rw [e0]; exact Ar309.1) (State.isArrayOf_alike hZ.alike Ar309.2.1) (g := (mkF m 1 #[xvr xa1] [xwr xa1])) rfl rfl (hb hby d22_1) _ ?_
    rw [len_of S309 M309]
    show Sx p e below s₁ m 2 #[xvr xa1] [xwi (8 : Int32)] _
    refine y_iconst X0 hx (1 : Int32) 3 (hb hby d22_2) rfl rfl ?_
    refine XS.ishr X0.here hx rfl (hb hby d22_3) rfl ?_
    rw [show ((8 : Int32) >>> ((1 : Int32) &&& 31)) = (4 : Int32) from by decide]
    show Sx p e below s₁ m 4 #[xvr xa1] [xwi (4 : Int32)] _
    exact retOut X0 hx Bd.returns rfl (Or.inl ⟨rfl, Or.inl rfl, _, rfl⟩) (hb hby d22_4) hr
  · show QrmA10 Z G xa1 xk_xa1 xi1 xi2 xi3 xi4 xi5 xi6 xi7 xi8 h0 n0 _ s₁.heap _
    rw [e0]
    exact ⟨rfl, N0, rfl⟩
theorem pd_10 : parseMethodDescriptor "([B)I" = some ⟨[(.array .byte)], some .int⟩ := by decide +kernel
theorem d21_5 : decode jdk_52_method_91_code 5 = .ok (.invokestatic 414, 3) := by decide +kernel
theorem d21_8 : decode jdk_52_method_91_code 8 = .ok (.return_, 1) := by decide +kernel
def QrmA9 (Z : State) (G : Gs) (xa1 : Addr) (xk_xa1 : ClassId) (xi1 : Int32) (xi2 : Int32) (xi3 : Int32) (xi4 : Int32) (xi5 : Int32) (xi6 : Int32) (xi7 : Int32) (xi8 : Int32) (h0 : Heap) (n0 : Nat) (v : Option Value) (h : Heap) (L : List Loc) : Prop := v = none ∧ Fr n0 L ∧ h = h0
set_option maxRecDepth 65536 in
set_option maxHeartbeats 40000000 in
theorem rmA9 (l : Launch) (Z : State) (a0 : Array Value) (hw : HW a0 Z) (G : Gs) (ST : StartF Z G) (ws : List Jvm.Cond) (xa1 : Addr) (xk_xa1 : ClassId) (xi1 : Int32) (xi2 : Int32) (xi3 : Int32) (xi4 : Int32) (xi5 : Int32) (xi6 : Int32) (xi7 : Int32) (xi8 : Int32) (h0 : Heap) (n0 : Nat) (X00 : Old Z n0 h0) (xV_xa1 : Arv Z h0 xa1 xk_xa1 .byte (8 : Int32) [(.int xi1), (.int xi2), (.int xi3), (.int xi4), (.int xi5), (.int xi6), (.int xi7), (.int xi8)] (.int (0 : Int32))) :
    MetFree l (⟨"java/lang/StringUTF16", "checkIndex", "(I[B)V"⟩ : MethodName) (head1 (Jvm.Cond.code (⟨"java/lang/StringUTF16", "checkIndex", "(I[B)V"⟩ : MethodName) jdk_52_method_91_code 2 none :: ws) ({ frames := 2, cells := 0, slots := 0, locals := 27 } : Room)) (fun a U => a = #[(.int (0 : Int32)), (.ref xa1)] ∧ Z.Warmed39 U.vm ∧ U.heap = h0) (fun _ _ _ _ _ => True) (fun _ U o U' => ∃ v L, o = .returned v ∧ QrmA9 Z G xa1 xk_xa1 xi1 xi2 xi3 xi4 xi5 xi6 xi7 xi8 h0 n0 v U'.heap L ∧ FrameEnd U o U' L ({ frames := 2, cells := 0, slots := 0, locals := 27 } : Room).cells ({ frames := 2, cells := 0, slots := 0, locals := 27 } : Room).slots) := by
  refine MetFree.of_bodySF (plainFor_of_name pn_0) hisR ?_
  intro p e s m args below meth c s₁ Bd hml0 hP hK
  obtain ⟨rfl, hZ, hh⟩ := hP
  have hx := Bd.exec
  have hby := Bd.bytes
  have hml : c.maxLocals = 2 := hml0
  have hown : s.vm.findClass "java/lang/StringUTF16" = some m.cls := findClass_of_methodNamed Bd.named
  have hnm := (name_of_methodNamed Bd.named Bd.method).1
  have X0 : Stand p l e ({ frames := 2, cells := 0, slots := 0, locals := 27 } : Room) s m #[(.int (0 : Int32)), (.ref xa1)] below meth c s₁ [] 0 0 := Stand.of_body Bd
  have e0 : s₁.heap = h0 := by rw [← hh, Bd.state]; rfl
  have N0 := Fr.nil n0
  have Z0 : n0 ≤ h0.size := by have q := X00.2.1; rw [X00.1] at q; exact q
  obtain ⟨TG, hTG, hT2⟩ : ∃ P : State → Prop, (∀ t, P t → Steps p.tables e below (s₁.setTop (entryFrame m #[(.int (0 : Int32)), (.ref xa1)] 2)) t) ∧ (∀ t, Steps p.tables e below (s₁.setTop (entryFrame m #[(.int (0 : Int32)), (.ref xa1)] 2)) t → P t) := ⟨_, fun t k => k, fun t k => k⟩
  have pre0 : ∀ t, Sx p e below s₁ m 0 #[xvi (0 : Int32), xvr xa1] [] t → TG t := fun t k => hT2 t (castTop (ef_rmA9 m (0 : Int32) xa1 ) k)
  obtain ⟨_, _, ⟨T310, L310, k310, n310⟩, -, X310, ⟨Lc310, hQ310, l310, y310, z310⟩, st310⟩ := Jvm.LawKit.callS X0 hx (y := (⟨"java/lang/StringUTF16", "length", "([B)I"⟩ : MethodName)) hown (mvT hZ (w_90 hw)) (mvT hZ (w_91 hw)) (mvT hZ (w_23 hw)) (mvT hZ (w_92 hw)) (by decide) (backOf (W := 1) (rmA10 l Z a0 hw G ST [] xa1 xk_xa1 xi1 xi2 xi3 xi4 xi5 xi6 xi7 xi8 h0 n0 X00 xV_xa1) hZ (w_92 hw) (w_23 hw) (by decide) (by decide)) (g := (mkF m 2 #[xvi (0 : Int32), xvr xa1] [xwr xa1, xwi (0 : Int32)])) rfl (by rw [hml]; rfl) (argsL := [(.ref xa1)]) (rest := [(.int (0 : Int32))]) (lenOf pd_10 rfl) rfl (by show 2 * 0 + _ ≤ _; exact Nat.le_of_eq rfl) (hb hby d21_2) (fun _ _ => ⟨rfl, e0, (by decide : 0 + 0 ≤ _), (by decide : 0 + 0 ≤ _)⟩)
  dsimp only [Pt.U, Pt.locs, Pt.cells, Pt.slots] at X310 l310 y310 z310 st310 hQ310
  subst l310 y310 z310
  obtain ⟨rfl, N310q, e310⟩ := hQ310
  have N310 := Fr.app N0 N310q
  obtain ⟨_, _, ⟨T311, L311, k311, n311⟩, -, X311, ⟨Lc311, hQ311, l311, y311, z311⟩, st311⟩ := Jvm.LawKit.callS X310 hx (y := (⟨"java/lang/String", "checkIndex", "(II)V"⟩ : MethodName)) hown (mvT hZ (w_93 hw)) (mvT hZ (w_58 hw)) (mvT hZ (w_9 hw)) (mvT hZ (w_59 hw)) (by decide) (backOf (W := 0) (rmCI2 l Z a0 hw G ST [] (0 : Int32) (4 : Int32) h0 n0 X00 (by first | assumption | decide) (by first | assumption | decide)) hZ (w_59 hw) (w_9 hw) (by decide) (by decide)) (g := (mkF m 5 #[xvi (0 : Int32), xvr xa1] [xwi (4 : Int32), xwi (0 : Int32)])) rfl (by rw [hml]; rfl) (argsL := [(.int (0 : Int32)), (.int (4 : Int32))]) (rest := []) (lenOf pd_9 rfl) rfl (by show 2 * 0 + _ ≤ _; exact Nat.le_of_eq rfl) (hb hby d21_5) (fun _ _ => ⟨rfl, e310, (by decide : 0 + 0 ≤ _), (by decide : 0 + 0 ≤ _)⟩)
  dsimp only [Pt.U, Pt.locs, Pt.cells, Pt.slots] at X311 l311 y311 z311 st311 hQ311
  subst l311 y311 z311
  obtain ⟨rfl, N311q, e311⟩ := hQ311
  have N311 := Fr.app N310 N311q
  obtain ⟨fs, hr, hrun, hended, hW, hsame⟩ := X311.leave (v := none) (fun _ => rfl)
  refine ⟨_, _, hTG _ (pre0 _ ?_), hrun, hended, _, _, rfl, ?_, ⟨_, rfl⟩, hW, hsame.mono (by decide) (by decide)⟩
  · refine y_iloadN X0 hx 1 (hb hby d21_0) rfl rfl ?_
    refine y_aloadN X0 hx 2 (hb hby d21_1) rfl rfl rfl ?_
    refine st310 _ ?_
    show Sx p e below T310 m 5 #[xvi (0 : Int32), xvr xa1] [xwi (4 : Int32), xwi (0 : Int32)] _
    refine st311 _ ?_
    show Sx p e below T311 m 8 #[xvi (0 : Int32), xvr xa1] [] _
    exact X311.returnOut hx Bd.returns (hb hby d21_8) hr
  · show QrmA9 Z G xa1 xk_xa1 xi1 xi2 xi3 xi4 xi5 xi6 xi7 xi8 h0 n0 _ T311.heap _
    rw [e311]
    exact ⟨rfl, N311, rfl⟩
theorem pd_11 : parseMethodDescriptor "(I[B)V" = some ⟨[.int, (.array .byte)], none⟩ := by decide +kernel
theorem d20_5 : decode jdk_52_method_83_code 5 = .ok (.aload_n 0, 1) := by decide +kernel
theorem d20_6 : decode jdk_52_method_83_code 6 = .ok (.iload_n 1, 1) := by decide +kernel
theorem d20_7 : decode jdk_52_method_83_code 7 = .ok (.invokestatic 71, 3) := by decide +kernel
theorem d20_10 : decode jdk_52_method_83_code 10 = .ok (.ireturn, 1) := by decide +kernel
def QrmUA0 (Z : State) (G : Gs) (tx : Addr) (kx : ClassId) (cc0 : Int32) (cc1 : Int32) (cc2 : Int32) (cc3 : Int32) (h0 : Heap) (n0 : Nat) (v : Option Value) (h : Heap) (L : List Loc) : Prop := v = some (.int cc0) ∧ Fr n0 L ∧ h = h0
set_option maxRecDepth 65536 in
set_option maxHeartbeats 40000000 in
theorem rmUA0 (l : Launch) (Z : State) (a0 : Array Value) (hw : HW a0 Z) (G : Gs) (ST : StartF Z G) (ws : List Jvm.Cond) (tx : Addr) (kx : ClassId) (cc0 : Int32) (cc1 : Int32) (cc2 : Int32) (cc3 : Int32) (h0 : Heap) (n0 : Nat) (X00 : Old Z n0 h0) (V1 : Arv Z h0 tx kx .byte (8 : Int32) [(.int ((cc0 >>> ((0 : Int32) &&& 31)).toInt8.toInt32)), (.int ((cc0 >>> ((8 : Int32) &&& 31)).toInt8.toInt32)), (.int ((cc1 >>> ((0 : Int32) &&& 31)).toInt8.toInt32)), (.int ((cc1 >>> ((8 : Int32) &&& 31)).toInt8.toInt32)), (.int ((cc2 >>> ((0 : Int32) &&& 31)).toInt8.toInt32)), (.int ((cc2 >>> ((8 : Int32) &&& 31)).toInt8.toInt32)), (.int ((cc3 >>> ((0 : Int32) &&& 31)).toInt8.toInt32)), (.int ((cc3 >>> ((8 : Int32) &&& 31)).toInt8.toInt32))] (.int (0 : Int32))) (hr_cc0 : own_c16 cc0) (hr_cc1 : own_c16 cc1) (hr_cc2 : own_c16 cc2) (hr_cc3 : own_c16 cc3) :
    MetFree l (⟨"java/lang/StringUTF16", "charAt", "([BI)C"⟩ : MethodName) (head1 (Jvm.Cond.code (⟨"java/lang/StringUTF16", "charAt", "([BI)C"⟩ : MethodName) jdk_52_method_83_code 2 (some .char) :: ws) ({ frames := 3, cells := 0, slots := 0, locals := 40 } : Room)) (fun a U => a = #[(.ref tx), (.int (0 : Int32))] ∧ Z.Warmed39 U.vm ∧ U.heap = h0) (fun _ _ _ _ _ => True) (fun _ U o U' => ∃ v L, o = .returned v ∧ QrmUA0 Z G tx kx cc0 cc1 cc2 cc3 h0 n0 v U'.heap L ∧ FrameEnd U o U' L ({ frames := 3, cells := 0, slots := 0, locals := 40 } : Room).cells ({ frames := 3, cells := 0, slots := 0, locals := 40 } : Room).slots) := by
  refine MetFree.of_bodySF (plainFor_of_name pn_0) hisR ?_
  intro p e s m args below meth c s₁ Bd hml0 hP hK
  obtain ⟨rfl, hZ, hh⟩ := hP
  have hx := Bd.exec
  have hby := Bd.bytes
  have hml : c.maxLocals = 2 := hml0
  have hown : s.vm.findClass "java/lang/StringUTF16" = some m.cls := findClass_of_methodNamed Bd.named
  have hnm := (name_of_methodNamed Bd.named Bd.method).1
  have X0 : Stand p l e ({ frames := 3, cells := 0, slots := 0, locals := 40 } : Room) s m #[(.ref tx), (.int (0 : Int32))] below meth c s₁ [] 0 0 := Stand.of_body Bd
  have e0 : s₁.heap = h0 := by rw [← hh, Bd.state]; rfl
  have N0 := Fr.nil n0
  have Z0 : n0 ≤ h0.size := by have q := X00.2.1; rw [X00.1] at q; exact q
  obtain ⟨TG, hTG, hT2⟩ : ∃ P : State → Prop, (∀ t, P t → Steps p.tables e below (s₁.setTop (entryFrame m #[(.ref tx), (.int (0 : Int32))] 2)) t) ∧ (∀ t, Steps p.tables e below (s₁.setTop (entryFrame m #[(.ref tx), (.int (0 : Int32))] 2)) t → P t) := ⟨_, fun t k => k, fun t k => k⟩
  have pre0 : ∀ t, Sx p e below s₁ m 0 #[xvr tx, xvi (0 : Int32)] [] t → TG t := fun t k => hT2 t (castTop (ef_rmUA0 m tx (0 : Int32) ) k)
  obtain ⟨_, _, ⟨T312, L312, k312, n312⟩, -, X312, ⟨Lc312, hQ312, l312, y312, z312⟩, st312⟩ := Jvm.LawKit.callS X0 hx (y := (⟨"java/lang/StringUTF16", "checkIndex", "(I[B)V"⟩ : MethodName)) hown (mvT hZ (w_87 hw)) (mvT hZ (w_88 hw)) (mvT hZ (w_23 hw)) (mvT hZ (w_89 hw)) (by decide) (backOf (W := 0) (rmA9 l Z a0 hw G ST [] tx kx ((cc0 >>> ((0 : Int32) &&& 31)).toInt8.toInt32) ((cc0 >>> ((8 : Int32) &&& 31)).toInt8.toInt32) ((cc1 >>> ((0 : Int32) &&& 31)).toInt8.toInt32) ((cc1 >>> ((8 : Int32) &&& 31)).toInt8.toInt32) ((cc2 >>> ((0 : Int32) &&& 31)).toInt8.toInt32) ((cc2 >>> ((8 : Int32) &&& 31)).toInt8.toInt32) ((cc3 >>> ((0 : Int32) &&& 31)).toInt8.toInt32) ((cc3 >>> ((8 : Int32) &&& 31)).toInt8.toInt32) h0 n0 X00 V1) hZ (w_89 hw) (w_23 hw) (by decide) (by decide)) (g := (mkF m 2 #[xvr tx, xvi (0 : Int32)] [xwr tx, xwi (0 : Int32)])) rfl (by rw [hml]; rfl) (argsL := [(.int (0 : Int32)), (.ref tx)]) (rest := []) (lenOf pd_11 rfl) rfl (by show 2 * 0 + _ ≤ _; exact Nat.le_of_eq rfl) (hb hby d20_2) (fun _ _ => ⟨rfl, e0, (by decide : 0 + 0 ≤ _), (by decide : 0 + 0 ≤ _)⟩)
  dsimp only [Pt.U, Pt.locs, Pt.cells, Pt.slots] at X312 l312 y312 z312 st312 hQ312
  subst l312 y312 z312
  obtain ⟨rfl, N312q, e312⟩ := hQ312
  have N312 := Fr.app N0 N312q
  obtain ⟨_, _, ⟨T313, L313, k313, n313⟩, -, X313, ⟨Lc313, hQ313, l313, y313, z313⟩, st313⟩ := Jvm.LawKit.callS X312 hx (y := (⟨"java/lang/StringUTF16", "getChar", "([BI)C"⟩ : MethodName)) hown (mvT hZ (w_81 hw)) (mvT hZ (w_82 hw)) (mvT hZ (w_23 hw)) (mvT hZ (w_83 hw)) (by decide) (backOf (W := 0) (rmGC0 l Z a0 hw G ST [] tx kx cc0 cc1 cc2 cc3 h0 n0 X00 V1 hr_cc0 hr_cc1 hr_cc2 hr_cc3) hZ (w_83 hw) (w_23 hw) (by decide) (by decide)) (g := (mkF m 7 #[xvr tx, xvi (0 : Int32)] [xwi (0 : Int32), xwr tx])) rfl (by rw [hml]; rfl) (argsL := [(.ref tx), (.int (0 : Int32))]) (rest := []) (lenOf pd_5 rfl) rfl (by show 2 * 0 + _ ≤ _; exact Nat.le_of_eq rfl) (hb hby d20_7) (fun _ _ => ⟨rfl, e312, (by decide : 0 + 0 ≤ _), (by decide : 0 + 0 ≤ _)⟩)
  dsimp only [Pt.U, Pt.locs, Pt.cells, Pt.slots] at X313 l313 y313 z313 st313 hQ313
  subst l313 y313 z313
  obtain ⟨rfl, N313q, e313⟩ := hQ313
  have N313 := Fr.app N312 N313q
  obtain ⟨fs, hr, hrun, hended, hW, hsame⟩ := X313.leave (v := some (.int cc0)) (fun h => by rw [Bd.returns] at h; cases h)
  refine ⟨_, _, hTG _ (pre0 _ ?_), hrun, hended, _, _, rfl, ?_, ⟨_, rfl⟩, hW, hsame.mono (by decide) (by decide)⟩
  · refine y_iloadN X0 hx 1 (hb hby d20_0) rfl rfl ?_
    refine y_aloadN X0 hx 2 (hb hby d20_1) rfl rfl rfl ?_
    refine st312 _ ?_
    show Sx p e below T312 m 5 #[xvr tx, xvi (0 : Int32)] [] _
    refine y_aloadN X312 hx 6 (hb hby d20_5) rfl rfl rfl ?_
    refine y_iloadN X312 hx 7 (hb hby d20_6) rfl rfl ?_
    refine st313 _ ?_
    show Sx p e below T313 m 10 #[xvr tx, xvi (0 : Int32)] [xwi cc0] _
    exact retN X313 hx (t := .char) Bd.returns (by simp) (hb hby d20_10) ((by rw [own_nar16 hr_cc0]; exact hr))
  · show QrmUA0 Z G tx kx cc0 cc1 cc2 cc3 h0 n0 _ T313.heap _
    rw [e313]
    exact ⟨rfl, N313, rfl⟩
theorem ef_rmCA0 (m : MethodId) (x0 : Addr) (x1 : Int32)  : entryFrame m #[(.ref x0), (.int x1)] 2 = mkF m 0 #[.val (.ref x0), .val (.int x1)] [] := by first | (simp [entryFrame, mkF, argsToLocals, Value.category]; done) | rfl
theorem d10_0 : decode jdk_42_method_56_code 0 = .ok (.aload_n 0, 1) := by decide +kernel
theorem d10_1 : decode jdk_42_method_56_code 1 = .ok (.invokevirtual 492, 3) := by decide +kernel
theorem pd_12 : parseMethodDescriptor "()Z" = some ⟨[], some .boolean⟩ := by decide +kernel
theorem d10_4 : decode jdk_42_method_56_code 4 = .ok (.ifCond .eq 12, 3) := by decide +kernel
theorem d10_7 : decode jdk_42_method_56_code 7 = .ok (.aload_n 0, 1) := by decide +kernel
theorem d10_8 : decode jdk_42_method_56_code 8 = .ok (.getfield 9, 3) := by decide +kernel
theorem d10_11 : decode jdk_42_method_56_code 11 = .ok (.iload_n 1, 1) := by decide +kernel
theorem d10_12 : decode jdk_42_method_56_code 12 = .ok (.invokestatic 495, 3) := by decide +kernel
theorem d10_15 : decode jdk_42_method_56_code 15 = .ok (.ireturn, 1) := by decide +kernel
theorem d10_16 : decode jdk_42_method_56_code 16 = .ok (.aload_n 0, 1) := by decide +kernel
theorem d10_17 : decode jdk_42_method_56_code 17 = .ok (.getfield 9, 3) := by decide +kernel
theorem d10_20 : decode jdk_42_method_56_code 20 = .ok (.iload_n 1, 1) := by decide +kernel
theorem d10_21 : decode jdk_42_method_56_code 21 = .ok (.invokestatic 498, 3) := by decide +kernel
theorem d10_24 : decode jdk_42_method_56_code 24 = .ok (.ireturn, 1) := by decide +kernel
def QrmCA0 (Z : State) (G : Gs) (ax : Addr) (cc0 : Int32) (cc1 : Int32) (cc2 : Int32) (cc3 : Int32) (h0 : Heap) (n0 : Nat) (v : Option Value) (h : Heap) (L : List Loc) : Prop := v = some (.int cc0) ∧ Fr n0 L ∧ h = h0
set_option maxRecDepth 65536 in
set_option maxHeartbeats 40000000 in
theorem rmCA0 (l : Launch) (Z : State) (a0 : Array Value) (hw : HW a0 Z) (G : Gs) (ST : StartF Z G) (ws : List Jvm.Cond) (ax : Addr) (cc0 : Int32) (cc1 : Int32) (cc2 : Int32) (cc3 : Int32) (h0 : Heap) (n0 : Nat) (X00 : Old Z n0 h0) (hS : own_S Z h0 ax cc0 cc1 cc2 cc3) (hr_cc0 : own_c16 cc0) (hr_cc1 : own_c16 cc1) (hr_cc2 : own_c16 cc2) (hr_cc3 : own_c16 cc3) :
    MetFree l (⟨"java/lang/String", "charAt", "(I)C"⟩ : MethodName) (head1 (Jvm.Cond.code (⟨"java/lang/String", "charAt", "(I)C"⟩ : MethodName) jdk_42_method_56_code 2 (some .char) :: ws) ({ frames := 4, cells := 0, slots := 0, locals := 53 } : Room)) (fun a U => a = #[(.ref ax), (.int (0 : Int32))] ∧ Z.Warmed39 U.vm ∧ U.heap = h0) (fun _ _ _ _ _ => True) (fun _ U o U' => ∃ v L, o = .returned v ∧ QrmCA0 Z G ax cc0 cc1 cc2 cc3 h0 n0 v U'.heap L ∧ FrameEnd U o U' L ({ frames := 4, cells := 0, slots := 0, locals := 53 } : Room).cells ({ frames := 4, cells := 0, slots := 0, locals := 53 } : Room).slots) := by
  refine MetFree.of_bodySF (plainFor_of_name pn_1) hisR ?_
  intro p e s m args below meth c s₁ Bd hml0 hP hK
  obtain ⟨rfl, hZ, hh⟩ := hP
  have hx := Bd.exec
  have hby := Bd.bytes
  have hml : c.maxLocals = 2 := hml0
  have hown : s.vm.findClass "java/lang/String" = some m.cls := findClass_of_methodNamed Bd.named
  have hnm := (name_of_methodNamed Bd.named Bd.method).1
  have X0 : Stand p l e ({ frames := 4, cells := 0, slots := 0, locals := 53 } : Room) s m #[(.ref ax), (.int (0 : Int32))] below meth c s₁ [] 0 0 := Stand.of_body Bd
  have e0 : s₁.heap = h0 := by rw [← hh, Bd.state]; rfl
  have N0 := Fr.nil n0
  have Z0 : n0 ≤ h0.size := by have q := X00.2.1; rw [X00.1] at q; exact q
  obtain ⟨TG, hTG, hT2⟩ : ∃ P : State → Prop, (∀ t, P t → Steps p.tables e below (s₁.setTop (entryFrame m #[(.ref ax), (.int (0 : Int32))] 2)) t) ∧ (∀ t, Steps p.tables e below (s₁.setTop (entryFrame m #[(.ref ax), (.int (0 : Int32))] 2)) t → P t) := ⟨_, fun t k => k, fun t k => k⟩
  have pre0 : ∀ t, Sx p e below s₁ m 0 #[xvr ax, xvi (0 : Int32)] [] t → TG t := fun t k => hT2 t (castTop (ef_rmCA0 m ax (0 : Int32) ) k)
  obtain ⟨tt, kk, Eo, Fvo, (⟨Fco, Vo, hle⟩ | ⟨Fco, Vo⟩)⟩ := hS
  · obtain ⟨cq315, kq315, q315a, q315b, q315c⟩ := isOf hZ e0 Eo
    obtain ⟨_, _, ⟨T314, L314, k314, n314⟩, -, X314, ⟨Lc314, hQ314, l314, y314, z314⟩, st314⟩ := X0.virtualBack hx (y := (⟨"java/lang/String", "isLatin1", "()Z"⟩ : MethodName)) (z := (⟨"java/lang/String", "isLatin1", "()Z"⟩ : MethodName)) hown (mvT hZ (w_48 hw)) (mvT hZ (w_49 hw)) (notFace_of_selects (args := #[]) (mvT hZ (w_51 hw))) (mvT hZ (w_51 hw)) (mvT hZ (w_50 hw)) (by decide) (backOf (W := 0) (rmLt0 l Z a0 hw G ST [] ax h0 n0 X00 Fco) hZ (w_52 hw) (w_9 hw) (by decide) (by decide)) q315a q315c (g := (mkF m 1 #[xvr ax, xvi (0 : Int32)] [xwr ax])) rfl (by rw [hml]; rfl) (Steps.refl _) (argsL := []) (rest := []) (lenOf pd_12 rfl) rfl (by show 2 * 0 + _ ≤ _; exact Nat.le_of_eq rfl) (hb hby d10_1) (fun _ _ => ⟨rfl, e0, (by decide : 0 + 0 ≤ _), (by decide : 0 + 0 ≤ _)⟩)
    dsimp only [Pt.U, Pt.locs, Pt.cells, Pt.slots] at X314 l314 y314 z314 st314 hQ314
    subst l314 y314 z314
    obtain ⟨rfl, N314q, e314⟩ := hQ314
    have N314 := Fr.app N0 N314q
    obtain ⟨T316, X316, e316, st316⟩ := getF X314 hx hZ hown (host := "") (Or.inl (w_34 hw)) Via.refl e314 Fvo (g := (mkF m 8 #[xvr ax, xvi (0 : Int32)] [xwr ax])) rfl rfl (hb hby d10_8)
    obtain ⟨_, _, ⟨T317, L317, k317, n317⟩, -, X317, ⟨Lc317, hQ317, l317, y317, z317⟩, st317⟩ := Jvm.LawKit.callS X316 hx (y := (⟨"java/lang/StringLatin1", "charAt", "([BI)C"⟩ : MethodName)) hown (mvT hZ (w_53 hw)) (mvT hZ (w_54 hw)) (mvT hZ (w_55 hw)) (mvT hZ (w_56 hw)) (by decide) (backOf (W := 0) (rmLA0 l Z a0 hw G ST [] tt kk cc0 cc1 cc2 cc3 h0 n0 X00 Vo hr_cc0 hr_cc1 hr_cc2 hr_cc3 hle.1 hle.2.1 hle.2.2.1 hle.2.2.2) hZ (w_56 hw) (w_55 hw) (by decide) (by decide)) (g := (mkF m 12 #[xvr ax, xvi (0 : Int32)] [xwi (0 : Int32), xwr tt])) rfl (by rw [hml]; rfl) (argsL := [(.ref tt), (.int (0 : Int32))]) (rest := []) (lenOf pd_5 rfl) rfl (by show 2 * 0 + _ ≤ _; exact Nat.le_of_eq rfl) (hb hby d10_12) (fun _ _ => ⟨rfl, e316, (by decide : 0 + 0 ≤ _), (by decide : 0 + 0 ≤ _)⟩)
    dsimp only [Pt.U, Pt.locs, Pt.cells, Pt.slots] at X317 l317 y317 z317 st317 hQ317
    subst l317 y317 z317
    obtain ⟨rfl, N317q, e317⟩ := hQ317
    have N317 := Fr.app N314 N317q
    obtain ⟨fs, hr, hrun, hended, hW, hsame⟩ := X317.leave (v := some (.int cc0)) (fun h => by rw [Bd.returns] at h; cases h)
    refine ⟨_, _, hTG _ (pre0 _ ?_), hrun, hended, _, _, rfl, ?_, ⟨_, rfl⟩, hW, hsame.mono (by decide) (by decide)⟩
    · refine y_aloadN X0 hx 1 (hb hby d10_0) rfl rfl rfl ?_
      refine st314.trans ?_
      show Sx p e below T314 m 4 #[xvr ax, xvi (0 : Int32)] [xwi (1 : Int32)] _
      refine y_ifNo X314 hx 7 (hb hby d10_4) (XT.i0_eq_f (by decide)) rfl ?_
      refine y_aloadN X314 hx 8 (hb hby d10_7) rfl rfl rfl ?_
      refine st316 _ ?_
      show Sx p e below T316 m 11 #[xvr ax, xvi (0 : Int32)] [xwr tt] _
      refine y_iloadN X316 hx 12 (hb hby d10_11) rfl rfl ?_
      refine st317 _ ?_
      show Sx p e below T317 m 15 #[xvr ax, xvi (0 : Int32)] [xwi cc0] _
      exact retN X317 hx (t := .char) Bd.returns (by simp) (hb hby d10_15) ((by rw [own_nar16 hr_cc0]; exact hr))
    · show QrmCA0 Z G ax cc0 cc1 cc2 cc3 h0 n0 _ T317.heap _
      rw [e317]
      exact ⟨rfl, N317, rfl⟩
  · obtain ⟨cq319, kq319, q319a, q319b, q319c⟩ := isOf hZ e0 Eo
    obtain ⟨_, _, ⟨T318, L318, k318, n318⟩, -, X318, ⟨Lc318, hQ318, l318, y318, z318⟩, st318⟩ := X0.virtualBack hx (y := (⟨"java/lang/String", "isLatin1", "()Z"⟩ : MethodName)) (z := (⟨"java/lang/String", "isLatin1", "()Z"⟩ : MethodName)) hown (mvT hZ (w_48 hw)) (mvT hZ (w_49 hw)) (notFace_of_selects (args := #[]) (mvT hZ (w_51 hw))) (mvT hZ (w_51 hw)) (mvT hZ (w_50 hw)) (by decide) (backOf (W := 0) (rmLt1 l Z a0 hw G ST [] ax h0 n0 X00 Fco) hZ (w_52 hw) (w_9 hw) (by decide) (by decide)) q319a q319c (g := (mkF m 1 #[xvr ax, xvi (0 : Int32)] [xwr ax])) rfl (by rw [hml]; rfl) (Steps.refl _) (argsL := []) (rest := []) (lenOf pd_12 rfl) rfl (by show 2 * 0 + _ ≤ _; exact Nat.le_of_eq rfl) (hb hby d10_1) (fun _ _ => ⟨rfl, e0, (by decide : 0 + 0 ≤ _), (by decide : 0 + 0 ≤ _)⟩)
    dsimp only [Pt.U, Pt.locs, Pt.cells, Pt.slots] at X318 l318 y318 z318 st318 hQ318
    subst l318 y318 z318
    obtain ⟨rfl, N318q, e318⟩ := hQ318
    have N318 := Fr.app N0 N318q
    obtain ⟨T320, X320, e320, st320⟩ := getF X318 hx hZ hown (host := "") (Or.inl (w_34 hw)) Via.refl e318 Fvo (g := (mkF m 17 #[xvr ax, xvi (0 : Int32)] [xwr ax])) rfl rfl (hb hby d10_17)
    obtain ⟨_, _, ⟨T321, L321, k321, n321⟩, -, X321, ⟨Lc321, hQ321, l321, y321, z321⟩, st321⟩ := Jvm.LawKit.callS X320 hx (y := (⟨"java/lang/StringUTF16", "charAt", "([BI)C"⟩ : MethodName)) hown (mvT hZ (w_84 hw)) (mvT hZ (w_85 hw)) (mvT hZ (w_23 hw)) (mvT hZ (w_86 hw)) (by decide) (backOf (W := 0) (rmUA0 l Z a0 hw G ST [] tt kk cc0 cc1 cc2 cc3 h0 n0 X00 Vo hr_cc0 hr_cc1 hr_cc2 hr_cc3) hZ (w_86 hw) (w_23 hw) (by decide) (by decide)) (g := (mkF m 21 #[xvr ax, xvi (0 : Int32)] [xwi (0 : Int32), xwr tt])) rfl (by rw [hml]; rfl) (argsL := [(.ref tt), (.int (0 : Int32))]) (rest := []) (lenOf pd_5 rfl) rfl (by show 2 * 0 + _ ≤ _; exact Nat.le_of_eq rfl) (hb hby d10_21) (fun _ _ => ⟨rfl, e320, (by decide : 0 + 0 ≤ _), (by decide : 0 + 0 ≤ _)⟩)
    dsimp only [Pt.U, Pt.locs, Pt.cells, Pt.slots] at X321 l321 y321 z321 st321 hQ321
    subst l321 y321 z321
    obtain ⟨rfl, N321q, e321⟩ := hQ321
    have N321 := Fr.app N318 N321q
    obtain ⟨fs, hr, hrun, hended, hW, hsame⟩ := X321.leave (v := some (.int cc0)) (fun h => by rw [Bd.returns] at h; cases h)
    refine ⟨_, _, hTG _ (pre0 _ ?_), hrun, hended, _, _, rfl, ?_, ⟨_, rfl⟩, hW, hsame.mono (by decide) (by decide)⟩
    · refine y_aloadN X0 hx 1 (hb hby d10_0) rfl rfl rfl ?_
      refine st318.trans ?_
      show Sx p e below T318 m 4 #[xvr ax, xvi (0 : Int32)] [xwi (0 : Int32)] _
      refine y_ifYes X318 hx 16 (hb hby d10_4) (XT.i0_eq_t (by decide)) (by decide) (by decide) ?_
      refine y_aloadN X318 hx 17 (hb hby d10_16) rfl rfl rfl ?_
      refine st320 _ ?_
      show Sx p e below T320 m 20 #[xvr ax, xvi (0 : Int32)] [xwr tt] _
      refine y_iloadN X320 hx 21 (hb hby d10_20) rfl rfl ?_
      refine st321 _ ?_
      show Sx p e below T321 m 24 #[xvr ax, xvi (0 : Int32)] [xwi cc0] _
      exact retN X321 hx (t := .char) Bd.returns (by simp) (hb hby d10_24) ((by rw [own_nar16 hr_cc0]; exact hr))
    · show QrmCA0 Z G ax cc0 cc1 cc2 cc3 h0 n0 _ T321.heap _
      rw [e321]
      exact ⟨rfl, N321, rfl⟩
theorem ef_rmLA1 (m : MethodId) (x0 : Addr) (x1 : Int32)  : entryFrame m #[(.ref x0), (.int x1)] 2 = mkF m 0 #[.val (.ref x0), .val (.int x1)] [] := by first | (simp [entryFrame, mkF, argsToLocals, Value.category]; done) | rfl
def QrmLA1 (Z : State) (G : Gs) (tx : Addr) (kx : ClassId) (cc0 : Int32) (cc1 : Int32) (cc2 : Int32) (cc3 : Int32) (h0 : Heap) (n0 : Nat) (v : Option Value) (h : Heap) (L : List Loc) : Prop := v = some (.int cc1) ∧ Fr n0 L ∧ h = h0
set_option maxRecDepth 65536 in
set_option maxHeartbeats 40000000 in
theorem rmLA1 (l : Launch) (Z : State) (a0 : Array Value) (hw : HW a0 Z) (G : Gs) (ST : StartF Z G) (ws : List Jvm.Cond) (tx : Addr) (kx : ClassId) (cc0 : Int32) (cc1 : Int32) (cc2 : Int32) (cc3 : Int32) (h0 : Heap) (n0 : Nat) (X00 : Old Z n0 h0) (V1 : Arv Z h0 tx kx .byte (4 : Int32) [(.int (cc0.toInt8.toInt32)), (.int (cc1.toInt8.toInt32)), (.int (cc2.toInt8.toInt32)), (.int (cc3.toInt8.toInt32))] (.int (0 : Int32))) (hr_cc0 : own_c16 cc0) (hr_cc1 : own_c16 cc1) (hr_cc2 : own_c16 cc2) (hr_cc3 : own_c16 cc3) (hl_cc0 : ¬ (255 : Int32) < cc0) (hl_cc1 : ¬ (255 : Int32) < cc1) (hl_cc2 : ¬ (255 : Int32) < cc2) (hl_cc3 : ¬ (255 : Int32) < cc3) :
    MetFree l (⟨"java/lang/StringLatin1", "charAt", "([BI)C"⟩ : MethodName) (head1 (Jvm.Cond.code (⟨"java/lang/StringLatin1", "charAt", "([BI)C"⟩ : MethodName) jdk_43_method_2_code 2 (some .char) :: ws) ({ frames := 2, cells := 0, slots := 0, locals := 27 } : Room)) (fun a U => a = #[(.ref tx), (.int (1 : Int32))] ∧ Z.Warmed39 U.vm ∧ U.heap = h0) (fun _ _ _ _ _ => True) (fun _ U o U' => ∃ v L, o = .returned v ∧ QrmLA1 Z G tx kx cc0 cc1 cc2 cc3 h0 n0 v U'.heap L ∧ FrameEnd U o U' L ({ frames := 2, cells := 0, slots := 0, locals := 27 } : Room).cells ({ frames := 2, cells := 0, slots := 0, locals := 27 } : Room).slots) := by
  refine MetFree.of_bodySF (plainFor_of_name pn_4) hisR ?_
  intro p e s m args below meth c s₁ Bd hml0 hP hK
  obtain ⟨rfl, hZ, hh⟩ := hP
  have hx := Bd.exec
  have hby := Bd.bytes
  have hml : c.maxLocals = 2 := hml0
  have hown : s.vm.findClass "java/lang/StringLatin1" = some m.cls := findClass_of_methodNamed Bd.named
  have hnm := (name_of_methodNamed Bd.named Bd.method).1
  have X0 : Stand p l e ({ frames := 2, cells := 0, slots := 0, locals := 27 } : Room) s m #[(.ref tx), (.int (1 : Int32))] below meth c s₁ [] 0 0 := Stand.of_body Bd
  have e0 : s₁.heap = h0 := by rw [← hh, Bd.state]; rfl
  have N0 := Fr.nil n0
  have Z0 : n0 ≤ h0.size := by have q := X00.2.1; rw [X00.1] at q; exact q
  obtain ⟨TG, hTG, hT2⟩ : ∃ P : State → Prop, (∀ t, P t → Steps p.tables e below (s₁.setTop (entryFrame m #[(.ref tx), (.int (1 : Int32))] 2)) t) ∧ (∀ t, Steps p.tables e below (s₁.setTop (entryFrame m #[(.ref tx), (.int (1 : Int32))] 2)) t → P t) := ⟨_, fun t k => k, fun t k => k⟩
  have pre0 : ∀ t, Sx p e below s₁ m 0 #[xvr tx, xvi (1 : Int32)] [] t → TG t := fun t k => hT2 t (castTop (ef_rmLA1 m tx (1 : Int32) ) k)
  obtain ⟨cl322, Ar322, q322, S322, M322, H322, G322⟩ := id V1
  obtain ⟨_, _, ⟨T323, L323, k323, n323⟩, -, X323, ⟨Lc323, hQ323, l323, y323, z323⟩, st323⟩ := Jvm.LawKit.callS X0 hx (y := (⟨"java/lang/String", "checkIndex", "(II)V"⟩ : MethodName)) hown (mvT hZ (w_57 hw)) (mvT hZ (w_58 hw)) (mvT hZ (w_9 hw)) (mvT hZ (w_59 hw)) (by decide) (backOf (W := 0) (rmCI2 l Z a0 hw G ST [] (1 : Int32) (4 : Int32) h0 n0 X00 (by first | assumption | decide) (by first | assumption | decide)) hZ (w_59 hw) (w_9 hw) (by decide) (by decide)) (g := (mkF m 3 #[xvr tx, xvi (1 : Int32)] [xwi (4 : Int32), xwi (1 : Int32)])) rfl (by rw [hml]; rfl) (argsL := [(.int (1 : Int32)), (.int (4 : Int32))]) (rest := []) (lenOf pd_9 rfl) rfl (by show 2 * 0 + _ ≤ _; exact Nat.le_of_eq rfl) (hb hby d12_3) (fun _ _ => ⟨rfl, e0, (by decide : 0 + 0 ≤ _), (by decide : 0 + 0 ≤ _)⟩)
  dsimp only [Pt.U, Pt.locs, Pt.cells, Pt.slots] at X323 l323 y323 z323 st323 hQ323
  subst l323 y323 z323
  obtain ⟨rfl, N323q, e323⟩ := hQ323
  have N323 := Fr.app N0 N323q
  obtain ⟨cl324, Ar324, q324, S324, M324, H324, G324⟩ := id V1
  have in324 : ¬ ((1 : Int32) < 0 ∨ cl324.slots.size ≤ ((1 : Int32)).toNatClampNeg) := inb_of S324 ⟨by decide, by decide⟩
  obtain ⟨fs, hr, hrun, hended, hW, hsame⟩ := X323.leave (v := some (.int cc1)) (fun h => by rw [Bd.returns] at h; cases h)
  refine ⟨_, _, hTG _ (pre0 _ ?_), hrun, hended, _, _, rfl, ?_, ⟨_, rfl⟩, hW, hsame.mono (by decide) (by decide)⟩
  · refine y_iloadN X0 hx 1 (hb hby d12_0) rfl rfl ?_
    refine y_aloadN X0 hx 2 (hb hby d12_1) rfl rfl rfl ?_
    refine X0.arraylength hx (by rw [e0]; exact Ar322.1) (State.isArrayOf_alike hZ.alike Ar322.2.1) (g := (mkF m 2 #[xvr tx, xvi (1 : Int32)] [xwr tx, xwi (1 : Int32)])) rfl rfl (hb hby d12_2) _ ?_
    rw [len_of S322 M322]
    show Sx p e below s₁ m 3 #[xvr tx, xvi (1 : Int32)] [xwi (4 : Int32), xwi (1 : Int32)] _
    refine st323 _ ?_
    show Sx p e below T323 m 6 #[xvr tx, xvi (1 : Int32)] [] _
    refine y_aloadN X323 hx 7 (hb hby d12_6) rfl rfl rfl ?_
    refine y_iloadN X323 hx 8 (hb hby d12_7) rfl rfl ?_
    refine X323.baloadBytes hx (j := (1 : Int32)) (v := (.int (cc1.toInt8.toInt32))) (by rw [e323]; exact Ar324.1) (State.isArrayOf_alike hZ.alike Ar324.2.1) Ar324.2.2 in324 (Has.at H324 in324 rfl) (g := (mkF m 8 #[xvr tx, xvi (1 : Int32)] [xwi (1 : Int32), xwr tx])) rfl rfl (hb hby d12_8) _ ?_
    show Sx p e below T323 m 9 #[xvr tx, xvi (1 : Int32)] [xwi (cc1.toInt8.toInt32)] _
    refine y_sipush X323 hx (255 : Int32) 12 (hb hby d12_9) rfl rfl ?_
    refine y_iand X323 hx 13 (hb hby d12_12) rfl ?_
    rw [own_b8 ⟨hr_cc1.1, hl_cc1⟩]
    refine XS.i2c X323.here hx rfl (hb hby d12_13) rfl ?_
    show Sx p e below T323 m 14 #[xvr tx, xvi (1 : Int32)] [xwi (cc1.toUInt32.toUInt16.toUInt32.toInt32)] _
    rw [own_i16 hr_cc1]
    show Sx p e below T323 m 14 #[xvr tx, xvi (1 : Int32)] [xwi cc1] _
    exact retN X323 hx (t := .char) Bd.returns (by simp) (hb hby d12_14) ((by rw [own_nar16 hr_cc1]; exact hr))
  · show QrmLA1 Z G tx kx cc0 cc1 cc2 cc3 h0 n0 _ T323.heap _
    rw [e323]
    exact ⟨rfl, N323, rfl⟩
theorem ef_rmUA1 (m : MethodId) (x0 : Addr) (x1 : Int32)  : entryFrame m #[(.ref x0), (.int x1)] 2 = mkF m 0 #[.val (.ref x0), .val (.int x1)] [] := by first | (simp [entryFrame, mkF, argsToLocals, Value.category]; done) | rfl
theorem ef_rmA11 (m : MethodId) (x0 : Int32) (x1 : Addr)  : entryFrame m #[(.int x0), (.ref x1)] 2 = mkF m 0 #[.val (.int x0), .val (.ref x1)] [] := by first | (simp [entryFrame, mkF, argsToLocals, Value.category]; done) | rfl
def QrmA11 (Z : State) (G : Gs) (xa1 : Addr) (xk_xa1 : ClassId) (xi1 : Int32) (xi2 : Int32) (xi3 : Int32) (xi4 : Int32) (xi5 : Int32) (xi6 : Int32) (xi7 : Int32) (xi8 : Int32) (h0 : Heap) (n0 : Nat) (v : Option Value) (h : Heap) (L : List Loc) : Prop := v = none ∧ Fr n0 L ∧ h = h0
set_option maxRecDepth 65536 in
set_option maxHeartbeats 40000000 in
theorem rmA11 (l : Launch) (Z : State) (a0 : Array Value) (hw : HW a0 Z) (G : Gs) (ST : StartF Z G) (ws : List Jvm.Cond) (xa1 : Addr) (xk_xa1 : ClassId) (xi1 : Int32) (xi2 : Int32) (xi3 : Int32) (xi4 : Int32) (xi5 : Int32) (xi6 : Int32) (xi7 : Int32) (xi8 : Int32) (h0 : Heap) (n0 : Nat) (X00 : Old Z n0 h0) (xV_xa1 : Arv Z h0 xa1 xk_xa1 .byte (8 : Int32) [(.int xi1), (.int xi2), (.int xi3), (.int xi4), (.int xi5), (.int xi6), (.int xi7), (.int xi8)] (.int (0 : Int32))) :
    MetFree l (⟨"java/lang/StringUTF16", "checkIndex", "(I[B)V"⟩ : MethodName) (head1 (Jvm.Cond.code (⟨"java/lang/StringUTF16", "checkIndex", "(I[B)V"⟩ : MethodName) jdk_52_method_91_code 2 none :: ws) ({ frames := 2, cells := 0, slots := 0, locals := 27 } : Room)) (fun a U => a = #[(.int (1 : Int32)), (.ref xa1)] ∧ Z.Warmed39 U.vm ∧ U.heap = h0) (fun _ _ _ _ _ => True) (fun _ U o U' => ∃ v L, o = .returned v ∧ QrmA11 Z G xa1 xk_xa1 xi1 xi2 xi3 xi4 xi5 xi6 xi7 xi8 h0 n0 v U'.heap L ∧ FrameEnd U o U' L ({ frames := 2, cells := 0, slots := 0, locals := 27 } : Room).cells ({ frames := 2, cells := 0, slots := 0, locals := 27 } : Room).slots) := by
  refine MetFree.of_bodySF (plainFor_of_name pn_0) hisR ?_
  intro p e s m args below meth c s₁ Bd hml0 hP hK
  obtain ⟨rfl, hZ, hh⟩ := hP
  have hx := Bd.exec
  have hby := Bd.bytes
  have hml : c.maxLocals = 2 := hml0
  have hown : s.vm.findClass "java/lang/StringUTF16" = some m.cls := findClass_of_methodNamed Bd.named
  have hnm := (name_of_methodNamed Bd.named Bd.method).1
  have X0 : Stand p l e ({ frames := 2, cells := 0, slots := 0, locals := 27 } : Room) s m #[(.int (1 : Int32)), (.ref xa1)] below meth c s₁ [] 0 0 := Stand.of_body Bd
  have e0 : s₁.heap = h0 := by rw [← hh, Bd.state]; rfl
  have N0 := Fr.nil n0
  have Z0 : n0 ≤ h0.size := by have q := X00.2.1; rw [X00.1] at q; exact q
  obtain ⟨TG, hTG, hT2⟩ : ∃ P : State → Prop, (∀ t, P t → Steps p.tables e below (s₁.setTop (entryFrame m #[(.int (1 : Int32)), (.ref xa1)] 2)) t) ∧ (∀ t, Steps p.tables e below (s₁.setTop (entryFrame m #[(.int (1 : Int32)), (.ref xa1)] 2)) t → P t) := ⟨_, fun t k => k, fun t k => k⟩
  have pre0 : ∀ t, Sx p e below s₁ m 0 #[xvi (1 : Int32), xvr xa1] [] t → TG t := fun t k => hT2 t (castTop (ef_rmA11 m (1 : Int32) xa1 ) k)
  obtain ⟨_, _, ⟨T325, L325, k325, n325⟩, -, X325, ⟨Lc325, hQ325, l325, y325, z325⟩, st325⟩ := Jvm.LawKit.callS X0 hx (y := (⟨"java/lang/StringUTF16", "length", "([B)I"⟩ : MethodName)) hown (mvT hZ (w_90 hw)) (mvT hZ (w_91 hw)) (mvT hZ (w_23 hw)) (mvT hZ (w_92 hw)) (by decide) (backOf (W := 1) (rmA10 l Z a0 hw G ST [] xa1 xk_xa1 xi1 xi2 xi3 xi4 xi5 xi6 xi7 xi8 h0 n0 X00 xV_xa1) hZ (w_92 hw) (w_23 hw) (by decide) (by decide)) (g := (mkF m 2 #[xvi (1 : Int32), xvr xa1] [xwr xa1, xwi (1 : Int32)])) rfl (by rw [hml]; rfl) (argsL := [(.ref xa1)]) (rest := [(.int (1 : Int32))]) (lenOf pd_10 rfl) rfl (by show 2 * 0 + _ ≤ _; exact Nat.le_of_eq rfl) (hb hby d21_2) (fun _ _ => ⟨rfl, e0, (by decide : 0 + 0 ≤ _), (by decide : 0 + 0 ≤ _)⟩)
  dsimp only [Pt.U, Pt.locs, Pt.cells, Pt.slots] at X325 l325 y325 z325 st325 hQ325
  subst l325 y325 z325
  obtain ⟨rfl, N325q, e325⟩ := hQ325
  have N325 := Fr.app N0 N325q
  obtain ⟨_, _, ⟨T326, L326, k326, n326⟩, -, X326, ⟨Lc326, hQ326, l326, y326, z326⟩, st326⟩ := Jvm.LawKit.callS X325 hx (y := (⟨"java/lang/String", "checkIndex", "(II)V"⟩ : MethodName)) hown (mvT hZ (w_93 hw)) (mvT hZ (w_58 hw)) (mvT hZ (w_9 hw)) (mvT hZ (w_59 hw)) (by decide) (backOf (W := 0) (rmCI2 l Z a0 hw G ST [] (1 : Int32) (4 : Int32) h0 n0 X00 (by first | assumption | decide) (by first | assumption | decide)) hZ (w_59 hw) (w_9 hw) (by decide) (by decide)) (g := (mkF m 5 #[xvi (1 : Int32), xvr xa1] [xwi (4 : Int32), xwi (1 : Int32)])) rfl (by rw [hml]; rfl) (argsL := [(.int (1 : Int32)), (.int (4 : Int32))]) (rest := []) (lenOf pd_9 rfl) rfl (by show 2 * 0 + _ ≤ _; exact Nat.le_of_eq rfl) (hb hby d21_5) (fun _ _ => ⟨rfl, e325, (by decide : 0 + 0 ≤ _), (by decide : 0 + 0 ≤ _)⟩)
  dsimp only [Pt.U, Pt.locs, Pt.cells, Pt.slots] at X326 l326 y326 z326 st326 hQ326
  subst l326 y326 z326
  obtain ⟨rfl, N326q, e326⟩ := hQ326
  have N326 := Fr.app N325 N326q
  obtain ⟨fs, hr, hrun, hended, hW, hsame⟩ := X326.leave (v := none) (fun _ => rfl)
  refine ⟨_, _, hTG _ (pre0 _ ?_), hrun, hended, _, _, rfl, ?_, ⟨_, rfl⟩, hW, hsame.mono (by decide) (by decide)⟩
  · refine y_iloadN X0 hx 1 (hb hby d21_0) rfl rfl ?_
    refine y_aloadN X0 hx 2 (hb hby d21_1) rfl rfl rfl ?_
    refine st325 _ ?_
    show Sx p e below T325 m 5 #[xvi (1 : Int32), xvr xa1] [xwi (4 : Int32), xwi (1 : Int32)] _
    refine st326 _ ?_
    show Sx p e below T326 m 8 #[xvi (1 : Int32), xvr xa1] [] _
    exact X326.returnOut hx Bd.returns (hb hby d21_8) hr
  · show QrmA11 Z G xa1 xk_xa1 xi1 xi2 xi3 xi4 xi5 xi6 xi7 xi8 h0 n0 _ T326.heap _
    rw [e326]
    exact ⟨rfl, N326, rfl⟩
def QrmUA1 (Z : State) (G : Gs) (tx : Addr) (kx : ClassId) (cc0 : Int32) (cc1 : Int32) (cc2 : Int32) (cc3 : Int32) (h0 : Heap) (n0 : Nat) (v : Option Value) (h : Heap) (L : List Loc) : Prop := v = some (.int cc1) ∧ Fr n0 L ∧ h = h0
set_option maxRecDepth 65536 in
set_option maxHeartbeats 40000000 in
theorem rmUA1 (l : Launch) (Z : State) (a0 : Array Value) (hw : HW a0 Z) (G : Gs) (ST : StartF Z G) (ws : List Jvm.Cond) (tx : Addr) (kx : ClassId) (cc0 : Int32) (cc1 : Int32) (cc2 : Int32) (cc3 : Int32) (h0 : Heap) (n0 : Nat) (X00 : Old Z n0 h0) (V1 : Arv Z h0 tx kx .byte (8 : Int32) [(.int ((cc0 >>> ((0 : Int32) &&& 31)).toInt8.toInt32)), (.int ((cc0 >>> ((8 : Int32) &&& 31)).toInt8.toInt32)), (.int ((cc1 >>> ((0 : Int32) &&& 31)).toInt8.toInt32)), (.int ((cc1 >>> ((8 : Int32) &&& 31)).toInt8.toInt32)), (.int ((cc2 >>> ((0 : Int32) &&& 31)).toInt8.toInt32)), (.int ((cc2 >>> ((8 : Int32) &&& 31)).toInt8.toInt32)), (.int ((cc3 >>> ((0 : Int32) &&& 31)).toInt8.toInt32)), (.int ((cc3 >>> ((8 : Int32) &&& 31)).toInt8.toInt32))] (.int (0 : Int32))) (hr_cc0 : own_c16 cc0) (hr_cc1 : own_c16 cc1) (hr_cc2 : own_c16 cc2) (hr_cc3 : own_c16 cc3) :
    MetFree l (⟨"java/lang/StringUTF16", "charAt", "([BI)C"⟩ : MethodName) (head1 (Jvm.Cond.code (⟨"java/lang/StringUTF16", "charAt", "([BI)C"⟩ : MethodName) jdk_52_method_83_code 2 (some .char) :: ws) ({ frames := 3, cells := 0, slots := 0, locals := 40 } : Room)) (fun a U => a = #[(.ref tx), (.int (1 : Int32))] ∧ Z.Warmed39 U.vm ∧ U.heap = h0) (fun _ _ _ _ _ => True) (fun _ U o U' => ∃ v L, o = .returned v ∧ QrmUA1 Z G tx kx cc0 cc1 cc2 cc3 h0 n0 v U'.heap L ∧ FrameEnd U o U' L ({ frames := 3, cells := 0, slots := 0, locals := 40 } : Room).cells ({ frames := 3, cells := 0, slots := 0, locals := 40 } : Room).slots) := by
  refine MetFree.of_bodySF (plainFor_of_name pn_0) hisR ?_
  intro p e s m args below meth c s₁ Bd hml0 hP hK
  obtain ⟨rfl, hZ, hh⟩ := hP
  have hx := Bd.exec
  have hby := Bd.bytes
  have hml : c.maxLocals = 2 := hml0
  have hown : s.vm.findClass "java/lang/StringUTF16" = some m.cls := findClass_of_methodNamed Bd.named
  have hnm := (name_of_methodNamed Bd.named Bd.method).1
  have X0 : Stand p l e ({ frames := 3, cells := 0, slots := 0, locals := 40 } : Room) s m #[(.ref tx), (.int (1 : Int32))] below meth c s₁ [] 0 0 := Stand.of_body Bd
  have e0 : s₁.heap = h0 := by rw [← hh, Bd.state]; rfl
  have N0 := Fr.nil n0
  have Z0 : n0 ≤ h0.size := by have q := X00.2.1; rw [X00.1] at q; exact q
  obtain ⟨TG, hTG, hT2⟩ : ∃ P : State → Prop, (∀ t, P t → Steps p.tables e below (s₁.setTop (entryFrame m #[(.ref tx), (.int (1 : Int32))] 2)) t) ∧ (∀ t, Steps p.tables e below (s₁.setTop (entryFrame m #[(.ref tx), (.int (1 : Int32))] 2)) t → P t) := ⟨_, fun t k => k, fun t k => k⟩
  have pre0 : ∀ t, Sx p e below s₁ m 0 #[xvr tx, xvi (1 : Int32)] [] t → TG t := fun t k => hT2 t (castTop (ef_rmUA1 m tx (1 : Int32) ) k)
  obtain ⟨_, _, ⟨T327, L327, k327, n327⟩, -, X327, ⟨Lc327, hQ327, l327, y327, z327⟩, st327⟩ := Jvm.LawKit.callS X0 hx (y := (⟨"java/lang/StringUTF16", "checkIndex", "(I[B)V"⟩ : MethodName)) hown (mvT hZ (w_87 hw)) (mvT hZ (w_88 hw)) (mvT hZ (w_23 hw)) (mvT hZ (w_89 hw)) (by decide) (backOf (W := 0) (rmA11 l Z a0 hw G ST [] tx kx ((cc0 >>> ((0 : Int32) &&& 31)).toInt8.toInt32) ((cc0 >>> ((8 : Int32) &&& 31)).toInt8.toInt32) ((cc1 >>> ((0 : Int32) &&& 31)).toInt8.toInt32) ((cc1 >>> ((8 : Int32) &&& 31)).toInt8.toInt32) ((cc2 >>> ((0 : Int32) &&& 31)).toInt8.toInt32) ((cc2 >>> ((8 : Int32) &&& 31)).toInt8.toInt32) ((cc3 >>> ((0 : Int32) &&& 31)).toInt8.toInt32) ((cc3 >>> ((8 : Int32) &&& 31)).toInt8.toInt32) h0 n0 X00 V1) hZ (w_89 hw) (w_23 hw) (by decide) (by decide)) (g := (mkF m 2 #[xvr tx, xvi (1 : Int32)] [xwr tx, xwi (1 : Int32)])) rfl (by rw [hml]; rfl) (argsL := [(.int (1 : Int32)), (.ref tx)]) (rest := []) (lenOf pd_11 rfl) rfl (by show 2 * 0 + _ ≤ _; exact Nat.le_of_eq rfl) (hb hby d20_2) (fun _ _ => ⟨rfl, e0, (by decide : 0 + 0 ≤ _), (by decide : 0 + 0 ≤ _)⟩)
  dsimp only [Pt.U, Pt.locs, Pt.cells, Pt.slots] at X327 l327 y327 z327 st327 hQ327
  subst l327 y327 z327
  obtain ⟨rfl, N327q, e327⟩ := hQ327
  have N327 := Fr.app N0 N327q
  obtain ⟨_, _, ⟨T328, L328, k328, n328⟩, -, X328, ⟨Lc328, hQ328, l328, y328, z328⟩, st328⟩ := Jvm.LawKit.callS X327 hx (y := (⟨"java/lang/StringUTF16", "getChar", "([BI)C"⟩ : MethodName)) hown (mvT hZ (w_81 hw)) (mvT hZ (w_82 hw)) (mvT hZ (w_23 hw)) (mvT hZ (w_83 hw)) (by decide) (backOf (W := 0) (rmGC1 l Z a0 hw G ST [] tx kx cc0 cc1 cc2 cc3 h0 n0 X00 V1 hr_cc0 hr_cc1 hr_cc2 hr_cc3) hZ (w_83 hw) (w_23 hw) (by decide) (by decide)) (g := (mkF m 7 #[xvr tx, xvi (1 : Int32)] [xwi (1 : Int32), xwr tx])) rfl (by rw [hml]; rfl) (argsL := [(.ref tx), (.int (1 : Int32))]) (rest := []) (lenOf pd_5 rfl) rfl (by show 2 * 0 + _ ≤ _; exact Nat.le_of_eq rfl) (hb hby d20_7) (fun _ _ => ⟨rfl, e327, (by decide : 0 + 0 ≤ _), (by decide : 0 + 0 ≤ _)⟩)
  dsimp only [Pt.U, Pt.locs, Pt.cells, Pt.slots] at X328 l328 y328 z328 st328 hQ328
  subst l328 y328 z328
  obtain ⟨rfl, N328q, e328⟩ := hQ328
  have N328 := Fr.app N327 N328q
  obtain ⟨fs, hr, hrun, hended, hW, hsame⟩ := X328.leave (v := some (.int cc1)) (fun h => by rw [Bd.returns] at h; cases h)
  refine ⟨_, _, hTG _ (pre0 _ ?_), hrun, hended, _, _, rfl, ?_, ⟨_, rfl⟩, hW, hsame.mono (by decide) (by decide)⟩
  · refine y_iloadN X0 hx 1 (hb hby d20_0) rfl rfl ?_
    refine y_aloadN X0 hx 2 (hb hby d20_1) rfl rfl rfl ?_
    refine st327 _ ?_
    show Sx p e below T327 m 5 #[xvr tx, xvi (1 : Int32)] [] _
    refine y_aloadN X327 hx 6 (hb hby d20_5) rfl rfl rfl ?_
    refine y_iloadN X327 hx 7 (hb hby d20_6) rfl rfl ?_
    refine st328 _ ?_
    show Sx p e below T328 m 10 #[xvr tx, xvi (1 : Int32)] [xwi cc1] _
    exact retN X328 hx (t := .char) Bd.returns (by simp) (hb hby d20_10) ((by rw [own_nar16 hr_cc1]; exact hr))
  · show QrmUA1 Z G tx kx cc0 cc1 cc2 cc3 h0 n0 _ T328.heap _
    rw [e328]
    exact ⟨rfl, N328, rfl⟩
theorem ef_rmCA1 (m : MethodId) (x0 : Addr) (x1 : Int32)  : entryFrame m #[(.ref x0), (.int x1)] 2 = mkF m 0 #[.val (.ref x0), .val (.int x1)] [] := by first | (simp [entryFrame, mkF, argsToLocals, Value.category]; done) | rfl
def QrmCA1 (Z : State) (G : Gs) (ax : Addr) (cc0 : Int32) (cc1 : Int32) (cc2 : Int32) (cc3 : Int32) (h0 : Heap) (n0 : Nat) (v : Option Value) (h : Heap) (L : List Loc) : Prop := v = some (.int cc1) ∧ Fr n0 L ∧ h = h0
set_option maxRecDepth 65536 in
set_option maxHeartbeats 40000000 in
theorem rmCA1 (l : Launch) (Z : State) (a0 : Array Value) (hw : HW a0 Z) (G : Gs) (ST : StartF Z G) (ws : List Jvm.Cond) (ax : Addr) (cc0 : Int32) (cc1 : Int32) (cc2 : Int32) (cc3 : Int32) (h0 : Heap) (n0 : Nat) (X00 : Old Z n0 h0) (hS : own_S Z h0 ax cc0 cc1 cc2 cc3) (hr_cc0 : own_c16 cc0) (hr_cc1 : own_c16 cc1) (hr_cc2 : own_c16 cc2) (hr_cc3 : own_c16 cc3) :
    MetFree l (⟨"java/lang/String", "charAt", "(I)C"⟩ : MethodName) (head1 (Jvm.Cond.code (⟨"java/lang/String", "charAt", "(I)C"⟩ : MethodName) jdk_42_method_56_code 2 (some .char) :: ws) ({ frames := 4, cells := 0, slots := 0, locals := 53 } : Room)) (fun a U => a = #[(.ref ax), (.int (1 : Int32))] ∧ Z.Warmed39 U.vm ∧ U.heap = h0) (fun _ _ _ _ _ => True) (fun _ U o U' => ∃ v L, o = .returned v ∧ QrmCA1 Z G ax cc0 cc1 cc2 cc3 h0 n0 v U'.heap L ∧ FrameEnd U o U' L ({ frames := 4, cells := 0, slots := 0, locals := 53 } : Room).cells ({ frames := 4, cells := 0, slots := 0, locals := 53 } : Room).slots) := by
  refine MetFree.of_bodySF (plainFor_of_name pn_1) hisR ?_
  intro p e s m args below meth c s₁ Bd hml0 hP hK
  obtain ⟨rfl, hZ, hh⟩ := hP
  have hx := Bd.exec
  have hby := Bd.bytes
  have hml : c.maxLocals = 2 := hml0
  have hown : s.vm.findClass "java/lang/String" = some m.cls := findClass_of_methodNamed Bd.named
  have hnm := (name_of_methodNamed Bd.named Bd.method).1
  have X0 : Stand p l e ({ frames := 4, cells := 0, slots := 0, locals := 53 } : Room) s m #[(.ref ax), (.int (1 : Int32))] below meth c s₁ [] 0 0 := Stand.of_body Bd
  have e0 : s₁.heap = h0 := by rw [← hh, Bd.state]; rfl
  have N0 := Fr.nil n0
  have Z0 : n0 ≤ h0.size := by have q := X00.2.1; rw [X00.1] at q; exact q
  obtain ⟨TG, hTG, hT2⟩ : ∃ P : State → Prop, (∀ t, P t → Steps p.tables e below (s₁.setTop (entryFrame m #[(.ref ax), (.int (1 : Int32))] 2)) t) ∧ (∀ t, Steps p.tables e below (s₁.setTop (entryFrame m #[(.ref ax), (.int (1 : Int32))] 2)) t → P t) := ⟨_, fun t k => k, fun t k => k⟩
  have pre0 : ∀ t, Sx p e below s₁ m 0 #[xvr ax, xvi (1 : Int32)] [] t → TG t := fun t k => hT2 t (castTop (ef_rmCA1 m ax (1 : Int32) ) k)
  obtain ⟨tt, kk, Eo, Fvo, (⟨Fco, Vo, hle⟩ | ⟨Fco, Vo⟩)⟩ := hS
  · obtain ⟨cq330, kq330, q330a, q330b, q330c⟩ := isOf hZ e0 Eo
    obtain ⟨_, _, ⟨T329, L329, k329, n329⟩, -, X329, ⟨Lc329, hQ329, l329, y329, z329⟩, st329⟩ := X0.virtualBack hx (y := (⟨"java/lang/String", "isLatin1", "()Z"⟩ : MethodName)) (z := (⟨"java/lang/String", "isLatin1", "()Z"⟩ : MethodName)) hown (mvT hZ (w_48 hw)) (mvT hZ (w_49 hw)) (notFace_of_selects (args := #[]) (mvT hZ (w_51 hw))) (mvT hZ (w_51 hw)) (mvT hZ (w_50 hw)) (by decide) (backOf (W := 0) (rmLt0 l Z a0 hw G ST [] ax h0 n0 X00 Fco) hZ (w_52 hw) (w_9 hw) (by decide) (by decide)) q330a q330c (g := (mkF m 1 #[xvr ax, xvi (1 : Int32)] [xwr ax])) rfl (by rw [hml]; rfl) (Steps.refl _) (argsL := []) (rest := []) (lenOf pd_12 rfl) rfl (by show 2 * 0 + _ ≤ _; exact Nat.le_of_eq rfl) (hb hby d10_1) (fun _ _ => ⟨rfl, e0, (by decide : 0 + 0 ≤ _), (by decide : 0 + 0 ≤ _)⟩)
    dsimp only [Pt.U, Pt.locs, Pt.cells, Pt.slots] at X329 l329 y329 z329 st329 hQ329
    subst l329 y329 z329
    obtain ⟨rfl, N329q, e329⟩ := hQ329
    have N329 := Fr.app N0 N329q
    obtain ⟨T331, X331, e331, st331⟩ := getF X329 hx hZ hown (host := "") (Or.inl (w_34 hw)) Via.refl e329 Fvo (g := (mkF m 8 #[xvr ax, xvi (1 : Int32)] [xwr ax])) rfl rfl (hb hby d10_8)
    obtain ⟨_, _, ⟨T332, L332, k332, n332⟩, -, X332, ⟨Lc332, hQ332, l332, y332, z332⟩, st332⟩ := Jvm.LawKit.callS X331 hx (y := (⟨"java/lang/StringLatin1", "charAt", "([BI)C"⟩ : MethodName)) hown (mvT hZ (w_53 hw)) (mvT hZ (w_54 hw)) (mvT hZ (w_55 hw)) (mvT hZ (w_56 hw)) (by decide) (backOf (W := 0) (rmLA1 l Z a0 hw G ST [] tt kk cc0 cc1 cc2 cc3 h0 n0 X00 Vo hr_cc0 hr_cc1 hr_cc2 hr_cc3 hle.1 hle.2.1 hle.2.2.1 hle.2.2.2) hZ (w_56 hw) (w_55 hw) (by decide) (by decide)) (g := (mkF m 12 #[xvr ax, xvi (1 : Int32)] [xwi (1 : Int32), xwr tt])) rfl (by rw [hml]; rfl) (argsL := [(.ref tt), (.int (1 : Int32))]) (rest := []) (lenOf pd_5 rfl) rfl (by show 2 * 0 + _ ≤ _; exact Nat.le_of_eq rfl) (hb hby d10_12) (fun _ _ => ⟨rfl, e331, (by decide : 0 + 0 ≤ _), (by decide : 0 + 0 ≤ _)⟩)
    dsimp only [Pt.U, Pt.locs, Pt.cells, Pt.slots] at X332 l332 y332 z332 st332 hQ332
    subst l332 y332 z332
    obtain ⟨rfl, N332q, e332⟩ := hQ332
    have N332 := Fr.app N329 N332q
    obtain ⟨fs, hr, hrun, hended, hW, hsame⟩ := X332.leave (v := some (.int cc1)) (fun h => by rw [Bd.returns] at h; cases h)
    refine ⟨_, _, hTG _ (pre0 _ ?_), hrun, hended, _, _, rfl, ?_, ⟨_, rfl⟩, hW, hsame.mono (by decide) (by decide)⟩
    · refine y_aloadN X0 hx 1 (hb hby d10_0) rfl rfl rfl ?_
      refine st329.trans ?_
      show Sx p e below T329 m 4 #[xvr ax, xvi (1 : Int32)] [xwi (1 : Int32)] _
      refine y_ifNo X329 hx 7 (hb hby d10_4) (XT.i0_eq_f (by decide)) rfl ?_
      refine y_aloadN X329 hx 8 (hb hby d10_7) rfl rfl rfl ?_
      refine st331 _ ?_
      show Sx p e below T331 m 11 #[xvr ax, xvi (1 : Int32)] [xwr tt] _
      refine y_iloadN X331 hx 12 (hb hby d10_11) rfl rfl ?_
      refine st332 _ ?_
      show Sx p e below T332 m 15 #[xvr ax, xvi (1 : Int32)] [xwi cc1] _
      exact retN X332 hx (t := .char) Bd.returns (by simp) (hb hby d10_15) ((by rw [own_nar16 hr_cc1]; exact hr))
    · show QrmCA1 Z G ax cc0 cc1 cc2 cc3 h0 n0 _ T332.heap _
      rw [e332]
      exact ⟨rfl, N332, rfl⟩
  · obtain ⟨cq334, kq334, q334a, q334b, q334c⟩ := isOf hZ e0 Eo
    obtain ⟨_, _, ⟨T333, L333, k333, n333⟩, -, X333, ⟨Lc333, hQ333, l333, y333, z333⟩, st333⟩ := X0.virtualBack hx (y := (⟨"java/lang/String", "isLatin1", "()Z"⟩ : MethodName)) (z := (⟨"java/lang/String", "isLatin1", "()Z"⟩ : MethodName)) hown (mvT hZ (w_48 hw)) (mvT hZ (w_49 hw)) (notFace_of_selects (args := #[]) (mvT hZ (w_51 hw))) (mvT hZ (w_51 hw)) (mvT hZ (w_50 hw)) (by decide) (backOf (W := 0) (rmLt1 l Z a0 hw G ST [] ax h0 n0 X00 Fco) hZ (w_52 hw) (w_9 hw) (by decide) (by decide)) q334a q334c (g := (mkF m 1 #[xvr ax, xvi (1 : Int32)] [xwr ax])) rfl (by rw [hml]; rfl) (Steps.refl _) (argsL := []) (rest := []) (lenOf pd_12 rfl) rfl (by show 2 * 0 + _ ≤ _; exact Nat.le_of_eq rfl) (hb hby d10_1) (fun _ _ => ⟨rfl, e0, (by decide : 0 + 0 ≤ _), (by decide : 0 + 0 ≤ _)⟩)
    dsimp only [Pt.U, Pt.locs, Pt.cells, Pt.slots] at X333 l333 y333 z333 st333 hQ333
    subst l333 y333 z333
    obtain ⟨rfl, N333q, e333⟩ := hQ333
    have N333 := Fr.app N0 N333q
    obtain ⟨T335, X335, e335, st335⟩ := getF X333 hx hZ hown (host := "") (Or.inl (w_34 hw)) Via.refl e333 Fvo (g := (mkF m 17 #[xvr ax, xvi (1 : Int32)] [xwr ax])) rfl rfl (hb hby d10_17)
    obtain ⟨_, _, ⟨T336, L336, k336, n336⟩, -, X336, ⟨Lc336, hQ336, l336, y336, z336⟩, st336⟩ := Jvm.LawKit.callS X335 hx (y := (⟨"java/lang/StringUTF16", "charAt", "([BI)C"⟩ : MethodName)) hown (mvT hZ (w_84 hw)) (mvT hZ (w_85 hw)) (mvT hZ (w_23 hw)) (mvT hZ (w_86 hw)) (by decide) (backOf (W := 0) (rmUA1 l Z a0 hw G ST [] tt kk cc0 cc1 cc2 cc3 h0 n0 X00 Vo hr_cc0 hr_cc1 hr_cc2 hr_cc3) hZ (w_86 hw) (w_23 hw) (by decide) (by decide)) (g := (mkF m 21 #[xvr ax, xvi (1 : Int32)] [xwi (1 : Int32), xwr tt])) rfl (by rw [hml]; rfl) (argsL := [(.ref tt), (.int (1 : Int32))]) (rest := []) (lenOf pd_5 rfl) rfl (by show 2 * 0 + _ ≤ _; exact Nat.le_of_eq rfl) (hb hby d10_21) (fun _ _ => ⟨rfl, e335, (by decide : 0 + 0 ≤ _), (by decide : 0 + 0 ≤ _)⟩)
    dsimp only [Pt.U, Pt.locs, Pt.cells, Pt.slots] at X336 l336 y336 z336 st336 hQ336
    subst l336 y336 z336
    obtain ⟨rfl, N336q, e336⟩ := hQ336
    have N336 := Fr.app N333 N336q
    obtain ⟨fs, hr, hrun, hended, hW, hsame⟩ := X336.leave (v := some (.int cc1)) (fun h => by rw [Bd.returns] at h; cases h)
    refine ⟨_, _, hTG _ (pre0 _ ?_), hrun, hended, _, _, rfl, ?_, ⟨_, rfl⟩, hW, hsame.mono (by decide) (by decide)⟩
    · refine y_aloadN X0 hx 1 (hb hby d10_0) rfl rfl rfl ?_
      refine st333.trans ?_
      show Sx p e below T333 m 4 #[xvr ax, xvi (1 : Int32)] [xwi (0 : Int32)] _
      refine y_ifYes X333 hx 16 (hb hby d10_4) (XT.i0_eq_t (by decide)) (by decide) (by decide) ?_
      refine y_aloadN X333 hx 17 (hb hby d10_16) rfl rfl rfl ?_
      refine st335 _ ?_
      show Sx p e below T335 m 20 #[xvr ax, xvi (1 : Int32)] [xwr tt] _
      refine y_iloadN X335 hx 21 (hb hby d10_20) rfl rfl ?_
      refine st336 _ ?_
      show Sx p e below T336 m 24 #[xvr ax, xvi (1 : Int32)] [xwi cc1] _
      exact retN X336 hx (t := .char) Bd.returns (by simp) (hb hby d10_24) ((by rw [own_nar16 hr_cc1]; exact hr))
    · show QrmCA1 Z G ax cc0 cc1 cc2 cc3 h0 n0 _ T336.heap _
      rw [e336]
      exact ⟨rfl, N336, rfl⟩
theorem ef_rmLA2 (m : MethodId) (x0 : Addr) (x1 : Int32)  : entryFrame m #[(.ref x0), (.int x1)] 2 = mkF m 0 #[.val (.ref x0), .val (.int x1)] [] := by first | (simp [entryFrame, mkF, argsToLocals, Value.category]; done) | rfl
def QrmLA2 (Z : State) (G : Gs) (tx : Addr) (kx : ClassId) (cc0 : Int32) (cc1 : Int32) (cc2 : Int32) (cc3 : Int32) (h0 : Heap) (n0 : Nat) (v : Option Value) (h : Heap) (L : List Loc) : Prop := v = some (.int cc2) ∧ Fr n0 L ∧ h = h0
set_option maxRecDepth 65536 in
set_option maxHeartbeats 40000000 in
theorem rmLA2 (l : Launch) (Z : State) (a0 : Array Value) (hw : HW a0 Z) (G : Gs) (ST : StartF Z G) (ws : List Jvm.Cond) (tx : Addr) (kx : ClassId) (cc0 : Int32) (cc1 : Int32) (cc2 : Int32) (cc3 : Int32) (h0 : Heap) (n0 : Nat) (X00 : Old Z n0 h0) (V1 : Arv Z h0 tx kx .byte (4 : Int32) [(.int (cc0.toInt8.toInt32)), (.int (cc1.toInt8.toInt32)), (.int (cc2.toInt8.toInt32)), (.int (cc3.toInt8.toInt32))] (.int (0 : Int32))) (hr_cc0 : own_c16 cc0) (hr_cc1 : own_c16 cc1) (hr_cc2 : own_c16 cc2) (hr_cc3 : own_c16 cc3) (hl_cc0 : ¬ (255 : Int32) < cc0) (hl_cc1 : ¬ (255 : Int32) < cc1) (hl_cc2 : ¬ (255 : Int32) < cc2) (hl_cc3 : ¬ (255 : Int32) < cc3) :
    MetFree l (⟨"java/lang/StringLatin1", "charAt", "([BI)C"⟩ : MethodName) (head1 (Jvm.Cond.code (⟨"java/lang/StringLatin1", "charAt", "([BI)C"⟩ : MethodName) jdk_43_method_2_code 2 (some .char) :: ws) ({ frames := 2, cells := 0, slots := 0, locals := 27 } : Room)) (fun a U => a = #[(.ref tx), (.int (2 : Int32))] ∧ Z.Warmed39 U.vm ∧ U.heap = h0) (fun _ _ _ _ _ => True) (fun _ U o U' => ∃ v L, o = .returned v ∧ QrmLA2 Z G tx kx cc0 cc1 cc2 cc3 h0 n0 v U'.heap L ∧ FrameEnd U o U' L ({ frames := 2, cells := 0, slots := 0, locals := 27 } : Room).cells ({ frames := 2, cells := 0, slots := 0, locals := 27 } : Room).slots) := by
  refine MetFree.of_bodySF (plainFor_of_name pn_4) hisR ?_
  intro p e s m args below meth c s₁ Bd hml0 hP hK
  obtain ⟨rfl, hZ, hh⟩ := hP
  have hx := Bd.exec
  have hby := Bd.bytes
  have hml : c.maxLocals = 2 := hml0
  have hown : s.vm.findClass "java/lang/StringLatin1" = some m.cls := findClass_of_methodNamed Bd.named
  have hnm := (name_of_methodNamed Bd.named Bd.method).1
  have X0 : Stand p l e ({ frames := 2, cells := 0, slots := 0, locals := 27 } : Room) s m #[(.ref tx), (.int (2 : Int32))] below meth c s₁ [] 0 0 := Stand.of_body Bd
  have e0 : s₁.heap = h0 := by rw [← hh, Bd.state]; rfl
  have N0 := Fr.nil n0
  have Z0 : n0 ≤ h0.size := by have q := X00.2.1; rw [X00.1] at q; exact q
  obtain ⟨TG, hTG, hT2⟩ : ∃ P : State → Prop, (∀ t, P t → Steps p.tables e below (s₁.setTop (entryFrame m #[(.ref tx), (.int (2 : Int32))] 2)) t) ∧ (∀ t, Steps p.tables e below (s₁.setTop (entryFrame m #[(.ref tx), (.int (2 : Int32))] 2)) t → P t) := ⟨_, fun t k => k, fun t k => k⟩
  have pre0 : ∀ t, Sx p e below s₁ m 0 #[xvr tx, xvi (2 : Int32)] [] t → TG t := fun t k => hT2 t (castTop (ef_rmLA2 m tx (2 : Int32) ) k)
  obtain ⟨cl337, Ar337, q337, S337, M337, H337, G337⟩ := id V1
  obtain ⟨_, _, ⟨T338, L338, k338, n338⟩, -, X338, ⟨Lc338, hQ338, l338, y338, z338⟩, st338⟩ := Jvm.LawKit.callS X0 hx (y := (⟨"java/lang/String", "checkIndex", "(II)V"⟩ : MethodName)) hown (mvT hZ (w_57 hw)) (mvT hZ (w_58 hw)) (mvT hZ (w_9 hw)) (mvT hZ (w_59 hw)) (by decide) (backOf (W := 0) (rmCI2 l Z a0 hw G ST [] (2 : Int32) (4 : Int32) h0 n0 X00 (by first | assumption | decide) (by first | assumption | decide)) hZ (w_59 hw) (w_9 hw) (by decide) (by decide)) (g := (mkF m 3 #[xvr tx, xvi (2 : Int32)] [xwi (4 : Int32), xwi (2 : Int32)])) rfl (by rw [hml]; rfl) (argsL := [(.int (2 : Int32)), (.int (4 : Int32))]) (rest := []) (lenOf pd_9 rfl) rfl (by show 2 * 0 + _ ≤ _; exact Nat.le_of_eq rfl) (hb hby d12_3) (fun _ _ => ⟨rfl, e0, (by decide : 0 + 0 ≤ _), (by decide : 0 + 0 ≤ _)⟩)
  dsimp only [Pt.U, Pt.locs, Pt.cells, Pt.slots] at X338 l338 y338 z338 st338 hQ338
  subst l338 y338 z338
  obtain ⟨rfl, N338q, e338⟩ := hQ338
  have N338 := Fr.app N0 N338q
  obtain ⟨cl339, Ar339, q339, S339, M339, H339, G339⟩ := id V1
  have in339 : ¬ ((2 : Int32) < 0 ∨ cl339.slots.size ≤ ((2 : Int32)).toNatClampNeg) := inb_of S339 ⟨by decide, by decide⟩
  obtain ⟨fs, hr, hrun, hended, hW, hsame⟩ := X338.leave (v := some (.int cc2)) (fun h => by rw [Bd.returns] at h; cases h)
  refine ⟨_, _, hTG _ (pre0 _ ?_), hrun, hended, _, _, rfl, ?_, ⟨_, rfl⟩, hW, hsame.mono (by decide) (by decide)⟩
  · refine y_iloadN X0 hx 1 (hb hby d12_0) rfl rfl ?_
    refine y_aloadN X0 hx 2 (hb hby d12_1) rfl rfl rfl ?_
    refine X0.arraylength hx (by rw [e0]; exact Ar337.1) (State.isArrayOf_alike hZ.alike Ar337.2.1) (g := (mkF m 2 #[xvr tx, xvi (2 : Int32)] [xwr tx, xwi (2 : Int32)])) rfl rfl (hb hby d12_2) _ ?_
    rw [len_of S337 M337]
    show Sx p e below s₁ m 3 #[xvr tx, xvi (2 : Int32)] [xwi (4 : Int32), xwi (2 : Int32)] _
    refine st338 _ ?_
    show Sx p e below T338 m 6 #[xvr tx, xvi (2 : Int32)] [] _
    refine y_aloadN X338 hx 7 (hb hby d12_6) rfl rfl rfl ?_
    refine y_iloadN X338 hx 8 (hb hby d12_7) rfl rfl ?_
    refine X338.baloadBytes hx (j := (2 : Int32)) (v := (.int (cc2.toInt8.toInt32))) (by rw [e338]; exact Ar339.1) (State.isArrayOf_alike hZ.alike Ar339.2.1) Ar339.2.2 in339 (Has.at H339 in339 rfl) (g := (mkF m 8 #[xvr tx, xvi (2 : Int32)] [xwi (2 : Int32), xwr tx])) rfl rfl (hb hby d12_8) _ ?_
    show Sx p e below T338 m 9 #[xvr tx, xvi (2 : Int32)] [xwi (cc2.toInt8.toInt32)] _
    refine y_sipush X338 hx (255 : Int32) 12 (hb hby d12_9) rfl rfl ?_
    refine y_iand X338 hx 13 (hb hby d12_12) rfl ?_
    rw [own_b8 ⟨hr_cc2.1, hl_cc2⟩]
    refine XS.i2c X338.here hx rfl (hb hby d12_13) rfl ?_
    show Sx p e below T338 m 14 #[xvr tx, xvi (2 : Int32)] [xwi (cc2.toUInt32.toUInt16.toUInt32.toInt32)] _
    rw [own_i16 hr_cc2]
    show Sx p e below T338 m 14 #[xvr tx, xvi (2 : Int32)] [xwi cc2] _
    exact retN X338 hx (t := .char) Bd.returns (by simp) (hb hby d12_14) ((by rw [own_nar16 hr_cc2]; exact hr))
  · show QrmLA2 Z G tx kx cc0 cc1 cc2 cc3 h0 n0 _ T338.heap _
    rw [e338]
    exact ⟨rfl, N338, rfl⟩
theorem ef_rmUA2 (m : MethodId) (x0 : Addr) (x1 : Int32)  : entryFrame m #[(.ref x0), (.int x1)] 2 = mkF m 0 #[.val (.ref x0), .val (.int x1)] [] := by first | (simp [entryFrame, mkF, argsToLocals, Value.category]; done) | rfl
theorem ef_rmA12 (m : MethodId) (x0 : Int32) (x1 : Addr)  : entryFrame m #[(.int x0), (.ref x1)] 2 = mkF m 0 #[.val (.int x0), .val (.ref x1)] [] := by first | (simp [entryFrame, mkF, argsToLocals, Value.category]; done) | rfl
def QrmA12 (Z : State) (G : Gs) (xa1 : Addr) (xk_xa1 : ClassId) (xi1 : Int32) (xi2 : Int32) (xi3 : Int32) (xi4 : Int32) (xi5 : Int32) (xi6 : Int32) (xi7 : Int32) (xi8 : Int32) (h0 : Heap) (n0 : Nat) (v : Option Value) (h : Heap) (L : List Loc) : Prop := v = none ∧ Fr n0 L ∧ h = h0
set_option maxRecDepth 65536 in
set_option maxHeartbeats 40000000 in
theorem rmA12 (l : Launch) (Z : State) (a0 : Array Value) (hw : HW a0 Z) (G : Gs) (ST : StartF Z G) (ws : List Jvm.Cond) (xa1 : Addr) (xk_xa1 : ClassId) (xi1 : Int32) (xi2 : Int32) (xi3 : Int32) (xi4 : Int32) (xi5 : Int32) (xi6 : Int32) (xi7 : Int32) (xi8 : Int32) (h0 : Heap) (n0 : Nat) (X00 : Old Z n0 h0) (xV_xa1 : Arv Z h0 xa1 xk_xa1 .byte (8 : Int32) [(.int xi1), (.int xi2), (.int xi3), (.int xi4), (.int xi5), (.int xi6), (.int xi7), (.int xi8)] (.int (0 : Int32))) :
    MetFree l (⟨"java/lang/StringUTF16", "checkIndex", "(I[B)V"⟩ : MethodName) (head1 (Jvm.Cond.code (⟨"java/lang/StringUTF16", "checkIndex", "(I[B)V"⟩ : MethodName) jdk_52_method_91_code 2 none :: ws) ({ frames := 2, cells := 0, slots := 0, locals := 27 } : Room)) (fun a U => a = #[(.int (2 : Int32)), (.ref xa1)] ∧ Z.Warmed39 U.vm ∧ U.heap = h0) (fun _ _ _ _ _ => True) (fun _ U o U' => ∃ v L, o = .returned v ∧ QrmA12 Z G xa1 xk_xa1 xi1 xi2 xi3 xi4 xi5 xi6 xi7 xi8 h0 n0 v U'.heap L ∧ FrameEnd U o U' L ({ frames := 2, cells := 0, slots := 0, locals := 27 } : Room).cells ({ frames := 2, cells := 0, slots := 0, locals := 27 } : Room).slots) := by
  refine MetFree.of_bodySF (plainFor_of_name pn_0) hisR ?_
  intro p e s m args below meth c s₁ Bd hml0 hP hK
  obtain ⟨rfl, hZ, hh⟩ := hP
  have hx := Bd.exec
  have hby := Bd.bytes
  have hml : c.maxLocals = 2 := hml0
  have hown : s.vm.findClass "java/lang/StringUTF16" = some m.cls := findClass_of_methodNamed Bd.named
  have hnm := (name_of_methodNamed Bd.named Bd.method).1
  have X0 : Stand p l e ({ frames := 2, cells := 0, slots := 0, locals := 27 } : Room) s m #[(.int (2 : Int32)), (.ref xa1)] below meth c s₁ [] 0 0 := Stand.of_body Bd
  have e0 : s₁.heap = h0 := by rw [← hh, Bd.state]; rfl
  have N0 := Fr.nil n0
  have Z0 : n0 ≤ h0.size := by have q := X00.2.1; rw [X00.1] at q; exact q
  obtain ⟨TG, hTG, hT2⟩ : ∃ P : State → Prop, (∀ t, P t → Steps p.tables e below (s₁.setTop (entryFrame m #[(.int (2 : Int32)), (.ref xa1)] 2)) t) ∧ (∀ t, Steps p.tables e below (s₁.setTop (entryFrame m #[(.int (2 : Int32)), (.ref xa1)] 2)) t → P t) := ⟨_, fun t k => k, fun t k => k⟩
  have pre0 : ∀ t, Sx p e below s₁ m 0 #[xvi (2 : Int32), xvr xa1] [] t → TG t := fun t k => hT2 t (castTop (ef_rmA12 m (2 : Int32) xa1 ) k)
  obtain ⟨_, _, ⟨T340, L340, k340, n340⟩, -, X340, ⟨Lc340, hQ340, l340, y340, z340⟩, st340⟩ := Jvm.LawKit.callS X0 hx (y := (⟨"java/lang/StringUTF16", "length", "([B)I"⟩ : MethodName)) hown (mvT hZ (w_90 hw)) (mvT hZ (w_91 hw)) (mvT hZ (w_23 hw)) (mvT hZ (w_92 hw)) (by decide) (backOf (W := 1) (rmA10 l Z a0 hw G ST [] xa1 xk_xa1 xi1 xi2 xi3 xi4 xi5 xi6 xi7 xi8 h0 n0 X00 xV_xa1) hZ (w_92 hw) (w_23 hw) (by decide) (by decide)) (g := (mkF m 2 #[xvi (2 : Int32), xvr xa1] [xwr xa1, xwi (2 : Int32)])) rfl (by rw [hml]; rfl) (argsL := [(.ref xa1)]) (rest := [(.int (2 : Int32))]) (lenOf pd_10 rfl) rfl (by show 2 * 0 + _ ≤ _; exact Nat.le_of_eq rfl) (hb hby d21_2) (fun _ _ => ⟨rfl, e0, (by decide : 0 + 0 ≤ _), (by decide : 0 + 0 ≤ _)⟩)
  dsimp only [Pt.U, Pt.locs, Pt.cells, Pt.slots] at X340 l340 y340 z340 st340 hQ340
  subst l340 y340 z340
  obtain ⟨rfl, N340q, e340⟩ := hQ340
  have N340 := Fr.app N0 N340q
  obtain ⟨_, _, ⟨T341, L341, k341, n341⟩, -, X341, ⟨Lc341, hQ341, l341, y341, z341⟩, st341⟩ := Jvm.LawKit.callS X340 hx (y := (⟨"java/lang/String", "checkIndex", "(II)V"⟩ : MethodName)) hown (mvT hZ (w_93 hw)) (mvT hZ (w_58 hw)) (mvT hZ (w_9 hw)) (mvT hZ (w_59 hw)) (by decide) (backOf (W := 0) (rmCI2 l Z a0 hw G ST [] (2 : Int32) (4 : Int32) h0 n0 X00 (by first | assumption | decide) (by first | assumption | decide)) hZ (w_59 hw) (w_9 hw) (by decide) (by decide)) (g := (mkF m 5 #[xvi (2 : Int32), xvr xa1] [xwi (4 : Int32), xwi (2 : Int32)])) rfl (by rw [hml]; rfl) (argsL := [(.int (2 : Int32)), (.int (4 : Int32))]) (rest := []) (lenOf pd_9 rfl) rfl (by show 2 * 0 + _ ≤ _; exact Nat.le_of_eq rfl) (hb hby d21_5) (fun _ _ => ⟨rfl, e340, (by decide : 0 + 0 ≤ _), (by decide : 0 + 0 ≤ _)⟩)
  dsimp only [Pt.U, Pt.locs, Pt.cells, Pt.slots] at X341 l341 y341 z341 st341 hQ341
  subst l341 y341 z341
  obtain ⟨rfl, N341q, e341⟩ := hQ341
  have N341 := Fr.app N340 N341q
  obtain ⟨fs, hr, hrun, hended, hW, hsame⟩ := X341.leave (v := none) (fun _ => rfl)
  refine ⟨_, _, hTG _ (pre0 _ ?_), hrun, hended, _, _, rfl, ?_, ⟨_, rfl⟩, hW, hsame.mono (by decide) (by decide)⟩
  · refine y_iloadN X0 hx 1 (hb hby d21_0) rfl rfl ?_
    refine y_aloadN X0 hx 2 (hb hby d21_1) rfl rfl rfl ?_
    refine st340 _ ?_
    show Sx p e below T340 m 5 #[xvi (2 : Int32), xvr xa1] [xwi (4 : Int32), xwi (2 : Int32)] _
    refine st341 _ ?_
    show Sx p e below T341 m 8 #[xvi (2 : Int32), xvr xa1] [] _
    exact X341.returnOut hx Bd.returns (hb hby d21_8) hr
  · show QrmA12 Z G xa1 xk_xa1 xi1 xi2 xi3 xi4 xi5 xi6 xi7 xi8 h0 n0 _ T341.heap _
    rw [e341]
    exact ⟨rfl, N341, rfl⟩
def QrmUA2 (Z : State) (G : Gs) (tx : Addr) (kx : ClassId) (cc0 : Int32) (cc1 : Int32) (cc2 : Int32) (cc3 : Int32) (h0 : Heap) (n0 : Nat) (v : Option Value) (h : Heap) (L : List Loc) : Prop := v = some (.int cc2) ∧ Fr n0 L ∧ h = h0
set_option maxRecDepth 65536 in
set_option maxHeartbeats 40000000 in
theorem rmUA2 (l : Launch) (Z : State) (a0 : Array Value) (hw : HW a0 Z) (G : Gs) (ST : StartF Z G) (ws : List Jvm.Cond) (tx : Addr) (kx : ClassId) (cc0 : Int32) (cc1 : Int32) (cc2 : Int32) (cc3 : Int32) (h0 : Heap) (n0 : Nat) (X00 : Old Z n0 h0) (V1 : Arv Z h0 tx kx .byte (8 : Int32) [(.int ((cc0 >>> ((0 : Int32) &&& 31)).toInt8.toInt32)), (.int ((cc0 >>> ((8 : Int32) &&& 31)).toInt8.toInt32)), (.int ((cc1 >>> ((0 : Int32) &&& 31)).toInt8.toInt32)), (.int ((cc1 >>> ((8 : Int32) &&& 31)).toInt8.toInt32)), (.int ((cc2 >>> ((0 : Int32) &&& 31)).toInt8.toInt32)), (.int ((cc2 >>> ((8 : Int32) &&& 31)).toInt8.toInt32)), (.int ((cc3 >>> ((0 : Int32) &&& 31)).toInt8.toInt32)), (.int ((cc3 >>> ((8 : Int32) &&& 31)).toInt8.toInt32))] (.int (0 : Int32))) (hr_cc0 : own_c16 cc0) (hr_cc1 : own_c16 cc1) (hr_cc2 : own_c16 cc2) (hr_cc3 : own_c16 cc3) :
    MetFree l (⟨"java/lang/StringUTF16", "charAt", "([BI)C"⟩ : MethodName) (head1 (Jvm.Cond.code (⟨"java/lang/StringUTF16", "charAt", "([BI)C"⟩ : MethodName) jdk_52_method_83_code 2 (some .char) :: ws) ({ frames := 3, cells := 0, slots := 0, locals := 40 } : Room)) (fun a U => a = #[(.ref tx), (.int (2 : Int32))] ∧ Z.Warmed39 U.vm ∧ U.heap = h0) (fun _ _ _ _ _ => True) (fun _ U o U' => ∃ v L, o = .returned v ∧ QrmUA2 Z G tx kx cc0 cc1 cc2 cc3 h0 n0 v U'.heap L ∧ FrameEnd U o U' L ({ frames := 3, cells := 0, slots := 0, locals := 40 } : Room).cells ({ frames := 3, cells := 0, slots := 0, locals := 40 } : Room).slots) := by
  refine MetFree.of_bodySF (plainFor_of_name pn_0) hisR ?_
  intro p e s m args below meth c s₁ Bd hml0 hP hK
  obtain ⟨rfl, hZ, hh⟩ := hP
  have hx := Bd.exec
  have hby := Bd.bytes
  have hml : c.maxLocals = 2 := hml0
  have hown : s.vm.findClass "java/lang/StringUTF16" = some m.cls := findClass_of_methodNamed Bd.named
  have hnm := (name_of_methodNamed Bd.named Bd.method).1
  have X0 : Stand p l e ({ frames := 3, cells := 0, slots := 0, locals := 40 } : Room) s m #[(.ref tx), (.int (2 : Int32))] below meth c s₁ [] 0 0 := Stand.of_body Bd
  have e0 : s₁.heap = h0 := by rw [← hh, Bd.state]; rfl
  have N0 := Fr.nil n0
  have Z0 : n0 ≤ h0.size := by have q := X00.2.1; rw [X00.1] at q; exact q
  obtain ⟨TG, hTG, hT2⟩ : ∃ P : State → Prop, (∀ t, P t → Steps p.tables e below (s₁.setTop (entryFrame m #[(.ref tx), (.int (2 : Int32))] 2)) t) ∧ (∀ t, Steps p.tables e below (s₁.setTop (entryFrame m #[(.ref tx), (.int (2 : Int32))] 2)) t → P t) := ⟨_, fun t k => k, fun t k => k⟩
  have pre0 : ∀ t, Sx p e below s₁ m 0 #[xvr tx, xvi (2 : Int32)] [] t → TG t := fun t k => hT2 t (castTop (ef_rmUA2 m tx (2 : Int32) ) k)
  obtain ⟨_, _, ⟨T342, L342, k342, n342⟩, -, X342, ⟨Lc342, hQ342, l342, y342, z342⟩, st342⟩ := Jvm.LawKit.callS X0 hx (y := (⟨"java/lang/StringUTF16", "checkIndex", "(I[B)V"⟩ : MethodName)) hown (mvT hZ (w_87 hw)) (mvT hZ (w_88 hw)) (mvT hZ (w_23 hw)) (mvT hZ (w_89 hw)) (by decide) (backOf (W := 0) (rmA12 l Z a0 hw G ST [] tx kx ((cc0 >>> ((0 : Int32) &&& 31)).toInt8.toInt32) ((cc0 >>> ((8 : Int32) &&& 31)).toInt8.toInt32) ((cc1 >>> ((0 : Int32) &&& 31)).toInt8.toInt32) ((cc1 >>> ((8 : Int32) &&& 31)).toInt8.toInt32) ((cc2 >>> ((0 : Int32) &&& 31)).toInt8.toInt32) ((cc2 >>> ((8 : Int32) &&& 31)).toInt8.toInt32) ((cc3 >>> ((0 : Int32) &&& 31)).toInt8.toInt32) ((cc3 >>> ((8 : Int32) &&& 31)).toInt8.toInt32) h0 n0 X00 V1) hZ (w_89 hw) (w_23 hw) (by decide) (by decide)) (g := (mkF m 2 #[xvr tx, xvi (2 : Int32)] [xwr tx, xwi (2 : Int32)])) rfl (by rw [hml]; rfl) (argsL := [(.int (2 : Int32)), (.ref tx)]) (rest := []) (lenOf pd_11 rfl) rfl (by show 2 * 0 + _ ≤ _; exact Nat.le_of_eq rfl) (hb hby d20_2) (fun _ _ => ⟨rfl, e0, (by decide : 0 + 0 ≤ _), (by decide : 0 + 0 ≤ _)⟩)
  dsimp only [Pt.U, Pt.locs, Pt.cells, Pt.slots] at X342 l342 y342 z342 st342 hQ342
  subst l342 y342 z342
  obtain ⟨rfl, N342q, e342⟩ := hQ342
  have N342 := Fr.app N0 N342q
  obtain ⟨_, _, ⟨T343, L343, k343, n343⟩, -, X343, ⟨Lc343, hQ343, l343, y343, z343⟩, st343⟩ := Jvm.LawKit.callS X342 hx (y := (⟨"java/lang/StringUTF16", "getChar", "([BI)C"⟩ : MethodName)) hown (mvT hZ (w_81 hw)) (mvT hZ (w_82 hw)) (mvT hZ (w_23 hw)) (mvT hZ (w_83 hw)) (by decide) (backOf (W := 0) (rmGC2 l Z a0 hw G ST [] tx kx cc0 cc1 cc2 cc3 h0 n0 X00 V1 hr_cc0 hr_cc1 hr_cc2 hr_cc3) hZ (w_83 hw) (w_23 hw) (by decide) (by decide)) (g := (mkF m 7 #[xvr tx, xvi (2 : Int32)] [xwi (2 : Int32), xwr tx])) rfl (by rw [hml]; rfl) (argsL := [(.ref tx), (.int (2 : Int32))]) (rest := []) (lenOf pd_5 rfl) rfl (by show 2 * 0 + _ ≤ _; exact Nat.le_of_eq rfl) (hb hby d20_7) (fun _ _ => ⟨rfl, e342, (by decide : 0 + 0 ≤ _), (by decide : 0 + 0 ≤ _)⟩)
  dsimp only [Pt.U, Pt.locs, Pt.cells, Pt.slots] at X343 l343 y343 z343 st343 hQ343
  subst l343 y343 z343
  obtain ⟨rfl, N343q, e343⟩ := hQ343
  have N343 := Fr.app N342 N343q
  obtain ⟨fs, hr, hrun, hended, hW, hsame⟩ := X343.leave (v := some (.int cc2)) (fun h => by rw [Bd.returns] at h; cases h)
  refine ⟨_, _, hTG _ (pre0 _ ?_), hrun, hended, _, _, rfl, ?_, ⟨_, rfl⟩, hW, hsame.mono (by decide) (by decide)⟩
  · refine y_iloadN X0 hx 1 (hb hby d20_0) rfl rfl ?_
    refine y_aloadN X0 hx 2 (hb hby d20_1) rfl rfl rfl ?_
    refine st342 _ ?_
    show Sx p e below T342 m 5 #[xvr tx, xvi (2 : Int32)] [] _
    refine y_aloadN X342 hx 6 (hb hby d20_5) rfl rfl rfl ?_
    refine y_iloadN X342 hx 7 (hb hby d20_6) rfl rfl ?_
    refine st343 _ ?_
    show Sx p e below T343 m 10 #[xvr tx, xvi (2 : Int32)] [xwi cc2] _
    exact retN X343 hx (t := .char) Bd.returns (by simp) (hb hby d20_10) ((by rw [own_nar16 hr_cc2]; exact hr))
  · show QrmUA2 Z G tx kx cc0 cc1 cc2 cc3 h0 n0 _ T343.heap _
    rw [e343]
    exact ⟨rfl, N343, rfl⟩
theorem ef_rmCA2 (m : MethodId) (x0 : Addr) (x1 : Int32)  : entryFrame m #[(.ref x0), (.int x1)] 2 = mkF m 0 #[.val (.ref x0), .val (.int x1)] [] := by first | (simp [entryFrame, mkF, argsToLocals, Value.category]; done) | rfl
def QrmCA2 (Z : State) (G : Gs) (ax : Addr) (cc0 : Int32) (cc1 : Int32) (cc2 : Int32) (cc3 : Int32) (h0 : Heap) (n0 : Nat) (v : Option Value) (h : Heap) (L : List Loc) : Prop := v = some (.int cc2) ∧ Fr n0 L ∧ h = h0
set_option maxRecDepth 65536 in
set_option maxHeartbeats 40000000 in
theorem rmCA2 (l : Launch) (Z : State) (a0 : Array Value) (hw : HW a0 Z) (G : Gs) (ST : StartF Z G) (ws : List Jvm.Cond) (ax : Addr) (cc0 : Int32) (cc1 : Int32) (cc2 : Int32) (cc3 : Int32) (h0 : Heap) (n0 : Nat) (X00 : Old Z n0 h0) (hS : own_S Z h0 ax cc0 cc1 cc2 cc3) (hr_cc0 : own_c16 cc0) (hr_cc1 : own_c16 cc1) (hr_cc2 : own_c16 cc2) (hr_cc3 : own_c16 cc3) :
    MetFree l (⟨"java/lang/String", "charAt", "(I)C"⟩ : MethodName) (head1 (Jvm.Cond.code (⟨"java/lang/String", "charAt", "(I)C"⟩ : MethodName) jdk_42_method_56_code 2 (some .char) :: ws) ({ frames := 4, cells := 0, slots := 0, locals := 53 } : Room)) (fun a U => a = #[(.ref ax), (.int (2 : Int32))] ∧ Z.Warmed39 U.vm ∧ U.heap = h0) (fun _ _ _ _ _ => True) (fun _ U o U' => ∃ v L, o = .returned v ∧ QrmCA2 Z G ax cc0 cc1 cc2 cc3 h0 n0 v U'.heap L ∧ FrameEnd U o U' L ({ frames := 4, cells := 0, slots := 0, locals := 53 } : Room).cells ({ frames := 4, cells := 0, slots := 0, locals := 53 } : Room).slots) := by
  refine MetFree.of_bodySF (plainFor_of_name pn_1) hisR ?_
  intro p e s m args below meth c s₁ Bd hml0 hP hK
  obtain ⟨rfl, hZ, hh⟩ := hP
  have hx := Bd.exec
  have hby := Bd.bytes
  have hml : c.maxLocals = 2 := hml0
  have hown : s.vm.findClass "java/lang/String" = some m.cls := findClass_of_methodNamed Bd.named
  have hnm := (name_of_methodNamed Bd.named Bd.method).1
  have X0 : Stand p l e ({ frames := 4, cells := 0, slots := 0, locals := 53 } : Room) s m #[(.ref ax), (.int (2 : Int32))] below meth c s₁ [] 0 0 := Stand.of_body Bd
  have e0 : s₁.heap = h0 := by rw [← hh, Bd.state]; rfl
  have N0 := Fr.nil n0
  have Z0 : n0 ≤ h0.size := by have q := X00.2.1; rw [X00.1] at q; exact q
  obtain ⟨TG, hTG, hT2⟩ : ∃ P : State → Prop, (∀ t, P t → Steps p.tables e below (s₁.setTop (entryFrame m #[(.ref ax), (.int (2 : Int32))] 2)) t) ∧ (∀ t, Steps p.tables e below (s₁.setTop (entryFrame m #[(.ref ax), (.int (2 : Int32))] 2)) t → P t) := ⟨_, fun t k => k, fun t k => k⟩
  have pre0 : ∀ t, Sx p e below s₁ m 0 #[xvr ax, xvi (2 : Int32)] [] t → TG t := fun t k => hT2 t (castTop (ef_rmCA2 m ax (2 : Int32) ) k)
  obtain ⟨tt, kk, Eo, Fvo, (⟨Fco, Vo, hle⟩ | ⟨Fco, Vo⟩)⟩ := hS
  · obtain ⟨cq345, kq345, q345a, q345b, q345c⟩ := isOf hZ e0 Eo
    obtain ⟨_, _, ⟨T344, L344, k344, n344⟩, -, X344, ⟨Lc344, hQ344, l344, y344, z344⟩, st344⟩ := X0.virtualBack hx (y := (⟨"java/lang/String", "isLatin1", "()Z"⟩ : MethodName)) (z := (⟨"java/lang/String", "isLatin1", "()Z"⟩ : MethodName)) hown (mvT hZ (w_48 hw)) (mvT hZ (w_49 hw)) (notFace_of_selects (args := #[]) (mvT hZ (w_51 hw))) (mvT hZ (w_51 hw)) (mvT hZ (w_50 hw)) (by decide) (backOf (W := 0) (rmLt0 l Z a0 hw G ST [] ax h0 n0 X00 Fco) hZ (w_52 hw) (w_9 hw) (by decide) (by decide)) q345a q345c (g := (mkF m 1 #[xvr ax, xvi (2 : Int32)] [xwr ax])) rfl (by rw [hml]; rfl) (Steps.refl _) (argsL := []) (rest := []) (lenOf pd_12 rfl) rfl (by show 2 * 0 + _ ≤ _; exact Nat.le_of_eq rfl) (hb hby d10_1) (fun _ _ => ⟨rfl, e0, (by decide : 0 + 0 ≤ _), (by decide : 0 + 0 ≤ _)⟩)
    dsimp only [Pt.U, Pt.locs, Pt.cells, Pt.slots] at X344 l344 y344 z344 st344 hQ344
    subst l344 y344 z344
    obtain ⟨rfl, N344q, e344⟩ := hQ344
    have N344 := Fr.app N0 N344q
    obtain ⟨T346, X346, e346, st346⟩ := getF X344 hx hZ hown (host := "") (Or.inl (w_34 hw)) Via.refl e344 Fvo (g := (mkF m 8 #[xvr ax, xvi (2 : Int32)] [xwr ax])) rfl rfl (hb hby d10_8)
    obtain ⟨_, _, ⟨T347, L347, k347, n347⟩, -, X347, ⟨Lc347, hQ347, l347, y347, z347⟩, st347⟩ := Jvm.LawKit.callS X346 hx (y := (⟨"java/lang/StringLatin1", "charAt", "([BI)C"⟩ : MethodName)) hown (mvT hZ (w_53 hw)) (mvT hZ (w_54 hw)) (mvT hZ (w_55 hw)) (mvT hZ (w_56 hw)) (by decide) (backOf (W := 0) (rmLA2 l Z a0 hw G ST [] tt kk cc0 cc1 cc2 cc3 h0 n0 X00 Vo hr_cc0 hr_cc1 hr_cc2 hr_cc3 hle.1 hle.2.1 hle.2.2.1 hle.2.2.2) hZ (w_56 hw) (w_55 hw) (by decide) (by decide)) (g := (mkF m 12 #[xvr ax, xvi (2 : Int32)] [xwi (2 : Int32), xwr tt])) rfl (by rw [hml]; rfl) (argsL := [(.ref tt), (.int (2 : Int32))]) (rest := []) (lenOf pd_5 rfl) rfl (by show 2 * 0 + _ ≤ _; exact Nat.le_of_eq rfl) (hb hby d10_12) (fun _ _ => ⟨rfl, e346, (by decide : 0 + 0 ≤ _), (by decide : 0 + 0 ≤ _)⟩)
    dsimp only [Pt.U, Pt.locs, Pt.cells, Pt.slots] at X347 l347 y347 z347 st347 hQ347
    subst l347 y347 z347
    obtain ⟨rfl, N347q, e347⟩ := hQ347
    have N347 := Fr.app N344 N347q
    obtain ⟨fs, hr, hrun, hended, hW, hsame⟩ := X347.leave (v := some (.int cc2)) (fun h => by rw [Bd.returns] at h; cases h)
    refine ⟨_, _, hTG _ (pre0 _ ?_), hrun, hended, _, _, rfl, ?_, ⟨_, rfl⟩, hW, hsame.mono (by decide) (by decide)⟩
    · refine y_aloadN X0 hx 1 (hb hby d10_0) rfl rfl rfl ?_
      refine st344.trans ?_
      show Sx p e below T344 m 4 #[xvr ax, xvi (2 : Int32)] [xwi (1 : Int32)] _
      refine y_ifNo X344 hx 7 (hb hby d10_4) (XT.i0_eq_f (by decide)) rfl ?_
      refine y_aloadN X344 hx 8 (hb hby d10_7) rfl rfl rfl ?_
      refine st346 _ ?_
      show Sx p e below T346 m 11 #[xvr ax, xvi (2 : Int32)] [xwr tt] _
      refine y_iloadN X346 hx 12 (hb hby d10_11) rfl rfl ?_
      refine st347 _ ?_
      show Sx p e below T347 m 15 #[xvr ax, xvi (2 : Int32)] [xwi cc2] _
      exact retN X347 hx (t := .char) Bd.returns (by simp) (hb hby d10_15) ((by rw [own_nar16 hr_cc2]; exact hr))
    · show QrmCA2 Z G ax cc0 cc1 cc2 cc3 h0 n0 _ T347.heap _
      rw [e347]
      exact ⟨rfl, N347, rfl⟩
  · obtain ⟨cq349, kq349, q349a, q349b, q349c⟩ := isOf hZ e0 Eo
    obtain ⟨_, _, ⟨T348, L348, k348, n348⟩, -, X348, ⟨Lc348, hQ348, l348, y348, z348⟩, st348⟩ := X0.virtualBack hx (y := (⟨"java/lang/String", "isLatin1", "()Z"⟩ : MethodName)) (z := (⟨"java/lang/String", "isLatin1", "()Z"⟩ : MethodName)) hown (mvT hZ (w_48 hw)) (mvT hZ (w_49 hw)) (notFace_of_selects (args := #[]) (mvT hZ (w_51 hw))) (mvT hZ (w_51 hw)) (mvT hZ (w_50 hw)) (by decide) (backOf (W := 0) (rmLt1 l Z a0 hw G ST [] ax h0 n0 X00 Fco) hZ (w_52 hw) (w_9 hw) (by decide) (by decide)) q349a q349c (g := (mkF m 1 #[xvr ax, xvi (2 : Int32)] [xwr ax])) rfl (by rw [hml]; rfl) (Steps.refl _) (argsL := []) (rest := []) (lenOf pd_12 rfl) rfl (by show 2 * 0 + _ ≤ _; exact Nat.le_of_eq rfl) (hb hby d10_1) (fun _ _ => ⟨rfl, e0, (by decide : 0 + 0 ≤ _), (by decide : 0 + 0 ≤ _)⟩)
    dsimp only [Pt.U, Pt.locs, Pt.cells, Pt.slots] at X348 l348 y348 z348 st348 hQ348
    subst l348 y348 z348
    obtain ⟨rfl, N348q, e348⟩ := hQ348
    have N348 := Fr.app N0 N348q
    obtain ⟨T350, X350, e350, st350⟩ := getF X348 hx hZ hown (host := "") (Or.inl (w_34 hw)) Via.refl e348 Fvo (g := (mkF m 17 #[xvr ax, xvi (2 : Int32)] [xwr ax])) rfl rfl (hb hby d10_17)
    obtain ⟨_, _, ⟨T351, L351, k351, n351⟩, -, X351, ⟨Lc351, hQ351, l351, y351, z351⟩, st351⟩ := Jvm.LawKit.callS X350 hx (y := (⟨"java/lang/StringUTF16", "charAt", "([BI)C"⟩ : MethodName)) hown (mvT hZ (w_84 hw)) (mvT hZ (w_85 hw)) (mvT hZ (w_23 hw)) (mvT hZ (w_86 hw)) (by decide) (backOf (W := 0) (rmUA2 l Z a0 hw G ST [] tt kk cc0 cc1 cc2 cc3 h0 n0 X00 Vo hr_cc0 hr_cc1 hr_cc2 hr_cc3) hZ (w_86 hw) (w_23 hw) (by decide) (by decide)) (g := (mkF m 21 #[xvr ax, xvi (2 : Int32)] [xwi (2 : Int32), xwr tt])) rfl (by rw [hml]; rfl) (argsL := [(.ref tt), (.int (2 : Int32))]) (rest := []) (lenOf pd_5 rfl) rfl (by show 2 * 0 + _ ≤ _; exact Nat.le_of_eq rfl) (hb hby d10_21) (fun _ _ => ⟨rfl, e350, (by decide : 0 + 0 ≤ _), (by decide : 0 + 0 ≤ _)⟩)
    dsimp only [Pt.U, Pt.locs, Pt.cells, Pt.slots] at X351 l351 y351 z351 st351 hQ351
    subst l351 y351 z351
    obtain ⟨rfl, N351q, e351⟩ := hQ351
    have N351 := Fr.app N348 N351q
    obtain ⟨fs, hr, hrun, hended, hW, hsame⟩ := X351.leave (v := some (.int cc2)) (fun h => by rw [Bd.returns] at h; cases h)
    refine ⟨_, _, hTG _ (pre0 _ ?_), hrun, hended, _, _, rfl, ?_, ⟨_, rfl⟩, hW, hsame.mono (by decide) (by decide)⟩
    · refine y_aloadN X0 hx 1 (hb hby d10_0) rfl rfl rfl ?_
      refine st348.trans ?_
      show Sx p e below T348 m 4 #[xvr ax, xvi (2 : Int32)] [xwi (0 : Int32)] _
      refine y_ifYes X348 hx 16 (hb hby d10_4) (XT.i0_eq_t (by decide)) (by decide) (by decide) ?_
      refine y_aloadN X348 hx 17 (hb hby d10_16) rfl rfl rfl ?_
      refine st350 _ ?_
      show Sx p e below T350 m 20 #[xvr ax, xvi (2 : Int32)] [xwr tt] _
      refine y_iloadN X350 hx 21 (hb hby d10_20) rfl rfl ?_
      refine st351 _ ?_
      show Sx p e below T351 m 24 #[xvr ax, xvi (2 : Int32)] [xwi cc2] _
      exact retN X351 hx (t := .char) Bd.returns (by simp) (hb hby d10_24) ((by rw [own_nar16 hr_cc2]; exact hr))
    · show QrmCA2 Z G ax cc0 cc1 cc2 cc3 h0 n0 _ T351.heap _
      rw [e351]
      exact ⟨rfl, N351, rfl⟩
theorem ef_rmLA3 (m : MethodId) (x0 : Addr) (x1 : Int32)  : entryFrame m #[(.ref x0), (.int x1)] 2 = mkF m 0 #[.val (.ref x0), .val (.int x1)] [] := by first | (simp [entryFrame, mkF, argsToLocals, Value.category]; done) | rfl
def QrmLA3 (Z : State) (G : Gs) (tx : Addr) (kx : ClassId) (cc0 : Int32) (cc1 : Int32) (cc2 : Int32) (cc3 : Int32) (h0 : Heap) (n0 : Nat) (v : Option Value) (h : Heap) (L : List Loc) : Prop := v = some (.int cc3) ∧ Fr n0 L ∧ h = h0
set_option maxRecDepth 65536 in
set_option maxHeartbeats 40000000 in
theorem rmLA3 (l : Launch) (Z : State) (a0 : Array Value) (hw : HW a0 Z) (G : Gs) (ST : StartF Z G) (ws : List Jvm.Cond) (tx : Addr) (kx : ClassId) (cc0 : Int32) (cc1 : Int32) (cc2 : Int32) (cc3 : Int32) (h0 : Heap) (n0 : Nat) (X00 : Old Z n0 h0) (V1 : Arv Z h0 tx kx .byte (4 : Int32) [(.int (cc0.toInt8.toInt32)), (.int (cc1.toInt8.toInt32)), (.int (cc2.toInt8.toInt32)), (.int (cc3.toInt8.toInt32))] (.int (0 : Int32))) (hr_cc0 : own_c16 cc0) (hr_cc1 : own_c16 cc1) (hr_cc2 : own_c16 cc2) (hr_cc3 : own_c16 cc3) (hl_cc0 : ¬ (255 : Int32) < cc0) (hl_cc1 : ¬ (255 : Int32) < cc1) (hl_cc2 : ¬ (255 : Int32) < cc2) (hl_cc3 : ¬ (255 : Int32) < cc3) :
    MetFree l (⟨"java/lang/StringLatin1", "charAt", "([BI)C"⟩ : MethodName) (head1 (Jvm.Cond.code (⟨"java/lang/StringLatin1", "charAt", "([BI)C"⟩ : MethodName) jdk_43_method_2_code 2 (some .char) :: ws) ({ frames := 2, cells := 0, slots := 0, locals := 27 } : Room)) (fun a U => a = #[(.ref tx), (.int (3 : Int32))] ∧ Z.Warmed39 U.vm ∧ U.heap = h0) (fun _ _ _ _ _ => True) (fun _ U o U' => ∃ v L, o = .returned v ∧ QrmLA3 Z G tx kx cc0 cc1 cc2 cc3 h0 n0 v U'.heap L ∧ FrameEnd U o U' L ({ frames := 2, cells := 0, slots := 0, locals := 27 } : Room).cells ({ frames := 2, cells := 0, slots := 0, locals := 27 } : Room).slots) := by
  refine MetFree.of_bodySF (plainFor_of_name pn_4) hisR ?_
  intro p e s m args below meth c s₁ Bd hml0 hP hK
  obtain ⟨rfl, hZ, hh⟩ := hP
  have hx := Bd.exec
  have hby := Bd.bytes
  have hml : c.maxLocals = 2 := hml0
  have hown : s.vm.findClass "java/lang/StringLatin1" = some m.cls := findClass_of_methodNamed Bd.named
  have hnm := (name_of_methodNamed Bd.named Bd.method).1
  have X0 : Stand p l e ({ frames := 2, cells := 0, slots := 0, locals := 27 } : Room) s m #[(.ref tx), (.int (3 : Int32))] below meth c s₁ [] 0 0 := Stand.of_body Bd
  have e0 : s₁.heap = h0 := by rw [← hh, Bd.state]; rfl
  have N0 := Fr.nil n0
  have Z0 : n0 ≤ h0.size := by have q := X00.2.1; rw [X00.1] at q; exact q
  obtain ⟨TG, hTG, hT2⟩ : ∃ P : State → Prop, (∀ t, P t → Steps p.tables e below (s₁.setTop (entryFrame m #[(.ref tx), (.int (3 : Int32))] 2)) t) ∧ (∀ t, Steps p.tables e below (s₁.setTop (entryFrame m #[(.ref tx), (.int (3 : Int32))] 2)) t → P t) := ⟨_, fun t k => k, fun t k => k⟩
  have pre0 : ∀ t, Sx p e below s₁ m 0 #[xvr tx, xvi (3 : Int32)] [] t → TG t := fun t k => hT2 t (castTop (ef_rmLA3 m tx (3 : Int32) ) k)
  obtain ⟨cl352, Ar352, q352, S352, M352, H352, G352⟩ := id V1
  obtain ⟨_, _, ⟨T353, L353, k353, n353⟩, -, X353, ⟨Lc353, hQ353, l353, y353, z353⟩, st353⟩ := Jvm.LawKit.callS X0 hx (y := (⟨"java/lang/String", "checkIndex", "(II)V"⟩ : MethodName)) hown (mvT hZ (w_57 hw)) (mvT hZ (w_58 hw)) (mvT hZ (w_9 hw)) (mvT hZ (w_59 hw)) (by decide) (backOf (W := 0) (rmCI2 l Z a0 hw G ST [] (3 : Int32) (4 : Int32) h0 n0 X00 (by first | assumption | decide) (by first | assumption | decide)) hZ (w_59 hw) (w_9 hw) (by decide) (by decide)) (g := (mkF m 3 #[xvr tx, xvi (3 : Int32)] [xwi (4 : Int32), xwi (3 : Int32)])) rfl (by rw [hml]; rfl) (argsL := [(.int (3 : Int32)), (.int (4 : Int32))]) (rest := []) (lenOf pd_9 rfl) rfl (by show 2 * 0 + _ ≤ _; exact Nat.le_of_eq rfl) (hb hby d12_3) (fun _ _ => ⟨rfl, e0, (by decide : 0 + 0 ≤ _), (by decide : 0 + 0 ≤ _)⟩)
  dsimp only [Pt.U, Pt.locs, Pt.cells, Pt.slots] at X353 l353 y353 z353 st353 hQ353
  subst l353 y353 z353
  obtain ⟨rfl, N353q, e353⟩ := hQ353
  have N353 := Fr.app N0 N353q
  obtain ⟨cl354, Ar354, q354, S354, M354, H354, G354⟩ := id V1
  have in354 : ¬ ((3 : Int32) < 0 ∨ cl354.slots.size ≤ ((3 : Int32)).toNatClampNeg) := inb_of S354 ⟨by decide, by decide⟩
  obtain ⟨fs, hr, hrun, hended, hW, hsame⟩ := X353.leave (v := some (.int cc3)) (fun h => by rw [Bd.returns] at h; cases h)
  refine ⟨_, _, hTG _ (pre0 _ ?_), hrun, hended, _, _, rfl, ?_, ⟨_, rfl⟩, hW, hsame.mono (by decide) (by decide)⟩
  · refine y_iloadN X0 hx 1 (hb hby d12_0) rfl rfl ?_
    refine y_aloadN X0 hx 2 (hb hby d12_1) rfl rfl rfl ?_
    refine X0.arraylength hx (by rw [e0]; exact Ar352.1) (State.isArrayOf_alike hZ.alike Ar352.2.1) (g := (mkF m 2 #[xvr tx, xvi (3 : Int32)] [xwr tx, xwi (3 : Int32)])) rfl rfl (hb hby d12_2) _ ?_
    rw [len_of S352 M352]
    show Sx p e below s₁ m 3 #[xvr tx, xvi (3 : Int32)] [xwi (4 : Int32), xwi (3 : Int32)] _
    refine st353 _ ?_
    show Sx p e below T353 m 6 #[xvr tx, xvi (3 : Int32)] [] _
    refine y_aloadN X353 hx 7 (hb hby d12_6) rfl rfl rfl ?_
    refine y_iloadN X353 hx 8 (hb hby d12_7) rfl rfl ?_
    refine X353.baloadBytes hx (j := (3 : Int32)) (v := (.int (cc3.toInt8.toInt32))) (by rw [e353]; exact Ar354.1) (State.isArrayOf_alike hZ.alike Ar354.2.1) Ar354.2.2 in354 (Has.at H354 in354 rfl) (g := (mkF m 8 #[xvr tx, xvi (3 : Int32)] [xwi (3 : Int32), xwr tx])) rfl rfl (hb hby d12_8) _ ?_
    show Sx p e below T353 m 9 #[xvr tx, xvi (3 : Int32)] [xwi (cc3.toInt8.toInt32)] _
    refine y_sipush X353 hx (255 : Int32) 12 (hb hby d12_9) rfl rfl ?_
    refine y_iand X353 hx 13 (hb hby d12_12) rfl ?_
    rw [own_b8 ⟨hr_cc3.1, hl_cc3⟩]
    refine XS.i2c X353.here hx rfl (hb hby d12_13) rfl ?_
    show Sx p e below T353 m 14 #[xvr tx, xvi (3 : Int32)] [xwi (cc3.toUInt32.toUInt16.toUInt32.toInt32)] _
    rw [own_i16 hr_cc3]
    show Sx p e below T353 m 14 #[xvr tx, xvi (3 : Int32)] [xwi cc3] _
    exact retN X353 hx (t := .char) Bd.returns (by simp) (hb hby d12_14) ((by rw [own_nar16 hr_cc3]; exact hr))
  · show QrmLA3 Z G tx kx cc0 cc1 cc2 cc3 h0 n0 _ T353.heap _
    rw [e353]
    exact ⟨rfl, N353, rfl⟩
theorem ef_rmUA3 (m : MethodId) (x0 : Addr) (x1 : Int32)  : entryFrame m #[(.ref x0), (.int x1)] 2 = mkF m 0 #[.val (.ref x0), .val (.int x1)] [] := by first | (simp [entryFrame, mkF, argsToLocals, Value.category]; done) | rfl
theorem ef_rmA13 (m : MethodId) (x0 : Int32) (x1 : Addr)  : entryFrame m #[(.int x0), (.ref x1)] 2 = mkF m 0 #[.val (.int x0), .val (.ref x1)] [] := by first | (simp [entryFrame, mkF, argsToLocals, Value.category]; done) | rfl
def QrmA13 (Z : State) (G : Gs) (xa1 : Addr) (xk_xa1 : ClassId) (xi1 : Int32) (xi2 : Int32) (xi3 : Int32) (xi4 : Int32) (xi5 : Int32) (xi6 : Int32) (xi7 : Int32) (xi8 : Int32) (h0 : Heap) (n0 : Nat) (v : Option Value) (h : Heap) (L : List Loc) : Prop := v = none ∧ Fr n0 L ∧ h = h0
set_option maxRecDepth 65536 in
set_option maxHeartbeats 40000000 in
theorem rmA13 (l : Launch) (Z : State) (a0 : Array Value) (hw : HW a0 Z) (G : Gs) (ST : StartF Z G) (ws : List Jvm.Cond) (xa1 : Addr) (xk_xa1 : ClassId) (xi1 : Int32) (xi2 : Int32) (xi3 : Int32) (xi4 : Int32) (xi5 : Int32) (xi6 : Int32) (xi7 : Int32) (xi8 : Int32) (h0 : Heap) (n0 : Nat) (X00 : Old Z n0 h0) (xV_xa1 : Arv Z h0 xa1 xk_xa1 .byte (8 : Int32) [(.int xi1), (.int xi2), (.int xi3), (.int xi4), (.int xi5), (.int xi6), (.int xi7), (.int xi8)] (.int (0 : Int32))) :
    MetFree l (⟨"java/lang/StringUTF16", "checkIndex", "(I[B)V"⟩ : MethodName) (head1 (Jvm.Cond.code (⟨"java/lang/StringUTF16", "checkIndex", "(I[B)V"⟩ : MethodName) jdk_52_method_91_code 2 none :: ws) ({ frames := 2, cells := 0, slots := 0, locals := 27 } : Room)) (fun a U => a = #[(.int (3 : Int32)), (.ref xa1)] ∧ Z.Warmed39 U.vm ∧ U.heap = h0) (fun _ _ _ _ _ => True) (fun _ U o U' => ∃ v L, o = .returned v ∧ QrmA13 Z G xa1 xk_xa1 xi1 xi2 xi3 xi4 xi5 xi6 xi7 xi8 h0 n0 v U'.heap L ∧ FrameEnd U o U' L ({ frames := 2, cells := 0, slots := 0, locals := 27 } : Room).cells ({ frames := 2, cells := 0, slots := 0, locals := 27 } : Room).slots) := by
  refine MetFree.of_bodySF (plainFor_of_name pn_0) hisR ?_
  intro p e s m args below meth c s₁ Bd hml0 hP hK
  obtain ⟨rfl, hZ, hh⟩ := hP
  have hx := Bd.exec
  have hby := Bd.bytes
  have hml : c.maxLocals = 2 := hml0
  have hown : s.vm.findClass "java/lang/StringUTF16" = some m.cls := findClass_of_methodNamed Bd.named
  have hnm := (name_of_methodNamed Bd.named Bd.method).1
  have X0 : Stand p l e ({ frames := 2, cells := 0, slots := 0, locals := 27 } : Room) s m #[(.int (3 : Int32)), (.ref xa1)] below meth c s₁ [] 0 0 := Stand.of_body Bd
  have e0 : s₁.heap = h0 := by rw [← hh, Bd.state]; rfl
  have N0 := Fr.nil n0
  have Z0 : n0 ≤ h0.size := by have q := X00.2.1; rw [X00.1] at q; exact q
  obtain ⟨TG, hTG, hT2⟩ : ∃ P : State → Prop, (∀ t, P t → Steps p.tables e below (s₁.setTop (entryFrame m #[(.int (3 : Int32)), (.ref xa1)] 2)) t) ∧ (∀ t, Steps p.tables e below (s₁.setTop (entryFrame m #[(.int (3 : Int32)), (.ref xa1)] 2)) t → P t) := ⟨_, fun t k => k, fun t k => k⟩
  have pre0 : ∀ t, Sx p e below s₁ m 0 #[xvi (3 : Int32), xvr xa1] [] t → TG t := fun t k => hT2 t (castTop (ef_rmA13 m (3 : Int32) xa1 ) k)
  obtain ⟨_, _, ⟨T355, L355, k355, n355⟩, -, X355, ⟨Lc355, hQ355, l355, y355, z355⟩, st355⟩ := Jvm.LawKit.callS X0 hx (y := (⟨"java/lang/StringUTF16", "length", "([B)I"⟩ : MethodName)) hown (mvT hZ (w_90 hw)) (mvT hZ (w_91 hw)) (mvT hZ (w_23 hw)) (mvT hZ (w_92 hw)) (by decide) (backOf (W := 1) (rmA10 l Z a0 hw G ST [] xa1 xk_xa1 xi1 xi2 xi3 xi4 xi5 xi6 xi7 xi8 h0 n0 X00 xV_xa1) hZ (w_92 hw) (w_23 hw) (by decide) (by decide)) (g := (mkF m 2 #[xvi (3 : Int32), xvr xa1] [xwr xa1, xwi (3 : Int32)])) rfl (by rw [hml]; rfl) (argsL := [(.ref xa1)]) (rest := [(.int (3 : Int32))]) (lenOf pd_10 rfl) rfl (by show 2 * 0 + _ ≤ _; exact Nat.le_of_eq rfl) (hb hby d21_2) (fun _ _ => ⟨rfl, e0, (by decide : 0 + 0 ≤ _), (by decide : 0 + 0 ≤ _)⟩)
  dsimp only [Pt.U, Pt.locs, Pt.cells, Pt.slots] at X355 l355 y355 z355 st355 hQ355
  subst l355 y355 z355
  obtain ⟨rfl, N355q, e355⟩ := hQ355
  have N355 := Fr.app N0 N355q
  obtain ⟨_, _, ⟨T356, L356, k356, n356⟩, -, X356, ⟨Lc356, hQ356, l356, y356, z356⟩, st356⟩ := Jvm.LawKit.callS X355 hx (y := (⟨"java/lang/String", "checkIndex", "(II)V"⟩ : MethodName)) hown (mvT hZ (w_93 hw)) (mvT hZ (w_58 hw)) (mvT hZ (w_9 hw)) (mvT hZ (w_59 hw)) (by decide) (backOf (W := 0) (rmCI2 l Z a0 hw G ST [] (3 : Int32) (4 : Int32) h0 n0 X00 (by first | assumption | decide) (by first | assumption | decide)) hZ (w_59 hw) (w_9 hw) (by decide) (by decide)) (g := (mkF m 5 #[xvi (3 : Int32), xvr xa1] [xwi (4 : Int32), xwi (3 : Int32)])) rfl (by rw [hml]; rfl) (argsL := [(.int (3 : Int32)), (.int (4 : Int32))]) (rest := []) (lenOf pd_9 rfl) rfl (by show 2 * 0 + _ ≤ _; exact Nat.le_of_eq rfl) (hb hby d21_5) (fun _ _ => ⟨rfl, e355, (by decide : 0 + 0 ≤ _), (by decide : 0 + 0 ≤ _)⟩)
  dsimp only [Pt.U, Pt.locs, Pt.cells, Pt.slots] at X356 l356 y356 z356 st356 hQ356
  subst l356 y356 z356
  obtain ⟨rfl, N356q, e356⟩ := hQ356
  have N356 := Fr.app N355 N356q
  obtain ⟨fs, hr, hrun, hended, hW, hsame⟩ := X356.leave (v := none) (fun _ => rfl)
  refine ⟨_, _, hTG _ (pre0 _ ?_), hrun, hended, _, _, rfl, ?_, ⟨_, rfl⟩, hW, hsame.mono (by decide) (by decide)⟩
  · refine y_iloadN X0 hx 1 (hb hby d21_0) rfl rfl ?_
    refine y_aloadN X0 hx 2 (hb hby d21_1) rfl rfl rfl ?_
    refine st355 _ ?_
    show Sx p e below T355 m 5 #[xvi (3 : Int32), xvr xa1] [xwi (4 : Int32), xwi (3 : Int32)] _
    refine st356 _ ?_
    show Sx p e below T356 m 8 #[xvi (3 : Int32), xvr xa1] [] _
    exact X356.returnOut hx Bd.returns (hb hby d21_8) hr
  · show QrmA13 Z G xa1 xk_xa1 xi1 xi2 xi3 xi4 xi5 xi6 xi7 xi8 h0 n0 _ T356.heap _
    rw [e356]
    exact ⟨rfl, N356, rfl⟩
def QrmUA3 (Z : State) (G : Gs) (tx : Addr) (kx : ClassId) (cc0 : Int32) (cc1 : Int32) (cc2 : Int32) (cc3 : Int32) (h0 : Heap) (n0 : Nat) (v : Option Value) (h : Heap) (L : List Loc) : Prop := v = some (.int cc3) ∧ Fr n0 L ∧ h = h0
set_option maxRecDepth 65536 in
set_option maxHeartbeats 40000000 in
theorem rmUA3 (l : Launch) (Z : State) (a0 : Array Value) (hw : HW a0 Z) (G : Gs) (ST : StartF Z G) (ws : List Jvm.Cond) (tx : Addr) (kx : ClassId) (cc0 : Int32) (cc1 : Int32) (cc2 : Int32) (cc3 : Int32) (h0 : Heap) (n0 : Nat) (X00 : Old Z n0 h0) (V1 : Arv Z h0 tx kx .byte (8 : Int32) [(.int ((cc0 >>> ((0 : Int32) &&& 31)).toInt8.toInt32)), (.int ((cc0 >>> ((8 : Int32) &&& 31)).toInt8.toInt32)), (.int ((cc1 >>> ((0 : Int32) &&& 31)).toInt8.toInt32)), (.int ((cc1 >>> ((8 : Int32) &&& 31)).toInt8.toInt32)), (.int ((cc2 >>> ((0 : Int32) &&& 31)).toInt8.toInt32)), (.int ((cc2 >>> ((8 : Int32) &&& 31)).toInt8.toInt32)), (.int ((cc3 >>> ((0 : Int32) &&& 31)).toInt8.toInt32)), (.int ((cc3 >>> ((8 : Int32) &&& 31)).toInt8.toInt32))] (.int (0 : Int32))) (hr_cc0 : own_c16 cc0) (hr_cc1 : own_c16 cc1) (hr_cc2 : own_c16 cc2) (hr_cc3 : own_c16 cc3) :
    MetFree l (⟨"java/lang/StringUTF16", "charAt", "([BI)C"⟩ : MethodName) (head1 (Jvm.Cond.code (⟨"java/lang/StringUTF16", "charAt", "([BI)C"⟩ : MethodName) jdk_52_method_83_code 2 (some .char) :: ws) ({ frames := 3, cells := 0, slots := 0, locals := 40 } : Room)) (fun a U => a = #[(.ref tx), (.int (3 : Int32))] ∧ Z.Warmed39 U.vm ∧ U.heap = h0) (fun _ _ _ _ _ => True) (fun _ U o U' => ∃ v L, o = .returned v ∧ QrmUA3 Z G tx kx cc0 cc1 cc2 cc3 h0 n0 v U'.heap L ∧ FrameEnd U o U' L ({ frames := 3, cells := 0, slots := 0, locals := 40 } : Room).cells ({ frames := 3, cells := 0, slots := 0, locals := 40 } : Room).slots) := by
  refine MetFree.of_bodySF (plainFor_of_name pn_0) hisR ?_
  intro p e s m args below meth c s₁ Bd hml0 hP hK
  obtain ⟨rfl, hZ, hh⟩ := hP
  have hx := Bd.exec
  have hby := Bd.bytes
  have hml : c.maxLocals = 2 := hml0
  have hown : s.vm.findClass "java/lang/StringUTF16" = some m.cls := findClass_of_methodNamed Bd.named
  have hnm := (name_of_methodNamed Bd.named Bd.method).1
  have X0 : Stand p l e ({ frames := 3, cells := 0, slots := 0, locals := 40 } : Room) s m #[(.ref tx), (.int (3 : Int32))] below meth c s₁ [] 0 0 := Stand.of_body Bd
  have e0 : s₁.heap = h0 := by rw [← hh, Bd.state]; rfl
  have N0 := Fr.nil n0
  have Z0 : n0 ≤ h0.size := by have q := X00.2.1; rw [X00.1] at q; exact q
  obtain ⟨TG, hTG, hT2⟩ : ∃ P : State → Prop, (∀ t, P t → Steps p.tables e below (s₁.setTop (entryFrame m #[(.ref tx), (.int (3 : Int32))] 2)) t) ∧ (∀ t, Steps p.tables e below (s₁.setTop (entryFrame m #[(.ref tx), (.int (3 : Int32))] 2)) t → P t) := ⟨_, fun t k => k, fun t k => k⟩
  have pre0 : ∀ t, Sx p e below s₁ m 0 #[xvr tx, xvi (3 : Int32)] [] t → TG t := fun t k => hT2 t (castTop (ef_rmUA3 m tx (3 : Int32) ) k)
  obtain ⟨_, _, ⟨T357, L357, k357, n357⟩, -, X357, ⟨Lc357, hQ357, l357, y357, z357⟩, st357⟩ := Jvm.LawKit.callS X0 hx (y := (⟨"java/lang/StringUTF16", "checkIndex", "(I[B)V"⟩ : MethodName)) hown (mvT hZ (w_87 hw)) (mvT hZ (w_88 hw)) (mvT hZ (w_23 hw)) (mvT hZ (w_89 hw)) (by decide) (backOf (W := 0) (rmA13 l Z a0 hw G ST [] tx kx ((cc0 >>> ((0 : Int32) &&& 31)).toInt8.toInt32) ((cc0 >>> ((8 : Int32) &&& 31)).toInt8.toInt32) ((cc1 >>> ((0 : Int32) &&& 31)).toInt8.toInt32) ((cc1 >>> ((8 : Int32) &&& 31)).toInt8.toInt32) ((cc2 >>> ((0 : Int32) &&& 31)).toInt8.toInt32) ((cc2 >>> ((8 : Int32) &&& 31)).toInt8.toInt32) ((cc3 >>> ((0 : Int32) &&& 31)).toInt8.toInt32) ((cc3 >>> ((8 : Int32) &&& 31)).toInt8.toInt32) h0 n0 X00 V1) hZ (w_89 hw) (w_23 hw) (by decide) (by decide)) (g := (mkF m 2 #[xvr tx, xvi (3 : Int32)] [xwr tx, xwi (3 : Int32)])) rfl (by rw [hml]; rfl) (argsL := [(.int (3 : Int32)), (.ref tx)]) (rest := []) (lenOf pd_11 rfl) rfl (by show 2 * 0 + _ ≤ _; exact Nat.le_of_eq rfl) (hb hby d20_2) (fun _ _ => ⟨rfl, e0, (by decide : 0 + 0 ≤ _), (by decide : 0 + 0 ≤ _)⟩)
  dsimp only [Pt.U, Pt.locs, Pt.cells, Pt.slots] at X357 l357 y357 z357 st357 hQ357
  subst l357 y357 z357
  obtain ⟨rfl, N357q, e357⟩ := hQ357
  have N357 := Fr.app N0 N357q
  obtain ⟨_, _, ⟨T358, L358, k358, n358⟩, -, X358, ⟨Lc358, hQ358, l358, y358, z358⟩, st358⟩ := Jvm.LawKit.callS X357 hx (y := (⟨"java/lang/StringUTF16", "getChar", "([BI)C"⟩ : MethodName)) hown (mvT hZ (w_81 hw)) (mvT hZ (w_82 hw)) (mvT hZ (w_23 hw)) (mvT hZ (w_83 hw)) (by decide) (backOf (W := 0) (rmGC3 l Z a0 hw G ST [] tx kx cc0 cc1 cc2 cc3 h0 n0 X00 V1 hr_cc0 hr_cc1 hr_cc2 hr_cc3) hZ (w_83 hw) (w_23 hw) (by decide) (by decide)) (g := (mkF m 7 #[xvr tx, xvi (3 : Int32)] [xwi (3 : Int32), xwr tx])) rfl (by rw [hml]; rfl) (argsL := [(.ref tx), (.int (3 : Int32))]) (rest := []) (lenOf pd_5 rfl) rfl (by show 2 * 0 + _ ≤ _; exact Nat.le_of_eq rfl) (hb hby d20_7) (fun _ _ => ⟨rfl, e357, (by decide : 0 + 0 ≤ _), (by decide : 0 + 0 ≤ _)⟩)
  dsimp only [Pt.U, Pt.locs, Pt.cells, Pt.slots] at X358 l358 y358 z358 st358 hQ358
  subst l358 y358 z358
  obtain ⟨rfl, N358q, e358⟩ := hQ358
  have N358 := Fr.app N357 N358q
  obtain ⟨fs, hr, hrun, hended, hW, hsame⟩ := X358.leave (v := some (.int cc3)) (fun h => by rw [Bd.returns] at h; cases h)
  refine ⟨_, _, hTG _ (pre0 _ ?_), hrun, hended, _, _, rfl, ?_, ⟨_, rfl⟩, hW, hsame.mono (by decide) (by decide)⟩
  · refine y_iloadN X0 hx 1 (hb hby d20_0) rfl rfl ?_
    refine y_aloadN X0 hx 2 (hb hby d20_1) rfl rfl rfl ?_
    refine st357 _ ?_
    show Sx p e below T357 m 5 #[xvr tx, xvi (3 : Int32)] [] _
    refine y_aloadN X357 hx 6 (hb hby d20_5) rfl rfl rfl ?_
    refine y_iloadN X357 hx 7 (hb hby d20_6) rfl rfl ?_
    refine st358 _ ?_
    show Sx p e below T358 m 10 #[xvr tx, xvi (3 : Int32)] [xwi cc3] _
    exact retN X358 hx (t := .char) Bd.returns (by simp) (hb hby d20_10) ((by rw [own_nar16 hr_cc3]; exact hr))
  · show QrmUA3 Z G tx kx cc0 cc1 cc2 cc3 h0 n0 _ T358.heap _
    rw [e358]
    exact ⟨rfl, N358, rfl⟩
theorem ef_rmCA3 (m : MethodId) (x0 : Addr) (x1 : Int32)  : entryFrame m #[(.ref x0), (.int x1)] 2 = mkF m 0 #[.val (.ref x0), .val (.int x1)] [] := by first | (simp [entryFrame, mkF, argsToLocals, Value.category]; done) | rfl
def QrmCA3 (Z : State) (G : Gs) (ax : Addr) (cc0 : Int32) (cc1 : Int32) (cc2 : Int32) (cc3 : Int32) (h0 : Heap) (n0 : Nat) (v : Option Value) (h : Heap) (L : List Loc) : Prop := v = some (.int cc3) ∧ Fr n0 L ∧ h = h0
set_option maxRecDepth 65536 in
set_option maxHeartbeats 40000000 in
theorem rmCA3 (l : Launch) (Z : State) (a0 : Array Value) (hw : HW a0 Z) (G : Gs) (ST : StartF Z G) (ws : List Jvm.Cond) (ax : Addr) (cc0 : Int32) (cc1 : Int32) (cc2 : Int32) (cc3 : Int32) (h0 : Heap) (n0 : Nat) (X00 : Old Z n0 h0) (hS : own_S Z h0 ax cc0 cc1 cc2 cc3) (hr_cc0 : own_c16 cc0) (hr_cc1 : own_c16 cc1) (hr_cc2 : own_c16 cc2) (hr_cc3 : own_c16 cc3) :
    MetFree l (⟨"java/lang/String", "charAt", "(I)C"⟩ : MethodName) (head1 (Jvm.Cond.code (⟨"java/lang/String", "charAt", "(I)C"⟩ : MethodName) jdk_42_method_56_code 2 (some .char) :: ws) ({ frames := 4, cells := 0, slots := 0, locals := 53 } : Room)) (fun a U => a = #[(.ref ax), (.int (3 : Int32))] ∧ Z.Warmed39 U.vm ∧ U.heap = h0) (fun _ _ _ _ _ => True) (fun _ U o U' => ∃ v L, o = .returned v ∧ QrmCA3 Z G ax cc0 cc1 cc2 cc3 h0 n0 v U'.heap L ∧ FrameEnd U o U' L ({ frames := 4, cells := 0, slots := 0, locals := 53 } : Room).cells ({ frames := 4, cells := 0, slots := 0, locals := 53 } : Room).slots) := by
  refine MetFree.of_bodySF (plainFor_of_name pn_1) hisR ?_
  intro p e s m args below meth c s₁ Bd hml0 hP hK
  obtain ⟨rfl, hZ, hh⟩ := hP
  have hx := Bd.exec
  have hby := Bd.bytes
  have hml : c.maxLocals = 2 := hml0
  have hown : s.vm.findClass "java/lang/String" = some m.cls := findClass_of_methodNamed Bd.named
  have hnm := (name_of_methodNamed Bd.named Bd.method).1
  have X0 : Stand p l e ({ frames := 4, cells := 0, slots := 0, locals := 53 } : Room) s m #[(.ref ax), (.int (3 : Int32))] below meth c s₁ [] 0 0 := Stand.of_body Bd
  have e0 : s₁.heap = h0 := by rw [← hh, Bd.state]; rfl
  have N0 := Fr.nil n0
  have Z0 : n0 ≤ h0.size := by have q := X00.2.1; rw [X00.1] at q; exact q
  obtain ⟨TG, hTG, hT2⟩ : ∃ P : State → Prop, (∀ t, P t → Steps p.tables e below (s₁.setTop (entryFrame m #[(.ref ax), (.int (3 : Int32))] 2)) t) ∧ (∀ t, Steps p.tables e below (s₁.setTop (entryFrame m #[(.ref ax), (.int (3 : Int32))] 2)) t → P t) := ⟨_, fun t k => k, fun t k => k⟩
  have pre0 : ∀ t, Sx p e below s₁ m 0 #[xvr ax, xvi (3 : Int32)] [] t → TG t := fun t k => hT2 t (castTop (ef_rmCA3 m ax (3 : Int32) ) k)
  obtain ⟨tt, kk, Eo, Fvo, (⟨Fco, Vo, hle⟩ | ⟨Fco, Vo⟩)⟩ := hS
  · obtain ⟨cq360, kq360, q360a, q360b, q360c⟩ := isOf hZ e0 Eo
    obtain ⟨_, _, ⟨T359, L359, k359, n359⟩, -, X359, ⟨Lc359, hQ359, l359, y359, z359⟩, st359⟩ := X0.virtualBack hx (y := (⟨"java/lang/String", "isLatin1", "()Z"⟩ : MethodName)) (z := (⟨"java/lang/String", "isLatin1", "()Z"⟩ : MethodName)) hown (mvT hZ (w_48 hw)) (mvT hZ (w_49 hw)) (notFace_of_selects (args := #[]) (mvT hZ (w_51 hw))) (mvT hZ (w_51 hw)) (mvT hZ (w_50 hw)) (by decide) (backOf (W := 0) (rmLt0 l Z a0 hw G ST [] ax h0 n0 X00 Fco) hZ (w_52 hw) (w_9 hw) (by decide) (by decide)) q360a q360c (g := (mkF m 1 #[xvr ax, xvi (3 : Int32)] [xwr ax])) rfl (by rw [hml]; rfl) (Steps.refl _) (argsL := []) (rest := []) (lenOf pd_12 rfl) rfl (by show 2 * 0 + _ ≤ _; exact Nat.le_of_eq rfl) (hb hby d10_1) (fun _ _ => ⟨rfl, e0, (by decide : 0 + 0 ≤ _), (by decide : 0 + 0 ≤ _)⟩)
    dsimp only [Pt.U, Pt.locs, Pt.cells, Pt.slots] at X359 l359 y359 z359 st359 hQ359
    subst l359 y359 z359
    obtain ⟨rfl, N359q, e359⟩ := hQ359
    have N359 := Fr.app N0 N359q
    obtain ⟨T361, X361, e361, st361⟩ := getF X359 hx hZ hown (host := "") (Or.inl (w_34 hw)) Via.refl e359 Fvo (g := (mkF m 8 #[xvr ax, xvi (3 : Int32)] [xwr ax])) rfl rfl (hb hby d10_8)
    obtain ⟨_, _, ⟨T362, L362, k362, n362⟩, -, X362, ⟨Lc362, hQ362, l362, y362, z362⟩, st362⟩ := Jvm.LawKit.callS X361 hx (y := (⟨"java/lang/StringLatin1", "charAt", "([BI)C"⟩ : MethodName)) hown (mvT hZ (w_53 hw)) (mvT hZ (w_54 hw)) (mvT hZ (w_55 hw)) (mvT hZ (w_56 hw)) (by decide) (backOf (W := 0) (rmLA3 l Z a0 hw G ST [] tt kk cc0 cc1 cc2 cc3 h0 n0 X00 Vo hr_cc0 hr_cc1 hr_cc2 hr_cc3 hle.1 hle.2.1 hle.2.2.1 hle.2.2.2) hZ (w_56 hw) (w_55 hw) (by decide) (by decide)) (g := (mkF m 12 #[xvr ax, xvi (3 : Int32)] [xwi (3 : Int32), xwr tt])) rfl (by rw [hml]; rfl) (argsL := [(.ref tt), (.int (3 : Int32))]) (rest := []) (lenOf pd_5 rfl) rfl (by show 2 * 0 + _ ≤ _; exact Nat.le_of_eq rfl) (hb hby d10_12) (fun _ _ => ⟨rfl, e361, (by decide : 0 + 0 ≤ _), (by decide : 0 + 0 ≤ _)⟩)
    dsimp only [Pt.U, Pt.locs, Pt.cells, Pt.slots] at X362 l362 y362 z362 st362 hQ362
    subst l362 y362 z362
    obtain ⟨rfl, N362q, e362⟩ := hQ362
    have N362 := Fr.app N359 N362q
    obtain ⟨fs, hr, hrun, hended, hW, hsame⟩ := X362.leave (v := some (.int cc3)) (fun h => by rw [Bd.returns] at h; cases h)
    refine ⟨_, _, hTG _ (pre0 _ ?_), hrun, hended, _, _, rfl, ?_, ⟨_, rfl⟩, hW, hsame.mono (by decide) (by decide)⟩
    · refine y_aloadN X0 hx 1 (hb hby d10_0) rfl rfl rfl ?_
      refine st359.trans ?_
      show Sx p e below T359 m 4 #[xvr ax, xvi (3 : Int32)] [xwi (1 : Int32)] _
      refine y_ifNo X359 hx 7 (hb hby d10_4) (XT.i0_eq_f (by decide)) rfl ?_
      refine y_aloadN X359 hx 8 (hb hby d10_7) rfl rfl rfl ?_
      refine st361 _ ?_
      show Sx p e below T361 m 11 #[xvr ax, xvi (3 : Int32)] [xwr tt] _
      refine y_iloadN X361 hx 12 (hb hby d10_11) rfl rfl ?_
      refine st362 _ ?_
      show Sx p e below T362 m 15 #[xvr ax, xvi (3 : Int32)] [xwi cc3] _
      exact retN X362 hx (t := .char) Bd.returns (by simp) (hb hby d10_15) ((by rw [own_nar16 hr_cc3]; exact hr))
    · show QrmCA3 Z G ax cc0 cc1 cc2 cc3 h0 n0 _ T362.heap _
      rw [e362]
      exact ⟨rfl, N362, rfl⟩
  · obtain ⟨cq364, kq364, q364a, q364b, q364c⟩ := isOf hZ e0 Eo
    obtain ⟨_, _, ⟨T363, L363, k363, n363⟩, -, X363, ⟨Lc363, hQ363, l363, y363, z363⟩, st363⟩ := X0.virtualBack hx (y := (⟨"java/lang/String", "isLatin1", "()Z"⟩ : MethodName)) (z := (⟨"java/lang/String", "isLatin1", "()Z"⟩ : MethodName)) hown (mvT hZ (w_48 hw)) (mvT hZ (w_49 hw)) (notFace_of_selects (args := #[]) (mvT hZ (w_51 hw))) (mvT hZ (w_51 hw)) (mvT hZ (w_50 hw)) (by decide) (backOf (W := 0) (rmLt1 l Z a0 hw G ST [] ax h0 n0 X00 Fco) hZ (w_52 hw) (w_9 hw) (by decide) (by decide)) q364a q364c (g := (mkF m 1 #[xvr ax, xvi (3 : Int32)] [xwr ax])) rfl (by rw [hml]; rfl) (Steps.refl _) (argsL := []) (rest := []) (lenOf pd_12 rfl) rfl (by show 2 * 0 + _ ≤ _; exact Nat.le_of_eq rfl) (hb hby d10_1) (fun _ _ => ⟨rfl, e0, (by decide : 0 + 0 ≤ _), (by decide : 0 + 0 ≤ _)⟩)
    dsimp only [Pt.U, Pt.locs, Pt.cells, Pt.slots] at X363 l363 y363 z363 st363 hQ363
    subst l363 y363 z363
    obtain ⟨rfl, N363q, e363⟩ := hQ363
    have N363 := Fr.app N0 N363q
    obtain ⟨T365, X365, e365, st365⟩ := getF X363 hx hZ hown (host := "") (Or.inl (w_34 hw)) Via.refl e363 Fvo (g := (mkF m 17 #[xvr ax, xvi (3 : Int32)] [xwr ax])) rfl rfl (hb hby d10_17)
    obtain ⟨_, _, ⟨T366, L366, k366, n366⟩, -, X366, ⟨Lc366, hQ366, l366, y366, z366⟩, st366⟩ := Jvm.LawKit.callS X365 hx (y := (⟨"java/lang/StringUTF16", "charAt", "([BI)C"⟩ : MethodName)) hown (mvT hZ (w_84 hw)) (mvT hZ (w_85 hw)) (mvT hZ (w_23 hw)) (mvT hZ (w_86 hw)) (by decide) (backOf (W := 0) (rmUA3 l Z a0 hw G ST [] tt kk cc0 cc1 cc2 cc3 h0 n0 X00 Vo hr_cc0 hr_cc1 hr_cc2 hr_cc3) hZ (w_86 hw) (w_23 hw) (by decide) (by decide)) (g := (mkF m 21 #[xvr ax, xvi (3 : Int32)] [xwi (3 : Int32), xwr tt])) rfl (by rw [hml]; rfl) (argsL := [(.ref tt), (.int (3 : Int32))]) (rest := []) (lenOf pd_5 rfl) rfl (by show 2 * 0 + _ ≤ _; exact Nat.le_of_eq rfl) (hb hby d10_21) (fun _ _ => ⟨rfl, e365, (by decide : 0 + 0 ≤ _), (by decide : 0 + 0 ≤ _)⟩)
    dsimp only [Pt.U, Pt.locs, Pt.cells, Pt.slots] at X366 l366 y366 z366 st366 hQ366
    subst l366 y366 z366
    obtain ⟨rfl, N366q, e366⟩ := hQ366
    have N366 := Fr.app N363 N366q
    obtain ⟨fs, hr, hrun, hended, hW, hsame⟩ := X366.leave (v := some (.int cc3)) (fun h => by rw [Bd.returns] at h; cases h)
    refine ⟨_, _, hTG _ (pre0 _ ?_), hrun, hended, _, _, rfl, ?_, ⟨_, rfl⟩, hW, hsame.mono (by decide) (by decide)⟩
    · refine y_aloadN X0 hx 1 (hb hby d10_0) rfl rfl rfl ?_
      refine st363.trans ?_
      show Sx p e below T363 m 4 #[xvr ax, xvi (3 : Int32)] [xwi (0 : Int32)] _
      refine y_ifYes X363 hx 16 (hb hby d10_4) (XT.i0_eq_t (by decide)) (by decide) (by decide) ?_
      refine y_aloadN X363 hx 17 (hb hby d10_16) rfl rfl rfl ?_
      refine st365 _ ?_
      show Sx p e below T365 m 20 #[xvr ax, xvi (3 : Int32)] [xwr tt] _
      refine y_iloadN X365 hx 21 (hb hby d10_20) rfl rfl ?_
      refine st366 _ ?_
      show Sx p e below T366 m 24 #[xvr ax, xvi (3 : Int32)] [xwi cc3] _
      exact retN X366 hx (t := .char) Bd.returns (by simp) (hb hby d10_24) ((by rw [own_nar16 hr_cc3]; exact hr))
    · show QrmCA3 Z G ax cc0 cc1 cc2 cc3 h0 n0 _ T366.heap _
      rw [e366]
      exact ⟨rfl, N366, rfl⟩
theorem ef_rmDg (m : MethodId) (x0 : Addr) (x1 : Int32) (x2 : Int32)  : entryFrame m #[(.ref x0), (.int x1), (.int x2)] 5 = mkF m 0 #[.val (.ref x0), .val (.int x1), .val (.int x2), .unset, .unset] [] := by first | (simp [entryFrame, mkF, argsToLocals, Value.category]; done) | rfl
theorem d9_0 : decode prog_39_method_2_code 0 = .ok (.iload_n 1, 1) := by decide +kernel
theorem d9_1 : decode prog_39_method_2_code 1 = .ok (.istore_n 3, 1) := by decide +kernel
theorem d9_2 : decode prog_39_method_2_code 2 = .ok (.iload_n 3, 1) := by decide +kernel
theorem d9_3 : decode prog_39_method_2_code 3 = .ok (.iload_n 2, 1) := by decide +kernel
theorem d9_4 : decode prog_39_method_2_code 4 = .ok (.if_icmp .ge 32, 3) := by decide +kernel
theorem d9_36 : decode prog_39_method_2_code 36 = .ok (.iconst 1, 1) := by decide +kernel
theorem d9_37 : decode prog_39_method_2_code 37 = .ok (.ireturn, 1) := by decide +kernel
theorem d9_7 : decode prog_39_method_2_code 7 = .ok (.aload_n 0, 1) := by decide +kernel
theorem d9_8 : decode prog_39_method_2_code 8 = .ok (.iload_n 3, 1) := by decide +kernel
theorem d9_9 : decode prog_39_method_2_code 9 = .ok (.invokevirtual 7, 3) := by decide +kernel
theorem pd_13 : parseMethodDescriptor "(I)C" = some ⟨[.int], some .char⟩ := by decide +kernel
theorem d9_12 : decode prog_39_method_2_code 12 = .ok (.istore 4, 2) := by decide +kernel
theorem d9_14 : decode prog_39_method_2_code 14 = .ok (.iload 4, 2) := by decide +kernel
theorem d9_16 : decode prog_39_method_2_code 16 = .ok (.bipush 48, 2) := by decide +kernel
theorem d9_18 : decode prog_39_method_2_code 18 = .ok (.if_icmp .lt 10, 3) := by decide +kernel
theorem d9_28 : decode prog_39_method_2_code 28 = .ok (.iconst 0, 1) := by decide +kernel
theorem d9_29 : decode prog_39_method_2_code 29 = .ok (.ireturn, 1) := by decide +kernel
theorem d9_21 : decode prog_39_method_2_code 21 = .ok (.iload 4, 2) := by decide +kernel
theorem d9_23 : decode prog_39_method_2_code 23 = .ok (.bipush 57, 2) := by decide +kernel
theorem d9_25 : decode prog_39_method_2_code 25 = .ok (.if_icmp .le 5, 3) := by decide +kernel
theorem d9_30 : decode prog_39_method_2_code 30 = .ok (.iinc 3 1, 3) := by decide +kernel
theorem d9_33 : decode prog_39_method_2_code 33 = .ok (.goto (-31), 3) := by decide +kernel
theorem pn_5 : plainName "com/example/planwright/planwright/model/Decimals" = true := by first | (simp [plainName, overriddenIn]; done) | decide +kernel
def QrmDg (Z : State) (G : Gs) (ax : Addr) (cc0 : Int32) (cc1 : Int32) (cc2 : Int32) (cc3 : Int32) (sx : Int32) (ex : Int32) (h0 : Heap) (n0 : Nat) (v : Option Value) (h : Heap) (L : List Loc) : Prop := ∃ (rx : Int32), v = some (.int rx) ∧ Fr n0 L ∧ h = h0 ∧ ((rx = 1 ∧ own_all cc0 cc1 cc2 cc3 sx ex) ∨ (rx = 0 ∧ ¬ own_all cc0 cc1 cc2 cc3 sx ex))
set_option maxRecDepth 65536 in
set_option maxHeartbeats 40000000 in
theorem rmDg (l : Launch) (Z : State) (a0 : Array Value) (hw : HW a0 Z) (G : Gs) (ST : StartF Z G) (ws : List Jvm.Cond) (ax : Addr) (cc0 : Int32) (cc1 : Int32) (cc2 : Int32) (cc3 : Int32) (sx : Int32) (ex : Int32) (h0 : Heap) (n0 : Nat) (X00 : Old Z n0 h0) (E1 : Exa Z h0 ax "java/lang/String") (hS : own_S Z h0 ax cc0 cc1 cc2 cc3) (hr_cc0 : own_c16 cc0) (hr_cc1 : own_c16 cc1) (hr_cc2 : own_c16 cc2) (hr_cc3 : own_c16 cc3) (hs5 : own_f5 sx) (he5 : own_f5 ex) :
    MetFree l (⟨"com/example/planwright/planwright/model/Decimals", "isDigits", "(Ljava/lang/String;II)Z"⟩ : MethodName) (head1 (Jvm.Cond.code (⟨"com/example/planwright/planwright/model/Decimals", "isDigits", "(Ljava/lang/String;II)Z"⟩ : MethodName) prog_39_method_2_code 5 (some .boolean) :: ws) ({ frames := 5, cells := 0, slots := 0, locals := 66 } : Room)) (fun a U => a = #[(.ref ax), (.int sx), (.int ex)] ∧ Z.Warmed39 U.vm ∧ U.heap = h0) (fun _ _ _ _ _ => True) (fun _ U o U' => ∃ v L, o = .returned v ∧ QrmDg Z G ax cc0 cc1 cc2 cc3 sx ex h0 n0 v U'.heap L ∧ FrameEnd U o U' L ({ frames := 5, cells := 0, slots := 0, locals := 66 } : Room).cells ({ frames := 5, cells := 0, slots := 0, locals := 66 } : Room).slots) := by
  refine MetFree.of_bodySF (plainFor_of_name pn_5) hisR ?_
  intro p e s m args below meth c s₁ Bd hml0 hP hK
  obtain ⟨rfl, hZ, hh⟩ := hP
  have hx := Bd.exec
  have hby := Bd.bytes
  have hml : c.maxLocals = 5 := hml0
  have hown : s.vm.findClass "com/example/planwright/planwright/model/Decimals" = some m.cls := findClass_of_methodNamed Bd.named
  have hnm := (name_of_methodNamed Bd.named Bd.method).1
  have X0 : Stand p l e ({ frames := 5, cells := 0, slots := 0, locals := 66 } : Room) s m #[(.ref ax), (.int sx), (.int ex)] below meth c s₁ [] 0 0 := Stand.of_body Bd
  have e0 : s₁.heap = h0 := by rw [← hh, Bd.state]; rfl
  have N0 := Fr.nil n0
  have Z0 : n0 ≤ h0.size := by have q := X00.2.1; rw [X00.1] at q; exact q
  obtain ⟨TG, hTG, hT2⟩ : ∃ P : State → Prop, (∀ t, P t → Steps p.tables e below (s₁.setTop (entryFrame m #[(.ref ax), (.int sx), (.int ex)] 5)) t) ∧ (∀ t, Steps p.tables e below (s₁.setTop (entryFrame m #[(.ref ax), (.int sx), (.int ex)] 5)) t → P t) := ⟨_, fun t k => k, fun t k => k⟩
  have pre0 : ∀ t, Sx p e below s₁ m 0 #[xvr ax, xvi sx, xvi ex, xun, xun] [] t → TG t := fun t k => hT2 t (castTop (ef_rmDg m ax sx ex ) k)
  rcases hs5 with hk367 | hk367 | hk367 | hk367 | hk367
  · rcases he5 with hk368 | hk368 | hk368 | hk368 | hk368
    · obtain ⟨fs, hr, hrun, hended, hW, hsame⟩ := X0.leave (v := some (.int (1 : Int32))) (fun h => by rw [Bd.returns] at h; cases h)
      refine ⟨_, _, hTG _ (pre0 _ ?_), hrun, hended, _, _, rfl, ?_, ⟨_, rfl⟩, hW, hsame.mono (by decide) (by decide)⟩
      · refine y_iloadN X0 hx 1 (hb hby d9_0) rfl rfl ?_
        rw [hk367]
        refine XS.istoreN X0.here hx rfl (hb hby d9_1) rfl (l' := #[xvr ax, xvi (0 : Int32), xvi ex, xvi (0 : Int32), xun]) rfl ?_
        show Sx p e below s₁ m 2 #[xvr ax, xvi (0 : Int32), xvi ex, xvi (0 : Int32), xun] [] _
        refine y_iloadN X0 hx 3 (hb hby d9_2) rfl rfl ?_
        refine y_iloadN X0 hx 4 (hb hby d9_3) rfl rfl ?_
        rw [hk368]
        refine y_icmpYes X0 hx 36 (hb hby d9_4) (XT.ii_ge_t (by decide)) (by decide) (by decide) ?_
        refine y_iconst X0 hx (1 : Int32) 37 (hb hby d9_36) rfl rfl ?_
        show Sx p e below s₁ m 37 #[xvr ax, xvi (0 : Int32), xvi (0 : Int32), xvi (0 : Int32), xun] [xwi (1 : Int32)] _
        exact retN X0 hx (t := .boolean) Bd.returns (by simp) (hb hby d9_37) (hr)
      · show QrmDg Z G ax cc0 cc1 cc2 cc3 sx ex h0 n0 _ s₁.heap _
        rw [e0]
        exact ⟨(1 : Int32), rfl, N0, rfl, (Or.inl ⟨rfl, fun _ q2 => absurd q2 (by rw [hk368]; decide), fun _ q2 => absurd q2 (by rw [hk368]; decide), fun _ q2 => absurd q2 (by rw [hk368]; decide), fun _ q2 => absurd q2 (by rw [hk368]; decide)⟩)⟩
    · obtain ⟨cq370, kq370, q370a, q370b, q370c⟩ := isOf hZ e0 E1
      obtain ⟨_, _, ⟨T369, L369, k369, n369⟩, -, X369, ⟨Lc369, hQ369, l369, y369, z369⟩, st369⟩ := X0.virtualBack hx (y := (⟨"java/lang/String", "charAt", "(I)C"⟩ : MethodName)) (z := (⟨"java/lang/String", "charAt", "(I)C"⟩ : MethodName)) hown (mvT hZ (w_43 hw)) (mvT hZ (w_44 hw)) (notFace_of_selects (args := #[]) (mvT hZ (w_46 hw))) (mvT hZ (w_46 hw)) (mvT hZ (w_45 hw)) (by decide) (backOf (W := 0) (rmCA0 l Z a0 hw G ST [] ax cc0 cc1 cc2 cc3 h0 n0 X00 hS hr_cc0 hr_cc1 hr_cc2 hr_cc3) hZ (w_47 hw) (w_9 hw) (by decide) (by decide)) q370a q370c (g := (mkF m 9 #[xvr ax, xvi (0 : Int32), xvi (1 : Int32), xvi (0 : Int32), xun] [xwi (0 : Int32), xwr ax])) rfl (by rw [hml]; rfl) (Steps.refl _) (argsL := [(.int (0 : Int32))]) (rest := []) (lenOf pd_13 rfl) rfl (by show 2 * 0 + _ ≤ _; exact Nat.le_of_eq rfl) (hb hby d9_9) (fun _ _ => ⟨rfl, e0, (by decide : 0 + 0 ≤ _), (by decide : 0 + 0 ≤ _)⟩)
      dsimp only [Pt.U, Pt.locs, Pt.cells, Pt.slots] at X369 l369 y369 z369 st369 hQ369
      subst l369 y369 z369
      obtain ⟨rfl, N369q, e369⟩ := hQ369
      have N369 := Fr.app N0 N369q
      have c371 : ∀ t, Sx p e below T369 m 18 #[xvr ax, xvi (0 : Int32), xvi (1 : Int32), xvi (0 : Int32), xvi cc0] [xwi (48 : Int32), xwi cc0] t → TG t := fun t k => pre0 t (by
        refine y_iloadN X0 hx 1 (hb hby d9_0) rfl rfl ?_
        rw [hk367]
        refine XS.istoreN X0.here hx rfl (hb hby d9_1) rfl (l' := #[xvr ax, xvi (0 : Int32), xvi ex, xvi (0 : Int32), xun]) rfl ?_
        show Sx p e below s₁ m 2 #[xvr ax, xvi (0 : Int32), xvi ex, xvi (0 : Int32), xun] [] _
        refine y_iloadN X0 hx 3 (hb hby d9_2) rfl rfl ?_
        refine y_iloadN X0 hx 4 (hb hby d9_3) rfl rfl ?_
        rw [hk368]
        refine y_icmpNo X0 hx 7 (hb hby d9_4) (XT.ii_ge_f (by decide)) rfl ?_
        refine y_aloadN X0 hx 8 (hb hby d9_7) rfl rfl rfl ?_
        refine y_iloadN X0 hx 9 (hb hby d9_8) rfl rfl ?_
        refine st369.trans ?_
        show Sx p e below T369 m 12 #[xvr ax, xvi (0 : Int32), xvi (1 : Int32), xvi (0 : Int32), xun] [xwi cc0] _
        refine XS.istore X369.here hx rfl (hb hby d9_12) rfl (l' := #[xvr ax, xvi (0 : Int32), xvi (1 : Int32), xvi (0 : Int32), xvi cc0]) rfl ?_
        show Sx p e below T369 m 14 #[xvr ax, xvi (0 : Int32), xvi (1 : Int32), xvi (0 : Int32), xvi cc0] [] _
        refine y_iload X369 hx 16 (hb hby d9_14) rfl rfl ?_
        refine y_bipush X369 hx (48 : Int32) 18 (hb hby d9_16) rfl rfl ?_
        exact k)
      by_cases hc372 : cc0 < (48 : Int32)
      · obtain ⟨fs, hr, hrun, hended, hW, hsame⟩ := X369.leave (v := some (.int (0 : Int32))) (fun h => by rw [Bd.returns] at h; cases h)
        refine ⟨_, _, hTG _ (c371 _ ?_), hrun, hended, _, _, rfl, ?_, ⟨_, rfl⟩, hW, hsame.mono (by decide) (by decide)⟩
        · refine y_icmpYes X369 hx 28 (hb hby d9_18) (XT.ii_lt_t hc372) (by decide) (by decide) ?_
          refine y_iconst X369 hx (0 : Int32) 29 (hb hby d9_28) rfl rfl ?_
          show Sx p e below T369 m 29 #[xvr ax, xvi (0 : Int32), xvi (1 : Int32), xvi (0 : Int32), xvi cc0] [xwi (0 : Int32)] _
          exact retN X369 hx (t := .boolean) Bd.returns (by simp) (hb hby d9_29) (hr)
        · show QrmDg Z G ax cc0 cc1 cc2 cc3 sx ex h0 n0 _ T369.heap _
          rw [e369]
          exact ⟨(0 : Int32), rfl, N369, rfl, (Or.inr ⟨rfl, fun q => (q.1 (by rw [hk367]; decide) (by rw [hk368]; decide)).1 hc372⟩)⟩
      · have c373 : ∀ t, Sx p e below T369 m 25 #[xvr ax, xvi (0 : Int32), xvi (1 : Int32), xvi (0 : Int32), xvi cc0] [xwi (57 : Int32), xwi cc0] t → TG t := fun t k => c371 t (by
          refine y_icmpNo X369 hx 21 (hb hby d9_18) (XT.ii_lt_f hc372) rfl ?_
          refine y_iload X369 hx 23 (hb hby d9_21) rfl rfl ?_
          refine y_bipush X369 hx (57 : Int32) 25 (hb hby d9_23) rfl rfl ?_
          exact k)
        by_cases hc374 : (57 : Int32) < cc0
        · obtain ⟨fs, hr, hrun, hended, hW, hsame⟩ := X369.leave (v := some (.int (0 : Int32))) (fun h => by rw [Bd.returns] at h; cases h)
          refine ⟨_, _, hTG _ (c373 _ ?_), hrun, hended, _, _, rfl, ?_, ⟨_, rfl⟩, hW, hsame.mono (by decide) (by decide)⟩
          · refine y_icmpNo X369 hx 28 (hb hby d9_25) (XT.ii_le_f hc374) rfl ?_
            refine y_iconst X369 hx (0 : Int32) 29 (hb hby d9_28) rfl rfl ?_
            show Sx p e below T369 m 29 #[xvr ax, xvi (0 : Int32), xvi (1 : Int32), xvi (0 : Int32), xvi cc0] [xwi (0 : Int32)] _
            exact retN X369 hx (t := .boolean) Bd.returns (by simp) (hb hby d9_29) (hr)
          · show QrmDg Z G ax cc0 cc1 cc2 cc3 sx ex h0 n0 _ T369.heap _
            rw [e369]
            exact ⟨(0 : Int32), rfl, N369, rfl, (Or.inr ⟨rfl, fun q => (q.1 (by rw [hk367]; decide) (by rw [hk368]; decide)).2 hc374⟩)⟩
        · obtain ⟨fs, hr, hrun, hended, hW, hsame⟩ := X369.leave (v := some (.int (1 : Int32))) (fun h => by rw [Bd.returns] at h; cases h)
          refine ⟨_, _, hTG _ (c373 _ ?_), hrun, hended, _, _, rfl, ?_, ⟨_, rfl⟩, hW, hsame.mono (by decide) (by decide)⟩
          · refine y_icmpYes X369 hx 30 (hb hby d9_25) (XT.ii_le_t hc374) (by decide) (by decide) ?_
            refine XS.iinc X369.here hx rfl (hb hby d9_30) rfl (l' := #[xvr ax, xvi (0 : Int32), xvi (1 : Int32), xvi ((0 : Int32) + (1 : Int32)), xvi cc0]) rfl ?_
            rw [show ((0 : Int32) + (1 : Int32)) = (1 : Int32) from by decide]
            show Sx p e below T369 m 33 #[xvr ax, xvi (0 : Int32), xvi (1 : Int32), xvi (1 : Int32), xvi cc0] [] _
            refine y_goto X369 hx 2 (hb hby d9_33) (by decide) (by decide) ?_
            refine y_iloadN X369 hx 3 (hb hby d9_2) rfl rfl ?_
            refine y_iloadN X369 hx 4 (hb hby d9_3) rfl rfl ?_
            refine y_icmpYes X369 hx 36 (hb hby d9_4) (XT.ii_ge_t (by decide)) (by decide) (by decide) ?_
            refine y_iconst X369 hx (1 : Int32) 37 (hb hby d9_36) rfl rfl ?_
            show Sx p e below T369 m 37 #[xvr ax, xvi (0 : Int32), xvi (1 : Int32), xvi (1 : Int32), xvi cc0] [xwi (1 : Int32)] _
            exact retN X369 hx (t := .boolean) Bd.returns (by simp) (hb hby d9_37) (hr)
          · show QrmDg Z G ax cc0 cc1 cc2 cc3 sx ex h0 n0 _ T369.heap _
            rw [e369]
            exact ⟨(1 : Int32), rfl, N369, rfl, (Or.inl ⟨rfl, fun _ _ => ⟨hc372, hc374⟩, fun _ q2 => absurd q2 (by rw [hk368]; decide), fun _ q2 => absurd q2 (by rw [hk368]; decide), fun _ q2 => absurd q2 (by rw [hk368]; decide)⟩)⟩
    · obtain ⟨cq376, kq376, q376a, q376b, q376c⟩ := isOf hZ e0 E1
      obtain ⟨_, _, ⟨T375, L375, k375, n375⟩, -, X375, ⟨Lc375, hQ375, l375, y375, z375⟩, st375⟩ := X0.virtualBack hx (y := (⟨"java/lang/String", "charAt", "(I)C"⟩ : MethodName)) (z := (⟨"java/lang/String", "charAt", "(I)C"⟩ : MethodName)) hown (mvT hZ (w_43 hw)) (mvT hZ (w_44 hw)) (notFace_of_selects (args := #[]) (mvT hZ (w_46 hw))) (mvT hZ (w_46 hw)) (mvT hZ (w_45 hw)) (by decide) (backOf (W := 0) (rmCA0 l Z a0 hw G ST [] ax cc0 cc1 cc2 cc3 h0 n0 X00 hS hr_cc0 hr_cc1 hr_cc2 hr_cc3) hZ (w_47 hw) (w_9 hw) (by decide) (by decide)) q376a q376c (g := (mkF m 9 #[xvr ax, xvi (0 : Int32), xvi (2 : Int32), xvi (0 : Int32), xun] [xwi (0 : Int32), xwr ax])) rfl (by rw [hml]; rfl) (Steps.refl _) (argsL := [(.int (0 : Int32))]) (rest := []) (lenOf pd_13 rfl) rfl (by show 2 * 0 + _ ≤ _; exact Nat.le_of_eq rfl) (hb hby d9_9) (fun _ _ => ⟨rfl, e0, (by decide : 0 + 0 ≤ _), (by decide : 0 + 0 ≤ _)⟩)
      dsimp only [Pt.U, Pt.locs, Pt.cells, Pt.slots] at X375 l375 y375 z375 st375 hQ375
      subst l375 y375 z375
      obtain ⟨rfl, N375q, e375⟩ := hQ375
      have N375 := Fr.app N0 N375q
      have c377 : ∀ t, Sx p e below T375 m 18 #[xvr ax, xvi (0 : Int32), xvi (2 : Int32), xvi (0 : Int32), xvi cc0] [xwi (48 : Int32), xwi cc0] t → TG t := fun t k => pre0 t (by
        refine y_iloadN X0 hx 1 (hb hby d9_0) rfl rfl ?_
        rw [hk367]
        refine XS.istoreN X0.here hx rfl (hb hby d9_1) rfl (l' := #[xvr ax, xvi (0 : Int32), xvi ex, xvi (0 : Int32), xun]) rfl ?_
        show Sx p e below s₁ m 2 #[xvr ax, xvi (0 : Int32), xvi ex, xvi (0 : Int32), xun] [] _
        refine y_iloadN X0 hx 3 (hb hby d9_2) rfl rfl ?_
        refine y_iloadN X0 hx 4 (hb hby d9_3) rfl rfl ?_
        rw [hk368]
        refine y_icmpNo X0 hx 7 (hb hby d9_4) (XT.ii_ge_f (by decide)) rfl ?_
        refine y_aloadN X0 hx 8 (hb hby d9_7) rfl rfl rfl ?_
        refine y_iloadN X0 hx 9 (hb hby d9_8) rfl rfl ?_
        refine st375.trans ?_
        show Sx p e below T375 m 12 #[xvr ax, xvi (0 : Int32), xvi (2 : Int32), xvi (0 : Int32), xun] [xwi cc0] _
        refine XS.istore X375.here hx rfl (hb hby d9_12) rfl (l' := #[xvr ax, xvi (0 : Int32), xvi (2 : Int32), xvi (0 : Int32), xvi cc0]) rfl ?_
        show Sx p e below T375 m 14 #[xvr ax, xvi (0 : Int32), xvi (2 : Int32), xvi (0 : Int32), xvi cc0] [] _
        refine y_iload X375 hx 16 (hb hby d9_14) rfl rfl ?_
        refine y_bipush X375 hx (48 : Int32) 18 (hb hby d9_16) rfl rfl ?_
        exact k)
      by_cases hc378 : cc0 < (48 : Int32)
      · obtain ⟨fs, hr, hrun, hended, hW, hsame⟩ := X375.leave (v := some (.int (0 : Int32))) (fun h => by rw [Bd.returns] at h; cases h)
        refine ⟨_, _, hTG _ (c377 _ ?_), hrun, hended, _, _, rfl, ?_, ⟨_, rfl⟩, hW, hsame.mono (by decide) (by decide)⟩
        · refine y_icmpYes X375 hx 28 (hb hby d9_18) (XT.ii_lt_t hc378) (by decide) (by decide) ?_
          refine y_iconst X375 hx (0 : Int32) 29 (hb hby d9_28) rfl rfl ?_
          show Sx p e below T375 m 29 #[xvr ax, xvi (0 : Int32), xvi (2 : Int32), xvi (0 : Int32), xvi cc0] [xwi (0 : Int32)] _
          exact retN X375 hx (t := .boolean) Bd.returns (by simp) (hb hby d9_29) (hr)
        · show QrmDg Z G ax cc0 cc1 cc2 cc3 sx ex h0 n0 _ T375.heap _
          rw [e375]
          exact ⟨(0 : Int32), rfl, N375, rfl, (Or.inr ⟨rfl, fun q => (q.1 (by rw [hk367]; decide) (by rw [hk368]; decide)).1 hc378⟩)⟩
      · have c379 : ∀ t, Sx p e below T375 m 25 #[xvr ax, xvi (0 : Int32), xvi (2 : Int32), xvi (0 : Int32), xvi cc0] [xwi (57 : Int32), xwi cc0] t → TG t := fun t k => c377 t (by
          refine y_icmpNo X375 hx 21 (hb hby d9_18) (XT.ii_lt_f hc378) rfl ?_
          refine y_iload X375 hx 23 (hb hby d9_21) rfl rfl ?_
          refine y_bipush X375 hx (57 : Int32) 25 (hb hby d9_23) rfl rfl ?_
          exact k)
        by_cases hc380 : (57 : Int32) < cc0
        · obtain ⟨fs, hr, hrun, hended, hW, hsame⟩ := X375.leave (v := some (.int (0 : Int32))) (fun h => by rw [Bd.returns] at h; cases h)
          refine ⟨_, _, hTG _ (c379 _ ?_), hrun, hended, _, _, rfl, ?_, ⟨_, rfl⟩, hW, hsame.mono (by decide) (by decide)⟩
          · refine y_icmpNo X375 hx 28 (hb hby d9_25) (XT.ii_le_f hc380) rfl ?_
            refine y_iconst X375 hx (0 : Int32) 29 (hb hby d9_28) rfl rfl ?_
            show Sx p e below T375 m 29 #[xvr ax, xvi (0 : Int32), xvi (2 : Int32), xvi (0 : Int32), xvi cc0] [xwi (0 : Int32)] _
            exact retN X375 hx (t := .boolean) Bd.returns (by simp) (hb hby d9_29) (hr)
          · show QrmDg Z G ax cc0 cc1 cc2 cc3 sx ex h0 n0 _ T375.heap _
            rw [e375]
            exact ⟨(0 : Int32), rfl, N375, rfl, (Or.inr ⟨rfl, fun q => (q.1 (by rw [hk367]; decide) (by rw [hk368]; decide)).2 hc380⟩)⟩
        · obtain ⟨cq382, kq382, q382a, q382b, q382c⟩ := isOf hZ e375 E1
          obtain ⟨_, _, ⟨T381, L381, k381, n381⟩, -, X381, ⟨Lc381, hQ381, l381, y381, z381⟩, st381⟩ := X375.virtualBack hx (y := (⟨"java/lang/String", "charAt", "(I)C"⟩ : MethodName)) (z := (⟨"java/lang/String", "charAt", "(I)C"⟩ : MethodName)) hown (mvT hZ (w_43 hw)) (mvT hZ (w_44 hw)) (notFace_of_selects (args := #[]) (mvT hZ (w_46 hw))) (mvT hZ (w_46 hw)) (mvT hZ (w_45 hw)) (by decide) (backOf (W := 0) (rmCA1 l Z a0 hw G ST [] ax cc0 cc1 cc2 cc3 h0 n0 X00 hS hr_cc0 hr_cc1 hr_cc2 hr_cc3) hZ (w_47 hw) (w_9 hw) (by decide) (by decide)) q382a q382c (g := (mkF m 9 #[xvr ax, xvi (0 : Int32), xvi (2 : Int32), xvi (1 : Int32), xvi cc0] [xwi (1 : Int32), xwr ax])) rfl (by rw [hml]; rfl) (Steps.refl _) (argsL := [(.int (1 : Int32))]) (rest := []) (lenOf pd_13 rfl) rfl (by show 2 * 0 + _ ≤ _; exact Nat.le_of_eq rfl) (hb hby d9_9) (fun _ _ => ⟨rfl, e375, (by decide : 0 + 0 ≤ _), (by decide : 0 + 0 ≤ _)⟩)
          dsimp only [Pt.U, Pt.locs, Pt.cells, Pt.slots] at X381 l381 y381 z381 st381 hQ381
          subst l381 y381 z381
          obtain ⟨rfl, N381q, e381⟩ := hQ381
          have N381 := Fr.app N375 N381q
          have c383 : ∀ t, Sx p e below T381 m 18 #[xvr ax, xvi (0 : Int32), xvi (2 : Int32), xvi (1 : Int32), xvi cc1] [xwi (48 : Int32), xwi cc1] t → TG t := fun t k => c379 t (by
            refine y_icmpYes X375 hx 30 (hb hby d9_25) (XT.ii_le_t hc380) (by decide) (by decide) ?_
            refine XS.iinc X375.here hx rfl (hb hby d9_30) rfl (l' := #[xvr ax, xvi (0 : Int32), xvi (2 : Int32), xvi ((0 : Int32) + (1 : Int32)), xvi cc0]) rfl ?_
            rw [show ((0 : Int32) + (1 : Int32)) = (1 : Int32) from by decide]
            show Sx p e below T375 m 33 #[xvr ax, xvi (0 : Int32), xvi (2 : Int32), xvi (1 : Int32), xvi cc0] [] _
            refine y_goto X375 hx 2 (hb hby d9_33) (by decide) (by decide) ?_
            refine y_iloadN X375 hx 3 (hb hby d9_2) rfl rfl ?_
            refine y_iloadN X375 hx 4 (hb hby d9_3) rfl rfl ?_
            refine y_icmpNo X375 hx 7 (hb hby d9_4) (XT.ii_ge_f (by decide)) rfl ?_
            refine y_aloadN X375 hx 8 (hb hby d9_7) rfl rfl rfl ?_
            refine y_iloadN X375 hx 9 (hb hby d9_8) rfl rfl ?_
            refine st381.trans ?_
            show Sx p e below T381 m 12 #[xvr ax, xvi (0 : Int32), xvi (2 : Int32), xvi (1 : Int32), xvi cc0] [xwi cc1] _
            refine XS.istore X381.here hx rfl (hb hby d9_12) rfl (l' := #[xvr ax, xvi (0 : Int32), xvi (2 : Int32), xvi (1 : Int32), xvi cc1]) rfl ?_
            show Sx p e below T381 m 14 #[xvr ax, xvi (0 : Int32), xvi (2 : Int32), xvi (1 : Int32), xvi cc1] [] _
            refine y_iload X381 hx 16 (hb hby d9_14) rfl rfl ?_
            refine y_bipush X381 hx (48 : Int32) 18 (hb hby d9_16) rfl rfl ?_
            exact k)
          by_cases hc384 : cc1 < (48 : Int32)
          · obtain ⟨fs, hr, hrun, hended, hW, hsame⟩ := X381.leave (v := some (.int (0 : Int32))) (fun h => by rw [Bd.returns] at h; cases h)
            refine ⟨_, _, hTG _ (c383 _ ?_), hrun, hended, _, _, rfl, ?_, ⟨_, rfl⟩, hW, hsame.mono (by decide) (by decide)⟩
            · refine y_icmpYes X381 hx 28 (hb hby d9_18) (XT.ii_lt_t hc384) (by decide) (by decide) ?_
              refine y_iconst X381 hx (0 : Int32) 29 (hb hby d9_28) rfl rfl ?_
              show Sx p e below T381 m 29 #[xvr ax, xvi (0 : Int32), xvi (2 : Int32), xvi (1 : Int32), xvi cc1] [xwi (0 : Int32)] _
              exact retN X381 hx (t := .boolean) Bd.returns (by simp) (hb hby d9_29) (hr)
            · show QrmDg Z G ax cc0 cc1 cc2 cc3 sx ex h0 n0 _ T381.heap _
              rw [e381]
              exact ⟨(0 : Int32), rfl, N381, rfl, (Or.inr ⟨rfl, fun q => (q.2.1 (by rw [hk367]; decide) (by rw [hk368]; decide)).1 hc384⟩)⟩
          · have c385 : ∀ t, Sx p e below T381 m 25 #[xvr ax, xvi (0 : Int32), xvi (2 : Int32), xvi (1 : Int32), xvi cc1] [xwi (57 : Int32), xwi cc1] t → TG t := fun t k => c383 t (by
              refine y_icmpNo X381 hx 21 (hb hby d9_18) (XT.ii_lt_f hc384) rfl ?_
              refine y_iload X381 hx 23 (hb hby d9_21) rfl rfl ?_
              refine y_bipush X381 hx (57 : Int32) 25 (hb hby d9_23) rfl rfl ?_
              exact k)
            by_cases hc386 : (57 : Int32) < cc1
            · obtain ⟨fs, hr, hrun, hended, hW, hsame⟩ := X381.leave (v := some (.int (0 : Int32))) (fun h => by rw [Bd.returns] at h; cases h)
              refine ⟨_, _, hTG _ (c385 _ ?_), hrun, hended, _, _, rfl, ?_, ⟨_, rfl⟩, hW, hsame.mono (by decide) (by decide)⟩
              · refine y_icmpNo X381 hx 28 (hb hby d9_25) (XT.ii_le_f hc386) rfl ?_
                refine y_iconst X381 hx (0 : Int32) 29 (hb hby d9_28) rfl rfl ?_
                show Sx p e below T381 m 29 #[xvr ax, xvi (0 : Int32), xvi (2 : Int32), xvi (1 : Int32), xvi cc1] [xwi (0 : Int32)] _
                exact retN X381 hx (t := .boolean) Bd.returns (by simp) (hb hby d9_29) (hr)
              · show QrmDg Z G ax cc0 cc1 cc2 cc3 sx ex h0 n0 _ T381.heap _
                rw [e381]
                exact ⟨(0 : Int32), rfl, N381, rfl, (Or.inr ⟨rfl, fun q => (q.2.1 (by rw [hk367]; decide) (by rw [hk368]; decide)).2 hc386⟩)⟩
            · obtain ⟨fs, hr, hrun, hended, hW, hsame⟩ := X381.leave (v := some (.int (1 : Int32))) (fun h => by rw [Bd.returns] at h; cases h)
              refine ⟨_, _, hTG _ (c385 _ ?_), hrun, hended, _, _, rfl, ?_, ⟨_, rfl⟩, hW, hsame.mono (by decide) (by decide)⟩
              · refine y_icmpYes X381 hx 30 (hb hby d9_25) (XT.ii_le_t hc386) (by decide) (by decide) ?_
                refine XS.iinc X381.here hx rfl (hb hby d9_30) rfl (l' := #[xvr ax, xvi (0 : Int32), xvi (2 : Int32), xvi ((1 : Int32) + (1 : Int32)), xvi cc1]) rfl ?_
                rw [show ((1 : Int32) + (1 : Int32)) = (2 : Int32) from by decide]
                show Sx p e below T381 m 33 #[xvr ax, xvi (0 : Int32), xvi (2 : Int32), xvi (2 : Int32), xvi cc1] [] _
                refine y_goto X381 hx 2 (hb hby d9_33) (by decide) (by decide) ?_
                refine y_iloadN X381 hx 3 (hb hby d9_2) rfl rfl ?_
                refine y_iloadN X381 hx 4 (hb hby d9_3) rfl rfl ?_
                refine y_icmpYes X381 hx 36 (hb hby d9_4) (XT.ii_ge_t (by decide)) (by decide) (by decide) ?_
                refine y_iconst X381 hx (1 : Int32) 37 (hb hby d9_36) rfl rfl ?_
                show Sx p e below T381 m 37 #[xvr ax, xvi (0 : Int32), xvi (2 : Int32), xvi (2 : Int32), xvi cc1] [xwi (1 : Int32)] _
                exact retN X381 hx (t := .boolean) Bd.returns (by simp) (hb hby d9_37) (hr)
              · show QrmDg Z G ax cc0 cc1 cc2 cc3 sx ex h0 n0 _ T381.heap _
                rw [e381]
                exact ⟨(1 : Int32), rfl, N381, rfl, (Or.inl ⟨rfl, fun _ _ => ⟨hc378, hc380⟩, fun _ _ => ⟨hc384, hc386⟩, fun _ q2 => absurd q2 (by rw [hk368]; decide), fun _ q2 => absurd q2 (by rw [hk368]; decide)⟩)⟩
    · obtain ⟨cq388, kq388, q388a, q388b, q388c⟩ := isOf hZ e0 E1
      obtain ⟨_, _, ⟨T387, L387, k387, n387⟩, -, X387, ⟨Lc387, hQ387, l387, y387, z387⟩, st387⟩ := X0.virtualBack hx (y := (⟨"java/lang/String", "charAt", "(I)C"⟩ : MethodName)) (z := (⟨"java/lang/String", "charAt", "(I)C"⟩ : MethodName)) hown (mvT hZ (w_43 hw)) (mvT hZ (w_44 hw)) (notFace_of_selects (args := #[]) (mvT hZ (w_46 hw))) (mvT hZ (w_46 hw)) (mvT hZ (w_45 hw)) (by decide) (backOf (W := 0) (rmCA0 l Z a0 hw G ST [] ax cc0 cc1 cc2 cc3 h0 n0 X00 hS hr_cc0 hr_cc1 hr_cc2 hr_cc3) hZ (w_47 hw) (w_9 hw) (by decide) (by decide)) q388a q388c (g := (mkF m 9 #[xvr ax, xvi (0 : Int32), xvi (3 : Int32), xvi (0 : Int32), xun] [xwi (0 : Int32), xwr ax])) rfl (by rw [hml]; rfl) (Steps.refl _) (argsL := [(.int (0 : Int32))]) (rest := []) (lenOf pd_13 rfl) rfl (by show 2 * 0 + _ ≤ _; exact Nat.le_of_eq rfl) (hb hby d9_9) (fun _ _ => ⟨rfl, e0, (by decide : 0 + 0 ≤ _), (by decide : 0 + 0 ≤ _)⟩)
      dsimp only [Pt.U, Pt.locs, Pt.cells, Pt.slots] at X387 l387 y387 z387 st387 hQ387
      subst l387 y387 z387
      obtain ⟨rfl, N387q, e387⟩ := hQ387
      have N387 := Fr.app N0 N387q
      have c389 : ∀ t, Sx p e below T387 m 18 #[xvr ax, xvi (0 : Int32), xvi (3 : Int32), xvi (0 : Int32), xvi cc0] [xwi (48 : Int32), xwi cc0] t → TG t := fun t k => pre0 t (by
        refine y_iloadN X0 hx 1 (hb hby d9_0) rfl rfl ?_
        rw [hk367]
        refine XS.istoreN X0.here hx rfl (hb hby d9_1) rfl (l' := #[xvr ax, xvi (0 : Int32), xvi ex, xvi (0 : Int32), xun]) rfl ?_
        show Sx p e below s₁ m 2 #[xvr ax, xvi (0 : Int32), xvi ex, xvi (0 : Int32), xun] [] _
        refine y_iloadN X0 hx 3 (hb hby d9_2) rfl rfl ?_
        refine y_iloadN X0 hx 4 (hb hby d9_3) rfl rfl ?_
        rw [hk368]
        refine y_icmpNo X0 hx 7 (hb hby d9_4) (XT.ii_ge_f (by decide)) rfl ?_
        refine y_aloadN X0 hx 8 (hb hby d9_7) rfl rfl rfl ?_
        refine y_iloadN X0 hx 9 (hb hby d9_8) rfl rfl ?_
        refine st387.trans ?_
        show Sx p e below T387 m 12 #[xvr ax, xvi (0 : Int32), xvi (3 : Int32), xvi (0 : Int32), xun] [xwi cc0] _
        refine XS.istore X387.here hx rfl (hb hby d9_12) rfl (l' := #[xvr ax, xvi (0 : Int32), xvi (3 : Int32), xvi (0 : Int32), xvi cc0]) rfl ?_
        show Sx p e below T387 m 14 #[xvr ax, xvi (0 : Int32), xvi (3 : Int32), xvi (0 : Int32), xvi cc0] [] _
        refine y_iload X387 hx 16 (hb hby d9_14) rfl rfl ?_
        refine y_bipush X387 hx (48 : Int32) 18 (hb hby d9_16) rfl rfl ?_
        exact k)
      by_cases hc390 : cc0 < (48 : Int32)
      · obtain ⟨fs, hr, hrun, hended, hW, hsame⟩ := X387.leave (v := some (.int (0 : Int32))) (fun h => by rw [Bd.returns] at h; cases h)
        refine ⟨_, _, hTG _ (c389 _ ?_), hrun, hended, _, _, rfl, ?_, ⟨_, rfl⟩, hW, hsame.mono (by decide) (by decide)⟩
        · refine y_icmpYes X387 hx 28 (hb hby d9_18) (XT.ii_lt_t hc390) (by decide) (by decide) ?_
          refine y_iconst X387 hx (0 : Int32) 29 (hb hby d9_28) rfl rfl ?_
          show Sx p e below T387 m 29 #[xvr ax, xvi (0 : Int32), xvi (3 : Int32), xvi (0 : Int32), xvi cc0] [xwi (0 : Int32)] _
          exact retN X387 hx (t := .boolean) Bd.returns (by simp) (hb hby d9_29) (hr)
        · show QrmDg Z G ax cc0 cc1 cc2 cc3 sx ex h0 n0 _ T387.heap _
          rw [e387]
          exact ⟨(0 : Int32), rfl, N387, rfl, (Or.inr ⟨rfl, fun q => (q.1 (by rw [hk367]; decide) (by rw [hk368]; decide)).1 hc390⟩)⟩
      · have c391 : ∀ t, Sx p e below T387 m 25 #[xvr ax, xvi (0 : Int32), xvi (3 : Int32), xvi (0 : Int32), xvi cc0] [xwi (57 : Int32), xwi cc0] t → TG t := fun t k => c389 t (by
          refine y_icmpNo X387 hx 21 (hb hby d9_18) (XT.ii_lt_f hc390) rfl ?_
          refine y_iload X387 hx 23 (hb hby d9_21) rfl rfl ?_
          refine y_bipush X387 hx (57 : Int32) 25 (hb hby d9_23) rfl rfl ?_
          exact k)
        by_cases hc392 : (57 : Int32) < cc0
        · obtain ⟨fs, hr, hrun, hended, hW, hsame⟩ := X387.leave (v := some (.int (0 : Int32))) (fun h => by rw [Bd.returns] at h; cases h)
          refine ⟨_, _, hTG _ (c391 _ ?_), hrun, hended, _, _, rfl, ?_, ⟨_, rfl⟩, hW, hsame.mono (by decide) (by decide)⟩
          · refine y_icmpNo X387 hx 28 (hb hby d9_25) (XT.ii_le_f hc392) rfl ?_
            refine y_iconst X387 hx (0 : Int32) 29 (hb hby d9_28) rfl rfl ?_
            show Sx p e below T387 m 29 #[xvr ax, xvi (0 : Int32), xvi (3 : Int32), xvi (0 : Int32), xvi cc0] [xwi (0 : Int32)] _
            exact retN X387 hx (t := .boolean) Bd.returns (by simp) (hb hby d9_29) (hr)
          · show QrmDg Z G ax cc0 cc1 cc2 cc3 sx ex h0 n0 _ T387.heap _
            rw [e387]
            exact ⟨(0 : Int32), rfl, N387, rfl, (Or.inr ⟨rfl, fun q => (q.1 (by rw [hk367]; decide) (by rw [hk368]; decide)).2 hc392⟩)⟩
        · obtain ⟨cq394, kq394, q394a, q394b, q394c⟩ := isOf hZ e387 E1
          obtain ⟨_, _, ⟨T393, L393, k393, n393⟩, -, X393, ⟨Lc393, hQ393, l393, y393, z393⟩, st393⟩ := X387.virtualBack hx (y := (⟨"java/lang/String", "charAt", "(I)C"⟩ : MethodName)) (z := (⟨"java/lang/String", "charAt", "(I)C"⟩ : MethodName)) hown (mvT hZ (w_43 hw)) (mvT hZ (w_44 hw)) (notFace_of_selects (args := #[]) (mvT hZ (w_46 hw))) (mvT hZ (w_46 hw)) (mvT hZ (w_45 hw)) (by decide) (backOf (W := 0) (rmCA1 l Z a0 hw G ST [] ax cc0 cc1 cc2 cc3 h0 n0 X00 hS hr_cc0 hr_cc1 hr_cc2 hr_cc3) hZ (w_47 hw) (w_9 hw) (by decide) (by decide)) q394a q394c (g := (mkF m 9 #[xvr ax, xvi (0 : Int32), xvi (3 : Int32), xvi (1 : Int32), xvi cc0] [xwi (1 : Int32), xwr ax])) rfl (by rw [hml]; rfl) (Steps.refl _) (argsL := [(.int (1 : Int32))]) (rest := []) (lenOf pd_13 rfl) rfl (by show 2 * 0 + _ ≤ _; exact Nat.le_of_eq rfl) (hb hby d9_9) (fun _ _ => ⟨rfl, e387, (by decide : 0 + 0 ≤ _), (by decide : 0 + 0 ≤ _)⟩)
          dsimp only [Pt.U, Pt.locs, Pt.cells, Pt.slots] at X393 l393 y393 z393 st393 hQ393
          subst l393 y393 z393
          obtain ⟨rfl, N393q, e393⟩ := hQ393
          have N393 := Fr.app N387 N393q
          have c395 : ∀ t, Sx p e below T393 m 18 #[xvr ax, xvi (0 : Int32), xvi (3 : Int32), xvi (1 : Int32), xvi cc1] [xwi (48 : Int32), xwi cc1] t → TG t := fun t k => c391 t (by
            refine y_icmpYes X387 hx 30 (hb hby d9_25) (XT.ii_le_t hc392) (by decide) (by decide) ?_
            refine XS.iinc X387.here hx rfl (hb hby d9_30) rfl (l' := #[xvr ax, xvi (0 : Int32), xvi (3 : Int32), xvi ((0 : Int32) + (1 : Int32)), xvi cc0]) rfl ?_
            rw [show ((0 : Int32) + (1 : Int32)) = (1 : Int32) from by decide]
            show Sx p e below T387 m 33 #[xvr ax, xvi (0 : Int32), xvi (3 : Int32), xvi (1 : Int32), xvi cc0] [] _
            refine y_goto X387 hx 2 (hb hby d9_33) (by decide) (by decide) ?_
            refine y_iloadN X387 hx 3 (hb hby d9_2) rfl rfl ?_
            refine y_iloadN X387 hx 4 (hb hby d9_3) rfl rfl ?_
            refine y_icmpNo X387 hx 7 (hb hby d9_4) (XT.ii_ge_f (by decide)) rfl ?_
            refine y_aloadN X387 hx 8 (hb hby d9_7) rfl rfl rfl ?_
            refine y_iloadN X387 hx 9 (hb hby d9_8) rfl rfl ?_
            refine st393.trans ?_
            show Sx p e below T393 m 12 #[xvr ax, xvi (0 : Int32), xvi (3 : Int32), xvi (1 : Int32), xvi cc0] [xwi cc1] _
            refine XS.istore X393.here hx rfl (hb hby d9_12) rfl (l' := #[xvr ax, xvi (0 : Int32), xvi (3 : Int32), xvi (1 : Int32), xvi cc1]) rfl ?_
            show Sx p e below T393 m 14 #[xvr ax, xvi (0 : Int32), xvi (3 : Int32), xvi (1 : Int32), xvi cc1] [] _
            refine y_iload X393 hx 16 (hb hby d9_14) rfl rfl ?_
            refine y_bipush X393 hx (48 : Int32) 18 (hb hby d9_16) rfl rfl ?_
            exact k)
          by_cases hc396 : cc1 < (48 : Int32)
          · obtain ⟨fs, hr, hrun, hended, hW, hsame⟩ := X393.leave (v := some (.int (0 : Int32))) (fun h => by rw [Bd.returns] at h; cases h)
            refine ⟨_, _, hTG _ (c395 _ ?_), hrun, hended, _, _, rfl, ?_, ⟨_, rfl⟩, hW, hsame.mono (by decide) (by decide)⟩
            · refine y_icmpYes X393 hx 28 (hb hby d9_18) (XT.ii_lt_t hc396) (by decide) (by decide) ?_
              refine y_iconst X393 hx (0 : Int32) 29 (hb hby d9_28) rfl rfl ?_
              show Sx p e below T393 m 29 #[xvr ax, xvi (0 : Int32), xvi (3 : Int32), xvi (1 : Int32), xvi cc1] [xwi (0 : Int32)] _
              exact retN X393 hx (t := .boolean) Bd.returns (by simp) (hb hby d9_29) (hr)
            · show QrmDg Z G ax cc0 cc1 cc2 cc3 sx ex h0 n0 _ T393.heap _
              rw [e393]
              exact ⟨(0 : Int32), rfl, N393, rfl, (Or.inr ⟨rfl, fun q => (q.2.1 (by rw [hk367]; decide) (by rw [hk368]; decide)).1 hc396⟩)⟩
          · have c397 : ∀ t, Sx p e below T393 m 25 #[xvr ax, xvi (0 : Int32), xvi (3 : Int32), xvi (1 : Int32), xvi cc1] [xwi (57 : Int32), xwi cc1] t → TG t := fun t k => c395 t (by
              refine y_icmpNo X393 hx 21 (hb hby d9_18) (XT.ii_lt_f hc396) rfl ?_
              refine y_iload X393 hx 23 (hb hby d9_21) rfl rfl ?_
              refine y_bipush X393 hx (57 : Int32) 25 (hb hby d9_23) rfl rfl ?_
              exact k)
            by_cases hc398 : (57 : Int32) < cc1
            · obtain ⟨fs, hr, hrun, hended, hW, hsame⟩ := X393.leave (v := some (.int (0 : Int32))) (fun h => by rw [Bd.returns] at h; cases h)
              refine ⟨_, _, hTG _ (c397 _ ?_), hrun, hended, _, _, rfl, ?_, ⟨_, rfl⟩, hW, hsame.mono (by decide) (by decide)⟩
              · refine y_icmpNo X393 hx 28 (hb hby d9_25) (XT.ii_le_f hc398) rfl ?_
                refine y_iconst X393 hx (0 : Int32) 29 (hb hby d9_28) rfl rfl ?_
                show Sx p e below T393 m 29 #[xvr ax, xvi (0 : Int32), xvi (3 : Int32), xvi (1 : Int32), xvi cc1] [xwi (0 : Int32)] _
                exact retN X393 hx (t := .boolean) Bd.returns (by simp) (hb hby d9_29) (hr)
              · show QrmDg Z G ax cc0 cc1 cc2 cc3 sx ex h0 n0 _ T393.heap _
                rw [e393]
                exact ⟨(0 : Int32), rfl, N393, rfl, (Or.inr ⟨rfl, fun q => (q.2.1 (by rw [hk367]; decide) (by rw [hk368]; decide)).2 hc398⟩)⟩
            · obtain ⟨cq400, kq400, q400a, q400b, q400c⟩ := isOf hZ e393 E1
              obtain ⟨_, _, ⟨T399, L399, k399, n399⟩, -, X399, ⟨Lc399, hQ399, l399, y399, z399⟩, st399⟩ := X393.virtualBack hx (y := (⟨"java/lang/String", "charAt", "(I)C"⟩ : MethodName)) (z := (⟨"java/lang/String", "charAt", "(I)C"⟩ : MethodName)) hown (mvT hZ (w_43 hw)) (mvT hZ (w_44 hw)) (notFace_of_selects (args := #[]) (mvT hZ (w_46 hw))) (mvT hZ (w_46 hw)) (mvT hZ (w_45 hw)) (by decide) (backOf (W := 0) (rmCA2 l Z a0 hw G ST [] ax cc0 cc1 cc2 cc3 h0 n0 X00 hS hr_cc0 hr_cc1 hr_cc2 hr_cc3) hZ (w_47 hw) (w_9 hw) (by decide) (by decide)) q400a q400c (g := (mkF m 9 #[xvr ax, xvi (0 : Int32), xvi (3 : Int32), xvi (2 : Int32), xvi cc1] [xwi (2 : Int32), xwr ax])) rfl (by rw [hml]; rfl) (Steps.refl _) (argsL := [(.int (2 : Int32))]) (rest := []) (lenOf pd_13 rfl) rfl (by show 2 * 0 + _ ≤ _; exact Nat.le_of_eq rfl) (hb hby d9_9) (fun _ _ => ⟨rfl, e393, (by decide : 0 + 0 ≤ _), (by decide : 0 + 0 ≤ _)⟩)
              dsimp only [Pt.U, Pt.locs, Pt.cells, Pt.slots] at X399 l399 y399 z399 st399 hQ399
              subst l399 y399 z399
              obtain ⟨rfl, N399q, e399⟩ := hQ399
              have N399 := Fr.app N393 N399q
              have c401 : ∀ t, Sx p e below T399 m 18 #[xvr ax, xvi (0 : Int32), xvi (3 : Int32), xvi (2 : Int32), xvi cc2] [xwi (48 : Int32), xwi cc2] t → TG t := fun t k => c397 t (by
                refine y_icmpYes X393 hx 30 (hb hby d9_25) (XT.ii_le_t hc398) (by decide) (by decide) ?_
                refine XS.iinc X393.here hx rfl (hb hby d9_30) rfl (l' := #[xvr ax, xvi (0 : Int32), xvi (3 : Int32), xvi ((1 : Int32) + (1 : Int32)), xvi cc1]) rfl ?_
                rw [show ((1 : Int32) + (1 : Int32)) = (2 : Int32) from by decide]
                show Sx p e below T393 m 33 #[xvr ax, xvi (0 : Int32), xvi (3 : Int32), xvi (2 : Int32), xvi cc1] [] _
                refine y_goto X393 hx 2 (hb hby d9_33) (by decide) (by decide) ?_
                refine y_iloadN X393 hx 3 (hb hby d9_2) rfl rfl ?_
                refine y_iloadN X393 hx 4 (hb hby d9_3) rfl rfl ?_
                refine y_icmpNo X393 hx 7 (hb hby d9_4) (XT.ii_ge_f (by decide)) rfl ?_
                refine y_aloadN X393 hx 8 (hb hby d9_7) rfl rfl rfl ?_
                refine y_iloadN X393 hx 9 (hb hby d9_8) rfl rfl ?_
                refine st399.trans ?_
                show Sx p e below T399 m 12 #[xvr ax, xvi (0 : Int32), xvi (3 : Int32), xvi (2 : Int32), xvi cc1] [xwi cc2] _
                refine XS.istore X399.here hx rfl (hb hby d9_12) rfl (l' := #[xvr ax, xvi (0 : Int32), xvi (3 : Int32), xvi (2 : Int32), xvi cc2]) rfl ?_
                show Sx p e below T399 m 14 #[xvr ax, xvi (0 : Int32), xvi (3 : Int32), xvi (2 : Int32), xvi cc2] [] _
                refine y_iload X399 hx 16 (hb hby d9_14) rfl rfl ?_
                refine y_bipush X399 hx (48 : Int32) 18 (hb hby d9_16) rfl rfl ?_
                exact k)
              by_cases hc402 : cc2 < (48 : Int32)
              · obtain ⟨fs, hr, hrun, hended, hW, hsame⟩ := X399.leave (v := some (.int (0 : Int32))) (fun h => by rw [Bd.returns] at h; cases h)
                refine ⟨_, _, hTG _ (c401 _ ?_), hrun, hended, _, _, rfl, ?_, ⟨_, rfl⟩, hW, hsame.mono (by decide) (by decide)⟩
                · refine y_icmpYes X399 hx 28 (hb hby d9_18) (XT.ii_lt_t hc402) (by decide) (by decide) ?_
                  refine y_iconst X399 hx (0 : Int32) 29 (hb hby d9_28) rfl rfl ?_
                  show Sx p e below T399 m 29 #[xvr ax, xvi (0 : Int32), xvi (3 : Int32), xvi (2 : Int32), xvi cc2] [xwi (0 : Int32)] _
                  exact retN X399 hx (t := .boolean) Bd.returns (by simp) (hb hby d9_29) (hr)
                · show QrmDg Z G ax cc0 cc1 cc2 cc3 sx ex h0 n0 _ T399.heap _
                  rw [e399]
                  exact ⟨(0 : Int32), rfl, N399, rfl, (Or.inr ⟨rfl, fun q => (q.2.2.1 (by rw [hk367]; decide) (by rw [hk368]; decide)).1 hc402⟩)⟩
              · have c403 : ∀ t, Sx p e below T399 m 25 #[xvr ax, xvi (0 : Int32), xvi (3 : Int32), xvi (2 : Int32), xvi cc2] [xwi (57 : Int32), xwi cc2] t → TG t := fun t k => c401 t (by
                  refine y_icmpNo X399 hx 21 (hb hby d9_18) (XT.ii_lt_f hc402) rfl ?_
                  refine y_iload X399 hx 23 (hb hby d9_21) rfl rfl ?_
                  refine y_bipush X399 hx (57 : Int32) 25 (hb hby d9_23) rfl rfl ?_
                  exact k)
                by_cases hc404 : (57 : Int32) < cc2
                · obtain ⟨fs, hr, hrun, hended, hW, hsame⟩ := X399.leave (v := some (.int (0 : Int32))) (fun h => by rw [Bd.returns] at h; cases h)
                  refine ⟨_, _, hTG _ (c403 _ ?_), hrun, hended, _, _, rfl, ?_, ⟨_, rfl⟩, hW, hsame.mono (by decide) (by decide)⟩
                  · refine y_icmpNo X399 hx 28 (hb hby d9_25) (XT.ii_le_f hc404) rfl ?_
                    refine y_iconst X399 hx (0 : Int32) 29 (hb hby d9_28) rfl rfl ?_
                    show Sx p e below T399 m 29 #[xvr ax, xvi (0 : Int32), xvi (3 : Int32), xvi (2 : Int32), xvi cc2] [xwi (0 : Int32)] _
                    exact retN X399 hx (t := .boolean) Bd.returns (by simp) (hb hby d9_29) (hr)
                  · show QrmDg Z G ax cc0 cc1 cc2 cc3 sx ex h0 n0 _ T399.heap _
                    rw [e399]
                    exact ⟨(0 : Int32), rfl, N399, rfl, (Or.inr ⟨rfl, fun q => (q.2.2.1 (by rw [hk367]; decide) (by rw [hk368]; decide)).2 hc404⟩)⟩
                · obtain ⟨fs, hr, hrun, hended, hW, hsame⟩ := X399.leave (v := some (.int (1 : Int32))) (fun h => by rw [Bd.returns] at h; cases h)
                  refine ⟨_, _, hTG _ (c403 _ ?_), hrun, hended, _, _, rfl, ?_, ⟨_, rfl⟩, hW, hsame.mono (by decide) (by decide)⟩
                  · refine y_icmpYes X399 hx 30 (hb hby d9_25) (XT.ii_le_t hc404) (by decide) (by decide) ?_
                    refine XS.iinc X399.here hx rfl (hb hby d9_30) rfl (l' := #[xvr ax, xvi (0 : Int32), xvi (3 : Int32), xvi ((2 : Int32) + (1 : Int32)), xvi cc2]) rfl ?_
                    rw [show ((2 : Int32) + (1 : Int32)) = (3 : Int32) from by decide]
                    show Sx p e below T399 m 33 #[xvr ax, xvi (0 : Int32), xvi (3 : Int32), xvi (3 : Int32), xvi cc2] [] _
                    refine y_goto X399 hx 2 (hb hby d9_33) (by decide) (by decide) ?_
                    refine y_iloadN X399 hx 3 (hb hby d9_2) rfl rfl ?_
                    refine y_iloadN X399 hx 4 (hb hby d9_3) rfl rfl ?_
                    refine y_icmpYes X399 hx 36 (hb hby d9_4) (XT.ii_ge_t (by decide)) (by decide) (by decide) ?_
                    refine y_iconst X399 hx (1 : Int32) 37 (hb hby d9_36) rfl rfl ?_
                    show Sx p e below T399 m 37 #[xvr ax, xvi (0 : Int32), xvi (3 : Int32), xvi (3 : Int32), xvi cc2] [xwi (1 : Int32)] _
                    exact retN X399 hx (t := .boolean) Bd.returns (by simp) (hb hby d9_37) (hr)
                  · show QrmDg Z G ax cc0 cc1 cc2 cc3 sx ex h0 n0 _ T399.heap _
                    rw [e399]
                    exact ⟨(1 : Int32), rfl, N399, rfl, (Or.inl ⟨rfl, fun _ _ => ⟨hc390, hc392⟩, fun _ _ => ⟨hc396, hc398⟩, fun _ _ => ⟨hc402, hc404⟩, fun _ q2 => absurd q2 (by rw [hk368]; decide)⟩)⟩
    · obtain ⟨cq406, kq406, q406a, q406b, q406c⟩ := isOf hZ e0 E1
      obtain ⟨_, _, ⟨T405, L405, k405, n405⟩, -, X405, ⟨Lc405, hQ405, l405, y405, z405⟩, st405⟩ := X0.virtualBack hx (y := (⟨"java/lang/String", "charAt", "(I)C"⟩ : MethodName)) (z := (⟨"java/lang/String", "charAt", "(I)C"⟩ : MethodName)) hown (mvT hZ (w_43 hw)) (mvT hZ (w_44 hw)) (notFace_of_selects (args := #[]) (mvT hZ (w_46 hw))) (mvT hZ (w_46 hw)) (mvT hZ (w_45 hw)) (by decide) (backOf (W := 0) (rmCA0 l Z a0 hw G ST [] ax cc0 cc1 cc2 cc3 h0 n0 X00 hS hr_cc0 hr_cc1 hr_cc2 hr_cc3) hZ (w_47 hw) (w_9 hw) (by decide) (by decide)) q406a q406c (g := (mkF m 9 #[xvr ax, xvi (0 : Int32), xvi (4 : Int32), xvi (0 : Int32), xun] [xwi (0 : Int32), xwr ax])) rfl (by rw [hml]; rfl) (Steps.refl _) (argsL := [(.int (0 : Int32))]) (rest := []) (lenOf pd_13 rfl) rfl (by show 2 * 0 + _ ≤ _; exact Nat.le_of_eq rfl) (hb hby d9_9) (fun _ _ => ⟨rfl, e0, (by decide : 0 + 0 ≤ _), (by decide : 0 + 0 ≤ _)⟩)
      dsimp only [Pt.U, Pt.locs, Pt.cells, Pt.slots] at X405 l405 y405 z405 st405 hQ405
      subst l405 y405 z405
      obtain ⟨rfl, N405q, e405⟩ := hQ405
      have N405 := Fr.app N0 N405q
      have c407 : ∀ t, Sx p e below T405 m 18 #[xvr ax, xvi (0 : Int32), xvi (4 : Int32), xvi (0 : Int32), xvi cc0] [xwi (48 : Int32), xwi cc0] t → TG t := fun t k => pre0 t (by
        refine y_iloadN X0 hx 1 (hb hby d9_0) rfl rfl ?_
        rw [hk367]
        refine XS.istoreN X0.here hx rfl (hb hby d9_1) rfl (l' := #[xvr ax, xvi (0 : Int32), xvi ex, xvi (0 : Int32), xun]) rfl ?_
        show Sx p e below s₁ m 2 #[xvr ax, xvi (0 : Int32), xvi ex, xvi (0 : Int32), xun] [] _
        refine y_iloadN X0 hx 3 (hb hby d9_2) rfl rfl ?_
        refine y_iloadN X0 hx 4 (hb hby d9_3) rfl rfl ?_
        rw [hk368]
        refine y_icmpNo X0 hx 7 (hb hby d9_4) (XT.ii_ge_f (by decide)) rfl ?_
        refine y_aloadN X0 hx 8 (hb hby d9_7) rfl rfl rfl ?_
        refine y_iloadN X0 hx 9 (hb hby d9_8) rfl rfl ?_
        refine st405.trans ?_
        show Sx p e below T405 m 12 #[xvr ax, xvi (0 : Int32), xvi (4 : Int32), xvi (0 : Int32), xun] [xwi cc0] _
        refine XS.istore X405.here hx rfl (hb hby d9_12) rfl (l' := #[xvr ax, xvi (0 : Int32), xvi (4 : Int32), xvi (0 : Int32), xvi cc0]) rfl ?_
        show Sx p e below T405 m 14 #[xvr ax, xvi (0 : Int32), xvi (4 : Int32), xvi (0 : Int32), xvi cc0] [] _
        refine y_iload X405 hx 16 (hb hby d9_14) rfl rfl ?_
        refine y_bipush X405 hx (48 : Int32) 18 (hb hby d9_16) rfl rfl ?_
        exact k)
      by_cases hc408 : cc0 < (48 : Int32)
      · obtain ⟨fs, hr, hrun, hended, hW, hsame⟩ := X405.leave (v := some (.int (0 : Int32))) (fun h => by rw [Bd.returns] at h; cases h)
        refine ⟨_, _, hTG _ (c407 _ ?_), hrun, hended, _, _, rfl, ?_, ⟨_, rfl⟩, hW, hsame.mono (by decide) (by decide)⟩
        · refine y_icmpYes X405 hx 28 (hb hby d9_18) (XT.ii_lt_t hc408) (by decide) (by decide) ?_
          refine y_iconst X405 hx (0 : Int32) 29 (hb hby d9_28) rfl rfl ?_
          show Sx p e below T405 m 29 #[xvr ax, xvi (0 : Int32), xvi (4 : Int32), xvi (0 : Int32), xvi cc0] [xwi (0 : Int32)] _
          exact retN X405 hx (t := .boolean) Bd.returns (by simp) (hb hby d9_29) (hr)
        · show QrmDg Z G ax cc0 cc1 cc2 cc3 sx ex h0 n0 _ T405.heap _
          rw [e405]
          exact ⟨(0 : Int32), rfl, N405, rfl, (Or.inr ⟨rfl, fun q => (q.1 (by rw [hk367]; decide) (by rw [hk368]; decide)).1 hc408⟩)⟩
      · have c409 : ∀ t, Sx p e below T405 m 25 #[xvr ax, xvi (0 : Int32), xvi (4 : Int32), xvi (0 : Int32), xvi cc0] [xwi (57 : Int32), xwi cc0] t → TG t := fun t k => c407 t (by
          refine y_icmpNo X405 hx 21 (hb hby d9_18) (XT.ii_lt_f hc408) rfl ?_
          refine y_iload X405 hx 23 (hb hby d9_21) rfl rfl ?_
          refine y_bipush X405 hx (57 : Int32) 25 (hb hby d9_23) rfl rfl ?_
          exact k)
        by_cases hc410 : (57 : Int32) < cc0
        · obtain ⟨fs, hr, hrun, hended, hW, hsame⟩ := X405.leave (v := some (.int (0 : Int32))) (fun h => by rw [Bd.returns] at h; cases h)
          refine ⟨_, _, hTG _ (c409 _ ?_), hrun, hended, _, _, rfl, ?_, ⟨_, rfl⟩, hW, hsame.mono (by decide) (by decide)⟩
          · refine y_icmpNo X405 hx 28 (hb hby d9_25) (XT.ii_le_f hc410) rfl ?_
            refine y_iconst X405 hx (0 : Int32) 29 (hb hby d9_28) rfl rfl ?_
            show Sx p e below T405 m 29 #[xvr ax, xvi (0 : Int32), xvi (4 : Int32), xvi (0 : Int32), xvi cc0] [xwi (0 : Int32)] _
            exact retN X405 hx (t := .boolean) Bd.returns (by simp) (hb hby d9_29) (hr)
          · show QrmDg Z G ax cc0 cc1 cc2 cc3 sx ex h0 n0 _ T405.heap _
            rw [e405]
            exact ⟨(0 : Int32), rfl, N405, rfl, (Or.inr ⟨rfl, fun q => (q.1 (by rw [hk367]; decide) (by rw [hk368]; decide)).2 hc410⟩)⟩
        · obtain ⟨cq412, kq412, q412a, q412b, q412c⟩ := isOf hZ e405 E1
          obtain ⟨_, _, ⟨T411, L411, k411, n411⟩, -, X411, ⟨Lc411, hQ411, l411, y411, z411⟩, st411⟩ := X405.virtualBack hx (y := (⟨"java/lang/String", "charAt", "(I)C"⟩ : MethodName)) (z := (⟨"java/lang/String", "charAt", "(I)C"⟩ : MethodName)) hown (mvT hZ (w_43 hw)) (mvT hZ (w_44 hw)) (notFace_of_selects (args := #[]) (mvT hZ (w_46 hw))) (mvT hZ (w_46 hw)) (mvT hZ (w_45 hw)) (by decide) (backOf (W := 0) (rmCA1 l Z a0 hw G ST [] ax cc0 cc1 cc2 cc3 h0 n0 X00 hS hr_cc0 hr_cc1 hr_cc2 hr_cc3) hZ (w_47 hw) (w_9 hw) (by decide) (by decide)) q412a q412c (g := (mkF m 9 #[xvr ax, xvi (0 : Int32), xvi (4 : Int32), xvi (1 : Int32), xvi cc0] [xwi (1 : Int32), xwr ax])) rfl (by rw [hml]; rfl) (Steps.refl _) (argsL := [(.int (1 : Int32))]) (rest := []) (lenOf pd_13 rfl) rfl (by show 2 * 0 + _ ≤ _; exact Nat.le_of_eq rfl) (hb hby d9_9) (fun _ _ => ⟨rfl, e405, (by decide : 0 + 0 ≤ _), (by decide : 0 + 0 ≤ _)⟩)
          dsimp only [Pt.U, Pt.locs, Pt.cells, Pt.slots] at X411 l411 y411 z411 st411 hQ411
          subst l411 y411 z411
          obtain ⟨rfl, N411q, e411⟩ := hQ411
          have N411 := Fr.app N405 N411q
          have c413 : ∀ t, Sx p e below T411 m 18 #[xvr ax, xvi (0 : Int32), xvi (4 : Int32), xvi (1 : Int32), xvi cc1] [xwi (48 : Int32), xwi cc1] t → TG t := fun t k => c409 t (by
            refine y_icmpYes X405 hx 30 (hb hby d9_25) (XT.ii_le_t hc410) (by decide) (by decide) ?_
            refine XS.iinc X405.here hx rfl (hb hby d9_30) rfl (l' := #[xvr ax, xvi (0 : Int32), xvi (4 : Int32), xvi ((0 : Int32) + (1 : Int32)), xvi cc0]) rfl ?_
            rw [show ((0 : Int32) + (1 : Int32)) = (1 : Int32) from by decide]
            show Sx p e below T405 m 33 #[xvr ax, xvi (0 : Int32), xvi (4 : Int32), xvi (1 : Int32), xvi cc0] [] _
            refine y_goto X405 hx 2 (hb hby d9_33) (by decide) (by decide) ?_
            refine y_iloadN X405 hx 3 (hb hby d9_2) rfl rfl ?_
            refine y_iloadN X405 hx 4 (hb hby d9_3) rfl rfl ?_
            refine y_icmpNo X405 hx 7 (hb hby d9_4) (XT.ii_ge_f (by decide)) rfl ?_
            refine y_aloadN X405 hx 8 (hb hby d9_7) rfl rfl rfl ?_
            refine y_iloadN X405 hx 9 (hb hby d9_8) rfl rfl ?_
            refine st411.trans ?_
            show Sx p e below T411 m 12 #[xvr ax, xvi (0 : Int32), xvi (4 : Int32), xvi (1 : Int32), xvi cc0] [xwi cc1] _
            refine XS.istore X411.here hx rfl (hb hby d9_12) rfl (l' := #[xvr ax, xvi (0 : Int32), xvi (4 : Int32), xvi (1 : Int32), xvi cc1]) rfl ?_
            show Sx p e below T411 m 14 #[xvr ax, xvi (0 : Int32), xvi (4 : Int32), xvi (1 : Int32), xvi cc1] [] _
            refine y_iload X411 hx 16 (hb hby d9_14) rfl rfl ?_
            refine y_bipush X411 hx (48 : Int32) 18 (hb hby d9_16) rfl rfl ?_
            exact k)
          by_cases hc414 : cc1 < (48 : Int32)
          · obtain ⟨fs, hr, hrun, hended, hW, hsame⟩ := X411.leave (v := some (.int (0 : Int32))) (fun h => by rw [Bd.returns] at h; cases h)
            refine ⟨_, _, hTG _ (c413 _ ?_), hrun, hended, _, _, rfl, ?_, ⟨_, rfl⟩, hW, hsame.mono (by decide) (by decide)⟩
            · refine y_icmpYes X411 hx 28 (hb hby d9_18) (XT.ii_lt_t hc414) (by decide) (by decide) ?_
              refine y_iconst X411 hx (0 : Int32) 29 (hb hby d9_28) rfl rfl ?_
              show Sx p e below T411 m 29 #[xvr ax, xvi (0 : Int32), xvi (4 : Int32), xvi (1 : Int32), xvi cc1] [xwi (0 : Int32)] _
              exact retN X411 hx (t := .boolean) Bd.returns (by simp) (hb hby d9_29) (hr)
            · show QrmDg Z G ax cc0 cc1 cc2 cc3 sx ex h0 n0 _ T411.heap _
              rw [e411]
              exact ⟨(0 : Int32), rfl, N411, rfl, (Or.inr ⟨rfl, fun q => (q.2.1 (by rw [hk367]; decide) (by rw [hk368]; decide)).1 hc414⟩)⟩
          · have c415 : ∀ t, Sx p e below T411 m 25 #[xvr ax, xvi (0 : Int32), xvi (4 : Int32), xvi (1 : Int32), xvi cc1] [xwi (57 : Int32), xwi cc1] t → TG t := fun t k => c413 t (by
              refine y_icmpNo X411 hx 21 (hb hby d9_18) (XT.ii_lt_f hc414) rfl ?_
              refine y_iload X411 hx 23 (hb hby d9_21) rfl rfl ?_
              refine y_bipush X411 hx (57 : Int32) 25 (hb hby d9_23) rfl rfl ?_
              exact k)
            by_cases hc416 : (57 : Int32) < cc1
            · obtain ⟨fs, hr, hrun, hended, hW, hsame⟩ := X411.leave (v := some (.int (0 : Int32))) (fun h => by rw [Bd.returns] at h; cases h)
              refine ⟨_, _, hTG _ (c415 _ ?_), hrun, hended, _, _, rfl, ?_, ⟨_, rfl⟩, hW, hsame.mono (by decide) (by decide)⟩
              · refine y_icmpNo X411 hx 28 (hb hby d9_25) (XT.ii_le_f hc416) rfl ?_
                refine y_iconst X411 hx (0 : Int32) 29 (hb hby d9_28) rfl rfl ?_
                show Sx p e below T411 m 29 #[xvr ax, xvi (0 : Int32), xvi (4 : Int32), xvi (1 : Int32), xvi cc1] [xwi (0 : Int32)] _
                exact retN X411 hx (t := .boolean) Bd.returns (by simp) (hb hby d9_29) (hr)
              · show QrmDg Z G ax cc0 cc1 cc2 cc3 sx ex h0 n0 _ T411.heap _
                rw [e411]
                exact ⟨(0 : Int32), rfl, N411, rfl, (Or.inr ⟨rfl, fun q => (q.2.1 (by rw [hk367]; decide) (by rw [hk368]; decide)).2 hc416⟩)⟩
            · obtain ⟨cq418, kq418, q418a, q418b, q418c⟩ := isOf hZ e411 E1
              obtain ⟨_, _, ⟨T417, L417, k417, n417⟩, -, X417, ⟨Lc417, hQ417, l417, y417, z417⟩, st417⟩ := X411.virtualBack hx (y := (⟨"java/lang/String", "charAt", "(I)C"⟩ : MethodName)) (z := (⟨"java/lang/String", "charAt", "(I)C"⟩ : MethodName)) hown (mvT hZ (w_43 hw)) (mvT hZ (w_44 hw)) (notFace_of_selects (args := #[]) (mvT hZ (w_46 hw))) (mvT hZ (w_46 hw)) (mvT hZ (w_45 hw)) (by decide) (backOf (W := 0) (rmCA2 l Z a0 hw G ST [] ax cc0 cc1 cc2 cc3 h0 n0 X00 hS hr_cc0 hr_cc1 hr_cc2 hr_cc3) hZ (w_47 hw) (w_9 hw) (by decide) (by decide)) q418a q418c (g := (mkF m 9 #[xvr ax, xvi (0 : Int32), xvi (4 : Int32), xvi (2 : Int32), xvi cc1] [xwi (2 : Int32), xwr ax])) rfl (by rw [hml]; rfl) (Steps.refl _) (argsL := [(.int (2 : Int32))]) (rest := []) (lenOf pd_13 rfl) rfl (by show 2 * 0 + _ ≤ _; exact Nat.le_of_eq rfl) (hb hby d9_9) (fun _ _ => ⟨rfl, e411, (by decide : 0 + 0 ≤ _), (by decide : 0 + 0 ≤ _)⟩)
              dsimp only [Pt.U, Pt.locs, Pt.cells, Pt.slots] at X417 l417 y417 z417 st417 hQ417
              subst l417 y417 z417
              obtain ⟨rfl, N417q, e417⟩ := hQ417
              have N417 := Fr.app N411 N417q
              have c419 : ∀ t, Sx p e below T417 m 18 #[xvr ax, xvi (0 : Int32), xvi (4 : Int32), xvi (2 : Int32), xvi cc2] [xwi (48 : Int32), xwi cc2] t → TG t := fun t k => c415 t (by
                refine y_icmpYes X411 hx 30 (hb hby d9_25) (XT.ii_le_t hc416) (by decide) (by decide) ?_
                refine XS.iinc X411.here hx rfl (hb hby d9_30) rfl (l' := #[xvr ax, xvi (0 : Int32), xvi (4 : Int32), xvi ((1 : Int32) + (1 : Int32)), xvi cc1]) rfl ?_
                rw [show ((1 : Int32) + (1 : Int32)) = (2 : Int32) from by decide]
                show Sx p e below T411 m 33 #[xvr ax, xvi (0 : Int32), xvi (4 : Int32), xvi (2 : Int32), xvi cc1] [] _
                refine y_goto X411 hx 2 (hb hby d9_33) (by decide) (by decide) ?_
                refine y_iloadN X411 hx 3 (hb hby d9_2) rfl rfl ?_
                refine y_iloadN X411 hx 4 (hb hby d9_3) rfl rfl ?_
                refine y_icmpNo X411 hx 7 (hb hby d9_4) (XT.ii_ge_f (by decide)) rfl ?_
                refine y_aloadN X411 hx 8 (hb hby d9_7) rfl rfl rfl ?_
                refine y_iloadN X411 hx 9 (hb hby d9_8) rfl rfl ?_
                refine st417.trans ?_
                show Sx p e below T417 m 12 #[xvr ax, xvi (0 : Int32), xvi (4 : Int32), xvi (2 : Int32), xvi cc1] [xwi cc2] _
                refine XS.istore X417.here hx rfl (hb hby d9_12) rfl (l' := #[xvr ax, xvi (0 : Int32), xvi (4 : Int32), xvi (2 : Int32), xvi cc2]) rfl ?_
                show Sx p e below T417 m 14 #[xvr ax, xvi (0 : Int32), xvi (4 : Int32), xvi (2 : Int32), xvi cc2] [] _
                refine y_iload X417 hx 16 (hb hby d9_14) rfl rfl ?_
                refine y_bipush X417 hx (48 : Int32) 18 (hb hby d9_16) rfl rfl ?_
                exact k)
              by_cases hc420 : cc2 < (48 : Int32)
              · obtain ⟨fs, hr, hrun, hended, hW, hsame⟩ := X417.leave (v := some (.int (0 : Int32))) (fun h => by rw [Bd.returns] at h; cases h)
                refine ⟨_, _, hTG _ (c419 _ ?_), hrun, hended, _, _, rfl, ?_, ⟨_, rfl⟩, hW, hsame.mono (by decide) (by decide)⟩
                · refine y_icmpYes X417 hx 28 (hb hby d9_18) (XT.ii_lt_t hc420) (by decide) (by decide) ?_
                  refine y_iconst X417 hx (0 : Int32) 29 (hb hby d9_28) rfl rfl ?_
                  show Sx p e below T417 m 29 #[xvr ax, xvi (0 : Int32), xvi (4 : Int32), xvi (2 : Int32), xvi cc2] [xwi (0 : Int32)] _
                  exact retN X417 hx (t := .boolean) Bd.returns (by simp) (hb hby d9_29) (hr)
                · show QrmDg Z G ax cc0 cc1 cc2 cc3 sx ex h0 n0 _ T417.heap _
                  rw [e417]
                  exact ⟨(0 : Int32), rfl, N417, rfl, (Or.inr ⟨rfl, fun q => (q.2.2.1 (by rw [hk367]; decide) (by rw [hk368]; decide)).1 hc420⟩)⟩
              · have c421 : ∀ t, Sx p e below T417 m 25 #[xvr ax, xvi (0 : Int32), xvi (4 : Int32), xvi (2 : Int32), xvi cc2] [xwi (57 : Int32), xwi cc2] t → TG t := fun t k => c419 t (by
                  refine y_icmpNo X417 hx 21 (hb hby d9_18) (XT.ii_lt_f hc420) rfl ?_
                  refine y_iload X417 hx 23 (hb hby d9_21) rfl rfl ?_
                  refine y_bipush X417 hx (57 : Int32) 25 (hb hby d9_23) rfl rfl ?_
                  exact k)
                by_cases hc422 : (57 : Int32) < cc2
                · obtain ⟨fs, hr, hrun, hended, hW, hsame⟩ := X417.leave (v := some (.int (0 : Int32))) (fun h => by rw [Bd.returns] at h; cases h)
                  refine ⟨_, _, hTG _ (c421 _ ?_), hrun, hended, _, _, rfl, ?_, ⟨_, rfl⟩, hW, hsame.mono (by decide) (by decide)⟩
                  · refine y_icmpNo X417 hx 28 (hb hby d9_25) (XT.ii_le_f hc422) rfl ?_
                    refine y_iconst X417 hx (0 : Int32) 29 (hb hby d9_28) rfl rfl ?_
                    show Sx p e below T417 m 29 #[xvr ax, xvi (0 : Int32), xvi (4 : Int32), xvi (2 : Int32), xvi cc2] [xwi (0 : Int32)] _
                    exact retN X417 hx (t := .boolean) Bd.returns (by simp) (hb hby d9_29) (hr)
                  · show QrmDg Z G ax cc0 cc1 cc2 cc3 sx ex h0 n0 _ T417.heap _
                    rw [e417]
                    exact ⟨(0 : Int32), rfl, N417, rfl, (Or.inr ⟨rfl, fun q => (q.2.2.1 (by rw [hk367]; decide) (by rw [hk368]; decide)).2 hc422⟩)⟩
                · obtain ⟨cq424, kq424, q424a, q424b, q424c⟩ := isOf hZ e417 E1
                  obtain ⟨_, _, ⟨T423, L423, k423, n423⟩, -, X423, ⟨Lc423, hQ423, l423, y423, z423⟩, st423⟩ := X417.virtualBack hx (y := (⟨"java/lang/String", "charAt", "(I)C"⟩ : MethodName)) (z := (⟨"java/lang/String", "charAt", "(I)C"⟩ : MethodName)) hown (mvT hZ (w_43 hw)) (mvT hZ (w_44 hw)) (notFace_of_selects (args := #[]) (mvT hZ (w_46 hw))) (mvT hZ (w_46 hw)) (mvT hZ (w_45 hw)) (by decide) (backOf (W := 0) (rmCA3 l Z a0 hw G ST [] ax cc0 cc1 cc2 cc3 h0 n0 X00 hS hr_cc0 hr_cc1 hr_cc2 hr_cc3) hZ (w_47 hw) (w_9 hw) (by decide) (by decide)) q424a q424c (g := (mkF m 9 #[xvr ax, xvi (0 : Int32), xvi (4 : Int32), xvi (3 : Int32), xvi cc2] [xwi (3 : Int32), xwr ax])) rfl (by rw [hml]; rfl) (Steps.refl _) (argsL := [(.int (3 : Int32))]) (rest := []) (lenOf pd_13 rfl) rfl (by show 2 * 0 + _ ≤ _; exact Nat.le_of_eq rfl) (hb hby d9_9) (fun _ _ => ⟨rfl, e417, (by decide : 0 + 0 ≤ _), (by decide : 0 + 0 ≤ _)⟩)
                  dsimp only [Pt.U, Pt.locs, Pt.cells, Pt.slots] at X423 l423 y423 z423 st423 hQ423
                  subst l423 y423 z423
                  obtain ⟨rfl, N423q, e423⟩ := hQ423
                  have N423 := Fr.app N417 N423q
                  have c425 : ∀ t, Sx p e below T423 m 18 #[xvr ax, xvi (0 : Int32), xvi (4 : Int32), xvi (3 : Int32), xvi cc3] [xwi (48 : Int32), xwi cc3] t → TG t := fun t k => c421 t (by
                    refine y_icmpYes X417 hx 30 (hb hby d9_25) (XT.ii_le_t hc422) (by decide) (by decide) ?_
                    refine XS.iinc X417.here hx rfl (hb hby d9_30) rfl (l' := #[xvr ax, xvi (0 : Int32), xvi (4 : Int32), xvi ((2 : Int32) + (1 : Int32)), xvi cc2]) rfl ?_
                    rw [show ((2 : Int32) + (1 : Int32)) = (3 : Int32) from by decide]
                    show Sx p e below T417 m 33 #[xvr ax, xvi (0 : Int32), xvi (4 : Int32), xvi (3 : Int32), xvi cc2] [] _
                    refine y_goto X417 hx 2 (hb hby d9_33) (by decide) (by decide) ?_
                    refine y_iloadN X417 hx 3 (hb hby d9_2) rfl rfl ?_
                    refine y_iloadN X417 hx 4 (hb hby d9_3) rfl rfl ?_
                    refine y_icmpNo X417 hx 7 (hb hby d9_4) (XT.ii_ge_f (by decide)) rfl ?_
                    refine y_aloadN X417 hx 8 (hb hby d9_7) rfl rfl rfl ?_
                    refine y_iloadN X417 hx 9 (hb hby d9_8) rfl rfl ?_
                    refine st423.trans ?_
                    show Sx p e below T423 m 12 #[xvr ax, xvi (0 : Int32), xvi (4 : Int32), xvi (3 : Int32), xvi cc2] [xwi cc3] _
                    refine XS.istore X423.here hx rfl (hb hby d9_12) rfl (l' := #[xvr ax, xvi (0 : Int32), xvi (4 : Int32), xvi (3 : Int32), xvi cc3]) rfl ?_
                    show Sx p e below T423 m 14 #[xvr ax, xvi (0 : Int32), xvi (4 : Int32), xvi (3 : Int32), xvi cc3] [] _
                    refine y_iload X423 hx 16 (hb hby d9_14) rfl rfl ?_
                    refine y_bipush X423 hx (48 : Int32) 18 (hb hby d9_16) rfl rfl ?_
                    exact k)
                  by_cases hc426 : cc3 < (48 : Int32)
                  · obtain ⟨fs, hr, hrun, hended, hW, hsame⟩ := X423.leave (v := some (.int (0 : Int32))) (fun h => by rw [Bd.returns] at h; cases h)
                    refine ⟨_, _, hTG _ (c425 _ ?_), hrun, hended, _, _, rfl, ?_, ⟨_, rfl⟩, hW, hsame.mono (by decide) (by decide)⟩
                    · refine y_icmpYes X423 hx 28 (hb hby d9_18) (XT.ii_lt_t hc426) (by decide) (by decide) ?_
                      refine y_iconst X423 hx (0 : Int32) 29 (hb hby d9_28) rfl rfl ?_
                      show Sx p e below T423 m 29 #[xvr ax, xvi (0 : Int32), xvi (4 : Int32), xvi (3 : Int32), xvi cc3] [xwi (0 : Int32)] _
                      exact retN X423 hx (t := .boolean) Bd.returns (by simp) (hb hby d9_29) (hr)
                    · show QrmDg Z G ax cc0 cc1 cc2 cc3 sx ex h0 n0 _ T423.heap _
                      rw [e423]
                      exact ⟨(0 : Int32), rfl, N423, rfl, (Or.inr ⟨rfl, fun q => (q.2.2.2 (by rw [hk367]; decide) (by rw [hk368]; decide)).1 hc426⟩)⟩
                  · have c427 : ∀ t, Sx p e below T423 m 25 #[xvr ax, xvi (0 : Int32), xvi (4 : Int32), xvi (3 : Int32), xvi cc3] [xwi (57 : Int32), xwi cc3] t → TG t := fun t k => c425 t (by
                      refine y_icmpNo X423 hx 21 (hb hby d9_18) (XT.ii_lt_f hc426) rfl ?_
                      refine y_iload X423 hx 23 (hb hby d9_21) rfl rfl ?_
                      refine y_bipush X423 hx (57 : Int32) 25 (hb hby d9_23) rfl rfl ?_
                      exact k)
                    by_cases hc428 : (57 : Int32) < cc3
                    · obtain ⟨fs, hr, hrun, hended, hW, hsame⟩ := X423.leave (v := some (.int (0 : Int32))) (fun h => by rw [Bd.returns] at h; cases h)
                      refine ⟨_, _, hTG _ (c427 _ ?_), hrun, hended, _, _, rfl, ?_, ⟨_, rfl⟩, hW, hsame.mono (by decide) (by decide)⟩
                      · refine y_icmpNo X423 hx 28 (hb hby d9_25) (XT.ii_le_f hc428) rfl ?_
                        refine y_iconst X423 hx (0 : Int32) 29 (hb hby d9_28) rfl rfl ?_
                        show Sx p e below T423 m 29 #[xvr ax, xvi (0 : Int32), xvi (4 : Int32), xvi (3 : Int32), xvi cc3] [xwi (0 : Int32)] _
                        exact retN X423 hx (t := .boolean) Bd.returns (by simp) (hb hby d9_29) (hr)
                      · show QrmDg Z G ax cc0 cc1 cc2 cc3 sx ex h0 n0 _ T423.heap _
                        rw [e423]
                        exact ⟨(0 : Int32), rfl, N423, rfl, (Or.inr ⟨rfl, fun q => (q.2.2.2 (by rw [hk367]; decide) (by rw [hk368]; decide)).2 hc428⟩)⟩
                    · obtain ⟨fs, hr, hrun, hended, hW, hsame⟩ := X423.leave (v := some (.int (1 : Int32))) (fun h => by rw [Bd.returns] at h; cases h)
                      refine ⟨_, _, hTG _ (c427 _ ?_), hrun, hended, _, _, rfl, ?_, ⟨_, rfl⟩, hW, hsame.mono (by decide) (by decide)⟩
                      · refine y_icmpYes X423 hx 30 (hb hby d9_25) (XT.ii_le_t hc428) (by decide) (by decide) ?_
                        refine XS.iinc X423.here hx rfl (hb hby d9_30) rfl (l' := #[xvr ax, xvi (0 : Int32), xvi (4 : Int32), xvi ((3 : Int32) + (1 : Int32)), xvi cc3]) rfl ?_
                        rw [show ((3 : Int32) + (1 : Int32)) = (4 : Int32) from by decide]
                        show Sx p e below T423 m 33 #[xvr ax, xvi (0 : Int32), xvi (4 : Int32), xvi (4 : Int32), xvi cc3] [] _
                        refine y_goto X423 hx 2 (hb hby d9_33) (by decide) (by decide) ?_
                        refine y_iloadN X423 hx 3 (hb hby d9_2) rfl rfl ?_
                        refine y_iloadN X423 hx 4 (hb hby d9_3) rfl rfl ?_
                        refine y_icmpYes X423 hx 36 (hb hby d9_4) (XT.ii_ge_t (by decide)) (by decide) (by decide) ?_
                        refine y_iconst X423 hx (1 : Int32) 37 (hb hby d9_36) rfl rfl ?_
                        show Sx p e below T423 m 37 #[xvr ax, xvi (0 : Int32), xvi (4 : Int32), xvi (4 : Int32), xvi cc3] [xwi (1 : Int32)] _
                        exact retN X423 hx (t := .boolean) Bd.returns (by simp) (hb hby d9_37) (hr)
                      · show QrmDg Z G ax cc0 cc1 cc2 cc3 sx ex h0 n0 _ T423.heap _
                        rw [e423]
                        exact ⟨(1 : Int32), rfl, N423, rfl, (Or.inl ⟨rfl, fun _ _ => ⟨hc408, hc410⟩, fun _ _ => ⟨hc414, hc416⟩, fun _ _ => ⟨hc420, hc422⟩, fun _ _ => ⟨hc426, hc428⟩⟩)⟩
  · rcases he5 with hk429 | hk429 | hk429 | hk429 | hk429
    · obtain ⟨fs, hr, hrun, hended, hW, hsame⟩ := X0.leave (v := some (.int (1 : Int32))) (fun h => by rw [Bd.returns] at h; cases h)
      refine ⟨_, _, hTG _ (pre0 _ ?_), hrun, hended, _, _, rfl, ?_, ⟨_, rfl⟩, hW, hsame.mono (by decide) (by decide)⟩
      · refine y_iloadN X0 hx 1 (hb hby d9_0) rfl rfl ?_
        rw [hk367]
        refine XS.istoreN X0.here hx rfl (hb hby d9_1) rfl (l' := #[xvr ax, xvi (1 : Int32), xvi ex, xvi (1 : Int32), xun]) rfl ?_
        show Sx p e below s₁ m 2 #[xvr ax, xvi (1 : Int32), xvi ex, xvi (1 : Int32), xun] [] _
        refine y_iloadN X0 hx 3 (hb hby d9_2) rfl rfl ?_
        refine y_iloadN X0 hx 4 (hb hby d9_3) rfl rfl ?_
        rw [hk429]
        refine y_icmpYes X0 hx 36 (hb hby d9_4) (XT.ii_ge_t (by decide)) (by decide) (by decide) ?_
        refine y_iconst X0 hx (1 : Int32) 37 (hb hby d9_36) rfl rfl ?_
        show Sx p e below s₁ m 37 #[xvr ax, xvi (1 : Int32), xvi (0 : Int32), xvi (1 : Int32), xun] [xwi (1 : Int32)] _
        exact retN X0 hx (t := .boolean) Bd.returns (by simp) (hb hby d9_37) (hr)
      · show QrmDg Z G ax cc0 cc1 cc2 cc3 sx ex h0 n0 _ s₁.heap _
        rw [e0]
        exact ⟨(1 : Int32), rfl, N0, rfl, (Or.inl ⟨rfl, fun q1 _ => absurd (by rw [hk367]; decide) q1, fun _ q2 => absurd q2 (by rw [hk429]; decide), fun _ q2 => absurd q2 (by rw [hk429]; decide), fun _ q2 => absurd q2 (by rw [hk429]; decide)⟩)⟩
    · obtain ⟨fs, hr, hrun, hended, hW, hsame⟩ := X0.leave (v := some (.int (1 : Int32))) (fun h => by rw [Bd.returns] at h; cases h)
      refine ⟨_, _, hTG _ (pre0 _ ?_), hrun, hended, _, _, rfl, ?_, ⟨_, rfl⟩, hW, hsame.mono (by decide) (by decide)⟩
      · refine y_iloadN X0 hx 1 (hb hby d9_0) rfl rfl ?_
        rw [hk367]
        refine XS.istoreN X0.here hx rfl (hb hby d9_1) rfl (l' := #[xvr ax, xvi (1 : Int32), xvi ex, xvi (1 : Int32), xun]) rfl ?_
        show Sx p e below s₁ m 2 #[xvr ax, xvi (1 : Int32), xvi ex, xvi (1 : Int32), xun] [] _
        refine y_iloadN X0 hx 3 (hb hby d9_2) rfl rfl ?_
        refine y_iloadN X0 hx 4 (hb hby d9_3) rfl rfl ?_
        rw [hk429]
        refine y_icmpYes X0 hx 36 (hb hby d9_4) (XT.ii_ge_t (by decide)) (by decide) (by decide) ?_
        refine y_iconst X0 hx (1 : Int32) 37 (hb hby d9_36) rfl rfl ?_
        show Sx p e below s₁ m 37 #[xvr ax, xvi (1 : Int32), xvi (1 : Int32), xvi (1 : Int32), xun] [xwi (1 : Int32)] _
        exact retN X0 hx (t := .boolean) Bd.returns (by simp) (hb hby d9_37) (hr)
      · show QrmDg Z G ax cc0 cc1 cc2 cc3 sx ex h0 n0 _ s₁.heap _
        rw [e0]
        exact ⟨(1 : Int32), rfl, N0, rfl, (Or.inl ⟨rfl, fun q1 _ => absurd (by rw [hk367]; decide) q1, fun _ q2 => absurd q2 (by rw [hk429]; decide), fun _ q2 => absurd q2 (by rw [hk429]; decide), fun _ q2 => absurd q2 (by rw [hk429]; decide)⟩)⟩
    · obtain ⟨cq431, kq431, q431a, q431b, q431c⟩ := isOf hZ e0 E1
      obtain ⟨_, _, ⟨T430, L430, k430, n430⟩, -, X430, ⟨Lc430, hQ430, l430, y430, z430⟩, st430⟩ := X0.virtualBack hx (y := (⟨"java/lang/String", "charAt", "(I)C"⟩ : MethodName)) (z := (⟨"java/lang/String", "charAt", "(I)C"⟩ : MethodName)) hown (mvT hZ (w_43 hw)) (mvT hZ (w_44 hw)) (notFace_of_selects (args := #[]) (mvT hZ (w_46 hw))) (mvT hZ (w_46 hw)) (mvT hZ (w_45 hw)) (by decide) (backOf (W := 0) (rmCA1 l Z a0 hw G ST [] ax cc0 cc1 cc2 cc3 h0 n0 X00 hS hr_cc0 hr_cc1 hr_cc2 hr_cc3) hZ (w_47 hw) (w_9 hw) (by decide) (by decide)) q431a q431c (g := (mkF m 9 #[xvr ax, xvi (1 : Int32), xvi (2 : Int32), xvi (1 : Int32), xun] [xwi (1 : Int32), xwr ax])) rfl (by rw [hml]; rfl) (Steps.refl _) (argsL := [(.int (1 : Int32))]) (rest := []) (lenOf pd_13 rfl) rfl (by show 2 * 0 + _ ≤ _; exact Nat.le_of_eq rfl) (hb hby d9_9) (fun _ _ => ⟨rfl, e0, (by decide : 0 + 0 ≤ _), (by decide : 0 + 0 ≤ _)⟩)
      dsimp only [Pt.U, Pt.locs, Pt.cells, Pt.slots] at X430 l430 y430 z430 st430 hQ430
      subst l430 y430 z430
      obtain ⟨rfl, N430q, e430⟩ := hQ430
      have N430 := Fr.app N0 N430q
      have c432 : ∀ t, Sx p e below T430 m 18 #[xvr ax, xvi (1 : Int32), xvi (2 : Int32), xvi (1 : Int32), xvi cc1] [xwi (48 : Int32), xwi cc1] t → TG t := fun t k => pre0 t (by
        refine y_iloadN X0 hx 1 (hb hby d9_0) rfl rfl ?_
        rw [hk367]
        refine XS.istoreN X0.here hx rfl (hb hby d9_1) rfl (l' := #[xvr ax, xvi (1 : Int32), xvi ex, xvi (1 : Int32), xun]) rfl ?_
        show Sx p e below s₁ m 2 #[xvr ax, xvi (1 : Int32), xvi ex, xvi (1 : Int32), xun] [] _
        refine y_iloadN X0 hx 3 (hb hby d9_2) rfl rfl ?_
        refine y_iloadN X0 hx 4 (hb hby d9_3) rfl rfl ?_
        rw [hk429]
        refine y_icmpNo X0 hx 7 (hb hby d9_4) (XT.ii_ge_f (by decide)) rfl ?_
        refine y_aloadN X0 hx 8 (hb hby d9_7) rfl rfl rfl ?_
        refine y_iloadN X0 hx 9 (hb hby d9_8) rfl rfl ?_
        refine st430.trans ?_
        show Sx p e below T430 m 12 #[xvr ax, xvi (1 : Int32), xvi (2 : Int32), xvi (1 : Int32), xun] [xwi cc1] _
        refine XS.istore X430.here hx rfl (hb hby d9_12) rfl (l' := #[xvr ax, xvi (1 : Int32), xvi (2 : Int32), xvi (1 : Int32), xvi cc1]) rfl ?_
        show Sx p e below T430 m 14 #[xvr ax, xvi (1 : Int32), xvi (2 : Int32), xvi (1 : Int32), xvi cc1] [] _
        refine y_iload X430 hx 16 (hb hby d9_14) rfl rfl ?_
        refine y_bipush X430 hx (48 : Int32) 18 (hb hby d9_16) rfl rfl ?_
        exact k)
      by_cases hc433 : cc1 < (48 : Int32)
      · obtain ⟨fs, hr, hrun, hended, hW, hsame⟩ := X430.leave (v := some (.int (0 : Int32))) (fun h => by rw [Bd.returns] at h; cases h)
        refine ⟨_, _, hTG _ (c432 _ ?_), hrun, hended, _, _, rfl, ?_, ⟨_, rfl⟩, hW, hsame.mono (by decide) (by decide)⟩
        · refine y_icmpYes X430 hx 28 (hb hby d9_18) (XT.ii_lt_t hc433) (by decide) (by decide) ?_
          refine y_iconst X430 hx (0 : Int32) 29 (hb hby d9_28) rfl rfl ?_
          show Sx p e below T430 m 29 #[xvr ax, xvi (1 : Int32), xvi (2 : Int32), xvi (1 : Int32), xvi cc1] [xwi (0 : Int32)] _
          exact retN X430 hx (t := .boolean) Bd.returns (by simp) (hb hby d9_29) (hr)
        · show QrmDg Z G ax cc0 cc1 cc2 cc3 sx ex h0 n0 _ T430.heap _
          rw [e430]
          exact ⟨(0 : Int32), rfl, N430, rfl, (Or.inr ⟨rfl, fun q => (q.2.1 (by rw [hk367]; decide) (by rw [hk429]; decide)).1 hc433⟩)⟩
      · have c434 : ∀ t, Sx p e below T430 m 25 #[xvr ax, xvi (1 : Int32), xvi (2 : Int32), xvi (1 : Int32), xvi cc1] [xwi (57 : Int32), xwi cc1] t → TG t := fun t k => c432 t (by
          refine y_icmpNo X430 hx 21 (hb hby d9_18) (XT.ii_lt_f hc433) rfl ?_
          refine y_iload X430 hx 23 (hb hby d9_21) rfl rfl ?_
          refine y_bipush X430 hx (57 : Int32) 25 (hb hby d9_23) rfl rfl ?_
          exact k)
        by_cases hc435 : (57 : Int32) < cc1
        · obtain ⟨fs, hr, hrun, hended, hW, hsame⟩ := X430.leave (v := some (.int (0 : Int32))) (fun h => by rw [Bd.returns] at h; cases h)
          refine ⟨_, _, hTG _ (c434 _ ?_), hrun, hended, _, _, rfl, ?_, ⟨_, rfl⟩, hW, hsame.mono (by decide) (by decide)⟩
          · refine y_icmpNo X430 hx 28 (hb hby d9_25) (XT.ii_le_f hc435) rfl ?_
            refine y_iconst X430 hx (0 : Int32) 29 (hb hby d9_28) rfl rfl ?_
            show Sx p e below T430 m 29 #[xvr ax, xvi (1 : Int32), xvi (2 : Int32), xvi (1 : Int32), xvi cc1] [xwi (0 : Int32)] _
            exact retN X430 hx (t := .boolean) Bd.returns (by simp) (hb hby d9_29) (hr)
          · show QrmDg Z G ax cc0 cc1 cc2 cc3 sx ex h0 n0 _ T430.heap _
            rw [e430]
            exact ⟨(0 : Int32), rfl, N430, rfl, (Or.inr ⟨rfl, fun q => (q.2.1 (by rw [hk367]; decide) (by rw [hk429]; decide)).2 hc435⟩)⟩
        · obtain ⟨fs, hr, hrun, hended, hW, hsame⟩ := X430.leave (v := some (.int (1 : Int32))) (fun h => by rw [Bd.returns] at h; cases h)
          refine ⟨_, _, hTG _ (c434 _ ?_), hrun, hended, _, _, rfl, ?_, ⟨_, rfl⟩, hW, hsame.mono (by decide) (by decide)⟩
          · refine y_icmpYes X430 hx 30 (hb hby d9_25) (XT.ii_le_t hc435) (by decide) (by decide) ?_
            refine XS.iinc X430.here hx rfl (hb hby d9_30) rfl (l' := #[xvr ax, xvi (1 : Int32), xvi (2 : Int32), xvi ((1 : Int32) + (1 : Int32)), xvi cc1]) rfl ?_
            rw [show ((1 : Int32) + (1 : Int32)) = (2 : Int32) from by decide]
            show Sx p e below T430 m 33 #[xvr ax, xvi (1 : Int32), xvi (2 : Int32), xvi (2 : Int32), xvi cc1] [] _
            refine y_goto X430 hx 2 (hb hby d9_33) (by decide) (by decide) ?_
            refine y_iloadN X430 hx 3 (hb hby d9_2) rfl rfl ?_
            refine y_iloadN X430 hx 4 (hb hby d9_3) rfl rfl ?_
            refine y_icmpYes X430 hx 36 (hb hby d9_4) (XT.ii_ge_t (by decide)) (by decide) (by decide) ?_
            refine y_iconst X430 hx (1 : Int32) 37 (hb hby d9_36) rfl rfl ?_
            show Sx p e below T430 m 37 #[xvr ax, xvi (1 : Int32), xvi (2 : Int32), xvi (2 : Int32), xvi cc1] [xwi (1 : Int32)] _
            exact retN X430 hx (t := .boolean) Bd.returns (by simp) (hb hby d9_37) (hr)
          · show QrmDg Z G ax cc0 cc1 cc2 cc3 sx ex h0 n0 _ T430.heap _
            rw [e430]
            exact ⟨(1 : Int32), rfl, N430, rfl, (Or.inl ⟨rfl, fun q1 _ => absurd (by rw [hk367]; decide) q1, fun _ _ => ⟨hc433, hc435⟩, fun _ q2 => absurd q2 (by rw [hk429]; decide), fun _ q2 => absurd q2 (by rw [hk429]; decide)⟩)⟩
    · obtain ⟨cq437, kq437, q437a, q437b, q437c⟩ := isOf hZ e0 E1
      obtain ⟨_, _, ⟨T436, L436, k436, n436⟩, -, X436, ⟨Lc436, hQ436, l436, y436, z436⟩, st436⟩ := X0.virtualBack hx (y := (⟨"java/lang/String", "charAt", "(I)C"⟩ : MethodName)) (z := (⟨"java/lang/String", "charAt", "(I)C"⟩ : MethodName)) hown (mvT hZ (w_43 hw)) (mvT hZ (w_44 hw)) (notFace_of_selects (args := #[]) (mvT hZ (w_46 hw))) (mvT hZ (w_46 hw)) (mvT hZ (w_45 hw)) (by decide) (backOf (W := 0) (rmCA1 l Z a0 hw G ST [] ax cc0 cc1 cc2 cc3 h0 n0 X00 hS hr_cc0 hr_cc1 hr_cc2 hr_cc3) hZ (w_47 hw) (w_9 hw) (by decide) (by decide)) q437a q437c (g := (mkF m 9 #[xvr ax, xvi (1 : Int32), xvi (3 : Int32), xvi (1 : Int32), xun] [xwi (1 : Int32), xwr ax])) rfl (by rw [hml]; rfl) (Steps.refl _) (argsL := [(.int (1 : Int32))]) (rest := []) (lenOf pd_13 rfl) rfl (by show 2 * 0 + _ ≤ _; exact Nat.le_of_eq rfl) (hb hby d9_9) (fun _ _ => ⟨rfl, e0, (by decide : 0 + 0 ≤ _), (by decide : 0 + 0 ≤ _)⟩)
      dsimp only [Pt.U, Pt.locs, Pt.cells, Pt.slots] at X436 l436 y436 z436 st436 hQ436
      subst l436 y436 z436
      obtain ⟨rfl, N436q, e436⟩ := hQ436
      have N436 := Fr.app N0 N436q
      have c438 : ∀ t, Sx p e below T436 m 18 #[xvr ax, xvi (1 : Int32), xvi (3 : Int32), xvi (1 : Int32), xvi cc1] [xwi (48 : Int32), xwi cc1] t → TG t := fun t k => pre0 t (by
        refine y_iloadN X0 hx 1 (hb hby d9_0) rfl rfl ?_
        rw [hk367]
        refine XS.istoreN X0.here hx rfl (hb hby d9_1) rfl (l' := #[xvr ax, xvi (1 : Int32), xvi ex, xvi (1 : Int32), xun]) rfl ?_
        show Sx p e below s₁ m 2 #[xvr ax, xvi (1 : Int32), xvi ex, xvi (1 : Int32), xun] [] _
        refine y_iloadN X0 hx 3 (hb hby d9_2) rfl rfl ?_
        refine y_iloadN X0 hx 4 (hb hby d9_3) rfl rfl ?_
        rw [hk429]
        refine y_icmpNo X0 hx 7 (hb hby d9_4) (XT.ii_ge_f (by decide)) rfl ?_
        refine y_aloadN X0 hx 8 (hb hby d9_7) rfl rfl rfl ?_
        refine y_iloadN X0 hx 9 (hb hby d9_8) rfl rfl ?_
        refine st436.trans ?_
        show Sx p e below T436 m 12 #[xvr ax, xvi (1 : Int32), xvi (3 : Int32), xvi (1 : Int32), xun] [xwi cc1] _
        refine XS.istore X436.here hx rfl (hb hby d9_12) rfl (l' := #[xvr ax, xvi (1 : Int32), xvi (3 : Int32), xvi (1 : Int32), xvi cc1]) rfl ?_
        show Sx p e below T436 m 14 #[xvr ax, xvi (1 : Int32), xvi (3 : Int32), xvi (1 : Int32), xvi cc1] [] _
        refine y_iload X436 hx 16 (hb hby d9_14) rfl rfl ?_
        refine y_bipush X436 hx (48 : Int32) 18 (hb hby d9_16) rfl rfl ?_
        exact k)
      by_cases hc439 : cc1 < (48 : Int32)
      · obtain ⟨fs, hr, hrun, hended, hW, hsame⟩ := X436.leave (v := some (.int (0 : Int32))) (fun h => by rw [Bd.returns] at h; cases h)
        refine ⟨_, _, hTG _ (c438 _ ?_), hrun, hended, _, _, rfl, ?_, ⟨_, rfl⟩, hW, hsame.mono (by decide) (by decide)⟩
        · refine y_icmpYes X436 hx 28 (hb hby d9_18) (XT.ii_lt_t hc439) (by decide) (by decide) ?_
          refine y_iconst X436 hx (0 : Int32) 29 (hb hby d9_28) rfl rfl ?_
          show Sx p e below T436 m 29 #[xvr ax, xvi (1 : Int32), xvi (3 : Int32), xvi (1 : Int32), xvi cc1] [xwi (0 : Int32)] _
          exact retN X436 hx (t := .boolean) Bd.returns (by simp) (hb hby d9_29) (hr)
        · show QrmDg Z G ax cc0 cc1 cc2 cc3 sx ex h0 n0 _ T436.heap _
          rw [e436]
          exact ⟨(0 : Int32), rfl, N436, rfl, (Or.inr ⟨rfl, fun q => (q.2.1 (by rw [hk367]; decide) (by rw [hk429]; decide)).1 hc439⟩)⟩
      · have c440 : ∀ t, Sx p e below T436 m 25 #[xvr ax, xvi (1 : Int32), xvi (3 : Int32), xvi (1 : Int32), xvi cc1] [xwi (57 : Int32), xwi cc1] t → TG t := fun t k => c438 t (by
          refine y_icmpNo X436 hx 21 (hb hby d9_18) (XT.ii_lt_f hc439) rfl ?_
          refine y_iload X436 hx 23 (hb hby d9_21) rfl rfl ?_
          refine y_bipush X436 hx (57 : Int32) 25 (hb hby d9_23) rfl rfl ?_
          exact k)
        by_cases hc441 : (57 : Int32) < cc1
        · obtain ⟨fs, hr, hrun, hended, hW, hsame⟩ := X436.leave (v := some (.int (0 : Int32))) (fun h => by rw [Bd.returns] at h; cases h)
          refine ⟨_, _, hTG _ (c440 _ ?_), hrun, hended, _, _, rfl, ?_, ⟨_, rfl⟩, hW, hsame.mono (by decide) (by decide)⟩
          · refine y_icmpNo X436 hx 28 (hb hby d9_25) (XT.ii_le_f hc441) rfl ?_
            refine y_iconst X436 hx (0 : Int32) 29 (hb hby d9_28) rfl rfl ?_
            show Sx p e below T436 m 29 #[xvr ax, xvi (1 : Int32), xvi (3 : Int32), xvi (1 : Int32), xvi cc1] [xwi (0 : Int32)] _
            exact retN X436 hx (t := .boolean) Bd.returns (by simp) (hb hby d9_29) (hr)
          · show QrmDg Z G ax cc0 cc1 cc2 cc3 sx ex h0 n0 _ T436.heap _
            rw [e436]
            exact ⟨(0 : Int32), rfl, N436, rfl, (Or.inr ⟨rfl, fun q => (q.2.1 (by rw [hk367]; decide) (by rw [hk429]; decide)).2 hc441⟩)⟩
        · obtain ⟨cq443, kq443, q443a, q443b, q443c⟩ := isOf hZ e436 E1
          obtain ⟨_, _, ⟨T442, L442, k442, n442⟩, -, X442, ⟨Lc442, hQ442, l442, y442, z442⟩, st442⟩ := X436.virtualBack hx (y := (⟨"java/lang/String", "charAt", "(I)C"⟩ : MethodName)) (z := (⟨"java/lang/String", "charAt", "(I)C"⟩ : MethodName)) hown (mvT hZ (w_43 hw)) (mvT hZ (w_44 hw)) (notFace_of_selects (args := #[]) (mvT hZ (w_46 hw))) (mvT hZ (w_46 hw)) (mvT hZ (w_45 hw)) (by decide) (backOf (W := 0) (rmCA2 l Z a0 hw G ST [] ax cc0 cc1 cc2 cc3 h0 n0 X00 hS hr_cc0 hr_cc1 hr_cc2 hr_cc3) hZ (w_47 hw) (w_9 hw) (by decide) (by decide)) q443a q443c (g := (mkF m 9 #[xvr ax, xvi (1 : Int32), xvi (3 : Int32), xvi (2 : Int32), xvi cc1] [xwi (2 : Int32), xwr ax])) rfl (by rw [hml]; rfl) (Steps.refl _) (argsL := [(.int (2 : Int32))]) (rest := []) (lenOf pd_13 rfl) rfl (by show 2 * 0 + _ ≤ _; exact Nat.le_of_eq rfl) (hb hby d9_9) (fun _ _ => ⟨rfl, e436, (by decide : 0 + 0 ≤ _), (by decide : 0 + 0 ≤ _)⟩)
          dsimp only [Pt.U, Pt.locs, Pt.cells, Pt.slots] at X442 l442 y442 z442 st442 hQ442
          subst l442 y442 z442
          obtain ⟨rfl, N442q, e442⟩ := hQ442
          have N442 := Fr.app N436 N442q
          have c444 : ∀ t, Sx p e below T442 m 18 #[xvr ax, xvi (1 : Int32), xvi (3 : Int32), xvi (2 : Int32), xvi cc2] [xwi (48 : Int32), xwi cc2] t → TG t := fun t k => c440 t (by
            refine y_icmpYes X436 hx 30 (hb hby d9_25) (XT.ii_le_t hc441) (by decide) (by decide) ?_
            refine XS.iinc X436.here hx rfl (hb hby d9_30) rfl (l' := #[xvr ax, xvi (1 : Int32), xvi (3 : Int32), xvi ((1 : Int32) + (1 : Int32)), xvi cc1]) rfl ?_
            rw [show ((1 : Int32) + (1 : Int32)) = (2 : Int32) from by decide]
            show Sx p e below T436 m 33 #[xvr ax, xvi (1 : Int32), xvi (3 : Int32), xvi (2 : Int32), xvi cc1] [] _
            refine y_goto X436 hx 2 (hb hby d9_33) (by decide) (by decide) ?_
            refine y_iloadN X436 hx 3 (hb hby d9_2) rfl rfl ?_
            refine y_iloadN X436 hx 4 (hb hby d9_3) rfl rfl ?_
            refine y_icmpNo X436 hx 7 (hb hby d9_4) (XT.ii_ge_f (by decide)) rfl ?_
            refine y_aloadN X436 hx 8 (hb hby d9_7) rfl rfl rfl ?_
            refine y_iloadN X436 hx 9 (hb hby d9_8) rfl rfl ?_
            refine st442.trans ?_
            show Sx p e below T442 m 12 #[xvr ax, xvi (1 : Int32), xvi (3 : Int32), xvi (2 : Int32), xvi cc1] [xwi cc2] _
            refine XS.istore X442.here hx rfl (hb hby d9_12) rfl (l' := #[xvr ax, xvi (1 : Int32), xvi (3 : Int32), xvi (2 : Int32), xvi cc2]) rfl ?_
            show Sx p e below T442 m 14 #[xvr ax, xvi (1 : Int32), xvi (3 : Int32), xvi (2 : Int32), xvi cc2] [] _
            refine y_iload X442 hx 16 (hb hby d9_14) rfl rfl ?_
            refine y_bipush X442 hx (48 : Int32) 18 (hb hby d9_16) rfl rfl ?_
            exact k)
          by_cases hc445 : cc2 < (48 : Int32)
          · obtain ⟨fs, hr, hrun, hended, hW, hsame⟩ := X442.leave (v := some (.int (0 : Int32))) (fun h => by rw [Bd.returns] at h; cases h)
            refine ⟨_, _, hTG _ (c444 _ ?_), hrun, hended, _, _, rfl, ?_, ⟨_, rfl⟩, hW, hsame.mono (by decide) (by decide)⟩
            · refine y_icmpYes X442 hx 28 (hb hby d9_18) (XT.ii_lt_t hc445) (by decide) (by decide) ?_
              refine y_iconst X442 hx (0 : Int32) 29 (hb hby d9_28) rfl rfl ?_
              show Sx p e below T442 m 29 #[xvr ax, xvi (1 : Int32), xvi (3 : Int32), xvi (2 : Int32), xvi cc2] [xwi (0 : Int32)] _
              exact retN X442 hx (t := .boolean) Bd.returns (by simp) (hb hby d9_29) (hr)
            · show QrmDg Z G ax cc0 cc1 cc2 cc3 sx ex h0 n0 _ T442.heap _
              rw [e442]
              exact ⟨(0 : Int32), rfl, N442, rfl, (Or.inr ⟨rfl, fun q => (q.2.2.1 (by rw [hk367]; decide) (by rw [hk429]; decide)).1 hc445⟩)⟩
          · have c446 : ∀ t, Sx p e below T442 m 25 #[xvr ax, xvi (1 : Int32), xvi (3 : Int32), xvi (2 : Int32), xvi cc2] [xwi (57 : Int32), xwi cc2] t → TG t := fun t k => c444 t (by
              refine y_icmpNo X442 hx 21 (hb hby d9_18) (XT.ii_lt_f hc445) rfl ?_
              refine y_iload X442 hx 23 (hb hby d9_21) rfl rfl ?_
              refine y_bipush X442 hx (57 : Int32) 25 (hb hby d9_23) rfl rfl ?_
              exact k)
            by_cases hc447 : (57 : Int32) < cc2
            · obtain ⟨fs, hr, hrun, hended, hW, hsame⟩ := X442.leave (v := some (.int (0 : Int32))) (fun h => by rw [Bd.returns] at h; cases h)
              refine ⟨_, _, hTG _ (c446 _ ?_), hrun, hended, _, _, rfl, ?_, ⟨_, rfl⟩, hW, hsame.mono (by decide) (by decide)⟩
              · refine y_icmpNo X442 hx 28 (hb hby d9_25) (XT.ii_le_f hc447) rfl ?_
                refine y_iconst X442 hx (0 : Int32) 29 (hb hby d9_28) rfl rfl ?_
                show Sx p e below T442 m 29 #[xvr ax, xvi (1 : Int32), xvi (3 : Int32), xvi (2 : Int32), xvi cc2] [xwi (0 : Int32)] _
                exact retN X442 hx (t := .boolean) Bd.returns (by simp) (hb hby d9_29) (hr)
              · show QrmDg Z G ax cc0 cc1 cc2 cc3 sx ex h0 n0 _ T442.heap _
                rw [e442]
                exact ⟨(0 : Int32), rfl, N442, rfl, (Or.inr ⟨rfl, fun q => (q.2.2.1 (by rw [hk367]; decide) (by rw [hk429]; decide)).2 hc447⟩)⟩
            · obtain ⟨fs, hr, hrun, hended, hW, hsame⟩ := X442.leave (v := some (.int (1 : Int32))) (fun h => by rw [Bd.returns] at h; cases h)
              refine ⟨_, _, hTG _ (c446 _ ?_), hrun, hended, _, _, rfl, ?_, ⟨_, rfl⟩, hW, hsame.mono (by decide) (by decide)⟩
              · refine y_icmpYes X442 hx 30 (hb hby d9_25) (XT.ii_le_t hc447) (by decide) (by decide) ?_
                refine XS.iinc X442.here hx rfl (hb hby d9_30) rfl (l' := #[xvr ax, xvi (1 : Int32), xvi (3 : Int32), xvi ((2 : Int32) + (1 : Int32)), xvi cc2]) rfl ?_
                rw [show ((2 : Int32) + (1 : Int32)) = (3 : Int32) from by decide]
                show Sx p e below T442 m 33 #[xvr ax, xvi (1 : Int32), xvi (3 : Int32), xvi (3 : Int32), xvi cc2] [] _
                refine y_goto X442 hx 2 (hb hby d9_33) (by decide) (by decide) ?_
                refine y_iloadN X442 hx 3 (hb hby d9_2) rfl rfl ?_
                refine y_iloadN X442 hx 4 (hb hby d9_3) rfl rfl ?_
                refine y_icmpYes X442 hx 36 (hb hby d9_4) (XT.ii_ge_t (by decide)) (by decide) (by decide) ?_
                refine y_iconst X442 hx (1 : Int32) 37 (hb hby d9_36) rfl rfl ?_
                show Sx p e below T442 m 37 #[xvr ax, xvi (1 : Int32), xvi (3 : Int32), xvi (3 : Int32), xvi cc2] [xwi (1 : Int32)] _
                exact retN X442 hx (t := .boolean) Bd.returns (by simp) (hb hby d9_37) (hr)
              · show QrmDg Z G ax cc0 cc1 cc2 cc3 sx ex h0 n0 _ T442.heap _
                rw [e442]
                exact ⟨(1 : Int32), rfl, N442, rfl, (Or.inl ⟨rfl, fun q1 _ => absurd (by rw [hk367]; decide) q1, fun _ _ => ⟨hc439, hc441⟩, fun _ _ => ⟨hc445, hc447⟩, fun _ q2 => absurd q2 (by rw [hk429]; decide)⟩)⟩
    · obtain ⟨cq449, kq449, q449a, q449b, q449c⟩ := isOf hZ e0 E1
      obtain ⟨_, _, ⟨T448, L448, k448, n448⟩, -, X448, ⟨Lc448, hQ448, l448, y448, z448⟩, st448⟩ := X0.virtualBack hx (y := (⟨"java/lang/String", "charAt", "(I)C"⟩ : MethodName)) (z := (⟨"java/lang/String", "charAt", "(I)C"⟩ : MethodName)) hown (mvT hZ (w_43 hw)) (mvT hZ (w_44 hw)) (notFace_of_selects (args := #[]) (mvT hZ (w_46 hw))) (mvT hZ (w_46 hw)) (mvT hZ (w_45 hw)) (by decide) (backOf (W := 0) (rmCA1 l Z a0 hw G ST [] ax cc0 cc1 cc2 cc3 h0 n0 X00 hS hr_cc0 hr_cc1 hr_cc2 hr_cc3) hZ (w_47 hw) (w_9 hw) (by decide) (by decide)) q449a q449c (g := (mkF m 9 #[xvr ax, xvi (1 : Int32), xvi (4 : Int32), xvi (1 : Int32), xun] [xwi (1 : Int32), xwr ax])) rfl (by rw [hml]; rfl) (Steps.refl _) (argsL := [(.int (1 : Int32))]) (rest := []) (lenOf pd_13 rfl) rfl (by show 2 * 0 + _ ≤ _; exact Nat.le_of_eq rfl) (hb hby d9_9) (fun _ _ => ⟨rfl, e0, (by decide : 0 + 0 ≤ _), (by decide : 0 + 0 ≤ _)⟩)
      dsimp only [Pt.U, Pt.locs, Pt.cells, Pt.slots] at X448 l448 y448 z448 st448 hQ448
      subst l448 y448 z448
      obtain ⟨rfl, N448q, e448⟩ := hQ448
      have N448 := Fr.app N0 N448q
      have c450 : ∀ t, Sx p e below T448 m 18 #[xvr ax, xvi (1 : Int32), xvi (4 : Int32), xvi (1 : Int32), xvi cc1] [xwi (48 : Int32), xwi cc1] t → TG t := fun t k => pre0 t (by
        refine y_iloadN X0 hx 1 (hb hby d9_0) rfl rfl ?_
        rw [hk367]
        refine XS.istoreN X0.here hx rfl (hb hby d9_1) rfl (l' := #[xvr ax, xvi (1 : Int32), xvi ex, xvi (1 : Int32), xun]) rfl ?_
        show Sx p e below s₁ m 2 #[xvr ax, xvi (1 : Int32), xvi ex, xvi (1 : Int32), xun] [] _
        refine y_iloadN X0 hx 3 (hb hby d9_2) rfl rfl ?_
        refine y_iloadN X0 hx 4 (hb hby d9_3) rfl rfl ?_
        rw [hk429]
        refine y_icmpNo X0 hx 7 (hb hby d9_4) (XT.ii_ge_f (by decide)) rfl ?_
        refine y_aloadN X0 hx 8 (hb hby d9_7) rfl rfl rfl ?_
        refine y_iloadN X0 hx 9 (hb hby d9_8) rfl rfl ?_
        refine st448.trans ?_
        show Sx p e below T448 m 12 #[xvr ax, xvi (1 : Int32), xvi (4 : Int32), xvi (1 : Int32), xun] [xwi cc1] _
        refine XS.istore X448.here hx rfl (hb hby d9_12) rfl (l' := #[xvr ax, xvi (1 : Int32), xvi (4 : Int32), xvi (1 : Int32), xvi cc1]) rfl ?_
        show Sx p e below T448 m 14 #[xvr ax, xvi (1 : Int32), xvi (4 : Int32), xvi (1 : Int32), xvi cc1] [] _
        refine y_iload X448 hx 16 (hb hby d9_14) rfl rfl ?_
        refine y_bipush X448 hx (48 : Int32) 18 (hb hby d9_16) rfl rfl ?_
        exact k)
      by_cases hc451 : cc1 < (48 : Int32)
      · obtain ⟨fs, hr, hrun, hended, hW, hsame⟩ := X448.leave (v := some (.int (0 : Int32))) (fun h => by rw [Bd.returns] at h; cases h)
        refine ⟨_, _, hTG _ (c450 _ ?_), hrun, hended, _, _, rfl, ?_, ⟨_, rfl⟩, hW, hsame.mono (by decide) (by decide)⟩
        · refine y_icmpYes X448 hx 28 (hb hby d9_18) (XT.ii_lt_t hc451) (by decide) (by decide) ?_
          refine y_iconst X448 hx (0 : Int32) 29 (hb hby d9_28) rfl rfl ?_
          show Sx p e below T448 m 29 #[xvr ax, xvi (1 : Int32), xvi (4 : Int32), xvi (1 : Int32), xvi cc1] [xwi (0 : Int32)] _
          exact retN X448 hx (t := .boolean) Bd.returns (by simp) (hb hby d9_29) (hr)
        · show QrmDg Z G ax cc0 cc1 cc2 cc3 sx ex h0 n0 _ T448.heap _
          rw [e448]
          exact ⟨(0 : Int32), rfl, N448, rfl, (Or.inr ⟨rfl, fun q => (q.2.1 (by rw [hk367]; decide) (by rw [hk429]; decide)).1 hc451⟩)⟩
      · have c452 : ∀ t, Sx p e below T448 m 25 #[xvr ax, xvi (1 : Int32), xvi (4 : Int32), xvi (1 : Int32), xvi cc1] [xwi (57 : Int32), xwi cc1] t → TG t := fun t k => c450 t (by
          refine y_icmpNo X448 hx 21 (hb hby d9_18) (XT.ii_lt_f hc451) rfl ?_
          refine y_iload X448 hx 23 (hb hby d9_21) rfl rfl ?_
          refine y_bipush X448 hx (57 : Int32) 25 (hb hby d9_23) rfl rfl ?_
          exact k)
        by_cases hc453 : (57 : Int32) < cc1
        · obtain ⟨fs, hr, hrun, hended, hW, hsame⟩ := X448.leave (v := some (.int (0 : Int32))) (fun h => by rw [Bd.returns] at h; cases h)
          refine ⟨_, _, hTG _ (c452 _ ?_), hrun, hended, _, _, rfl, ?_, ⟨_, rfl⟩, hW, hsame.mono (by decide) (by decide)⟩
          · refine y_icmpNo X448 hx 28 (hb hby d9_25) (XT.ii_le_f hc453) rfl ?_
            refine y_iconst X448 hx (0 : Int32) 29 (hb hby d9_28) rfl rfl ?_
            show Sx p e below T448 m 29 #[xvr ax, xvi (1 : Int32), xvi (4 : Int32), xvi (1 : Int32), xvi cc1] [xwi (0 : Int32)] _
            exact retN X448 hx (t := .boolean) Bd.returns (by simp) (hb hby d9_29) (hr)
          · show QrmDg Z G ax cc0 cc1 cc2 cc3 sx ex h0 n0 _ T448.heap _
            rw [e448]
            exact ⟨(0 : Int32), rfl, N448, rfl, (Or.inr ⟨rfl, fun q => (q.2.1 (by rw [hk367]; decide) (by rw [hk429]; decide)).2 hc453⟩)⟩
        · obtain ⟨cq455, kq455, q455a, q455b, q455c⟩ := isOf hZ e448 E1
          obtain ⟨_, _, ⟨T454, L454, k454, n454⟩, -, X454, ⟨Lc454, hQ454, l454, y454, z454⟩, st454⟩ := X448.virtualBack hx (y := (⟨"java/lang/String", "charAt", "(I)C"⟩ : MethodName)) (z := (⟨"java/lang/String", "charAt", "(I)C"⟩ : MethodName)) hown (mvT hZ (w_43 hw)) (mvT hZ (w_44 hw)) (notFace_of_selects (args := #[]) (mvT hZ (w_46 hw))) (mvT hZ (w_46 hw)) (mvT hZ (w_45 hw)) (by decide) (backOf (W := 0) (rmCA2 l Z a0 hw G ST [] ax cc0 cc1 cc2 cc3 h0 n0 X00 hS hr_cc0 hr_cc1 hr_cc2 hr_cc3) hZ (w_47 hw) (w_9 hw) (by decide) (by decide)) q455a q455c (g := (mkF m 9 #[xvr ax, xvi (1 : Int32), xvi (4 : Int32), xvi (2 : Int32), xvi cc1] [xwi (2 : Int32), xwr ax])) rfl (by rw [hml]; rfl) (Steps.refl _) (argsL := [(.int (2 : Int32))]) (rest := []) (lenOf pd_13 rfl) rfl (by show 2 * 0 + _ ≤ _; exact Nat.le_of_eq rfl) (hb hby d9_9) (fun _ _ => ⟨rfl, e448, (by decide : 0 + 0 ≤ _), (by decide : 0 + 0 ≤ _)⟩)
          dsimp only [Pt.U, Pt.locs, Pt.cells, Pt.slots] at X454 l454 y454 z454 st454 hQ454
          subst l454 y454 z454
          obtain ⟨rfl, N454q, e454⟩ := hQ454
          have N454 := Fr.app N448 N454q
          have c456 : ∀ t, Sx p e below T454 m 18 #[xvr ax, xvi (1 : Int32), xvi (4 : Int32), xvi (2 : Int32), xvi cc2] [xwi (48 : Int32), xwi cc2] t → TG t := fun t k => c452 t (by
            refine y_icmpYes X448 hx 30 (hb hby d9_25) (XT.ii_le_t hc453) (by decide) (by decide) ?_
            refine XS.iinc X448.here hx rfl (hb hby d9_30) rfl (l' := #[xvr ax, xvi (1 : Int32), xvi (4 : Int32), xvi ((1 : Int32) + (1 : Int32)), xvi cc1]) rfl ?_
            rw [show ((1 : Int32) + (1 : Int32)) = (2 : Int32) from by decide]
            show Sx p e below T448 m 33 #[xvr ax, xvi (1 : Int32), xvi (4 : Int32), xvi (2 : Int32), xvi cc1] [] _
            refine y_goto X448 hx 2 (hb hby d9_33) (by decide) (by decide) ?_
            refine y_iloadN X448 hx 3 (hb hby d9_2) rfl rfl ?_
            refine y_iloadN X448 hx 4 (hb hby d9_3) rfl rfl ?_
            refine y_icmpNo X448 hx 7 (hb hby d9_4) (XT.ii_ge_f (by decide)) rfl ?_
            refine y_aloadN X448 hx 8 (hb hby d9_7) rfl rfl rfl ?_
            refine y_iloadN X448 hx 9 (hb hby d9_8) rfl rfl ?_
            refine st454.trans ?_
            show Sx p e below T454 m 12 #[xvr ax, xvi (1 : Int32), xvi (4 : Int32), xvi (2 : Int32), xvi cc1] [xwi cc2] _
            refine XS.istore X454.here hx rfl (hb hby d9_12) rfl (l' := #[xvr ax, xvi (1 : Int32), xvi (4 : Int32), xvi (2 : Int32), xvi cc2]) rfl ?_
            show Sx p e below T454 m 14 #[xvr ax, xvi (1 : Int32), xvi (4 : Int32), xvi (2 : Int32), xvi cc2] [] _
            refine y_iload X454 hx 16 (hb hby d9_14) rfl rfl ?_
            refine y_bipush X454 hx (48 : Int32) 18 (hb hby d9_16) rfl rfl ?_
            exact k)
          by_cases hc457 : cc2 < (48 : Int32)
          · obtain ⟨fs, hr, hrun, hended, hW, hsame⟩ := X454.leave (v := some (.int (0 : Int32))) (fun h => by rw [Bd.returns] at h; cases h)
            refine ⟨_, _, hTG _ (c456 _ ?_), hrun, hended, _, _, rfl, ?_, ⟨_, rfl⟩, hW, hsame.mono (by decide) (by decide)⟩
            · refine y_icmpYes X454 hx 28 (hb hby d9_18) (XT.ii_lt_t hc457) (by decide) (by decide) ?_
              refine y_iconst X454 hx (0 : Int32) 29 (hb hby d9_28) rfl rfl ?_
              show Sx p e below T454 m 29 #[xvr ax, xvi (1 : Int32), xvi (4 : Int32), xvi (2 : Int32), xvi cc2] [xwi (0 : Int32)] _
              exact retN X454 hx (t := .boolean) Bd.returns (by simp) (hb hby d9_29) (hr)
            · show QrmDg Z G ax cc0 cc1 cc2 cc3 sx ex h0 n0 _ T454.heap _
              rw [e454]
              exact ⟨(0 : Int32), rfl, N454, rfl, (Or.inr ⟨rfl, fun q => (q.2.2.1 (by rw [hk367]; decide) (by rw [hk429]; decide)).1 hc457⟩)⟩
          · have c458 : ∀ t, Sx p e below T454 m 25 #[xvr ax, xvi (1 : Int32), xvi (4 : Int32), xvi (2 : Int32), xvi cc2] [xwi (57 : Int32), xwi cc2] t → TG t := fun t k => c456 t (by
              refine y_icmpNo X454 hx 21 (hb hby d9_18) (XT.ii_lt_f hc457) rfl ?_
              refine y_iload X454 hx 23 (hb hby d9_21) rfl rfl ?_
              refine y_bipush X454 hx (57 : Int32) 25 (hb hby d9_23) rfl rfl ?_
              exact k)
            by_cases hc459 : (57 : Int32) < cc2
            · obtain ⟨fs, hr, hrun, hended, hW, hsame⟩ := X454.leave (v := some (.int (0 : Int32))) (fun h => by rw [Bd.returns] at h; cases h)
              refine ⟨_, _, hTG _ (c458 _ ?_), hrun, hended, _, _, rfl, ?_, ⟨_, rfl⟩, hW, hsame.mono (by decide) (by decide)⟩
              · refine y_icmpNo X454 hx 28 (hb hby d9_25) (XT.ii_le_f hc459) rfl ?_
                refine y_iconst X454 hx (0 : Int32) 29 (hb hby d9_28) rfl rfl ?_
                show Sx p e below T454 m 29 #[xvr ax, xvi (1 : Int32), xvi (4 : Int32), xvi (2 : Int32), xvi cc2] [xwi (0 : Int32)] _
                exact retN X454 hx (t := .boolean) Bd.returns (by simp) (hb hby d9_29) (hr)
              · show QrmDg Z G ax cc0 cc1 cc2 cc3 sx ex h0 n0 _ T454.heap _
                rw [e454]
                exact ⟨(0 : Int32), rfl, N454, rfl, (Or.inr ⟨rfl, fun q => (q.2.2.1 (by rw [hk367]; decide) (by rw [hk429]; decide)).2 hc459⟩)⟩
            · obtain ⟨cq461, kq461, q461a, q461b, q461c⟩ := isOf hZ e454 E1
              obtain ⟨_, _, ⟨T460, L460, k460, n460⟩, -, X460, ⟨Lc460, hQ460, l460, y460, z460⟩, st460⟩ := X454.virtualBack hx (y := (⟨"java/lang/String", "charAt", "(I)C"⟩ : MethodName)) (z := (⟨"java/lang/String", "charAt", "(I)C"⟩ : MethodName)) hown (mvT hZ (w_43 hw)) (mvT hZ (w_44 hw)) (notFace_of_selects (args := #[]) (mvT hZ (w_46 hw))) (mvT hZ (w_46 hw)) (mvT hZ (w_45 hw)) (by decide) (backOf (W := 0) (rmCA3 l Z a0 hw G ST [] ax cc0 cc1 cc2 cc3 h0 n0 X00 hS hr_cc0 hr_cc1 hr_cc2 hr_cc3) hZ (w_47 hw) (w_9 hw) (by decide) (by decide)) q461a q461c (g := (mkF m 9 #[xvr ax, xvi (1 : Int32), xvi (4 : Int32), xvi (3 : Int32), xvi cc2] [xwi (3 : Int32), xwr ax])) rfl (by rw [hml]; rfl) (Steps.refl _) (argsL := [(.int (3 : Int32))]) (rest := []) (lenOf pd_13 rfl) rfl (by show 2 * 0 + _ ≤ _; exact Nat.le_of_eq rfl) (hb hby d9_9) (fun _ _ => ⟨rfl, e454, (by decide : 0 + 0 ≤ _), (by decide : 0 + 0 ≤ _)⟩)
              dsimp only [Pt.U, Pt.locs, Pt.cells, Pt.slots] at X460 l460 y460 z460 st460 hQ460
              subst l460 y460 z460
              obtain ⟨rfl, N460q, e460⟩ := hQ460
              have N460 := Fr.app N454 N460q
              have c462 : ∀ t, Sx p e below T460 m 18 #[xvr ax, xvi (1 : Int32), xvi (4 : Int32), xvi (3 : Int32), xvi cc3] [xwi (48 : Int32), xwi cc3] t → TG t := fun t k => c458 t (by
                refine y_icmpYes X454 hx 30 (hb hby d9_25) (XT.ii_le_t hc459) (by decide) (by decide) ?_
                refine XS.iinc X454.here hx rfl (hb hby d9_30) rfl (l' := #[xvr ax, xvi (1 : Int32), xvi (4 : Int32), xvi ((2 : Int32) + (1 : Int32)), xvi cc2]) rfl ?_
                rw [show ((2 : Int32) + (1 : Int32)) = (3 : Int32) from by decide]
                show Sx p e below T454 m 33 #[xvr ax, xvi (1 : Int32), xvi (4 : Int32), xvi (3 : Int32), xvi cc2] [] _
                refine y_goto X454 hx 2 (hb hby d9_33) (by decide) (by decide) ?_
                refine y_iloadN X454 hx 3 (hb hby d9_2) rfl rfl ?_
                refine y_iloadN X454 hx 4 (hb hby d9_3) rfl rfl ?_
                refine y_icmpNo X454 hx 7 (hb hby d9_4) (XT.ii_ge_f (by decide)) rfl ?_
                refine y_aloadN X454 hx 8 (hb hby d9_7) rfl rfl rfl ?_
                refine y_iloadN X454 hx 9 (hb hby d9_8) rfl rfl ?_
                refine st460.trans ?_
                show Sx p e below T460 m 12 #[xvr ax, xvi (1 : Int32), xvi (4 : Int32), xvi (3 : Int32), xvi cc2] [xwi cc3] _
                refine XS.istore X460.here hx rfl (hb hby d9_12) rfl (l' := #[xvr ax, xvi (1 : Int32), xvi (4 : Int32), xvi (3 : Int32), xvi cc3]) rfl ?_
                show Sx p e below T460 m 14 #[xvr ax, xvi (1 : Int32), xvi (4 : Int32), xvi (3 : Int32), xvi cc3] [] _
                refine y_iload X460 hx 16 (hb hby d9_14) rfl rfl ?_
                refine y_bipush X460 hx (48 : Int32) 18 (hb hby d9_16) rfl rfl ?_
                exact k)
              by_cases hc463 : cc3 < (48 : Int32)
              · obtain ⟨fs, hr, hrun, hended, hW, hsame⟩ := X460.leave (v := some (.int (0 : Int32))) (fun h => by rw [Bd.returns] at h; cases h)
                refine ⟨_, _, hTG _ (c462 _ ?_), hrun, hended, _, _, rfl, ?_, ⟨_, rfl⟩, hW, hsame.mono (by decide) (by decide)⟩
                · refine y_icmpYes X460 hx 28 (hb hby d9_18) (XT.ii_lt_t hc463) (by decide) (by decide) ?_
                  refine y_iconst X460 hx (0 : Int32) 29 (hb hby d9_28) rfl rfl ?_
                  show Sx p e below T460 m 29 #[xvr ax, xvi (1 : Int32), xvi (4 : Int32), xvi (3 : Int32), xvi cc3] [xwi (0 : Int32)] _
                  exact retN X460 hx (t := .boolean) Bd.returns (by simp) (hb hby d9_29) (hr)
                · show QrmDg Z G ax cc0 cc1 cc2 cc3 sx ex h0 n0 _ T460.heap _
                  rw [e460]
                  exact ⟨(0 : Int32), rfl, N460, rfl, (Or.inr ⟨rfl, fun q => (q.2.2.2 (by rw [hk367]; decide) (by rw [hk429]; decide)).1 hc463⟩)⟩
              · have c464 : ∀ t, Sx p e below T460 m 25 #[xvr ax, xvi (1 : Int32), xvi (4 : Int32), xvi (3 : Int32), xvi cc3] [xwi (57 : Int32), xwi cc3] t → TG t := fun t k => c462 t (by
                  refine y_icmpNo X460 hx 21 (hb hby d9_18) (XT.ii_lt_f hc463) rfl ?_
                  refine y_iload X460 hx 23 (hb hby d9_21) rfl rfl ?_
                  refine y_bipush X460 hx (57 : Int32) 25 (hb hby d9_23) rfl rfl ?_
                  exact k)
                by_cases hc465 : (57 : Int32) < cc3
                · obtain ⟨fs, hr, hrun, hended, hW, hsame⟩ := X460.leave (v := some (.int (0 : Int32))) (fun h => by rw [Bd.returns] at h; cases h)
                  refine ⟨_, _, hTG _ (c464 _ ?_), hrun, hended, _, _, rfl, ?_, ⟨_, rfl⟩, hW, hsame.mono (by decide) (by decide)⟩
                  · refine y_icmpNo X460 hx 28 (hb hby d9_25) (XT.ii_le_f hc465) rfl ?_
                    refine y_iconst X460 hx (0 : Int32) 29 (hb hby d9_28) rfl rfl ?_
                    show Sx p e below T460 m 29 #[xvr ax, xvi (1 : Int32), xvi (4 : Int32), xvi (3 : Int32), xvi cc3] [xwi (0 : Int32)] _
                    exact retN X460 hx (t := .boolean) Bd.returns (by simp) (hb hby d9_29) (hr)
                  · show QrmDg Z G ax cc0 cc1 cc2 cc3 sx ex h0 n0 _ T460.heap _
                    rw [e460]
                    exact ⟨(0 : Int32), rfl, N460, rfl, (Or.inr ⟨rfl, fun q => (q.2.2.2 (by rw [hk367]; decide) (by rw [hk429]; decide)).2 hc465⟩)⟩
                · obtain ⟨fs, hr, hrun, hended, hW, hsame⟩ := X460.leave (v := some (.int (1 : Int32))) (fun h => by rw [Bd.returns] at h; cases h)
                  refine ⟨_, _, hTG _ (c464 _ ?_), hrun, hended, _, _, rfl, ?_, ⟨_, rfl⟩, hW, hsame.mono (by decide) (by decide)⟩
                  · refine y_icmpYes X460 hx 30 (hb hby d9_25) (XT.ii_le_t hc465) (by decide) (by decide) ?_
                    refine XS.iinc X460.here hx rfl (hb hby d9_30) rfl (l' := #[xvr ax, xvi (1 : Int32), xvi (4 : Int32), xvi ((3 : Int32) + (1 : Int32)), xvi cc3]) rfl ?_
                    rw [show ((3 : Int32) + (1 : Int32)) = (4 : Int32) from by decide]
                    show Sx p e below T460 m 33 #[xvr ax, xvi (1 : Int32), xvi (4 : Int32), xvi (4 : Int32), xvi cc3] [] _
                    refine y_goto X460 hx 2 (hb hby d9_33) (by decide) (by decide) ?_
                    refine y_iloadN X460 hx 3 (hb hby d9_2) rfl rfl ?_
                    refine y_iloadN X460 hx 4 (hb hby d9_3) rfl rfl ?_
                    refine y_icmpYes X460 hx 36 (hb hby d9_4) (XT.ii_ge_t (by decide)) (by decide) (by decide) ?_
                    refine y_iconst X460 hx (1 : Int32) 37 (hb hby d9_36) rfl rfl ?_
                    show Sx p e below T460 m 37 #[xvr ax, xvi (1 : Int32), xvi (4 : Int32), xvi (4 : Int32), xvi cc3] [xwi (1 : Int32)] _
                    exact retN X460 hx (t := .boolean) Bd.returns (by simp) (hb hby d9_37) (hr)
                  · show QrmDg Z G ax cc0 cc1 cc2 cc3 sx ex h0 n0 _ T460.heap _
                    rw [e460]
                    exact ⟨(1 : Int32), rfl, N460, rfl, (Or.inl ⟨rfl, fun q1 _ => absurd (by rw [hk367]; decide) q1, fun _ _ => ⟨hc451, hc453⟩, fun _ _ => ⟨hc457, hc459⟩, fun _ _ => ⟨hc463, hc465⟩⟩)⟩
  · rcases he5 with hk466 | hk466 | hk466 | hk466 | hk466
    · obtain ⟨fs, hr, hrun, hended, hW, hsame⟩ := X0.leave (v := some (.int (1 : Int32))) (fun h => by rw [Bd.returns] at h; cases h)
      refine ⟨_, _, hTG _ (pre0 _ ?_), hrun, hended, _, _, rfl, ?_, ⟨_, rfl⟩, hW, hsame.mono (by decide) (by decide)⟩
      · refine y_iloadN X0 hx 1 (hb hby d9_0) rfl rfl ?_
        rw [hk367]
        refine XS.istoreN X0.here hx rfl (hb hby d9_1) rfl (l' := #[xvr ax, xvi (2 : Int32), xvi ex, xvi (2 : Int32), xun]) rfl ?_
        show Sx p e below s₁ m 2 #[xvr ax, xvi (2 : Int32), xvi ex, xvi (2 : Int32), xun] [] _
        refine y_iloadN X0 hx 3 (hb hby d9_2) rfl rfl ?_
        refine y_iloadN X0 hx 4 (hb hby d9_3) rfl rfl ?_
        rw [hk466]
        refine y_icmpYes X0 hx 36 (hb hby d9_4) (XT.ii_ge_t (by decide)) (by decide) (by decide) ?_
        refine y_iconst X0 hx (1 : Int32) 37 (hb hby d9_36) rfl rfl ?_
        show Sx p e below s₁ m 37 #[xvr ax, xvi (2 : Int32), xvi (0 : Int32), xvi (2 : Int32), xun] [xwi (1 : Int32)] _
        exact retN X0 hx (t := .boolean) Bd.returns (by simp) (hb hby d9_37) (hr)
      · show QrmDg Z G ax cc0 cc1 cc2 cc3 sx ex h0 n0 _ s₁.heap _
        rw [e0]
        exact ⟨(1 : Int32), rfl, N0, rfl, (Or.inl ⟨rfl, fun q1 _ => absurd (by rw [hk367]; decide) q1, fun q1 _ => absurd (by rw [hk367]; decide) q1, fun _ q2 => absurd q2 (by rw [hk466]; decide), fun _ q2 => absurd q2 (by rw [hk466]; decide)⟩)⟩
    · obtain ⟨fs, hr, hrun, hended, hW, hsame⟩ := X0.leave (v := some (.int (1 : Int32))) (fun h => by rw [Bd.returns] at h; cases h)
      refine ⟨_, _, hTG _ (pre0 _ ?_), hrun, hended, _, _, rfl, ?_, ⟨_, rfl⟩, hW, hsame.mono (by decide) (by decide)⟩
      · refine y_iloadN X0 hx 1 (hb hby d9_0) rfl rfl ?_
        rw [hk367]
        refine XS.istoreN X0.here hx rfl (hb hby d9_1) rfl (l' := #[xvr ax, xvi (2 : Int32), xvi ex, xvi (2 : Int32), xun]) rfl ?_
        show Sx p e below s₁ m 2 #[xvr ax, xvi (2 : Int32), xvi ex, xvi (2 : Int32), xun] [] _
        refine y_iloadN X0 hx 3 (hb hby d9_2) rfl rfl ?_
        refine y_iloadN X0 hx 4 (hb hby d9_3) rfl rfl ?_
        rw [hk466]
        refine y_icmpYes X0 hx 36 (hb hby d9_4) (XT.ii_ge_t (by decide)) (by decide) (by decide) ?_
        refine y_iconst X0 hx (1 : Int32) 37 (hb hby d9_36) rfl rfl ?_
        show Sx p e below s₁ m 37 #[xvr ax, xvi (2 : Int32), xvi (1 : Int32), xvi (2 : Int32), xun] [xwi (1 : Int32)] _
        exact retN X0 hx (t := .boolean) Bd.returns (by simp) (hb hby d9_37) (hr)
      · show QrmDg Z G ax cc0 cc1 cc2 cc3 sx ex h0 n0 _ s₁.heap _
        rw [e0]
        exact ⟨(1 : Int32), rfl, N0, rfl, (Or.inl ⟨rfl, fun q1 _ => absurd (by rw [hk367]; decide) q1, fun q1 _ => absurd (by rw [hk367]; decide) q1, fun _ q2 => absurd q2 (by rw [hk466]; decide), fun _ q2 => absurd q2 (by rw [hk466]; decide)⟩)⟩
    · obtain ⟨fs, hr, hrun, hended, hW, hsame⟩ := X0.leave (v := some (.int (1 : Int32))) (fun h => by rw [Bd.returns] at h; cases h)
      refine ⟨_, _, hTG _ (pre0 _ ?_), hrun, hended, _, _, rfl, ?_, ⟨_, rfl⟩, hW, hsame.mono (by decide) (by decide)⟩
      · refine y_iloadN X0 hx 1 (hb hby d9_0) rfl rfl ?_
        rw [hk367]
        refine XS.istoreN X0.here hx rfl (hb hby d9_1) rfl (l' := #[xvr ax, xvi (2 : Int32), xvi ex, xvi (2 : Int32), xun]) rfl ?_
        show Sx p e below s₁ m 2 #[xvr ax, xvi (2 : Int32), xvi ex, xvi (2 : Int32), xun] [] _
        refine y_iloadN X0 hx 3 (hb hby d9_2) rfl rfl ?_
        refine y_iloadN X0 hx 4 (hb hby d9_3) rfl rfl ?_
        rw [hk466]
        refine y_icmpYes X0 hx 36 (hb hby d9_4) (XT.ii_ge_t (by decide)) (by decide) (by decide) ?_
        refine y_iconst X0 hx (1 : Int32) 37 (hb hby d9_36) rfl rfl ?_
        show Sx p e below s₁ m 37 #[xvr ax, xvi (2 : Int32), xvi (2 : Int32), xvi (2 : Int32), xun] [xwi (1 : Int32)] _
        exact retN X0 hx (t := .boolean) Bd.returns (by simp) (hb hby d9_37) (hr)
      · show QrmDg Z G ax cc0 cc1 cc2 cc3 sx ex h0 n0 _ s₁.heap _
        rw [e0]
        exact ⟨(1 : Int32), rfl, N0, rfl, (Or.inl ⟨rfl, fun q1 _ => absurd (by rw [hk367]; decide) q1, fun q1 _ => absurd (by rw [hk367]; decide) q1, fun _ q2 => absurd q2 (by rw [hk466]; decide), fun _ q2 => absurd q2 (by rw [hk466]; decide)⟩)⟩
    · obtain ⟨cq468, kq468, q468a, q468b, q468c⟩ := isOf hZ e0 E1
      obtain ⟨_, _, ⟨T467, L467, k467, n467⟩, -, X467, ⟨Lc467, hQ467, l467, y467, z467⟩, st467⟩ := X0.virtualBack hx (y := (⟨"java/lang/String", "charAt", "(I)C"⟩ : MethodName)) (z := (⟨"java/lang/String", "charAt", "(I)C"⟩ : MethodName)) hown (mvT hZ (w_43 hw)) (mvT hZ (w_44 hw)) (notFace_of_selects (args := #[]) (mvT hZ (w_46 hw))) (mvT hZ (w_46 hw)) (mvT hZ (w_45 hw)) (by decide) (backOf (W := 0) (rmCA2 l Z a0 hw G ST [] ax cc0 cc1 cc2 cc3 h0 n0 X00 hS hr_cc0 hr_cc1 hr_cc2 hr_cc3) hZ (w_47 hw) (w_9 hw) (by decide) (by decide)) q468a q468c (g := (mkF m 9 #[xvr ax, xvi (2 : Int32), xvi (3 : Int32), xvi (2 : Int32), xun] [xwi (2 : Int32), xwr ax])) rfl (by rw [hml]; rfl) (Steps.refl _) (argsL := [(.int (2 : Int32))]) (rest := []) (lenOf pd_13 rfl) rfl (by show 2 * 0 + _ ≤ _; exact Nat.le_of_eq rfl) (hb hby d9_9) (fun _ _ => ⟨rfl, e0, (by decide : 0 + 0 ≤ _), (by decide : 0 + 0 ≤ _)⟩)
      dsimp only [Pt.U, Pt.locs, Pt.cells, Pt.slots] at X467 l467 y467 z467 st467 hQ467
      subst l467 y467 z467
      obtain ⟨rfl, N467q, e467⟩ := hQ467
      have N467 := Fr.app N0 N467q
      have c469 : ∀ t, Sx p e below T467 m 18 #[xvr ax, xvi (2 : Int32), xvi (3 : Int32), xvi (2 : Int32), xvi cc2] [xwi (48 : Int32), xwi cc2] t → TG t := fun t k => pre0 t (by
        refine y_iloadN X0 hx 1 (hb hby d9_0) rfl rfl ?_
        rw [hk367]
        refine XS.istoreN X0.here hx rfl (hb hby d9_1) rfl (l' := #[xvr ax, xvi (2 : Int32), xvi ex, xvi (2 : Int32), xun]) rfl ?_
        show Sx p e below s₁ m 2 #[xvr ax, xvi (2 : Int32), xvi ex, xvi (2 : Int32), xun] [] _
        refine y_iloadN X0 hx 3 (hb hby d9_2) rfl rfl ?_
        refine y_iloadN X0 hx 4 (hb hby d9_3) rfl rfl ?_
        rw [hk466]
        refine y_icmpNo X0 hx 7 (hb hby d9_4) (XT.ii_ge_f (by decide)) rfl ?_
        refine y_aloadN X0 hx 8 (hb hby d9_7) rfl rfl rfl ?_
        refine y_iloadN X0 hx 9 (hb hby d9_8) rfl rfl ?_
        refine st467.trans ?_
        show Sx p e below T467 m 12 #[xvr ax, xvi (2 : Int32), xvi (3 : Int32), xvi (2 : Int32), xun] [xwi cc2] _
        refine XS.istore X467.here hx rfl (hb hby d9_12) rfl (l' := #[xvr ax, xvi (2 : Int32), xvi (3 : Int32), xvi (2 : Int32), xvi cc2]) rfl ?_
        show Sx p e below T467 m 14 #[xvr ax, xvi (2 : Int32), xvi (3 : Int32), xvi (2 : Int32), xvi cc2] [] _
        refine y_iload X467 hx 16 (hb hby d9_14) rfl rfl ?_
        refine y_bipush X467 hx (48 : Int32) 18 (hb hby d9_16) rfl rfl ?_
        exact k)
      by_cases hc470 : cc2 < (48 : Int32)
      · obtain ⟨fs, hr, hrun, hended, hW, hsame⟩ := X467.leave (v := some (.int (0 : Int32))) (fun h => by rw [Bd.returns] at h; cases h)
        refine ⟨_, _, hTG _ (c469 _ ?_), hrun, hended, _, _, rfl, ?_, ⟨_, rfl⟩, hW, hsame.mono (by decide) (by decide)⟩
        · refine y_icmpYes X467 hx 28 (hb hby d9_18) (XT.ii_lt_t hc470) (by decide) (by decide) ?_
          refine y_iconst X467 hx (0 : Int32) 29 (hb hby d9_28) rfl rfl ?_
          show Sx p e below T467 m 29 #[xvr ax, xvi (2 : Int32), xvi (3 : Int32), xvi (2 : Int32), xvi cc2] [xwi (0 : Int32)] _
          exact retN X467 hx (t := .boolean) Bd.returns (by simp) (hb hby d9_29) (hr)
        · show QrmDg Z G ax cc0 cc1 cc2 cc3 sx ex h0 n0 _ T467.heap _
          rw [e467]
          exact ⟨(0 : Int32), rfl, N467, rfl, (Or.inr ⟨rfl, fun q => (q.2.2.1 (by rw [hk367]; decide) (by rw [hk466]; decide)).1 hc470⟩)⟩
      · have c471 : ∀ t, Sx p e below T467 m 25 #[xvr ax, xvi (2 : Int32), xvi (3 : Int32), xvi (2 : Int32), xvi cc2] [xwi (57 : Int32), xwi cc2] t → TG t := fun t k => c469 t (by
          refine y_icmpNo X467 hx 21 (hb hby d9_18) (XT.ii_lt_f hc470) rfl ?_
          refine y_iload X467 hx 23 (hb hby d9_21) rfl rfl ?_
          refine y_bipush X467 hx (57 : Int32) 25 (hb hby d9_23) rfl rfl ?_
          exact k)
        by_cases hc472 : (57 : Int32) < cc2
        · obtain ⟨fs, hr, hrun, hended, hW, hsame⟩ := X467.leave (v := some (.int (0 : Int32))) (fun h => by rw [Bd.returns] at h; cases h)
          refine ⟨_, _, hTG _ (c471 _ ?_), hrun, hended, _, _, rfl, ?_, ⟨_, rfl⟩, hW, hsame.mono (by decide) (by decide)⟩
          · refine y_icmpNo X467 hx 28 (hb hby d9_25) (XT.ii_le_f hc472) rfl ?_
            refine y_iconst X467 hx (0 : Int32) 29 (hb hby d9_28) rfl rfl ?_
            show Sx p e below T467 m 29 #[xvr ax, xvi (2 : Int32), xvi (3 : Int32), xvi (2 : Int32), xvi cc2] [xwi (0 : Int32)] _
            exact retN X467 hx (t := .boolean) Bd.returns (by simp) (hb hby d9_29) (hr)
          · show QrmDg Z G ax cc0 cc1 cc2 cc3 sx ex h0 n0 _ T467.heap _
            rw [e467]
            exact ⟨(0 : Int32), rfl, N467, rfl, (Or.inr ⟨rfl, fun q => (q.2.2.1 (by rw [hk367]; decide) (by rw [hk466]; decide)).2 hc472⟩)⟩
        · obtain ⟨fs, hr, hrun, hended, hW, hsame⟩ := X467.leave (v := some (.int (1 : Int32))) (fun h => by rw [Bd.returns] at h; cases h)
          refine ⟨_, _, hTG _ (c471 _ ?_), hrun, hended, _, _, rfl, ?_, ⟨_, rfl⟩, hW, hsame.mono (by decide) (by decide)⟩
          · refine y_icmpYes X467 hx 30 (hb hby d9_25) (XT.ii_le_t hc472) (by decide) (by decide) ?_
            refine XS.iinc X467.here hx rfl (hb hby d9_30) rfl (l' := #[xvr ax, xvi (2 : Int32), xvi (3 : Int32), xvi ((2 : Int32) + (1 : Int32)), xvi cc2]) rfl ?_
            rw [show ((2 : Int32) + (1 : Int32)) = (3 : Int32) from by decide]
            show Sx p e below T467 m 33 #[xvr ax, xvi (2 : Int32), xvi (3 : Int32), xvi (3 : Int32), xvi cc2] [] _
            refine y_goto X467 hx 2 (hb hby d9_33) (by decide) (by decide) ?_
            refine y_iloadN X467 hx 3 (hb hby d9_2) rfl rfl ?_
            refine y_iloadN X467 hx 4 (hb hby d9_3) rfl rfl ?_
            refine y_icmpYes X467 hx 36 (hb hby d9_4) (XT.ii_ge_t (by decide)) (by decide) (by decide) ?_
            refine y_iconst X467 hx (1 : Int32) 37 (hb hby d9_36) rfl rfl ?_
            show Sx p e below T467 m 37 #[xvr ax, xvi (2 : Int32), xvi (3 : Int32), xvi (3 : Int32), xvi cc2] [xwi (1 : Int32)] _
            exact retN X467 hx (t := .boolean) Bd.returns (by simp) (hb hby d9_37) (hr)
          · show QrmDg Z G ax cc0 cc1 cc2 cc3 sx ex h0 n0 _ T467.heap _
            rw [e467]
            exact ⟨(1 : Int32), rfl, N467, rfl, (Or.inl ⟨rfl, fun q1 _ => absurd (by rw [hk367]; decide) q1, fun q1 _ => absurd (by rw [hk367]; decide) q1, fun _ _ => ⟨hc470, hc472⟩, fun _ q2 => absurd q2 (by rw [hk466]; decide)⟩)⟩
    · obtain ⟨cq474, kq474, q474a, q474b, q474c⟩ := isOf hZ e0 E1
      obtain ⟨_, _, ⟨T473, L473, k473, n473⟩, -, X473, ⟨Lc473, hQ473, l473, y473, z473⟩, st473⟩ := X0.virtualBack hx (y := (⟨"java/lang/String", "charAt", "(I)C"⟩ : MethodName)) (z := (⟨"java/lang/String", "charAt", "(I)C"⟩ : MethodName)) hown (mvT hZ (w_43 hw)) (mvT hZ (w_44 hw)) (notFace_of_selects (args := #[]) (mvT hZ (w_46 hw))) (mvT hZ (w_46 hw)) (mvT hZ (w_45 hw)) (by decide) (backOf (W := 0) (rmCA2 l Z a0 hw G ST [] ax cc0 cc1 cc2 cc3 h0 n0 X00 hS hr_cc0 hr_cc1 hr_cc2 hr_cc3) hZ (w_47 hw) (w_9 hw) (by decide) (by decide)) q474a q474c (g := (mkF m 9 #[xvr ax, xvi (2 : Int32), xvi (4 : Int32), xvi (2 : Int32), xun] [xwi (2 : Int32), xwr ax])) rfl (by rw [hml]; rfl) (Steps.refl _) (argsL := [(.int (2 : Int32))]) (rest := []) (lenOf pd_13 rfl) rfl (by show 2 * 0 + _ ≤ _; exact Nat.le_of_eq rfl) (hb hby d9_9) (fun _ _ => ⟨rfl, e0, (by decide : 0 + 0 ≤ _), (by decide : 0 + 0 ≤ _)⟩)
      dsimp only [Pt.U, Pt.locs, Pt.cells, Pt.slots] at X473 l473 y473 z473 st473 hQ473
      subst l473 y473 z473
      obtain ⟨rfl, N473q, e473⟩ := hQ473
      have N473 := Fr.app N0 N473q
      have c475 : ∀ t, Sx p e below T473 m 18 #[xvr ax, xvi (2 : Int32), xvi (4 : Int32), xvi (2 : Int32), xvi cc2] [xwi (48 : Int32), xwi cc2] t → TG t := fun t k => pre0 t (by
        refine y_iloadN X0 hx 1 (hb hby d9_0) rfl rfl ?_
        rw [hk367]
        refine XS.istoreN X0.here hx rfl (hb hby d9_1) rfl (l' := #[xvr ax, xvi (2 : Int32), xvi ex, xvi (2 : Int32), xun]) rfl ?_
        show Sx p e below s₁ m 2 #[xvr ax, xvi (2 : Int32), xvi ex, xvi (2 : Int32), xun] [] _
        refine y_iloadN X0 hx 3 (hb hby d9_2) rfl rfl ?_
        refine y_iloadN X0 hx 4 (hb hby d9_3) rfl rfl ?_
        rw [hk466]
        refine y_icmpNo X0 hx 7 (hb hby d9_4) (XT.ii_ge_f (by decide)) rfl ?_
        refine y_aloadN X0 hx 8 (hb hby d9_7) rfl rfl rfl ?_
        refine y_iloadN X0 hx 9 (hb hby d9_8) rfl rfl ?_
        refine st473.trans ?_
        show Sx p e below T473 m 12 #[xvr ax, xvi (2 : Int32), xvi (4 : Int32), xvi (2 : Int32), xun] [xwi cc2] _
        refine XS.istore X473.here hx rfl (hb hby d9_12) rfl (l' := #[xvr ax, xvi (2 : Int32), xvi (4 : Int32), xvi (2 : Int32), xvi cc2]) rfl ?_
        show Sx p e below T473 m 14 #[xvr ax, xvi (2 : Int32), xvi (4 : Int32), xvi (2 : Int32), xvi cc2] [] _
        refine y_iload X473 hx 16 (hb hby d9_14) rfl rfl ?_
        refine y_bipush X473 hx (48 : Int32) 18 (hb hby d9_16) rfl rfl ?_
        exact k)
      by_cases hc476 : cc2 < (48 : Int32)
      · obtain ⟨fs, hr, hrun, hended, hW, hsame⟩ := X473.leave (v := some (.int (0 : Int32))) (fun h => by rw [Bd.returns] at h; cases h)
        refine ⟨_, _, hTG _ (c475 _ ?_), hrun, hended, _, _, rfl, ?_, ⟨_, rfl⟩, hW, hsame.mono (by decide) (by decide)⟩
        · refine y_icmpYes X473 hx 28 (hb hby d9_18) (XT.ii_lt_t hc476) (by decide) (by decide) ?_
          refine y_iconst X473 hx (0 : Int32) 29 (hb hby d9_28) rfl rfl ?_
          show Sx p e below T473 m 29 #[xvr ax, xvi (2 : Int32), xvi (4 : Int32), xvi (2 : Int32), xvi cc2] [xwi (0 : Int32)] _
          exact retN X473 hx (t := .boolean) Bd.returns (by simp) (hb hby d9_29) (hr)
        · show QrmDg Z G ax cc0 cc1 cc2 cc3 sx ex h0 n0 _ T473.heap _
          rw [e473]
          exact ⟨(0 : Int32), rfl, N473, rfl, (Or.inr ⟨rfl, fun q => (q.2.2.1 (by rw [hk367]; decide) (by rw [hk466]; decide)).1 hc476⟩)⟩
      · have c477 : ∀ t, Sx p e below T473 m 25 #[xvr ax, xvi (2 : Int32), xvi (4 : Int32), xvi (2 : Int32), xvi cc2] [xwi (57 : Int32), xwi cc2] t → TG t := fun t k => c475 t (by
          refine y_icmpNo X473 hx 21 (hb hby d9_18) (XT.ii_lt_f hc476) rfl ?_
          refine y_iload X473 hx 23 (hb hby d9_21) rfl rfl ?_
          refine y_bipush X473 hx (57 : Int32) 25 (hb hby d9_23) rfl rfl ?_
          exact k)
        by_cases hc478 : (57 : Int32) < cc2
        · obtain ⟨fs, hr, hrun, hended, hW, hsame⟩ := X473.leave (v := some (.int (0 : Int32))) (fun h => by rw [Bd.returns] at h; cases h)
          refine ⟨_, _, hTG _ (c477 _ ?_), hrun, hended, _, _, rfl, ?_, ⟨_, rfl⟩, hW, hsame.mono (by decide) (by decide)⟩
          · refine y_icmpNo X473 hx 28 (hb hby d9_25) (XT.ii_le_f hc478) rfl ?_
            refine y_iconst X473 hx (0 : Int32) 29 (hb hby d9_28) rfl rfl ?_
            show Sx p e below T473 m 29 #[xvr ax, xvi (2 : Int32), xvi (4 : Int32), xvi (2 : Int32), xvi cc2] [xwi (0 : Int32)] _
            exact retN X473 hx (t := .boolean) Bd.returns (by simp) (hb hby d9_29) (hr)
          · show QrmDg Z G ax cc0 cc1 cc2 cc3 sx ex h0 n0 _ T473.heap _
            rw [e473]
            exact ⟨(0 : Int32), rfl, N473, rfl, (Or.inr ⟨rfl, fun q => (q.2.2.1 (by rw [hk367]; decide) (by rw [hk466]; decide)).2 hc478⟩)⟩
        · obtain ⟨cq480, kq480, q480a, q480b, q480c⟩ := isOf hZ e473 E1
          obtain ⟨_, _, ⟨T479, L479, k479, n479⟩, -, X479, ⟨Lc479, hQ479, l479, y479, z479⟩, st479⟩ := X473.virtualBack hx (y := (⟨"java/lang/String", "charAt", "(I)C"⟩ : MethodName)) (z := (⟨"java/lang/String", "charAt", "(I)C"⟩ : MethodName)) hown (mvT hZ (w_43 hw)) (mvT hZ (w_44 hw)) (notFace_of_selects (args := #[]) (mvT hZ (w_46 hw))) (mvT hZ (w_46 hw)) (mvT hZ (w_45 hw)) (by decide) (backOf (W := 0) (rmCA3 l Z a0 hw G ST [] ax cc0 cc1 cc2 cc3 h0 n0 X00 hS hr_cc0 hr_cc1 hr_cc2 hr_cc3) hZ (w_47 hw) (w_9 hw) (by decide) (by decide)) q480a q480c (g := (mkF m 9 #[xvr ax, xvi (2 : Int32), xvi (4 : Int32), xvi (3 : Int32), xvi cc2] [xwi (3 : Int32), xwr ax])) rfl (by rw [hml]; rfl) (Steps.refl _) (argsL := [(.int (3 : Int32))]) (rest := []) (lenOf pd_13 rfl) rfl (by show 2 * 0 + _ ≤ _; exact Nat.le_of_eq rfl) (hb hby d9_9) (fun _ _ => ⟨rfl, e473, (by decide : 0 + 0 ≤ _), (by decide : 0 + 0 ≤ _)⟩)
          dsimp only [Pt.U, Pt.locs, Pt.cells, Pt.slots] at X479 l479 y479 z479 st479 hQ479
          subst l479 y479 z479
          obtain ⟨rfl, N479q, e479⟩ := hQ479
          have N479 := Fr.app N473 N479q
          have c481 : ∀ t, Sx p e below T479 m 18 #[xvr ax, xvi (2 : Int32), xvi (4 : Int32), xvi (3 : Int32), xvi cc3] [xwi (48 : Int32), xwi cc3] t → TG t := fun t k => c477 t (by
            refine y_icmpYes X473 hx 30 (hb hby d9_25) (XT.ii_le_t hc478) (by decide) (by decide) ?_
            refine XS.iinc X473.here hx rfl (hb hby d9_30) rfl (l' := #[xvr ax, xvi (2 : Int32), xvi (4 : Int32), xvi ((2 : Int32) + (1 : Int32)), xvi cc2]) rfl ?_
            rw [show ((2 : Int32) + (1 : Int32)) = (3 : Int32) from by decide]
            show Sx p e below T473 m 33 #[xvr ax, xvi (2 : Int32), xvi (4 : Int32), xvi (3 : Int32), xvi cc2] [] _
            refine y_goto X473 hx 2 (hb hby d9_33) (by decide) (by decide) ?_
            refine y_iloadN X473 hx 3 (hb hby d9_2) rfl rfl ?_
            refine y_iloadN X473 hx 4 (hb hby d9_3) rfl rfl ?_
            refine y_icmpNo X473 hx 7 (hb hby d9_4) (XT.ii_ge_f (by decide)) rfl ?_
            refine y_aloadN X473 hx 8 (hb hby d9_7) rfl rfl rfl ?_
            refine y_iloadN X473 hx 9 (hb hby d9_8) rfl rfl ?_
            refine st479.trans ?_
            show Sx p e below T479 m 12 #[xvr ax, xvi (2 : Int32), xvi (4 : Int32), xvi (3 : Int32), xvi cc2] [xwi cc3] _
            refine XS.istore X479.here hx rfl (hb hby d9_12) rfl (l' := #[xvr ax, xvi (2 : Int32), xvi (4 : Int32), xvi (3 : Int32), xvi cc3]) rfl ?_
            show Sx p e below T479 m 14 #[xvr ax, xvi (2 : Int32), xvi (4 : Int32), xvi (3 : Int32), xvi cc3] [] _
            refine y_iload X479 hx 16 (hb hby d9_14) rfl rfl ?_
            refine y_bipush X479 hx (48 : Int32) 18 (hb hby d9_16) rfl rfl ?_
            exact k)
          by_cases hc482 : cc3 < (48 : Int32)
          · obtain ⟨fs, hr, hrun, hended, hW, hsame⟩ := X479.leave (v := some (.int (0 : Int32))) (fun h => by rw [Bd.returns] at h; cases h)
            refine ⟨_, _, hTG _ (c481 _ ?_), hrun, hended, _, _, rfl, ?_, ⟨_, rfl⟩, hW, hsame.mono (by decide) (by decide)⟩
            · refine y_icmpYes X479 hx 28 (hb hby d9_18) (XT.ii_lt_t hc482) (by decide) (by decide) ?_
              refine y_iconst X479 hx (0 : Int32) 29 (hb hby d9_28) rfl rfl ?_
              show Sx p e below T479 m 29 #[xvr ax, xvi (2 : Int32), xvi (4 : Int32), xvi (3 : Int32), xvi cc3] [xwi (0 : Int32)] _
              exact retN X479 hx (t := .boolean) Bd.returns (by simp) (hb hby d9_29) (hr)
            · show QrmDg Z G ax cc0 cc1 cc2 cc3 sx ex h0 n0 _ T479.heap _
              rw [e479]
              exact ⟨(0 : Int32), rfl, N479, rfl, (Or.inr ⟨rfl, fun q => (q.2.2.2 (by rw [hk367]; decide) (by rw [hk466]; decide)).1 hc482⟩)⟩
          · have c483 : ∀ t, Sx p e below T479 m 25 #[xvr ax, xvi (2 : Int32), xvi (4 : Int32), xvi (3 : Int32), xvi cc3] [xwi (57 : Int32), xwi cc3] t → TG t := fun t k => c481 t (by
              refine y_icmpNo X479 hx 21 (hb hby d9_18) (XT.ii_lt_f hc482) rfl ?_
              refine y_iload X479 hx 23 (hb hby d9_21) rfl rfl ?_
              refine y_bipush X479 hx (57 : Int32) 25 (hb hby d9_23) rfl rfl ?_
              exact k)
            by_cases hc484 : (57 : Int32) < cc3
            · obtain ⟨fs, hr, hrun, hended, hW, hsame⟩ := X479.leave (v := some (.int (0 : Int32))) (fun h => by rw [Bd.returns] at h; cases h)
              refine ⟨_, _, hTG _ (c483 _ ?_), hrun, hended, _, _, rfl, ?_, ⟨_, rfl⟩, hW, hsame.mono (by decide) (by decide)⟩
              · refine y_icmpNo X479 hx 28 (hb hby d9_25) (XT.ii_le_f hc484) rfl ?_
                refine y_iconst X479 hx (0 : Int32) 29 (hb hby d9_28) rfl rfl ?_
                show Sx p e below T479 m 29 #[xvr ax, xvi (2 : Int32), xvi (4 : Int32), xvi (3 : Int32), xvi cc3] [xwi (0 : Int32)] _
                exact retN X479 hx (t := .boolean) Bd.returns (by simp) (hb hby d9_29) (hr)
              · show QrmDg Z G ax cc0 cc1 cc2 cc3 sx ex h0 n0 _ T479.heap _
                rw [e479]
                exact ⟨(0 : Int32), rfl, N479, rfl, (Or.inr ⟨rfl, fun q => (q.2.2.2 (by rw [hk367]; decide) (by rw [hk466]; decide)).2 hc484⟩)⟩
            · obtain ⟨fs, hr, hrun, hended, hW, hsame⟩ := X479.leave (v := some (.int (1 : Int32))) (fun h => by rw [Bd.returns] at h; cases h)
              refine ⟨_, _, hTG _ (c483 _ ?_), hrun, hended, _, _, rfl, ?_, ⟨_, rfl⟩, hW, hsame.mono (by decide) (by decide)⟩
              · refine y_icmpYes X479 hx 30 (hb hby d9_25) (XT.ii_le_t hc484) (by decide) (by decide) ?_
                refine XS.iinc X479.here hx rfl (hb hby d9_30) rfl (l' := #[xvr ax, xvi (2 : Int32), xvi (4 : Int32), xvi ((3 : Int32) + (1 : Int32)), xvi cc3]) rfl ?_
                rw [show ((3 : Int32) + (1 : Int32)) = (4 : Int32) from by decide]
                show Sx p e below T479 m 33 #[xvr ax, xvi (2 : Int32), xvi (4 : Int32), xvi (4 : Int32), xvi cc3] [] _
                refine y_goto X479 hx 2 (hb hby d9_33) (by decide) (by decide) ?_
                refine y_iloadN X479 hx 3 (hb hby d9_2) rfl rfl ?_
                refine y_iloadN X479 hx 4 (hb hby d9_3) rfl rfl ?_
                refine y_icmpYes X479 hx 36 (hb hby d9_4) (XT.ii_ge_t (by decide)) (by decide) (by decide) ?_
                refine y_iconst X479 hx (1 : Int32) 37 (hb hby d9_36) rfl rfl ?_
                show Sx p e below T479 m 37 #[xvr ax, xvi (2 : Int32), xvi (4 : Int32), xvi (4 : Int32), xvi cc3] [xwi (1 : Int32)] _
                exact retN X479 hx (t := .boolean) Bd.returns (by simp) (hb hby d9_37) (hr)
              · show QrmDg Z G ax cc0 cc1 cc2 cc3 sx ex h0 n0 _ T479.heap _
                rw [e479]
                exact ⟨(1 : Int32), rfl, N479, rfl, (Or.inl ⟨rfl, fun q1 _ => absurd (by rw [hk367]; decide) q1, fun q1 _ => absurd (by rw [hk367]; decide) q1, fun _ _ => ⟨hc476, hc478⟩, fun _ _ => ⟨hc482, hc484⟩⟩)⟩
  · rcases he5 with hk485 | hk485 | hk485 | hk485 | hk485
    · obtain ⟨fs, hr, hrun, hended, hW, hsame⟩ := X0.leave (v := some (.int (1 : Int32))) (fun h => by rw [Bd.returns] at h; cases h)
      refine ⟨_, _, hTG _ (pre0 _ ?_), hrun, hended, _, _, rfl, ?_, ⟨_, rfl⟩, hW, hsame.mono (by decide) (by decide)⟩
      · refine y_iloadN X0 hx 1 (hb hby d9_0) rfl rfl ?_
        rw [hk367]
        refine XS.istoreN X0.here hx rfl (hb hby d9_1) rfl (l' := #[xvr ax, xvi (3 : Int32), xvi ex, xvi (3 : Int32), xun]) rfl ?_
        show Sx p e below s₁ m 2 #[xvr ax, xvi (3 : Int32), xvi ex, xvi (3 : Int32), xun] [] _
        refine y_iloadN X0 hx 3 (hb hby d9_2) rfl rfl ?_
        refine y_iloadN X0 hx 4 (hb hby d9_3) rfl rfl ?_
        rw [hk485]
        refine y_icmpYes X0 hx 36 (hb hby d9_4) (XT.ii_ge_t (by decide)) (by decide) (by decide) ?_
        refine y_iconst X0 hx (1 : Int32) 37 (hb hby d9_36) rfl rfl ?_
        show Sx p e below s₁ m 37 #[xvr ax, xvi (3 : Int32), xvi (0 : Int32), xvi (3 : Int32), xun] [xwi (1 : Int32)] _
        exact retN X0 hx (t := .boolean) Bd.returns (by simp) (hb hby d9_37) (hr)
      · show QrmDg Z G ax cc0 cc1 cc2 cc3 sx ex h0 n0 _ s₁.heap _
        rw [e0]
        exact ⟨(1 : Int32), rfl, N0, rfl, (Or.inl ⟨rfl, fun q1 _ => absurd (by rw [hk367]; decide) q1, fun q1 _ => absurd (by rw [hk367]; decide) q1, fun q1 _ => absurd (by rw [hk367]; decide) q1, fun _ q2 => absurd q2 (by rw [hk485]; decide)⟩)⟩
    · obtain ⟨fs, hr, hrun, hended, hW, hsame⟩ := X0.leave (v := some (.int (1 : Int32))) (fun h => by rw [Bd.returns] at h; cases h)
      refine ⟨_, _, hTG _ (pre0 _ ?_), hrun, hended, _, _, rfl, ?_, ⟨_, rfl⟩, hW, hsame.mono (by decide) (by decide)⟩
      · refine y_iloadN X0 hx 1 (hb hby d9_0) rfl rfl ?_
        rw [hk367]
        refine XS.istoreN X0.here hx rfl (hb hby d9_1) rfl (l' := #[xvr ax, xvi (3 : Int32), xvi ex, xvi (3 : Int32), xun]) rfl ?_
        show Sx p e below s₁ m 2 #[xvr ax, xvi (3 : Int32), xvi ex, xvi (3 : Int32), xun] [] _
        refine y_iloadN X0 hx 3 (hb hby d9_2) rfl rfl ?_
        refine y_iloadN X0 hx 4 (hb hby d9_3) rfl rfl ?_
        rw [hk485]
        refine y_icmpYes X0 hx 36 (hb hby d9_4) (XT.ii_ge_t (by decide)) (by decide) (by decide) ?_
        refine y_iconst X0 hx (1 : Int32) 37 (hb hby d9_36) rfl rfl ?_
        show Sx p e below s₁ m 37 #[xvr ax, xvi (3 : Int32), xvi (1 : Int32), xvi (3 : Int32), xun] [xwi (1 : Int32)] _
        exact retN X0 hx (t := .boolean) Bd.returns (by simp) (hb hby d9_37) (hr)
      · show QrmDg Z G ax cc0 cc1 cc2 cc3 sx ex h0 n0 _ s₁.heap _
        rw [e0]
        exact ⟨(1 : Int32), rfl, N0, rfl, (Or.inl ⟨rfl, fun q1 _ => absurd (by rw [hk367]; decide) q1, fun q1 _ => absurd (by rw [hk367]; decide) q1, fun q1 _ => absurd (by rw [hk367]; decide) q1, fun _ q2 => absurd q2 (by rw [hk485]; decide)⟩)⟩
    · obtain ⟨fs, hr, hrun, hended, hW, hsame⟩ := X0.leave (v := some (.int (1 : Int32))) (fun h => by rw [Bd.returns] at h; cases h)
      refine ⟨_, _, hTG _ (pre0 _ ?_), hrun, hended, _, _, rfl, ?_, ⟨_, rfl⟩, hW, hsame.mono (by decide) (by decide)⟩
      · refine y_iloadN X0 hx 1 (hb hby d9_0) rfl rfl ?_
        rw [hk367]
        refine XS.istoreN X0.here hx rfl (hb hby d9_1) rfl (l' := #[xvr ax, xvi (3 : Int32), xvi ex, xvi (3 : Int32), xun]) rfl ?_
        show Sx p e below s₁ m 2 #[xvr ax, xvi (3 : Int32), xvi ex, xvi (3 : Int32), xun] [] _
        refine y_iloadN X0 hx 3 (hb hby d9_2) rfl rfl ?_
        refine y_iloadN X0 hx 4 (hb hby d9_3) rfl rfl ?_
        rw [hk485]
        refine y_icmpYes X0 hx 36 (hb hby d9_4) (XT.ii_ge_t (by decide)) (by decide) (by decide) ?_
        refine y_iconst X0 hx (1 : Int32) 37 (hb hby d9_36) rfl rfl ?_
        show Sx p e below s₁ m 37 #[xvr ax, xvi (3 : Int32), xvi (2 : Int32), xvi (3 : Int32), xun] [xwi (1 : Int32)] _
        exact retN X0 hx (t := .boolean) Bd.returns (by simp) (hb hby d9_37) (hr)
      · show QrmDg Z G ax cc0 cc1 cc2 cc3 sx ex h0 n0 _ s₁.heap _
        rw [e0]
        exact ⟨(1 : Int32), rfl, N0, rfl, (Or.inl ⟨rfl, fun q1 _ => absurd (by rw [hk367]; decide) q1, fun q1 _ => absurd (by rw [hk367]; decide) q1, fun q1 _ => absurd (by rw [hk367]; decide) q1, fun _ q2 => absurd q2 (by rw [hk485]; decide)⟩)⟩
    · obtain ⟨fs, hr, hrun, hended, hW, hsame⟩ := X0.leave (v := some (.int (1 : Int32))) (fun h => by rw [Bd.returns] at h; cases h)
      refine ⟨_, _, hTG _ (pre0 _ ?_), hrun, hended, _, _, rfl, ?_, ⟨_, rfl⟩, hW, hsame.mono (by decide) (by decide)⟩
      · refine y_iloadN X0 hx 1 (hb hby d9_0) rfl rfl ?_
        rw [hk367]
        refine XS.istoreN X0.here hx rfl (hb hby d9_1) rfl (l' := #[xvr ax, xvi (3 : Int32), xvi ex, xvi (3 : Int32), xun]) rfl ?_
        show Sx p e below s₁ m 2 #[xvr ax, xvi (3 : Int32), xvi ex, xvi (3 : Int32), xun] [] _
        refine y_iloadN X0 hx 3 (hb hby d9_2) rfl rfl ?_
        refine y_iloadN X0 hx 4 (hb hby d9_3) rfl rfl ?_
        rw [hk485]
        refine y_icmpYes X0 hx 36 (hb hby d9_4) (XT.ii_ge_t (by decide)) (by decide) (by decide) ?_
        refine y_iconst X0 hx (1 : Int32) 37 (hb hby d9_36) rfl rfl ?_
        show Sx p e below s₁ m 37 #[xvr ax, xvi (3 : Int32), xvi (3 : Int32), xvi (3 : Int32), xun] [xwi (1 : Int32)] _
        exact retN X0 hx (t := .boolean) Bd.returns (by simp) (hb hby d9_37) (hr)
      · show QrmDg Z G ax cc0 cc1 cc2 cc3 sx ex h0 n0 _ s₁.heap _
        rw [e0]
        exact ⟨(1 : Int32), rfl, N0, rfl, (Or.inl ⟨rfl, fun q1 _ => absurd (by rw [hk367]; decide) q1, fun q1 _ => absurd (by rw [hk367]; decide) q1, fun q1 _ => absurd (by rw [hk367]; decide) q1, fun _ q2 => absurd q2 (by rw [hk485]; decide)⟩)⟩
    · obtain ⟨cq487, kq487, q487a, q487b, q487c⟩ := isOf hZ e0 E1
      obtain ⟨_, _, ⟨T486, L486, k486, n486⟩, -, X486, ⟨Lc486, hQ486, l486, y486, z486⟩, st486⟩ := X0.virtualBack hx (y := (⟨"java/lang/String", "charAt", "(I)C"⟩ : MethodName)) (z := (⟨"java/lang/String", "charAt", "(I)C"⟩ : MethodName)) hown (mvT hZ (w_43 hw)) (mvT hZ (w_44 hw)) (notFace_of_selects (args := #[]) (mvT hZ (w_46 hw))) (mvT hZ (w_46 hw)) (mvT hZ (w_45 hw)) (by decide) (backOf (W := 0) (rmCA3 l Z a0 hw G ST [] ax cc0 cc1 cc2 cc3 h0 n0 X00 hS hr_cc0 hr_cc1 hr_cc2 hr_cc3) hZ (w_47 hw) (w_9 hw) (by decide) (by decide)) q487a q487c (g := (mkF m 9 #[xvr ax, xvi (3 : Int32), xvi (4 : Int32), xvi (3 : Int32), xun] [xwi (3 : Int32), xwr ax])) rfl (by rw [hml]; rfl) (Steps.refl _) (argsL := [(.int (3 : Int32))]) (rest := []) (lenOf pd_13 rfl) rfl (by show 2 * 0 + _ ≤ _; exact Nat.le_of_eq rfl) (hb hby d9_9) (fun _ _ => ⟨rfl, e0, (by decide : 0 + 0 ≤ _), (by decide : 0 + 0 ≤ _)⟩)
      dsimp only [Pt.U, Pt.locs, Pt.cells, Pt.slots] at X486 l486 y486 z486 st486 hQ486
      subst l486 y486 z486
      obtain ⟨rfl, N486q, e486⟩ := hQ486
      have N486 := Fr.app N0 N486q
      have c488 : ∀ t, Sx p e below T486 m 18 #[xvr ax, xvi (3 : Int32), xvi (4 : Int32), xvi (3 : Int32), xvi cc3] [xwi (48 : Int32), xwi cc3] t → TG t := fun t k => pre0 t (by
        refine y_iloadN X0 hx 1 (hb hby d9_0) rfl rfl ?_
        rw [hk367]
        refine XS.istoreN X0.here hx rfl (hb hby d9_1) rfl (l' := #[xvr ax, xvi (3 : Int32), xvi ex, xvi (3 : Int32), xun]) rfl ?_
        show Sx p e below s₁ m 2 #[xvr ax, xvi (3 : Int32), xvi ex, xvi (3 : Int32), xun] [] _
        refine y_iloadN X0 hx 3 (hb hby d9_2) rfl rfl ?_
        refine y_iloadN X0 hx 4 (hb hby d9_3) rfl rfl ?_
        rw [hk485]
        refine y_icmpNo X0 hx 7 (hb hby d9_4) (XT.ii_ge_f (by decide)) rfl ?_
        refine y_aloadN X0 hx 8 (hb hby d9_7) rfl rfl rfl ?_
        refine y_iloadN X0 hx 9 (hb hby d9_8) rfl rfl ?_
        refine st486.trans ?_
        show Sx p e below T486 m 12 #[xvr ax, xvi (3 : Int32), xvi (4 : Int32), xvi (3 : Int32), xun] [xwi cc3] _
        refine XS.istore X486.here hx rfl (hb hby d9_12) rfl (l' := #[xvr ax, xvi (3 : Int32), xvi (4 : Int32), xvi (3 : Int32), xvi cc3]) rfl ?_
        show Sx p e below T486 m 14 #[xvr ax, xvi (3 : Int32), xvi (4 : Int32), xvi (3 : Int32), xvi cc3] [] _
        refine y_iload X486 hx 16 (hb hby d9_14) rfl rfl ?_
        refine y_bipush X486 hx (48 : Int32) 18 (hb hby d9_16) rfl rfl ?_
        exact k)
      by_cases hc489 : cc3 < (48 : Int32)
      · obtain ⟨fs, hr, hrun, hended, hW, hsame⟩ := X486.leave (v := some (.int (0 : Int32))) (fun h => by rw [Bd.returns] at h; cases h)
        refine ⟨_, _, hTG _ (c488 _ ?_), hrun, hended, _, _, rfl, ?_, ⟨_, rfl⟩, hW, hsame.mono (by decide) (by decide)⟩
        · refine y_icmpYes X486 hx 28 (hb hby d9_18) (XT.ii_lt_t hc489) (by decide) (by decide) ?_
          refine y_iconst X486 hx (0 : Int32) 29 (hb hby d9_28) rfl rfl ?_
          show Sx p e below T486 m 29 #[xvr ax, xvi (3 : Int32), xvi (4 : Int32), xvi (3 : Int32), xvi cc3] [xwi (0 : Int32)] _
          exact retN X486 hx (t := .boolean) Bd.returns (by simp) (hb hby d9_29) (hr)
        · show QrmDg Z G ax cc0 cc1 cc2 cc3 sx ex h0 n0 _ T486.heap _
          rw [e486]
          exact ⟨(0 : Int32), rfl, N486, rfl, (Or.inr ⟨rfl, fun q => (q.2.2.2 (by rw [hk367]; decide) (by rw [hk485]; decide)).1 hc489⟩)⟩
      · have c490 : ∀ t, Sx p e below T486 m 25 #[xvr ax, xvi (3 : Int32), xvi (4 : Int32), xvi (3 : Int32), xvi cc3] [xwi (57 : Int32), xwi cc3] t → TG t := fun t k => c488 t (by
          refine y_icmpNo X486 hx 21 (hb hby d9_18) (XT.ii_lt_f hc489) rfl ?_
          refine y_iload X486 hx 23 (hb hby d9_21) rfl rfl ?_
          refine y_bipush X486 hx (57 : Int32) 25 (hb hby d9_23) rfl rfl ?_
          exact k)
        by_cases hc491 : (57 : Int32) < cc3
        · obtain ⟨fs, hr, hrun, hended, hW, hsame⟩ := X486.leave (v := some (.int (0 : Int32))) (fun h => by rw [Bd.returns] at h; cases h)
          refine ⟨_, _, hTG _ (c490 _ ?_), hrun, hended, _, _, rfl, ?_, ⟨_, rfl⟩, hW, hsame.mono (by decide) (by decide)⟩
          · refine y_icmpNo X486 hx 28 (hb hby d9_25) (XT.ii_le_f hc491) rfl ?_
            refine y_iconst X486 hx (0 : Int32) 29 (hb hby d9_28) rfl rfl ?_
            show Sx p e below T486 m 29 #[xvr ax, xvi (3 : Int32), xvi (4 : Int32), xvi (3 : Int32), xvi cc3] [xwi (0 : Int32)] _
            exact retN X486 hx (t := .boolean) Bd.returns (by simp) (hb hby d9_29) (hr)
          · show QrmDg Z G ax cc0 cc1 cc2 cc3 sx ex h0 n0 _ T486.heap _
            rw [e486]
            exact ⟨(0 : Int32), rfl, N486, rfl, (Or.inr ⟨rfl, fun q => (q.2.2.2 (by rw [hk367]; decide) (by rw [hk485]; decide)).2 hc491⟩)⟩
        · obtain ⟨fs, hr, hrun, hended, hW, hsame⟩ := X486.leave (v := some (.int (1 : Int32))) (fun h => by rw [Bd.returns] at h; cases h)
          refine ⟨_, _, hTG _ (c490 _ ?_), hrun, hended, _, _, rfl, ?_, ⟨_, rfl⟩, hW, hsame.mono (by decide) (by decide)⟩
          · refine y_icmpYes X486 hx 30 (hb hby d9_25) (XT.ii_le_t hc491) (by decide) (by decide) ?_
            refine XS.iinc X486.here hx rfl (hb hby d9_30) rfl (l' := #[xvr ax, xvi (3 : Int32), xvi (4 : Int32), xvi ((3 : Int32) + (1 : Int32)), xvi cc3]) rfl ?_
            rw [show ((3 : Int32) + (1 : Int32)) = (4 : Int32) from by decide]
            show Sx p e below T486 m 33 #[xvr ax, xvi (3 : Int32), xvi (4 : Int32), xvi (4 : Int32), xvi cc3] [] _
            refine y_goto X486 hx 2 (hb hby d9_33) (by decide) (by decide) ?_
            refine y_iloadN X486 hx 3 (hb hby d9_2) rfl rfl ?_
            refine y_iloadN X486 hx 4 (hb hby d9_3) rfl rfl ?_
            refine y_icmpYes X486 hx 36 (hb hby d9_4) (XT.ii_ge_t (by decide)) (by decide) (by decide) ?_
            refine y_iconst X486 hx (1 : Int32) 37 (hb hby d9_36) rfl rfl ?_
            show Sx p e below T486 m 37 #[xvr ax, xvi (3 : Int32), xvi (4 : Int32), xvi (4 : Int32), xvi cc3] [xwi (1 : Int32)] _
            exact retN X486 hx (t := .boolean) Bd.returns (by simp) (hb hby d9_37) (hr)
          · show QrmDg Z G ax cc0 cc1 cc2 cc3 sx ex h0 n0 _ T486.heap _
            rw [e486]
            exact ⟨(1 : Int32), rfl, N486, rfl, (Or.inl ⟨rfl, fun q1 _ => absurd (by rw [hk367]; decide) q1, fun q1 _ => absurd (by rw [hk367]; decide) q1, fun q1 _ => absurd (by rw [hk367]; decide) q1, fun _ _ => ⟨hc489, hc491⟩⟩)⟩
  · rcases he5 with hk492 | hk492 | hk492 | hk492 | hk492
    · obtain ⟨fs, hr, hrun, hended, hW, hsame⟩ := X0.leave (v := some (.int (1 : Int32))) (fun h => by rw [Bd.returns] at h; cases h)
      refine ⟨_, _, hTG _ (pre0 _ ?_), hrun, hended, _, _, rfl, ?_, ⟨_, rfl⟩, hW, hsame.mono (by decide) (by decide)⟩
      · refine y_iloadN X0 hx 1 (hb hby d9_0) rfl rfl ?_
        rw [hk367]
        refine XS.istoreN X0.here hx rfl (hb hby d9_1) rfl (l' := #[xvr ax, xvi (4 : Int32), xvi ex, xvi (4 : Int32), xun]) rfl ?_
        show Sx p e below s₁ m 2 #[xvr ax, xvi (4 : Int32), xvi ex, xvi (4 : Int32), xun] [] _
        refine y_iloadN X0 hx 3 (hb hby d9_2) rfl rfl ?_
        refine y_iloadN X0 hx 4 (hb hby d9_3) rfl rfl ?_
        rw [hk492]
        refine y_icmpYes X0 hx 36 (hb hby d9_4) (XT.ii_ge_t (by decide)) (by decide) (by decide) ?_
        refine y_iconst X0 hx (1 : Int32) 37 (hb hby d9_36) rfl rfl ?_
        show Sx p e below s₁ m 37 #[xvr ax, xvi (4 : Int32), xvi (0 : Int32), xvi (4 : Int32), xun] [xwi (1 : Int32)] _
        exact retN X0 hx (t := .boolean) Bd.returns (by simp) (hb hby d9_37) (hr)
      · show QrmDg Z G ax cc0 cc1 cc2 cc3 sx ex h0 n0 _ s₁.heap _
        rw [e0]
        exact ⟨(1 : Int32), rfl, N0, rfl, (Or.inl ⟨rfl, fun q1 _ => absurd (by rw [hk367]; decide) q1, fun q1 _ => absurd (by rw [hk367]; decide) q1, fun q1 _ => absurd (by rw [hk367]; decide) q1, fun q1 _ => absurd (by rw [hk367]; decide) q1⟩)⟩
    · obtain ⟨fs, hr, hrun, hended, hW, hsame⟩ := X0.leave (v := some (.int (1 : Int32))) (fun h => by rw [Bd.returns] at h; cases h)
      refine ⟨_, _, hTG _ (pre0 _ ?_), hrun, hended, _, _, rfl, ?_, ⟨_, rfl⟩, hW, hsame.mono (by decide) (by decide)⟩
      · refine y_iloadN X0 hx 1 (hb hby d9_0) rfl rfl ?_
        rw [hk367]
        refine XS.istoreN X0.here hx rfl (hb hby d9_1) rfl (l' := #[xvr ax, xvi (4 : Int32), xvi ex, xvi (4 : Int32), xun]) rfl ?_
        show Sx p e below s₁ m 2 #[xvr ax, xvi (4 : Int32), xvi ex, xvi (4 : Int32), xun] [] _
        refine y_iloadN X0 hx 3 (hb hby d9_2) rfl rfl ?_
        refine y_iloadN X0 hx 4 (hb hby d9_3) rfl rfl ?_
        rw [hk492]
        refine y_icmpYes X0 hx 36 (hb hby d9_4) (XT.ii_ge_t (by decide)) (by decide) (by decide) ?_
        refine y_iconst X0 hx (1 : Int32) 37 (hb hby d9_36) rfl rfl ?_
        show Sx p e below s₁ m 37 #[xvr ax, xvi (4 : Int32), xvi (1 : Int32), xvi (4 : Int32), xun] [xwi (1 : Int32)] _
        exact retN X0 hx (t := .boolean) Bd.returns (by simp) (hb hby d9_37) (hr)
      · show QrmDg Z G ax cc0 cc1 cc2 cc3 sx ex h0 n0 _ s₁.heap _
        rw [e0]
        exact ⟨(1 : Int32), rfl, N0, rfl, (Or.inl ⟨rfl, fun q1 _ => absurd (by rw [hk367]; decide) q1, fun q1 _ => absurd (by rw [hk367]; decide) q1, fun q1 _ => absurd (by rw [hk367]; decide) q1, fun q1 _ => absurd (by rw [hk367]; decide) q1⟩)⟩
    · obtain ⟨fs, hr, hrun, hended, hW, hsame⟩ := X0.leave (v := some (.int (1 : Int32))) (fun h => by rw [Bd.returns] at h; cases h)
      refine ⟨_, _, hTG _ (pre0 _ ?_), hrun, hended, _, _, rfl, ?_, ⟨_, rfl⟩, hW, hsame.mono (by decide) (by decide)⟩
      · refine y_iloadN X0 hx 1 (hb hby d9_0) rfl rfl ?_
        rw [hk367]
        refine XS.istoreN X0.here hx rfl (hb hby d9_1) rfl (l' := #[xvr ax, xvi (4 : Int32), xvi ex, xvi (4 : Int32), xun]) rfl ?_
        show Sx p e below s₁ m 2 #[xvr ax, xvi (4 : Int32), xvi ex, xvi (4 : Int32), xun] [] _
        refine y_iloadN X0 hx 3 (hb hby d9_2) rfl rfl ?_
        refine y_iloadN X0 hx 4 (hb hby d9_3) rfl rfl ?_
        rw [hk492]
        refine y_icmpYes X0 hx 36 (hb hby d9_4) (XT.ii_ge_t (by decide)) (by decide) (by decide) ?_
        refine y_iconst X0 hx (1 : Int32) 37 (hb hby d9_36) rfl rfl ?_
        show Sx p e below s₁ m 37 #[xvr ax, xvi (4 : Int32), xvi (2 : Int32), xvi (4 : Int32), xun] [xwi (1 : Int32)] _
        exact retN X0 hx (t := .boolean) Bd.returns (by simp) (hb hby d9_37) (hr)
      · show QrmDg Z G ax cc0 cc1 cc2 cc3 sx ex h0 n0 _ s₁.heap _
        rw [e0]
        exact ⟨(1 : Int32), rfl, N0, rfl, (Or.inl ⟨rfl, fun q1 _ => absurd (by rw [hk367]; decide) q1, fun q1 _ => absurd (by rw [hk367]; decide) q1, fun q1 _ => absurd (by rw [hk367]; decide) q1, fun q1 _ => absurd (by rw [hk367]; decide) q1⟩)⟩
    · obtain ⟨fs, hr, hrun, hended, hW, hsame⟩ := X0.leave (v := some (.int (1 : Int32))) (fun h => by rw [Bd.returns] at h; cases h)
      refine ⟨_, _, hTG _ (pre0 _ ?_), hrun, hended, _, _, rfl, ?_, ⟨_, rfl⟩, hW, hsame.mono (by decide) (by decide)⟩
      · refine y_iloadN X0 hx 1 (hb hby d9_0) rfl rfl ?_
        rw [hk367]
        refine XS.istoreN X0.here hx rfl (hb hby d9_1) rfl (l' := #[xvr ax, xvi (4 : Int32), xvi ex, xvi (4 : Int32), xun]) rfl ?_
        show Sx p e below s₁ m 2 #[xvr ax, xvi (4 : Int32), xvi ex, xvi (4 : Int32), xun] [] _
        refine y_iloadN X0 hx 3 (hb hby d9_2) rfl rfl ?_
        refine y_iloadN X0 hx 4 (hb hby d9_3) rfl rfl ?_
        rw [hk492]
        refine y_icmpYes X0 hx 36 (hb hby d9_4) (XT.ii_ge_t (by decide)) (by decide) (by decide) ?_
        refine y_iconst X0 hx (1 : Int32) 37 (hb hby d9_36) rfl rfl ?_
        show Sx p e below s₁ m 37 #[xvr ax, xvi (4 : Int32), xvi (3 : Int32), xvi (4 : Int32), xun] [xwi (1 : Int32)] _
        exact retN X0 hx (t := .boolean) Bd.returns (by simp) (hb hby d9_37) (hr)
      · show QrmDg Z G ax cc0 cc1 cc2 cc3 sx ex h0 n0 _ s₁.heap _
        rw [e0]
        exact ⟨(1 : Int32), rfl, N0, rfl, (Or.inl ⟨rfl, fun q1 _ => absurd (by rw [hk367]; decide) q1, fun q1 _ => absurd (by rw [hk367]; decide) q1, fun q1 _ => absurd (by rw [hk367]; decide) q1, fun q1 _ => absurd (by rw [hk367]; decide) q1⟩)⟩
    · obtain ⟨fs, hr, hrun, hended, hW, hsame⟩ := X0.leave (v := some (.int (1 : Int32))) (fun h => by rw [Bd.returns] at h; cases h)
      refine ⟨_, _, hTG _ (pre0 _ ?_), hrun, hended, _, _, rfl, ?_, ⟨_, rfl⟩, hW, hsame.mono (by decide) (by decide)⟩
      · refine y_iloadN X0 hx 1 (hb hby d9_0) rfl rfl ?_
        rw [hk367]
        refine XS.istoreN X0.here hx rfl (hb hby d9_1) rfl (l' := #[xvr ax, xvi (4 : Int32), xvi ex, xvi (4 : Int32), xun]) rfl ?_
        show Sx p e below s₁ m 2 #[xvr ax, xvi (4 : Int32), xvi ex, xvi (4 : Int32), xun] [] _
        refine y_iloadN X0 hx 3 (hb hby d9_2) rfl rfl ?_
        refine y_iloadN X0 hx 4 (hb hby d9_3) rfl rfl ?_
        rw [hk492]
        refine y_icmpYes X0 hx 36 (hb hby d9_4) (XT.ii_ge_t (by decide)) (by decide) (by decide) ?_
        refine y_iconst X0 hx (1 : Int32) 37 (hb hby d9_36) rfl rfl ?_
        show Sx p e below s₁ m 37 #[xvr ax, xvi (4 : Int32), xvi (4 : Int32), xvi (4 : Int32), xun] [xwi (1 : Int32)] _
        exact retN X0 hx (t := .boolean) Bd.returns (by simp) (hb hby d9_37) (hr)
      · show QrmDg Z G ax cc0 cc1 cc2 cc3 sx ex h0 n0 _ s₁.heap _
        rw [e0]
        exact ⟨(1 : Int32), rfl, N0, rfl, (Or.inl ⟨rfl, fun q1 _ => absurd (by rw [hk367]; decide) q1, fun q1 _ => absurd (by rw [hk367]; decide) q1, fun q1 _ => absurd (by rw [hk367]; decide) q1, fun q1 _ => absurd (by rw [hk367]; decide) q1⟩)⟩
theorem ef_rm0 (m : MethodId) (x0 : Int32) (x1 : Int32) (x2 : Int32) (x3 : Int32) (x4 : Int32)  : entryFrame m #[(.int x0), (.int x1), (.int x2), (.int x3), (.int x4)] maxLocals = mkF m 0 #[.val (.int x0), .val (.int x1), .val (.int x2), .val (.int x3), .val (.int x4), .unset, .unset, .unset, .unset, .unset, .unset, .unset, .unset, .unset] [] := by first | (simp [entryFrame, mkF, argsToLocals, Value.category, maxLocals]; done) | rfl
theorem pd_14 : parseMethodDescriptor "(II)C" = some ⟨[.int, .int], some .char⟩ := by decide +kernel
theorem pd_15 : parseMethodDescriptor "([C)V" = some ⟨[(.array .char)], none⟩ := by decide +kernel
theorem pd_16 : parseMethodDescriptor "(CIII)Z" = some ⟨[.char, .int, .int, .int], some .boolean⟩ := by decide +kernel
theorem pd_17 : parseMethodDescriptor "(Ljava/lang/String;II)Z" = some ⟨[(.object "java/lang/String"), .int, .int], some .boolean⟩ := by decide +kernel
def Qrm0 (Z : State) (G : Gs) (p0 : Int32) (p1 : Int32) (p2 : Int32) (p3 : Int32) (p4 : Int32) (h0 : Heap) (n0 : Nat) (v : Option Value) (h : Heap) (L : List Loc) : Prop := v = some (.int (1 : Int32)) ∧ Fr n0 L ∧ Keep h0 h []
set_option maxRecDepth 65536 in
set_option maxHeartbeats 40000000 in
theorem rm0 (l : Launch) (Z : State) (a0 : Array Value) (hw : HW a0 Z) (G : Gs) (ST : StartF Z G) (ws : List Jvm.Cond) (p0 : Int32) (p1 : Int32) (p2 : Int32) (p3 : Int32) (p4 : Int32) (h0 : Heap) (n0 : Nat) (X00 : Old Z n0 h0) :
    MetFree l x (head1 (Jvm.Cond.code x code maxLocals ret :: ws) room_1) (fun a U => a = #[(.int p0), (.int p1), (.int p2), (.int p3), (.int p4)] ∧ Z.Warmed39 U.vm ∧ U.heap = h0) (fun _ _ _ _ _ => True) (fun _ U o U' => ∃ v L, o = .returned v ∧ Qrm0 Z G p0 p1 p2 p3 p4 h0 n0 v U'.heap L ∧ FrameEnd U o U' L 4 20) := by
  refine MetFree.of_bodySF (plainFor_of_name pn_2) hisR ?_
  intro p e s m args below meth c s₁ Bd hml0 hP hK
  obtain ⟨rfl, hZ, hh⟩ := hP
  have hx := Bd.exec
  have hby := Bd.bytes
  have hml : c.maxLocals = 14 := hml0
  have hown : s.vm.findClass "com/example/planwright/planwright/model/DecimalsIsDigitsPinLaw" = some m.cls := findClass_of_methodNamed Bd.named
  have hnm := (name_of_methodNamed Bd.named Bd.method).1
  have X0 : Stand p l e room_1 s m #[(.int p0), (.int p1), (.int p2), (.int p3), (.int p4)] below meth c s₁ [] 0 0 := Stand.of_body Bd
  have e0 : s₁.heap = h0 := by rw [← hh, Bd.state]; rfl
  have N0 := Fr.nil n0
  have Z0 : n0 ≤ h0.size := by have q := X00.2.1; rw [X00.1] at q; exact q
  obtain ⟨TG, hTG, hT2⟩ : ∃ P : State → Prop, (∀ t, P t → Steps p.tables e below (s₁.setTop (entryFrame m #[(.int p0), (.int p1), (.int p2), (.int p3), (.int p4)] maxLocals)) t) ∧ (∀ t, Steps p.tables e below (s₁.setTop (entryFrame m #[(.int p0), (.int p1), (.int p2), (.int p3), (.int p4)] maxLocals)) t → P t) := ⟨_, fun t k => k, fun t k => k⟩
  have pre0 : ∀ t, Sx p e below s₁ m 0 #[xvi p0, xvi p1, xvi p2, xvi p3, xvi p4, xun, xun, xun, xun, xun, xun, xun, xun, xun] [] t → TG t := fun t k => hT2 t (castTop (ef_rm0 m p0 p1 p2 p3 p4 ) k)
  obtain ⟨_, _, ⟨T493, L493, k493, n493⟩, -, X493, ⟨Lc493, hQ493, l493, y493, z493⟩, st493⟩ := Jvm.LawKit.callS X0 hx (y := (⟨"com/example/planwright/planwright/model/DecimalsIsDigitsPinLaw", "pick", "(II)C"⟩ : MethodName)) hown (mvT hZ (w_1 hw)) (mvT hZ (w_2 hw)) (mvT hZ (w_3 hw)) (mvT hZ (w_4 hw)) (by decide) (backOf (W := 0) (rmPk l Z a0 hw G ST [] (p0 &&& (65535 : Int32)) (p2 &&& (1 : Int32)) h0 n0 X00 ) hZ (w_4 hw) (w_3 hw) (by decide) (by decide)) (g := (mkF m 7 #[xvi p0, xvi p1, xvi p2, xvi p3, xvi p4, xun, xun, xun, xun, xun, xun, xun, xun, xun] [xwi (p2 &&& (1 : Int32)), xwi (p0 &&& (65535 : Int32))])) rfl (by rw [hml]; rfl) (argsL := [(.int (p0 &&& (65535 : Int32))), (.int (p2 &&& (1 : Int32)))]) (rest := []) (lenOf pd_14 rfl) rfl (by show 2 * 0 + _ ≤ _; exact Nat.le_of_eq rfl) (hb hby at_7) (fun _ _ => ⟨rfl, e0, (by decide : 0 + 0 ≤ _), (by decide : 0 + 0 ≤ _)⟩)
  dsimp only [Pt.U, Pt.locs, Pt.cells, Pt.slots] at X493 l493 y493 z493 st493 hQ493
  subst l493 y493 z493
  obtain ⟨o494, rfl, N493q, e493, p495⟩ := hQ493
  have N493 := Fr.app N0 N493q
  obtain ⟨_, _, ⟨T496, L496, k496, n496⟩, -, X496, ⟨Lc496, hQ496, l496, y496, z496⟩, st496⟩ := Jvm.LawKit.callS X493 hx (y := (⟨"com/example/planwright/planwright/model/DecimalsIsDigitsPinLaw", "pick", "(II)C"⟩ : MethodName)) hown (mvT hZ (w_1 hw)) (mvT hZ (w_2 hw)) (mvT hZ (w_3 hw)) (mvT hZ (w_4 hw)) (by decide) (backOf (W := 0) (rmPk l Z a0 hw G ST [] (((p0.toUInt32 >>> ((16 : Int32) &&& 31).toUInt32).toInt32) &&& (65535 : Int32)) (((p2.toUInt32 >>> ((1 : Int32) &&& 31).toUInt32).toInt32) &&& (1 : Int32)) h0 n0 X00 ) hZ (w_4 hw) (w_3 hw) (by decide) (by decide)) (g := (mkF m 24 #[xvi p0, xvi p1, xvi p2, xvi p3, xvi p4, xvi o494, xun, xun, xun, xun, xun, xun, xun, xun] [xwi (((p2.toUInt32 >>> ((1 : Int32) &&& 31).toUInt32).toInt32) &&& (1 : Int32)), xwi (((p0.toUInt32 >>> ((16 : Int32) &&& 31).toUInt32).toInt32) &&& (65535 : Int32))])) rfl (by rw [hml]; rfl) (argsL := [(.int (((p0.toUInt32 >>> ((16 : Int32) &&& 31).toUInt32).toInt32) &&& (65535 : Int32))), (.int (((p2.toUInt32 >>> ((1 : Int32) &&& 31).toUInt32).toInt32) &&& (1 : Int32)))]) (rest := []) (lenOf pd_14 rfl) rfl (by show 2 * 0 + _ ≤ _; exact Nat.le_of_eq rfl) (hb hby at_24) (fun _ _ => ⟨rfl, e493, (by decide : 0 + 0 ≤ _), (by decide : 0 + 0 ≤ _)⟩)
  dsimp only [Pt.U, Pt.locs, Pt.cells, Pt.slots] at X496 l496 y496 z496 st496 hQ496
  subst l496 y496 z496
  obtain ⟨o497, rfl, N496q, e496, p498⟩ := hQ496
  have N496 := Fr.app N493 N496q
  obtain ⟨_, _, ⟨T499, L499, k499, n499⟩, -, X499, ⟨Lc499, hQ499, l499, y499, z499⟩, st499⟩ := Jvm.LawKit.callS X496 hx (y := (⟨"com/example/planwright/planwright/model/DecimalsIsDigitsPinLaw", "pick", "(II)C"⟩ : MethodName)) hown (mvT hZ (w_1 hw)) (mvT hZ (w_2 hw)) (mvT hZ (w_3 hw)) (mvT hZ (w_4 hw)) (by decide) (backOf (W := 0) (rmPk l Z a0 hw G ST [] (p1 &&& (65535 : Int32)) (((p2.toUInt32 >>> ((2 : Int32) &&& 31).toUInt32).toInt32) &&& (1 : Int32)) h0 n0 X00 ) hZ (w_4 hw) (w_3 hw) (by decide) (by decide)) (g := (mkF m 38 #[xvi p0, xvi p1, xvi p2, xvi p3, xvi p4, xvi o494, xvi o497, xun, xun, xun, xun, xun, xun, xun] [xwi (((p2.toUInt32 >>> ((2 : Int32) &&& 31).toUInt32).toInt32) &&& (1 : Int32)), xwi (p1 &&& (65535 : Int32))])) rfl (by rw [hml]; rfl) (argsL := [(.int (p1 &&& (65535 : Int32))), (.int (((p2.toUInt32 >>> ((2 : Int32) &&& 31).toUInt32).toInt32) &&& (1 : Int32)))]) (rest := []) (lenOf pd_14 rfl) rfl (by show 2 * 0 + _ ≤ _; exact Nat.le_of_eq rfl) (hb hby at_38) (fun _ _ => ⟨rfl, e496, (by decide : 0 + 0 ≤ _), (by decide : 0 + 0 ≤ _)⟩)
  dsimp only [Pt.U, Pt.locs, Pt.cells, Pt.slots] at X499 l499 y499 z499 st499 hQ499
  subst l499 y499 z499
  obtain ⟨o500, rfl, N499q, e499, p501⟩ := hQ499
  have N499 := Fr.app N496 N499q
  obtain ⟨_, _, ⟨T502, L502, k502, n502⟩, -, X502, ⟨Lc502, hQ502, l502, y502, z502⟩, st502⟩ := Jvm.LawKit.callS X499 hx (y := (⟨"com/example/planwright/planwright/model/DecimalsIsDigitsPinLaw", "pick", "(II)C"⟩ : MethodName)) hown (mvT hZ (w_1 hw)) (mvT hZ (w_2 hw)) (mvT hZ (w_3 hw)) (mvT hZ (w_4 hw)) (by decide) (backOf (W := 0) (rmPk l Z a0 hw G ST [] (((p1.toUInt32 >>> ((16 : Int32) &&& 31).toUInt32).toInt32) &&& (65535 : Int32)) (((p2.toUInt32 >>> ((3 : Int32) &&& 31).toUInt32).toInt32) &&& (1 : Int32)) h0 n0 X00 ) hZ (w_4 hw) (w_3 hw) (by decide) (by decide)) (g := (mkF m 55 #[xvi p0, xvi p1, xvi p2, xvi p3, xvi p4, xvi o494, xvi o497, xvi o500, xun, xun, xun, xun, xun, xun] [xwi (((p2.toUInt32 >>> ((3 : Int32) &&& 31).toUInt32).toInt32) &&& (1 : Int32)), xwi (((p1.toUInt32 >>> ((16 : Int32) &&& 31).toUInt32).toInt32) &&& (65535 : Int32))])) rfl (by rw [hml]; rfl) (argsL := [(.int (((p1.toUInt32 >>> ((16 : Int32) &&& 31).toUInt32).toInt32) &&& (65535 : Int32))), (.int (((p2.toUInt32 >>> ((3 : Int32) &&& 31).toUInt32).toInt32) &&& (1 : Int32)))]) (rest := []) (lenOf pd_14 rfl) rfl (by show 2 * 0 + _ ≤ _; exact Nat.le_of_eq rfl) (hb hby at_55) (fun _ _ => ⟨rfl, e499, (by decide : 0 + 0 ≤ _), (by decide : 0 + 0 ≤ _)⟩)
  dsimp only [Pt.U, Pt.locs, Pt.cells, Pt.slots] at X502 l502 y502 z502 st502 hQ502
  subst l502 y502 z502
  obtain ⟨o503, rfl, N502q, e502, p504⟩ := hQ502
  have N502 := Fr.app N499 N502q
  obtain ⟨sN, e_sN⟩ : ∃ z, z = ((p3 &&& (2147483647 : Int32)) % (5 : Int32)) := ⟨_, rfl⟩
  obtain ⟨eN, e_eN⟩ : ∃ z, z = ((p4 &&& (2147483647 : Int32)) % (5 : Int32)) := ⟨_, rfl⟩
  have hs5 : own_f5 sN := by rw [e_sN]; exact own_mod5 _
  have he5 : own_f5 eN := by rw [e_eN]; exact own_mod5 _
  obtain ⟨T505, h505, k505, X505, e505, E505, A505, st505⟩ := newP (aty := .char) X502 hx hZ (w_6 hw) e502 (g := (mkF m 78 #[xvi p0, xvi p1, xvi p2, xvi p3, xvi p4, xvi o494, xvi o497, xvi o500, xvi o503, xvi sN, xvi eN, xun, xun, xun] [xwi (4 : Int32)])) rfl (hb hby at_78) rfl (by decide) (cap := 4) (by decide) (by decide) (by decide) (by decide)
  obtain ⟨b505, g505⟩ : ∃ z, z = h0.size := ⟨_, rfl⟩
  rw [← g505] at A505 st505
  have V505 : Arv Z h505 b505 k505 .char (4 : Int32) [(.int (0 : Int32)), (.int (0 : Int32)), (.int (0 : Int32)), (.int (0 : Int32))] (.int (0 : Int32)) := (Arv.new A505 (by decide)).pad (pad_rep [] (.int (0 : Int32)) 4)
  obtain ⟨cl506, Ar506, q506, S506, M506, H506, G506⟩ := id V505
  have in506 : ¬ ((0 : Int32) < 0 ∨ cl506.slots.size ≤ ((0 : Int32)).toNatClampNeg) := inb_of S506 ⟨by decide, by decide⟩
  obtain ⟨T507, h507, X507, e507, W507, st507⟩ := stC X505 hx hZ e505 Ar506 (j := (0 : Int32)) in506 (g := (mkF m 84 #[xvi p0, xvi p1, xvi p2, xvi p3, xvi p4, xvi o494, xvi o497, xvi o500, xvi o503, xvi sN, xvi eN, xun, xun, xun] [xwi o494, xwi (0 : Int32), xwr b505, xwr b505])) rfl rfl (hb hby at_84)
  have V507 : Arv Z h507 b505 k505 .char (4 : Int32) [(.int o494), (.int (0 : Int32)), (.int (0 : Int32)), (.int (0 : Int32))] (.int (0 : Int32)) := by have q := Arv.set Ar506 q506 S506 M506 H506 G506 (fits_nar_char _) W507 0 rfl (Nat.le_of_ble_eq_true rfl); rw [own_nar16 p495] at q; exact q
  have N507 := Fr.snoc X507 N502 (Nat.le_trans Z0 (Nat.le_trans (Nat.le_refl _) (Nat.le_of_eq g505.symm)))
  obtain ⟨cl508, Ar508, q508, S508, M508, H508, G508⟩ := id V507
  have in508 : ¬ ((1 : Int32) < 0 ∨ cl508.slots.size ≤ ((1 : Int32)).toNatClampNeg) := inb_of S508 ⟨by decide, by decide⟩
  obtain ⟨T509, h509, X509, e509, W509, st509⟩ := stC X507 hx hZ e507 Ar508 (j := (1 : Int32)) in508 (g := (mkF m 89 #[xvi p0, xvi p1, xvi p2, xvi p3, xvi p4, xvi o494, xvi o497, xvi o500, xvi o503, xvi sN, xvi eN, xun, xun, xun] [xwi o497, xwi (1 : Int32), xwr b505, xwr b505])) rfl rfl (hb hby at_89)
  have V509 : Arv Z h509 b505 k505 .char (4 : Int32) [(.int o494), (.int o497), (.int (0 : Int32)), (.int (0 : Int32))] (.int (0 : Int32)) := by have q := Arv.set Ar508 q508 S508 M508 H508 G508 (fits_nar_char _) W509 1 rfl (Nat.le_of_ble_eq_true rfl); rw [own_nar16 p498] at q; exact q
  have N509 := Fr.snoc X509 N507 (Nat.le_trans Z0 (Nat.le_trans (Nat.le_refl _) (Nat.le_of_eq g505.symm)))
  obtain ⟨cl510, Ar510, q510, S510, M510, H510, G510⟩ := id V509
  have in510 : ¬ ((2 : Int32) < 0 ∨ cl510.slots.size ≤ ((2 : Int32)).toNatClampNeg) := inb_of S510 ⟨by decide, by decide⟩
  obtain ⟨T511, h511, X511, e511, W511, st511⟩ := stC X509 hx hZ e509 Ar510 (j := (2 : Int32)) in510 (g := (mkF m 94 #[xvi p0, xvi p1, xvi p2, xvi p3, xvi p4, xvi o494, xvi o497, xvi o500, xvi o503, xvi sN, xvi eN, xun, xun, xun] [xwi o500, xwi (2 : Int32), xwr b505, xwr b505])) rfl rfl (hb hby at_94)
  have V511 : Arv Z h511 b505 k505 .char (4 : Int32) [(.int o494), (.int o497), (.int o500), (.int (0 : Int32))] (.int (0 : Int32)) := by have q := Arv.set Ar510 q510 S510 M510 H510 G510 (fits_nar_char _) W511 2 rfl (Nat.le_of_ble_eq_true rfl); rw [own_nar16 p501] at q; exact q
  have N511 := Fr.snoc X511 N509 (Nat.le_trans Z0 (Nat.le_trans (Nat.le_refl _) (Nat.le_of_eq g505.symm)))
  obtain ⟨cl512, Ar512, q512, S512, M512, H512, G512⟩ := id V511
  have in512 : ¬ ((3 : Int32) < 0 ∨ cl512.slots.size ≤ ((3 : Int32)).toNatClampNeg) := inb_of S512 ⟨by decide, by decide⟩
  obtain ⟨T513, h513, X513, e513, W513, st513⟩ := stC X511 hx hZ e511 Ar512 (j := (3 : Int32)) in512 (g := (mkF m 99 #[xvi p0, xvi p1, xvi p2, xvi p3, xvi p4, xvi o494, xvi o497, xvi o500, xvi o503, xvi sN, xvi eN, xun, xun, xun] [xwi o503, xwi (3 : Int32), xwr b505, xwr b505])) rfl rfl (hb hby at_99)
  have V513 : Arv Z h513 b505 k505 .char (4 : Int32) [(.int o494), (.int o497), (.int o500), (.int o503)] (.int (0 : Int32)) := by have q := Arv.set Ar512 q512 S512 M512 H512 G512 (fits_nar_char _) W513 3 rfl (Nat.le_of_ble_eq_true rfl); rw [own_nar16 p504] at q; exact q
  have N513 := Fr.snoc X513 N511 (Nat.le_trans Z0 (Nat.le_trans (Nat.le_refl _) (Nat.le_of_eq g505.symm)))
  obtain ⟨T514, h514, X514, e514, E514, A514, D514, -, st514⟩ := newO X513 hx hZ hown (w_7 hw) (w_8 hw) (w_9 hw) e513 (g := (mkF m 102 #[xvi p0, xvi p1, xvi p2, xvi p3, xvi p4, xvi o494, xvi o497, xvi o500, xvi o503, xvi sN, xvi eN, xvr b505, xun, xun] [])) rfl (hb hby at_102) (by decide) (by decide)
  obtain ⟨b514, g514⟩ : ∃ z, z = h513.size := ⟨_, rfl⟩
  rw [← g514] at A514 D514 st514
  have Fb514_coder : Fld Z h514 b514 "java/lang/String" "coder" "B" (.int (0 : Int32)) := D514 (Or.inr (w_33 hw)) (ty := .byte) (by decide)
  have Fb514_value : Fld Z h514 b514 "java/lang/String" "value" "[B" .null := D514 (Or.inr (w_35 hw)) (ty := (.array .byte)) (by decide)
  have f515 := (V513.ext E514)
  have Ol516 : Old Z n0 h514 := ((((((X00.ext E505).wr W507 (Nat.le_trans Z0 (Nat.le_trans (Nat.le_refl _) (Nat.le_of_eq g505.symm)))).wr W509 (Nat.le_trans Z0 (Nat.le_trans (Nat.le_refl _) (Nat.le_of_eq g505.symm)))).wr W511 (Nat.le_trans Z0 (Nat.le_trans (Nat.le_refl _) (Nat.le_of_eq g505.symm)))).wr W513 (Nat.le_trans Z0 (Nat.le_trans (Nat.le_refl _) (Nat.le_of_eq g505.symm)))).ext E514)
  obtain ⟨_, _, ⟨T517, L517, k517, n517⟩, -, X517, ⟨Lc517, hQ517, l517, y517, z517⟩, st517⟩ := X514.specialBack hx (y := (⟨"java/lang/String", "<init>", "([C)V"⟩ : MethodName)) rfl hown (mvT hZ (w_10 hw)) (mvT hZ (w_11 hw)) (mvT hZ (w_12 hw)) (by decide) (backOf (W := 1) (rmI1 l Z a0 hw G ST [] b514 b505 k505 o494 o497 o500 o503 h514 n0 Ol516 A514 Fb514_value Fb514_coder (Nat.le_trans Z0 (Nat.le_trans (Nat.le_trans (Nat.le_trans (Nat.le_trans (Nat.le_trans E505.1 (Nat.le_of_eq W507.size.symm)) (Nat.le_of_eq W509.size.symm)) (Nat.le_of_eq W511.size.symm)) (Nat.le_of_eq W513.size.symm)) (Nat.le_of_eq g514.symm))) f515 (Ne.symm (Nat.ne_of_lt (Nat.lt_of_lt_of_le (Nat.lt_of_lt_of_le V505.lt (Nat.le_trans (Nat.le_trans (Nat.le_trans (Nat.le_of_eq W507.size.symm) (Nat.le_of_eq W509.size.symm)) (Nat.le_of_eq W511.size.symm)) (Nat.le_of_eq W513.size.symm))) (Nat.le_of_eq g514.symm)))) p495 p498 p501 p504) hZ (w_12 hw) (w_9 hw) (by decide) (by decide)) (g := (mkF m 108 #[xvi p0, xvi p1, xvi p2, xvi p3, xvi p4, xvi o494, xvi o497, xvi o500, xvi o503, xvi sN, xvi eN, xvr b505, xun, xun] [xwr b505, xwr b514, xwr b514])) rfl (by rw [hml]; rfl) (Steps.refl _) (a := b514) (argsL := [(.ref b505)]) (rest := [(.ref b514)]) (lenOf pd_15 rfl) rfl (by show 2 * 0 + _ ≤ _; exact Nat.le_of_eq rfl) (hb hby at_108) (fun _ _ => ⟨rfl, e514, (by decide : 2 + 2 ≤ _), (by decide : 8 + 12 ≤ _)⟩)
  dsimp only [Pt.U, Pt.locs, Pt.cells, Pt.slots] at X517 l517 y517 z517 st517 hQ517
  subst l517 y517 z517
  obtain ⟨hp517, e517⟩ : ∃ z, T517.heap = z := ⟨_, rfl⟩
  rw [e517] at hQ517
  obtain ⟨rfl, N517q, K517, p518⟩ := hQ517
  have N517 := Fr.app N513 N517q
  have Ol519 : Old Z n0 hp517 := (Ol516.keep K517 (allS (Nat.le_trans Z0 (Nat.le_trans (Nat.le_trans (Nat.le_trans (Nat.le_trans (Nat.le_trans E505.1 (Nat.le_of_eq W507.size.symm)) (Nat.le_of_eq W509.size.symm)) (Nat.le_of_eq W511.size.symm)) (Nat.le_of_eq W513.size.symm)) (Nat.le_of_eq g514.symm))) all0))
  obtain ⟨_, _, ⟨T520, L520, k520, n520⟩, -, X520, ⟨Lc520, hQ520, l520, y520, z520⟩, st520⟩ := Jvm.LawKit.callS X517 hx (y := (⟨"com/example/planwright/planwright/model/DecimalsIsDigitsPinLaw", "ok", "(CIII)Z"⟩ : MethodName)) hown (mvT hZ (w_36 hw)) (mvT hZ (w_37 hw)) (mvT hZ (w_3 hw)) (mvT hZ (w_38 hw)) (by decide) (backOf (W := 0) (rmOk l Z a0 hw G ST [] o494 (0 : Int32) sN eN hp517 n0 Ol519 p495) hZ (w_38 hw) (w_3 hw) (by decide) (by decide)) (g := (mkF m 120 #[xvi p0, xvi p1, xvi p2, xvi p3, xvi p4, xvi o494, xvi o497, xvi o500, xvi o503, xvi sN, xvi eN, xvr b505, xvr b514, xun] [xwi eN, xwi sN, xwi (0 : Int32), xwi o494])) rfl (by rw [hml]; rfl) (argsL := [(.int o494), (.int (0 : Int32)), (.int sN), (.int eN)]) (rest := []) (lenOf pd_16 rfl) rfl (by show 2 * 0 + _ ≤ _; exact Nat.le_of_eq rfl) (hb hby at_120) (fun _ _ => ⟨rfl, e517, (by decide : 4 + 0 ≤ _), (by decide : 20 + 0 ≤ _)⟩)
  dsimp only [Pt.U, Pt.locs, Pt.cells, Pt.slots] at X520 l520 y520 z520 st520 hQ520
  subst l520 y520 z520
  obtain ⟨o521, rfl, N520q, e520, p522⟩ := hQ520
  have N520 := Fr.app N517 N520q
  have c523 : ∀ t, Sx p e below T520 m 123 #[xvi p0, xvi p1, xvi p2, xvi p3, xvi p4, xvi o494, xvi o497, xvi o500, xvi o503, xvi sN, xvi eN, xvr b505, xvr b514, xun] [xwi o521] t → TG t := fun t k => pre0 t (by
    refine y_iloadN X0 hx 1 (hb hby at_0) rfl rfl ?_
    refine X0.ldcInt hx hown (mvT hZ (w_0 hw)) (g := (mkF m 1 #[xvi p0, xvi p1, xvi p2, xvi p3, xvi p4, xun, xun, xun, xun, xun, xun, xun, xun, xun] [xwi p0])) rfl (hb hby at_1) _ ?_
    show Sx p e below s₁ m 3 #[xvi p0, xvi p1, xvi p2, xvi p3, xvi p4, xun, xun, xun, xun, xun, xun, xun, xun, xun] [xwi (65535 : Int32), xwi p0] _
    refine y_iand X0 hx 4 (hb hby at_3) rfl ?_
    refine y_iloadN X0 hx 5 (hb hby at_4) rfl rfl ?_
    refine y_iconst X0 hx (1 : Int32) 6 (hb hby at_5) rfl rfl ?_
    refine y_iand X0 hx 7 (hb hby at_6) rfl ?_
    refine st493 _ ?_
    show Sx p e below T493 m 10 #[xvi p0, xvi p1, xvi p2, xvi p3, xvi p4, xun, xun, xun, xun, xun, xun, xun, xun, xun] [xwi o494] _
    refine XS.istore X493.here hx rfl (hb hby at_10) rfl (l' := #[xvi p0, xvi p1, xvi p2, xvi p3, xvi p4, xvi o494, xun, xun, xun, xun, xun, xun, xun, xun]) rfl ?_
    show Sx p e below T493 m 12 #[xvi p0, xvi p1, xvi p2, xvi p3, xvi p4, xvi o494, xun, xun, xun, xun, xun, xun, xun, xun] [] _
    refine y_iloadN X493 hx 13 (hb hby at_12) rfl rfl ?_
    refine y_bipush X493 hx (16 : Int32) 15 (hb hby at_13) rfl rfl ?_
    refine XS.iushr X493.here hx rfl (hb hby at_15) rfl ?_
    show Sx p e below T493 m 16 #[xvi p0, xvi p1, xvi p2, xvi p3, xvi p4, xvi o494, xun, xun, xun, xun, xun, xun, xun, xun] [xwi ((p0.toUInt32 >>> ((16 : Int32) &&& 31).toUInt32).toInt32)] _
    refine X493.ldcInt hx hown (mvT hZ (w_0 hw)) (g := (mkF m 16 #[xvi p0, xvi p1, xvi p2, xvi p3, xvi p4, xvi o494, xun, xun, xun, xun, xun, xun, xun, xun] [xwi ((p0.toUInt32 >>> ((16 : Int32) &&& 31).toUInt32).toInt32)])) rfl (hb hby at_16) _ ?_
    show Sx p e below T493 m 18 #[xvi p0, xvi p1, xvi p2, xvi p3, xvi p4, xvi o494, xun, xun, xun, xun, xun, xun, xun, xun] [xwi (65535 : Int32), xwi ((p0.toUInt32 >>> ((16 : Int32) &&& 31).toUInt32).toInt32)] _
    refine y_iand X493 hx 19 (hb hby at_18) rfl ?_
    refine y_iloadN X493 hx 20 (hb hby at_19) rfl rfl ?_
    refine y_iconst X493 hx (1 : Int32) 21 (hb hby at_20) rfl rfl ?_
    refine XS.iushr X493.here hx rfl (hb hby at_21) rfl ?_
    show Sx p e below T493 m 22 #[xvi p0, xvi p1, xvi p2, xvi p3, xvi p4, xvi o494, xun, xun, xun, xun, xun, xun, xun, xun] [xwi ((p2.toUInt32 >>> ((1 : Int32) &&& 31).toUInt32).toInt32), xwi (((p0.toUInt32 >>> ((16 : Int32) &&& 31).toUInt32).toInt32) &&& (65535 : Int32))] _
    refine y_iconst X493 hx (1 : Int32) 23 (hb hby at_22) rfl rfl ?_
    refine y_iand X493 hx 24 (hb hby at_23) rfl ?_
    refine st496 _ ?_
    show Sx p e below T496 m 27 #[xvi p0, xvi p1, xvi p2, xvi p3, xvi p4, xvi o494, xun, xun, xun, xun, xun, xun, xun, xun] [xwi o497] _
    refine XS.istore X496.here hx rfl (hb hby at_27) rfl (l' := #[xvi p0, xvi p1, xvi p2, xvi p3, xvi p4, xvi o494, xvi o497, xun, xun, xun, xun, xun, xun, xun]) rfl ?_
    show Sx p e below T496 m 29 #[xvi p0, xvi p1, xvi p2, xvi p3, xvi p4, xvi o494, xvi o497, xun, xun, xun, xun, xun, xun, xun] [] _
    refine y_iloadN X496 hx 30 (hb hby at_29) rfl rfl ?_
    refine X496.ldcInt hx hown (mvT hZ (w_0 hw)) (g := (mkF m 30 #[xvi p0, xvi p1, xvi p2, xvi p3, xvi p4, xvi o494, xvi o497, xun, xun, xun, xun, xun, xun, xun] [xwi p1])) rfl (hb hby at_30) _ ?_
    show Sx p e below T496 m 32 #[xvi p0, xvi p1, xvi p2, xvi p3, xvi p4, xvi o494, xvi o497, xun, xun, xun, xun, xun, xun, xun] [xwi (65535 : Int32), xwi p1] _
    refine y_iand X496 hx 33 (hb hby at_32) rfl ?_
    refine y_iloadN X496 hx 34 (hb hby at_33) rfl rfl ?_
    refine y_iconst X496 hx (2 : Int32) 35 (hb hby at_34) rfl rfl ?_
    refine XS.iushr X496.here hx rfl (hb hby at_35) rfl ?_
    show Sx p e below T496 m 36 #[xvi p0, xvi p1, xvi p2, xvi p3, xvi p4, xvi o494, xvi o497, xun, xun, xun, xun, xun, xun, xun] [xwi ((p2.toUInt32 >>> ((2 : Int32) &&& 31).toUInt32).toInt32), xwi (p1 &&& (65535 : Int32))] _
    refine y_iconst X496 hx (1 : Int32) 37 (hb hby at_36) rfl rfl ?_
    refine y_iand X496 hx 38 (hb hby at_37) rfl ?_
    refine st499 _ ?_
    show Sx p e below T499 m 41 #[xvi p0, xvi p1, xvi p2, xvi p3, xvi p4, xvi o494, xvi o497, xun, xun, xun, xun, xun, xun, xun] [xwi o500] _
    refine XS.istore X499.here hx rfl (hb hby at_41) rfl (l' := #[xvi p0, xvi p1, xvi p2, xvi p3, xvi p4, xvi o494, xvi o497, xvi o500, xun, xun, xun, xun, xun, xun]) rfl ?_
    show Sx p e below T499 m 43 #[xvi p0, xvi p1, xvi p2, xvi p3, xvi p4, xvi o494, xvi o497, xvi o500, xun, xun, xun, xun, xun, xun] [] _
    refine y_iloadN X499 hx 44 (hb hby at_43) rfl rfl ?_
    refine y_bipush X499 hx (16 : Int32) 46 (hb hby at_44) rfl rfl ?_
    refine XS.iushr X499.here hx rfl (hb hby at_46) rfl ?_
    show Sx p e below T499 m 47 #[xvi p0, xvi p1, xvi p2, xvi p3, xvi p4, xvi o494, xvi o497, xvi o500, xun, xun, xun, xun, xun, xun] [xwi ((p1.toUInt32 >>> ((16 : Int32) &&& 31).toUInt32).toInt32)] _
    refine X499.ldcInt hx hown (mvT hZ (w_0 hw)) (g := (mkF m 47 #[xvi p0, xvi p1, xvi p2, xvi p3, xvi p4, xvi o494, xvi o497, xvi o500, xun, xun, xun, xun, xun, xun] [xwi ((p1.toUInt32 >>> ((16 : Int32) &&& 31).toUInt32).toInt32)])) rfl (hb hby at_47) _ ?_
    show Sx p e below T499 m 49 #[xvi p0, xvi p1, xvi p2, xvi p3, xvi p4, xvi o494, xvi o497, xvi o500, xun, xun, xun, xun, xun, xun] [xwi (65535 : Int32), xwi ((p1.toUInt32 >>> ((16 : Int32) &&& 31).toUInt32).toInt32)] _
    refine y_iand X499 hx 50 (hb hby at_49) rfl ?_
    refine y_iloadN X499 hx 51 (hb hby at_50) rfl rfl ?_
    refine y_iconst X499 hx (3 : Int32) 52 (hb hby at_51) rfl rfl ?_
    refine XS.iushr X499.here hx rfl (hb hby at_52) rfl ?_
    show Sx p e below T499 m 53 #[xvi p0, xvi p1, xvi p2, xvi p3, xvi p4, xvi o494, xvi o497, xvi o500, xun, xun, xun, xun, xun, xun] [xwi ((p2.toUInt32 >>> ((3 : Int32) &&& 31).toUInt32).toInt32), xwi (((p1.toUInt32 >>> ((16 : Int32) &&& 31).toUInt32).toInt32) &&& (65535 : Int32))] _
    refine y_iconst X499 hx (1 : Int32) 54 (hb hby at_53) rfl rfl ?_
    refine y_iand X499 hx 55 (hb hby at_54) rfl ?_
    refine st502 _ ?_
    show Sx p e below T502 m 58 #[xvi p0, xvi p1, xvi p2, xvi p3, xvi p4, xvi o494, xvi o497, xvi o500, xun, xun, xun, xun, xun, xun] [xwi o503] _
    refine XS.istore X502.here hx rfl (hb hby at_58) rfl (l' := #[xvi p0, xvi p1, xvi p2, xvi p3, xvi p4, xvi o494, xvi o497, xvi o500, xvi o503, xun, xun, xun, xun, xun]) rfl ?_
    show Sx p e below T502 m 60 #[xvi p0, xvi p1, xvi p2, xvi p3, xvi p4, xvi o494, xvi o497, xvi o500, xvi o503, xun, xun, xun, xun, xun] [] _
    refine y_iloadN X502 hx 61 (hb hby at_60) rfl rfl ?_
    refine X502.ldcInt hx hown (mvT hZ (w_5 hw)) (g := (mkF m 61 #[xvi p0, xvi p1, xvi p2, xvi p3, xvi p4, xvi o494, xvi o497, xvi o500, xvi o503, xun, xun, xun, xun, xun] [xwi p3])) rfl (hb hby at_61) _ ?_
    show Sx p e below T502 m 63 #[xvi p0, xvi p1, xvi p2, xvi p3, xvi p4, xvi o494, xvi o497, xvi o500, xvi o503, xun, xun, xun, xun, xun] [xwi (2147483647 : Int32), xwi p3] _
    refine y_iand X502 hx 64 (hb hby at_63) rfl ?_
    refine y_iconst X502 hx (5 : Int32) 65 (hb hby at_64) rfl rfl ?_
    refine iremM X502 hx rfl (hb hby at_65) rfl (by decide) ?_
    show Sx p e below T502 m 66 #[xvi p0, xvi p1, xvi p2, xvi p3, xvi p4, xvi o494, xvi o497, xvi o500, xvi o503, xun, xun, xun, xun, xun] [xwi ((p3 &&& (2147483647 : Int32)) % (5 : Int32))] _
    rw [← e_sN]
    refine XS.istore X502.here hx rfl (hb hby at_66) rfl (l' := #[xvi p0, xvi p1, xvi p2, xvi p3, xvi p4, xvi o494, xvi o497, xvi o500, xvi o503, xvi sN, xun, xun, xun, xun]) rfl ?_
    show Sx p e below T502 m 68 #[xvi p0, xvi p1, xvi p2, xvi p3, xvi p4, xvi o494, xvi o497, xvi o500, xvi o503, xvi sN, xun, xun, xun, xun] [] _
    refine y_iload X502 hx 70 (hb hby at_68) rfl rfl ?_
    refine X502.ldcInt hx hown (mvT hZ (w_5 hw)) (g := (mkF m 70 #[xvi p0, xvi p1, xvi p2, xvi p3, xvi p4, xvi o494, xvi o497, xvi o500, xvi o503, xvi sN, xun, xun, xun, xun] [xwi p4])) rfl (hb hby at_70) _ ?_
    show Sx p e below T502 m 72 #[xvi p0, xvi p1, xvi p2, xvi p3, xvi p4, xvi o494, xvi o497, xvi o500, xvi o503, xvi sN, xun, xun, xun, xun] [xwi (2147483647 : Int32), xwi p4] _
    refine y_iand X502 hx 73 (hb hby at_72) rfl ?_
    refine y_iconst X502 hx (5 : Int32) 74 (hb hby at_73) rfl rfl ?_
    refine iremM X502 hx rfl (hb hby at_74) rfl (by decide) ?_
    show Sx p e below T502 m 75 #[xvi p0, xvi p1, xvi p2, xvi p3, xvi p4, xvi o494, xvi o497, xvi o500, xvi o503, xvi sN, xun, xun, xun, xun] [xwi ((p4 &&& (2147483647 : Int32)) % (5 : Int32))] _
    rw [← e_eN]
    refine XS.istore X502.here hx rfl (hb hby at_75) rfl (l' := #[xvi p0, xvi p1, xvi p2, xvi p3, xvi p4, xvi o494, xvi o497, xvi o500, xvi o503, xvi sN, xvi eN, xun, xun, xun]) rfl ?_
    show Sx p e below T502 m 77 #[xvi p0, xvi p1, xvi p2, xvi p3, xvi p4, xvi o494, xvi o497, xvi o500, xvi o503, xvi sN, xvi eN, xun, xun, xun] [] _
    refine y_iconst X502 hx (4 : Int32) 78 (hb hby at_77) rfl rfl ?_
    refine st505 _ ?_
    show Sx p e below T505 m 80 #[xvi p0, xvi p1, xvi p2, xvi p3, xvi p4, xvi o494, xvi o497, xvi o500, xvi o503, xvi sN, xvi eN, xun, xun, xun] [xwr b505] _
    refine y_dup X505 hx 81 (hb hby at_80) rfl rfl ?_
    refine y_iconst X505 hx (0 : Int32) 82 (hb hby at_81) rfl rfl ?_
    refine y_iload X505 hx 84 (hb hby at_82) rfl rfl ?_
    refine st507 _ ?_
    show Sx p e below T507 m 85 #[xvi p0, xvi p1, xvi p2, xvi p3, xvi p4, xvi o494, xvi o497, xvi o500, xvi o503, xvi sN, xvi eN, xun, xun, xun] [xwr b505] _
    refine y_dup X507 hx 86 (hb hby at_85) rfl rfl ?_
    refine y_iconst X507 hx (1 : Int32) 87 (hb hby at_86) rfl rfl ?_
    refine y_iload X507 hx 89 (hb hby at_87) rfl rfl ?_
    refine st509 _ ?_
    show Sx p e below T509 m 90 #[xvi p0, xvi p1, xvi p2, xvi p3, xvi p4, xvi o494, xvi o497, xvi o500, xvi o503, xvi sN, xvi eN, xun, xun, xun] [xwr b505] _
    refine y_dup X509 hx 91 (hb hby at_90) rfl rfl ?_
    refine y_iconst X509 hx (2 : Int32) 92 (hb hby at_91) rfl rfl ?_
    refine y_iload X509 hx 94 (hb hby at_92) rfl rfl ?_
    refine st511 _ ?_
    show Sx p e below T511 m 95 #[xvi p0, xvi p1, xvi p2, xvi p3, xvi p4, xvi o494, xvi o497, xvi o500, xvi o503, xvi sN, xvi eN, xun, xun, xun] [xwr b505] _
    refine y_dup X511 hx 96 (hb hby at_95) rfl rfl ?_
    refine y_iconst X511 hx (3 : Int32) 97 (hb hby at_96) rfl rfl ?_
    refine y_iload X511 hx 99 (hb hby at_97) rfl rfl ?_
    refine st513 _ ?_
    show Sx p e below T513 m 100 #[xvi p0, xvi p1, xvi p2, xvi p3, xvi p4, xvi o494, xvi o497, xvi o500, xvi o503, xvi sN, xvi eN, xun, xun, xun] [xwr b505] _
    refine XS.astore X513.here hx rfl (hb hby at_100) rfl rfl (l' := #[xvi p0, xvi p1, xvi p2, xvi p3, xvi p4, xvi o494, xvi o497, xvi o500, xvi o503, xvi sN, xvi eN, xvr b505, xun, xun]) rfl ?_
    show Sx p e below T513 m 102 #[xvi p0, xvi p1, xvi p2, xvi p3, xvi p4, xvi o494, xvi o497, xvi o500, xvi o503, xvi sN, xvi eN, xvr b505, xun, xun] [] _
    refine st514 _ ?_
    show Sx p e below T514 m 105 #[xvi p0, xvi p1, xvi p2, xvi p3, xvi p4, xvi o494, xvi o497, xvi o500, xvi o503, xvi sN, xvi eN, xvr b505, xun, xun] [xwr b514] _
    refine y_dup X514 hx 106 (hb hby at_105) rfl rfl ?_
    refine y_aload X514 hx 108 (hb hby at_106) rfl rfl rfl ?_
    refine st517.trans ?_
    show Sx p e below T517 m 111 #[xvi p0, xvi p1, xvi p2, xvi p3, xvi p4, xvi o494, xvi o497, xvi o500, xvi o503, xvi sN, xvi eN, xvr b505, xun, xun] [xwr b514] _
    refine XS.astore X517.here hx rfl (hb hby at_111) rfl rfl (l' := #[xvi p0, xvi p1, xvi p2, xvi p3, xvi p4, xvi o494, xvi o497, xvi o500, xvi o503, xvi sN, xvi eN, xvr b505, xvr b514, xun]) rfl ?_
    show Sx p e below T517 m 113 #[xvi p0, xvi p1, xvi p2, xvi p3, xvi p4, xvi o494, xvi o497, xvi o500, xvi o503, xvi sN, xvi eN, xvr b505, xvr b514, xun] [] _
    refine y_iload X517 hx 115 (hb hby at_113) rfl rfl ?_
    refine y_iconst X517 hx (0 : Int32) 116 (hb hby at_115) rfl rfl ?_
    refine y_iload X517 hx 118 (hb hby at_116) rfl rfl ?_
    refine y_iload X517 hx 120 (hb hby at_118) rfl rfl ?_
    refine st520 _ ?_
    exact k)
  rcases p522 with hk524 | hk524
  · obtain ⟨_, _, ⟨T525, L525, k525, n525⟩, -, X525, ⟨Lc525, hQ525, l525, y525, z525⟩, st525⟩ := Jvm.LawKit.callS X520 hx (y := (⟨"com/example/planwright/planwright/model/DecimalsIsDigitsPinLaw", "ok", "(CIII)Z"⟩ : MethodName)) hown (mvT hZ (w_36 hw)) (mvT hZ (w_37 hw)) (mvT hZ (w_3 hw)) (mvT hZ (w_38 hw)) (by decide) (backOf (W := 0) (rmOk l Z a0 hw G ST [] o497 (1 : Int32) sN eN hp517 n0 Ol519 p498) hZ (w_38 hw) (w_3 hw) (by decide) (by decide)) (g := (mkF m 133 #[xvi p0, xvi p1, xvi p2, xvi p3, xvi p4, xvi o494, xvi o497, xvi o500, xvi o503, xvi sN, xvi eN, xvr b505, xvr b514, xun] [xwi eN, xwi sN, xwi (1 : Int32), xwi o497])) rfl (by rw [hml]; rfl) (argsL := [(.int o497), (.int (1 : Int32)), (.int sN), (.int eN)]) (rest := []) (lenOf pd_16 rfl) rfl (by show 2 * 0 + _ ≤ _; exact Nat.le_of_eq rfl) (hb hby at_133) (fun _ _ => ⟨rfl, e520, (by decide : 4 + 0 ≤ _), (by decide : 20 + 0 ≤ _)⟩)
    dsimp only [Pt.U, Pt.locs, Pt.cells, Pt.slots] at X525 l525 y525 z525 st525 hQ525
    subst l525 y525 z525
    obtain ⟨o526, rfl, N525q, e525, p527⟩ := hQ525
    have N525 := Fr.app N520 N525q
    have c528 : ∀ t, Sx p e below T525 m 136 #[xvi p0, xvi p1, xvi p2, xvi p3, xvi p4, xvi o494, xvi o497, xvi o500, xvi o503, xvi sN, xvi eN, xvr b505, xvr b514, xun] [xwi o526] t → TG t := fun t k => c523 t (by
      rw [hk524.1]
      refine y_ifNo X520 hx 126 (hb hby at_123) (XT.i0_eq_f (by decide)) rfl ?_
      refine y_iload X520 hx 128 (hb hby at_126) rfl rfl ?_
      refine y_iconst X520 hx (1 : Int32) 129 (hb hby at_128) rfl rfl ?_
      refine y_iload X520 hx 131 (hb hby at_129) rfl rfl ?_
      refine y_iload X520 hx 133 (hb hby at_131) rfl rfl ?_
      refine st525 _ ?_
      exact k)
    rcases p527 with hk529 | hk529
    · obtain ⟨_, _, ⟨T530, L530, k530, n530⟩, -, X530, ⟨Lc530, hQ530, l530, y530, z530⟩, st530⟩ := Jvm.LawKit.callS X525 hx (y := (⟨"com/example/planwright/planwright/model/DecimalsIsDigitsPinLaw", "ok", "(CIII)Z"⟩ : MethodName)) hown (mvT hZ (w_36 hw)) (mvT hZ (w_37 hw)) (mvT hZ (w_3 hw)) (mvT hZ (w_38 hw)) (by decide) (backOf (W := 0) (rmOk l Z a0 hw G ST [] o500 (2 : Int32) sN eN hp517 n0 Ol519 p501) hZ (w_38 hw) (w_3 hw) (by decide) (by decide)) (g := (mkF m 146 #[xvi p0, xvi p1, xvi p2, xvi p3, xvi p4, xvi o494, xvi o497, xvi o500, xvi o503, xvi sN, xvi eN, xvr b505, xvr b514, xun] [xwi eN, xwi sN, xwi (2 : Int32), xwi o500])) rfl (by rw [hml]; rfl) (argsL := [(.int o500), (.int (2 : Int32)), (.int sN), (.int eN)]) (rest := []) (lenOf pd_16 rfl) rfl (by show 2 * 0 + _ ≤ _; exact Nat.le_of_eq rfl) (hb hby at_146) (fun _ _ => ⟨rfl, e525, (by decide : 4 + 0 ≤ _), (by decide : 20 + 0 ≤ _)⟩)
      dsimp only [Pt.U, Pt.locs, Pt.cells, Pt.slots] at X530 l530 y530 z530 st530 hQ530
      subst l530 y530 z530
      obtain ⟨o531, rfl, N530q, e530, p532⟩ := hQ530
      have N530 := Fr.app N525 N530q
      have c533 : ∀ t, Sx p e below T530 m 149 #[xvi p0, xvi p1, xvi p2, xvi p3, xvi p4, xvi o494, xvi o497, xvi o500, xvi o503, xvi sN, xvi eN, xvr b505, xvr b514, xun] [xwi o531] t → TG t := fun t k => c528 t (by
        rw [hk529.1]
        refine y_ifNo X525 hx 139 (hb hby at_136) (XT.i0_eq_f (by decide)) rfl ?_
        refine y_iload X525 hx 141 (hb hby at_139) rfl rfl ?_
        refine y_iconst X525 hx (2 : Int32) 142 (hb hby at_141) rfl rfl ?_
        refine y_iload X525 hx 144 (hb hby at_142) rfl rfl ?_
        refine y_iload X525 hx 146 (hb hby at_144) rfl rfl ?_
        refine st530 _ ?_
        exact k)
      rcases p532 with hk534 | hk534
      · obtain ⟨_, _, ⟨T535, L535, k535, n535⟩, -, X535, ⟨Lc535, hQ535, l535, y535, z535⟩, st535⟩ := Jvm.LawKit.callS X530 hx (y := (⟨"com/example/planwright/planwright/model/DecimalsIsDigitsPinLaw", "ok", "(CIII)Z"⟩ : MethodName)) hown (mvT hZ (w_36 hw)) (mvT hZ (w_37 hw)) (mvT hZ (w_3 hw)) (mvT hZ (w_38 hw)) (by decide) (backOf (W := 0) (rmOk l Z a0 hw G ST [] o503 (3 : Int32) sN eN hp517 n0 Ol519 p504) hZ (w_38 hw) (w_3 hw) (by decide) (by decide)) (g := (mkF m 159 #[xvi p0, xvi p1, xvi p2, xvi p3, xvi p4, xvi o494, xvi o497, xvi o500, xvi o503, xvi sN, xvi eN, xvr b505, xvr b514, xun] [xwi eN, xwi sN, xwi (3 : Int32), xwi o503])) rfl (by rw [hml]; rfl) (argsL := [(.int o503), (.int (3 : Int32)), (.int sN), (.int eN)]) (rest := []) (lenOf pd_16 rfl) rfl (by show 2 * 0 + _ ≤ _; exact Nat.le_of_eq rfl) (hb hby at_159) (fun _ _ => ⟨rfl, e530, (by decide : 4 + 0 ≤ _), (by decide : 20 + 0 ≤ _)⟩)
        dsimp only [Pt.U, Pt.locs, Pt.cells, Pt.slots] at X535 l535 y535 z535 st535 hQ535
        subst l535 y535 z535
        obtain ⟨o536, rfl, N535q, e535, p537⟩ := hQ535
        have N535 := Fr.app N530 N535q
        have c538 : ∀ t, Sx p e below T535 m 162 #[xvi p0, xvi p1, xvi p2, xvi p3, xvi p4, xvi o494, xvi o497, xvi o500, xvi o503, xvi sN, xvi eN, xvr b505, xvr b514, xun] [xwi o536] t → TG t := fun t k => c533 t (by
          rw [hk534.1]
          refine y_ifNo X530 hx 152 (hb hby at_149) (XT.i0_eq_f (by decide)) rfl ?_
          refine y_iload X530 hx 154 (hb hby at_152) rfl rfl ?_
          refine y_iconst X530 hx (3 : Int32) 155 (hb hby at_154) rfl rfl ?_
          refine y_iload X530 hx 157 (hb hby at_155) rfl rfl ?_
          refine y_iload X530 hx 159 (hb hby at_157) rfl rfl ?_
          refine st535 _ ?_
          exact k)
        rcases p537 with hk539 | hk539
        · obtain ⟨_, _, ⟨T540, L540, k540, n540⟩, -, X540, ⟨Lc540, hQ540, l540, y540, z540⟩, st540⟩ := Jvm.LawKit.callS X535 hx (y := (⟨"com/example/planwright/planwright/model/Decimals", "isDigits", "(Ljava/lang/String;II)Z"⟩ : MethodName)) hown (mvT hZ (w_39 hw)) (mvT hZ (w_40 hw)) (mvT hZ (w_41 hw)) (mvT hZ (w_42 hw)) (by decide) (backOf (W := 0) (rmDg l Z a0 hw G ST [] b514 o494 o497 o500 o503 sN eN hp517 n0 Ol519 p518.choose_spec.choose_spec.1 p518 p495 p498 p501 p504 hs5 he5) hZ (w_42 hw) (w_41 hw) (by decide) (by decide)) (g := (mkF m 178 #[xvi p0, xvi p1, xvi p2, xvi p3, xvi p4, xvi o494, xvi o497, xvi o500, xvi o503, xvi sN, xvi eN, xvr b505, xvr b514, xvi (1 : Int32)] [xwi eN, xwi sN, xwr b514])) rfl (by rw [hml]; rfl) (argsL := [(.ref b514), (.int sN), (.int eN)]) (rest := []) (lenOf pd_17 rfl) rfl (by show 2 * 0 + _ ≤ _; exact Nat.le_of_eq rfl) (hb hby at_178) (fun _ _ => ⟨rfl, e535, (by decide : 4 + 0 ≤ _), (by decide : 20 + 0 ≤ _)⟩)
          dsimp only [Pt.U, Pt.locs, Pt.cells, Pt.slots] at X540 l540 y540 z540 st540 hQ540
          subst l540 y540 z540
          obtain ⟨o541, rfl, N540q, e540, p542⟩ := hQ540
          have N540 := Fr.app N535 N540q
          have er : o541 = 1 := by rcases p542 with q | q; exact q.1; exact absurd (own_join hk524.2 hk529.2 hk534.2 hk539.2) q.2
          obtain ⟨fs, hr, hrun, hended, hW, hsame⟩ := X540.leave (v := some (.int (1 : Int32))) (fun h => by rw [Bd.returns] at h; cases h)
          refine ⟨_, _, hTG _ (c538 _ ?_), hrun, hended, _, _, rfl, ?_, ⟨_, rfl⟩, hW, hsame.mono (by decide) (by decide)⟩
          · rw [hk539.1]
            refine y_ifNo X535 hx 165 (hb hby at_162) (XT.i0_eq_f (by decide)) rfl ?_
            refine y_iconst X535 hx (1 : Int32) 166 (hb hby at_165) rfl rfl ?_
            refine y_goto X535 hx 170 (hb hby at_166) (by decide) (by decide) ?_
            refine XS.istore X535.here hx rfl (hb hby at_170) rfl (l' := #[xvi p0, xvi p1, xvi p2, xvi p3, xvi p4, xvi o494, xvi o497, xvi o500, xvi o503, xvi sN, xvi eN, xvr b505, xvr b514, xvi (1 : Int32)]) rfl ?_
            show Sx p e below T535 m 172 #[xvi p0, xvi p1, xvi p2, xvi p3, xvi p4, xvi o494, xvi o497, xvi o500, xvi o503, xvi sN, xvi eN, xvr b505, xvr b514, xvi (1 : Int32)] [] _
            refine y_aload X535 hx 174 (hb hby at_172) rfl rfl rfl ?_
            refine y_iload X535 hx 176 (hb hby at_174) rfl rfl ?_
            refine y_iload X535 hx 178 (hb hby at_176) rfl rfl ?_
            refine st540 _ ?_
            show Sx p e below T540 m 181 #[xvi p0, xvi p1, xvi p2, xvi p3, xvi p4, xvi o494, xvi o497, xvi o500, xvi o503, xvi sN, xvi eN, xvr b505, xvr b514, xvi (1 : Int32)] [xwi o541] _
            refine y_iload X540 hx 183 (hb hby at_181) rfl rfl ?_
            refine y_icmpNo X540 hx 186 (hb hby at_183) (XT.ii_ne_f er) rfl ?_
            refine y_iconst X540 hx (1 : Int32) 187 (hb hby at_186) rfl rfl ?_
            refine y_goto X540 hx 191 (hb hby at_187) (by decide) (by decide) ?_
            show Sx p e below T540 m 191 #[xvi p0, xvi p1, xvi p2, xvi p3, xvi p4, xvi o494, xvi o497, xvi o500, xvi o503, xvi sN, xvi eN, xvr b505, xvr b514, xvi (1 : Int32)] [xwi (1 : Int32)] _
            exact retN X540 hx (t := .boolean) Bd.returns (by simp) (hb hby at_191) (hr)
          · show Qrm0 Z G p0 p1 p2 p3 p4 h0 n0 _ T540.heap _
            rw [e540]
            exact ⟨rfl, N540, ((((((((Keep.refl h0 []).ext E505).wr W507 (Or.inr (Nat.le_trans (Nat.le_refl _) (Nat.le_of_eq g505.symm)))).wr W509 (Or.inr (Nat.le_trans (Nat.le_refl _) (Nat.le_of_eq g505.symm)))).wr W511 (Or.inr (Nat.le_trans (Nat.le_refl _) (Nat.le_of_eq g505.symm)))).wr W513 (Or.inr (Nat.le_trans (Nat.le_refl _) (Nat.le_of_eq g505.symm)))).ext E514).trans K517 (allS (Or.inr (Nat.le_trans (Nat.le_trans (Nat.le_trans (Nat.le_trans (Nat.le_trans E505.1 (Nat.le_of_eq W507.size.symm)) (Nat.le_of_eq W509.size.symm)) (Nat.le_of_eq W511.size.symm)) (Nat.le_of_eq W513.size.symm)) (Nat.le_of_eq g514.symm))) all0))⟩
        · obtain ⟨_, _, ⟨T543, L543, k543, n543⟩, -, X543, ⟨Lc543, hQ543, l543, y543, z543⟩, st543⟩ := Jvm.LawKit.callS X535 hx (y := (⟨"com/example/planwright/planwright/model/Decimals", "isDigits", "(Ljava/lang/String;II)Z"⟩ : MethodName)) hown (mvT hZ (w_39 hw)) (mvT hZ (w_40 hw)) (mvT hZ (w_41 hw)) (mvT hZ (w_42 hw)) (by decide) (backOf (W := 0) (rmDg l Z a0 hw G ST [] b514 o494 o497 o500 o503 sN eN hp517 n0 Ol519 p518.choose_spec.choose_spec.1 p518 p495 p498 p501 p504 hs5 he5) hZ (w_42 hw) (w_41 hw) (by decide) (by decide)) (g := (mkF m 178 #[xvi p0, xvi p1, xvi p2, xvi p3, xvi p4, xvi o494, xvi o497, xvi o500, xvi o503, xvi sN, xvi eN, xvr b505, xvr b514, xvi (0 : Int32)] [xwi eN, xwi sN, xwr b514])) rfl (by rw [hml]; rfl) (argsL := [(.ref b514), (.int sN), (.int eN)]) (rest := []) (lenOf pd_17 rfl) rfl (by show 2 * 0 + _ ≤ _; exact Nat.le_of_eq rfl) (hb hby at_178) (fun _ _ => ⟨rfl, e535, (by decide : 4 + 0 ≤ _), (by decide : 20 + 0 ≤ _)⟩)
          dsimp only [Pt.U, Pt.locs, Pt.cells, Pt.slots] at X543 l543 y543 z543 st543 hQ543
          subst l543 y543 z543
          obtain ⟨o544, rfl, N543q, e543, p545⟩ := hQ543
          have N543 := Fr.app N535 N543q
          have er : o544 = 0 := by rcases p545 with q | q; exact absurd (own_part3 q.2) hk539.2; exact q.1
          obtain ⟨fs, hr, hrun, hended, hW, hsame⟩ := X543.leave (v := some (.int (1 : Int32))) (fun h => by rw [Bd.returns] at h; cases h)
          refine ⟨_, _, hTG _ (c538 _ ?_), hrun, hended, _, _, rfl, ?_, ⟨_, rfl⟩, hW, hsame.mono (by decide) (by decide)⟩
          · rw [hk539.1]
            refine y_ifYes X535 hx 169 (hb hby at_162) (XT.i0_eq_t (by decide)) (by decide) (by decide) ?_
            refine y_iconst X535 hx (0 : Int32) 170 (hb hby at_169) rfl rfl ?_
            refine XS.istore X535.here hx rfl (hb hby at_170) rfl (l' := #[xvi p0, xvi p1, xvi p2, xvi p3, xvi p4, xvi o494, xvi o497, xvi o500, xvi o503, xvi sN, xvi eN, xvr b505, xvr b514, xvi (0 : Int32)]) rfl ?_
            show Sx p e below T535 m 172 #[xvi p0, xvi p1, xvi p2, xvi p3, xvi p4, xvi o494, xvi o497, xvi o500, xvi o503, xvi sN, xvi eN, xvr b505, xvr b514, xvi (0 : Int32)] [] _
            refine y_aload X535 hx 174 (hb hby at_172) rfl rfl rfl ?_
            refine y_iload X535 hx 176 (hb hby at_174) rfl rfl ?_
            refine y_iload X535 hx 178 (hb hby at_176) rfl rfl ?_
            refine st543 _ ?_
            show Sx p e below T543 m 181 #[xvi p0, xvi p1, xvi p2, xvi p3, xvi p4, xvi o494, xvi o497, xvi o500, xvi o503, xvi sN, xvi eN, xvr b505, xvr b514, xvi (0 : Int32)] [xwi o544] _
            refine y_iload X543 hx 183 (hb hby at_181) rfl rfl ?_
            refine y_icmpNo X543 hx 186 (hb hby at_183) (XT.ii_ne_f er) rfl ?_
            refine y_iconst X543 hx (1 : Int32) 187 (hb hby at_186) rfl rfl ?_
            refine y_goto X543 hx 191 (hb hby at_187) (by decide) (by decide) ?_
            show Sx p e below T543 m 191 #[xvi p0, xvi p1, xvi p2, xvi p3, xvi p4, xvi o494, xvi o497, xvi o500, xvi o503, xvi sN, xvi eN, xvr b505, xvr b514, xvi (0 : Int32)] [xwi (1 : Int32)] _
            exact retN X543 hx (t := .boolean) Bd.returns (by simp) (hb hby at_191) (hr)
          · show Qrm0 Z G p0 p1 p2 p3 p4 h0 n0 _ T543.heap _
            rw [e543]
            exact ⟨rfl, N543, ((((((((Keep.refl h0 []).ext E505).wr W507 (Or.inr (Nat.le_trans (Nat.le_refl _) (Nat.le_of_eq g505.symm)))).wr W509 (Or.inr (Nat.le_trans (Nat.le_refl _) (Nat.le_of_eq g505.symm)))).wr W511 (Or.inr (Nat.le_trans (Nat.le_refl _) (Nat.le_of_eq g505.symm)))).wr W513 (Or.inr (Nat.le_trans (Nat.le_refl _) (Nat.le_of_eq g505.symm)))).ext E514).trans K517 (allS (Or.inr (Nat.le_trans (Nat.le_trans (Nat.le_trans (Nat.le_trans (Nat.le_trans E505.1 (Nat.le_of_eq W507.size.symm)) (Nat.le_of_eq W509.size.symm)) (Nat.le_of_eq W511.size.symm)) (Nat.le_of_eq W513.size.symm)) (Nat.le_of_eq g514.symm))) all0))⟩
      · obtain ⟨_, _, ⟨T546, L546, k546, n546⟩, -, X546, ⟨Lc546, hQ546, l546, y546, z546⟩, st546⟩ := Jvm.LawKit.callS X530 hx (y := (⟨"com/example/planwright/planwright/model/Decimals", "isDigits", "(Ljava/lang/String;II)Z"⟩ : MethodName)) hown (mvT hZ (w_39 hw)) (mvT hZ (w_40 hw)) (mvT hZ (w_41 hw)) (mvT hZ (w_42 hw)) (by decide) (backOf (W := 0) (rmDg l Z a0 hw G ST [] b514 o494 o497 o500 o503 sN eN hp517 n0 Ol519 p518.choose_spec.choose_spec.1 p518 p495 p498 p501 p504 hs5 he5) hZ (w_42 hw) (w_41 hw) (by decide) (by decide)) (g := (mkF m 178 #[xvi p0, xvi p1, xvi p2, xvi p3, xvi p4, xvi o494, xvi o497, xvi o500, xvi o503, xvi sN, xvi eN, xvr b505, xvr b514, xvi (0 : Int32)] [xwi eN, xwi sN, xwr b514])) rfl (by rw [hml]; rfl) (argsL := [(.ref b514), (.int sN), (.int eN)]) (rest := []) (lenOf pd_17 rfl) rfl (by show 2 * 0 + _ ≤ _; exact Nat.le_of_eq rfl) (hb hby at_178) (fun _ _ => ⟨rfl, e530, (by decide : 4 + 0 ≤ _), (by decide : 20 + 0 ≤ _)⟩)
        dsimp only [Pt.U, Pt.locs, Pt.cells, Pt.slots] at X546 l546 y546 z546 st546 hQ546
        subst l546 y546 z546
        obtain ⟨o547, rfl, N546q, e546, p548⟩ := hQ546
        have N546 := Fr.app N530 N546q
        have er : o547 = 0 := by rcases p548 with q | q; exact absurd (own_part2 q.2) hk534.2; exact q.1
        obtain ⟨fs, hr, hrun, hended, hW, hsame⟩ := X546.leave (v := some (.int (1 : Int32))) (fun h => by rw [Bd.returns] at h; cases h)
        refine ⟨_, _, hTG _ (c533 _ ?_), hrun, hended, _, _, rfl, ?_, ⟨_, rfl⟩, hW, hsame.mono (by decide) (by decide)⟩
        · rw [hk534.1]
          refine y_ifYes X530 hx 169 (hb hby at_149) (XT.i0_eq_t (by decide)) (by decide) (by decide) ?_
          refine y_iconst X530 hx (0 : Int32) 170 (hb hby at_169) rfl rfl ?_
          refine XS.istore X530.here hx rfl (hb hby at_170) rfl (l' := #[xvi p0, xvi p1, xvi p2, xvi p3, xvi p4, xvi o494, xvi o497, xvi o500, xvi o503, xvi sN, xvi eN, xvr b505, xvr b514, xvi (0 : Int32)]) rfl ?_
          show Sx p e below T530 m 172 #[xvi p0, xvi p1, xvi p2, xvi p3, xvi p4, xvi o494, xvi o497, xvi o500, xvi o503, xvi sN, xvi eN, xvr b505, xvr b514, xvi (0 : Int32)] [] _
          refine y_aload X530 hx 174 (hb hby at_172) rfl rfl rfl ?_
          refine y_iload X530 hx 176 (hb hby at_174) rfl rfl ?_
          refine y_iload X530 hx 178 (hb hby at_176) rfl rfl ?_
          refine st546 _ ?_
          show Sx p e below T546 m 181 #[xvi p0, xvi p1, xvi p2, xvi p3, xvi p4, xvi o494, xvi o497, xvi o500, xvi o503, xvi sN, xvi eN, xvr b505, xvr b514, xvi (0 : Int32)] [xwi o547] _
          refine y_iload X546 hx 183 (hb hby at_181) rfl rfl ?_
          refine y_icmpNo X546 hx 186 (hb hby at_183) (XT.ii_ne_f er) rfl ?_
          refine y_iconst X546 hx (1 : Int32) 187 (hb hby at_186) rfl rfl ?_
          refine y_goto X546 hx 191 (hb hby at_187) (by decide) (by decide) ?_
          show Sx p e below T546 m 191 #[xvi p0, xvi p1, xvi p2, xvi p3, xvi p4, xvi o494, xvi o497, xvi o500, xvi o503, xvi sN, xvi eN, xvr b505, xvr b514, xvi (0 : Int32)] [xwi (1 : Int32)] _
          exact retN X546 hx (t := .boolean) Bd.returns (by simp) (hb hby at_191) (hr)
        · show Qrm0 Z G p0 p1 p2 p3 p4 h0 n0 _ T546.heap _
          rw [e546]
          exact ⟨rfl, N546, ((((((((Keep.refl h0 []).ext E505).wr W507 (Or.inr (Nat.le_trans (Nat.le_refl _) (Nat.le_of_eq g505.symm)))).wr W509 (Or.inr (Nat.le_trans (Nat.le_refl _) (Nat.le_of_eq g505.symm)))).wr W511 (Or.inr (Nat.le_trans (Nat.le_refl _) (Nat.le_of_eq g505.symm)))).wr W513 (Or.inr (Nat.le_trans (Nat.le_refl _) (Nat.le_of_eq g505.symm)))).ext E514).trans K517 (allS (Or.inr (Nat.le_trans (Nat.le_trans (Nat.le_trans (Nat.le_trans (Nat.le_trans E505.1 (Nat.le_of_eq W507.size.symm)) (Nat.le_of_eq W509.size.symm)) (Nat.le_of_eq W511.size.symm)) (Nat.le_of_eq W513.size.symm)) (Nat.le_of_eq g514.symm))) all0))⟩
    · obtain ⟨_, _, ⟨T549, L549, k549, n549⟩, -, X549, ⟨Lc549, hQ549, l549, y549, z549⟩, st549⟩ := Jvm.LawKit.callS X525 hx (y := (⟨"com/example/planwright/planwright/model/Decimals", "isDigits", "(Ljava/lang/String;II)Z"⟩ : MethodName)) hown (mvT hZ (w_39 hw)) (mvT hZ (w_40 hw)) (mvT hZ (w_41 hw)) (mvT hZ (w_42 hw)) (by decide) (backOf (W := 0) (rmDg l Z a0 hw G ST [] b514 o494 o497 o500 o503 sN eN hp517 n0 Ol519 p518.choose_spec.choose_spec.1 p518 p495 p498 p501 p504 hs5 he5) hZ (w_42 hw) (w_41 hw) (by decide) (by decide)) (g := (mkF m 178 #[xvi p0, xvi p1, xvi p2, xvi p3, xvi p4, xvi o494, xvi o497, xvi o500, xvi o503, xvi sN, xvi eN, xvr b505, xvr b514, xvi (0 : Int32)] [xwi eN, xwi sN, xwr b514])) rfl (by rw [hml]; rfl) (argsL := [(.ref b514), (.int sN), (.int eN)]) (rest := []) (lenOf pd_17 rfl) rfl (by show 2 * 0 + _ ≤ _; exact Nat.le_of_eq rfl) (hb hby at_178) (fun _ _ => ⟨rfl, e525, (by decide : 4 + 0 ≤ _), (by decide : 20 + 0 ≤ _)⟩)
      dsimp only [Pt.U, Pt.locs, Pt.cells, Pt.slots] at X549 l549 y549 z549 st549 hQ549
      subst l549 y549 z549
      obtain ⟨o550, rfl, N549q, e549, p551⟩ := hQ549
      have N549 := Fr.app N525 N549q
      have er : o550 = 0 := by rcases p551 with q | q; exact absurd (own_part1 q.2) hk529.2; exact q.1
      obtain ⟨fs, hr, hrun, hended, hW, hsame⟩ := X549.leave (v := some (.int (1 : Int32))) (fun h => by rw [Bd.returns] at h; cases h)
      refine ⟨_, _, hTG _ (c528 _ ?_), hrun, hended, _, _, rfl, ?_, ⟨_, rfl⟩, hW, hsame.mono (by decide) (by decide)⟩
      · rw [hk529.1]
        refine y_ifYes X525 hx 169 (hb hby at_136) (XT.i0_eq_t (by decide)) (by decide) (by decide) ?_
        refine y_iconst X525 hx (0 : Int32) 170 (hb hby at_169) rfl rfl ?_
        refine XS.istore X525.here hx rfl (hb hby at_170) rfl (l' := #[xvi p0, xvi p1, xvi p2, xvi p3, xvi p4, xvi o494, xvi o497, xvi o500, xvi o503, xvi sN, xvi eN, xvr b505, xvr b514, xvi (0 : Int32)]) rfl ?_
        show Sx p e below T525 m 172 #[xvi p0, xvi p1, xvi p2, xvi p3, xvi p4, xvi o494, xvi o497, xvi o500, xvi o503, xvi sN, xvi eN, xvr b505, xvr b514, xvi (0 : Int32)] [] _
        refine y_aload X525 hx 174 (hb hby at_172) rfl rfl rfl ?_
        refine y_iload X525 hx 176 (hb hby at_174) rfl rfl ?_
        refine y_iload X525 hx 178 (hb hby at_176) rfl rfl ?_
        refine st549 _ ?_
        show Sx p e below T549 m 181 #[xvi p0, xvi p1, xvi p2, xvi p3, xvi p4, xvi o494, xvi o497, xvi o500, xvi o503, xvi sN, xvi eN, xvr b505, xvr b514, xvi (0 : Int32)] [xwi o550] _
        refine y_iload X549 hx 183 (hb hby at_181) rfl rfl ?_
        refine y_icmpNo X549 hx 186 (hb hby at_183) (XT.ii_ne_f er) rfl ?_
        refine y_iconst X549 hx (1 : Int32) 187 (hb hby at_186) rfl rfl ?_
        refine y_goto X549 hx 191 (hb hby at_187) (by decide) (by decide) ?_
        show Sx p e below T549 m 191 #[xvi p0, xvi p1, xvi p2, xvi p3, xvi p4, xvi o494, xvi o497, xvi o500, xvi o503, xvi sN, xvi eN, xvr b505, xvr b514, xvi (0 : Int32)] [xwi (1 : Int32)] _
        exact retN X549 hx (t := .boolean) Bd.returns (by simp) (hb hby at_191) (hr)
      · show Qrm0 Z G p0 p1 p2 p3 p4 h0 n0 _ T549.heap _
        rw [e549]
        exact ⟨rfl, N549, ((((((((Keep.refl h0 []).ext E505).wr W507 (Or.inr (Nat.le_trans (Nat.le_refl _) (Nat.le_of_eq g505.symm)))).wr W509 (Or.inr (Nat.le_trans (Nat.le_refl _) (Nat.le_of_eq g505.symm)))).wr W511 (Or.inr (Nat.le_trans (Nat.le_refl _) (Nat.le_of_eq g505.symm)))).wr W513 (Or.inr (Nat.le_trans (Nat.le_refl _) (Nat.le_of_eq g505.symm)))).ext E514).trans K517 (allS (Or.inr (Nat.le_trans (Nat.le_trans (Nat.le_trans (Nat.le_trans (Nat.le_trans E505.1 (Nat.le_of_eq W507.size.symm)) (Nat.le_of_eq W509.size.symm)) (Nat.le_of_eq W511.size.symm)) (Nat.le_of_eq W513.size.symm)) (Nat.le_of_eq g514.symm))) all0))⟩
  · obtain ⟨_, _, ⟨T552, L552, k552, n552⟩, -, X552, ⟨Lc552, hQ552, l552, y552, z552⟩, st552⟩ := Jvm.LawKit.callS X520 hx (y := (⟨"com/example/planwright/planwright/model/Decimals", "isDigits", "(Ljava/lang/String;II)Z"⟩ : MethodName)) hown (mvT hZ (w_39 hw)) (mvT hZ (w_40 hw)) (mvT hZ (w_41 hw)) (mvT hZ (w_42 hw)) (by decide) (backOf (W := 0) (rmDg l Z a0 hw G ST [] b514 o494 o497 o500 o503 sN eN hp517 n0 Ol519 p518.choose_spec.choose_spec.1 p518 p495 p498 p501 p504 hs5 he5) hZ (w_42 hw) (w_41 hw) (by decide) (by decide)) (g := (mkF m 178 #[xvi p0, xvi p1, xvi p2, xvi p3, xvi p4, xvi o494, xvi o497, xvi o500, xvi o503, xvi sN, xvi eN, xvr b505, xvr b514, xvi (0 : Int32)] [xwi eN, xwi sN, xwr b514])) rfl (by rw [hml]; rfl) (argsL := [(.ref b514), (.int sN), (.int eN)]) (rest := []) (lenOf pd_17 rfl) rfl (by show 2 * 0 + _ ≤ _; exact Nat.le_of_eq rfl) (hb hby at_178) (fun _ _ => ⟨rfl, e520, (by decide : 4 + 0 ≤ _), (by decide : 20 + 0 ≤ _)⟩)
    dsimp only [Pt.U, Pt.locs, Pt.cells, Pt.slots] at X552 l552 y552 z552 st552 hQ552
    subst l552 y552 z552
    obtain ⟨o553, rfl, N552q, e552, p554⟩ := hQ552
    have N552 := Fr.app N520 N552q
    have er : o553 = 0 := by rcases p554 with q | q; exact absurd (own_part0 q.2) hk524.2; exact q.1
    obtain ⟨fs, hr, hrun, hended, hW, hsame⟩ := X552.leave (v := some (.int (1 : Int32))) (fun h => by rw [Bd.returns] at h; cases h)
    refine ⟨_, _, hTG _ (c523 _ ?_), hrun, hended, _, _, rfl, ?_, ⟨_, rfl⟩, hW, hsame.mono (by decide) (by decide)⟩
    · rw [hk524.1]
      refine y_ifYes X520 hx 169 (hb hby at_123) (XT.i0_eq_t (by decide)) (by decide) (by decide) ?_
      refine y_iconst X520 hx (0 : Int32) 170 (hb hby at_169) rfl rfl ?_
      refine XS.istore X520.here hx rfl (hb hby at_170) rfl (l' := #[xvi p0, xvi p1, xvi p2, xvi p3, xvi p4, xvi o494, xvi o497, xvi o500, xvi o503, xvi sN, xvi eN, xvr b505, xvr b514, xvi (0 : Int32)]) rfl ?_
      show Sx p e below T520 m 172 #[xvi p0, xvi p1, xvi p2, xvi p3, xvi p4, xvi o494, xvi o497, xvi o500, xvi o503, xvi sN, xvi eN, xvr b505, xvr b514, xvi (0 : Int32)] [] _
      refine y_aload X520 hx 174 (hb hby at_172) rfl rfl rfl ?_
      refine y_iload X520 hx 176 (hb hby at_174) rfl rfl ?_
      refine y_iload X520 hx 178 (hb hby at_176) rfl rfl ?_
      refine st552 _ ?_
      show Sx p e below T552 m 181 #[xvi p0, xvi p1, xvi p2, xvi p3, xvi p4, xvi o494, xvi o497, xvi o500, xvi o503, xvi sN, xvi eN, xvr b505, xvr b514, xvi (0 : Int32)] [xwi o553] _
      refine y_iload X552 hx 183 (hb hby at_181) rfl rfl ?_
      refine y_icmpNo X552 hx 186 (hb hby at_183) (XT.ii_ne_f er) rfl ?_
      refine y_iconst X552 hx (1 : Int32) 187 (hb hby at_186) rfl rfl ?_
      refine y_goto X552 hx 191 (hb hby at_187) (by decide) (by decide) ?_
      show Sx p e below T552 m 191 #[xvi p0, xvi p1, xvi p2, xvi p3, xvi p4, xvi o494, xvi o497, xvi o500, xvi o503, xvi sN, xvi eN, xvr b505, xvr b514, xvi (0 : Int32)] [xwi (1 : Int32)] _
      exact retN X552 hx (t := .boolean) Bd.returns (by simp) (hb hby at_191) (hr)
    · show Qrm0 Z G p0 p1 p2 p3 p4 h0 n0 _ T552.heap _
      rw [e552]
      exact ⟨rfl, N552, ((((((((Keep.refl h0 []).ext E505).wr W507 (Or.inr (Nat.le_trans (Nat.le_refl _) (Nat.le_of_eq g505.symm)))).wr W509 (Or.inr (Nat.le_trans (Nat.le_refl _) (Nat.le_of_eq g505.symm)))).wr W511 (Or.inr (Nat.le_trans (Nat.le_refl _) (Nat.le_of_eq g505.symm)))).wr W513 (Or.inr (Nat.le_trans (Nat.le_refl _) (Nat.le_of_eq g505.symm)))).ext E514).trans K517 (allS (Or.inr (Nat.le_trans (Nat.le_trans (Nat.le_trans (Nat.le_trans (Nat.le_trans E505.1 (Nat.le_of_eq W507.size.symm)) (Nat.le_of_eq W509.size.symm)) (Nat.le_of_eq W511.size.symm)) (Nat.le_of_eq W513.size.symm)) (Nat.le_of_eq g514.symm))) all0))⟩
set_option maxRecDepth 65536 in
set_option maxHeartbeats 40000000 in
theorem comes_1 {Post : Tables → Env → Array Value → State → Outcome → State → Prop} (hpost : ∀ tb e args s v u, (limb_1_1.after args s (.returned v) u = true ∧ limb_1_2.after args s (.returned v) u = true ∧ True) → FrameEnd s (.returned v) u (Jvm.fieldLocs frame_1_writes args s ++ Jvm.arrayLocs frame_1_arrays args s ++ Jvm.staticLocs frame_1_statics s) 16 128 → Post tb e args s (.returned v) u) :
    ArmFor flags0 classFile x code maxLocals ret World_1 tables_1 room_1 Calls_1 rest_1 Pre_1 Post := by
  intro l hfl _ _ p e ha hc hk s m args below hf hA hF happ hP
  obtain ⟨hcalls, hrest, hpre⟩ := hP
  obtain ⟨-, -, -, hnamed, -, -, -, hat⟩ := (Spec.applies_iff hf).mp happ
  obtain ⟨hg, hn⟩ := and_e (Cond.before_iff.mp (show (Jvm.Cond.and given_1 narrow_1).before args s = true from hpre))
  obtain ⟨hcnt, hg⟩ := and_e hg
  obtain ⟨w0, w1, w2, w3, w4, rfl⟩ : ∃ w0 w1 w2 w3 w4 : Value, args = #[w0, w1, w2, w3, w4] := by
    have hs : args.size = 5 := by simpa [Cond.value, given_1] using hcnt
    obtain ⟨L⟩ := args
    match L, hs with
    | [w0, w1, w2, w3, w4], _ => exact ⟨w0, w1, w2, w3, w4, rfl⟩
  have hw := fun d (hd : d ∈ tables_1) => atoms_spec (ws := Jvm.Cond.code x code maxLocals ret :: tables_1) hat d (List.mem_cons_of_mem _ hd)
  have hfit : Fit s := fun {y c} hc i hi => by
    obtain ⟨ha, rfl⟩ := Array.getElem?_eq_some_iff.mp hc
    have q := List.all_eq_true.mp ((Array.all_eq_true_iff_forall_mem.mp hF) _ (Array.getElem_mem ha)) i (List.mem_range.mpr hi)
    simpa [Array.getElem?_eq_getElem hi] using q
  obtain ⟨hsets, hown0⟩ := atoms_of _ (rest_1_c_eq ▸ (show rest_1_c.before _ s = true from hrest))
  obtain ⟨ga0, gb0⟩ := and_e hg
  obtain ⟨i0, ei0⟩ := is_v ga0
  obtain rfl : w0 = (.int i0) := Option.some.inj ei0
  obtain ⟨ga1, gb1⟩ := and_e gb0
  obtain ⟨i1, ei1⟩ := is_v ga1
  obtain rfl : w1 = (.int i1) := Option.some.inj ei1
  obtain ⟨ga2, gb2⟩ := and_e gb1
  obtain ⟨i2, ei2⟩ := is_v ga2
  obtain rfl : w2 = (.int i2) := Option.some.inj ei2
  obtain ⟨ga3, gb3⟩ := and_e gb2
  obtain ⟨i3, ei3⟩ := is_v ga3
  obtain rfl : w3 = (.int i3) := Option.some.inj ei3
  obtain ⟨i4, ei4⟩ := is_v gb3
  obtain rfl : w4 = (.int i4) := Option.some.inj ei4
  obtain ⟨z0, ez0⟩ := is_v (Cond.before_iff.mp (hsets _ (List.mem_of_getElem? (i := 1) rfl)))
  have O0 : Sta s s.heap "java/lang/String" "COMPACT_STRINGS" "Z" (.int z0) := Sta.start ez0 (Or.inl (hsets _ (List.mem_of_getElem? (i := 0) rfl)))
  have P0 : ¬ z0 = (0 : Int32) := gotF (Cond.eq_ints ez0 (Term.int_eval (0))) (not_v (Cond.before_iff.mp (hsets _ (List.mem_of_getElem? (i := 2) rfl))))
  obtain ⟨v1, ev1, rv1⟩ := isR_v (Cond.before_iff.mp (hsets _ (List.mem_of_getElem? (i := 8) rfl)))
  have O1 : Sta s s.heap "jdk/internal/util/Preconditions" "SIOOBE_FORMATTER" "Ljava/util/function/BiFunction;" v1 := Sta.start ev1 (Or.inl (hsets _ (List.mem_of_getElem? (i := 7) rfl)))
  have O2 : Sta s s.heap "java/lang/StringUTF16" "$assertionsDisabled" "Z" (.int (1 : Int32)) := Sta.start (Cond.eq_int (hsets _ (List.mem_of_getElem? (i := 12) rfl)) rfl) (Or.inl (hsets _ (List.mem_of_getElem? (i := 11) rfl)))
  have O3 : Sta s s.heap "java/lang/StringUTF16" "HI_BYTE_SHIFT" "I" (.int (0 : Int32)) := Sta.start (Cond.eq_int (hsets _ (List.mem_of_getElem? (i := 15) rfl)) rfl) (Or.inl (hsets _ (List.mem_of_getElem? (i := 14) rfl)))
  have O4 : Sta s s.heap "java/lang/StringUTF16" "LO_BYTE_SHIFT" "I" (.int (8 : Int32)) := Sta.start (Cond.eq_int (hsets _ (List.mem_of_getElem? (i := 18) rfl)) rfl) (Or.inl (hsets _ (List.mem_of_getElem? (i := 17) rfl)))
  obtain ⟨G0, eG⟩ : ∃ g : Gs, g = (z0, v1) := ⟨_, rfl⟩
  have ST0 : StartF s G0 := by rw [eG]; exact ⟨O0, P0, O1, rv1, O2, O3, O4⟩
  obtain ⟨n, o, h1, h2, h3, _, L, rfl, ⟨rfl, N, -⟩, hq⟩ := rm0 l s _ hw G0 ST0 tables_1 i0 i1 i2 i3 i4 s.heap s.heap.size (Old.start s) p e ha hc hk s m _ below hf ((Spec.applies_iff_loose hf).mp happ).1 ⟨rfl, State.Warmed39.refl s, rfl⟩ trivial
  refine ⟨n, _, h1, h2, h3, hpost _ _ _ _ _ _ ⟨Cond.after_iff.mpr rfl, Cond.after_iff.mpr (eq_i res_at (Term.int_eval (1)) rfl), trivial⟩ ⟨hq.1, hq.2.1, (hq.2.2.sift fun y hy => Or.inr (N y hy)).mono (by decide) (by decide)⟩⟩
theorem main_1_1 : Claimed_1_1 := comes_1 fun _ _ _ _ _ _ h hF => ⟨h.1, hF⟩
theorem main_1_2 : Claimed_1_2 := comes_1 fun _ _ _ _ _ _ h hF => ⟨h.2.1, hF⟩
end Jvm.Pilot.@@N@@
namespace Jvm.Pilot.@@N@@
open Jvm Jvm.ClassFile Sem Op Lib Jvm.Free Jvm.Stand Jvm.Pilot.@@N@@.Jvm.D
/-! MADE BY PROGRAM (witnessworld.py) out of the Statement's table words and the real class files: 20 classes; the members and pool entries that the words name. The judged class is class 1, her method 1. -/
namespace start1
open Jvm.ClassFile
def u (s : String) : CpInfo := .utf8 (stringToUtf16 s)
/-- a pool by its gaps: so many unusable entries, then the entry; so many at the end -/
def gap : Nat → List CpInfo → List CpInfo
  | 0, r => r
  | n + 1, r => .unusable :: gap n r
def poolList (es : List (Nat × CpInfo)) (last : Nat) : List CpInfo := es.foldr (fun e r => gap e.1 (e.2 :: r)) (gap last [])
def pool (es : List (Nat × CpInfo)) (last : Nat) : Array CpInfo := ⟨poolList es last⟩
def fileOf (pool : Array CpInfo) (this : Nat) (attrs : Array Attribute := #[]) (ms : Array MethodInfo := #[]) (fl : Nat := 33) (sup : Nat := 0) (ifs : Array Nat := #[]) (fds : Array FieldInfo := #[]) : ClassFile where
  minorVersion := 0
  majorVersion := 65
  constantPool := pool
  accessFlags := fl
  thisClass := this
  superClass := sup
  interfaces := ifs
  fields := fds
  methods := ms
  attributes := attrs
def plain (name : String) (sup : Option ClassId) : Class where
  name := name
  kind := .ordinary
  loader := none
  accessFlags := 33
  super := sup
  interfaces := #[]
  cf := none
  fields := #[]
  methods := #[]
  instanceTypes := #[]
  staticTypes := #[]
  resolved := #[]
  callSites := []
  init := .initialized
  statics := none
  mirror := none

def pool0 : Array CpInfo := pool [(5, u "<init>"), (0, u "()V"), (1, .class_ 10), (1, u "java/lang/Object")] 113

def k0c0 : Code := { maxStack := 0, maxLocals := 1, code := object_method_1_code, exceptionTable := #[], attributes := #[] }
def k0m0 : Method := { name := "<init>", desc := "()V", sig := { parameters := [], returnType := none }, accessFlags := 1, code := some k0c0 }
/-- java/lang/Object -/
def k0 : Class := { plain "java/lang/Object" none with
  accessFlags := 33
  interfaces := #[]
  cf := some (fileOf pool0 8 #[] #[{ accessFlags := 1, nameIndex := 5, descriptorIndex := 6, attributes := #[] }] 33 0 #[] #[])
  fields := #[]
  methods := #[k0m0]
  instanceTypes := #[]
  staticTypes := #[]
  resolved := Array.replicate 124 none
  statics := none }

def pool1 : Array CpInfo := pool [(2, .class_ 4), (1, u "java/lang/Object"), (0, u "<init>"), (0, u "()V"), (0, .integer 65535), (0, .methodref 9 10), (0, .class_ 11), (0, .nameAndType 12 13), (0, u "com/example/planwright/planwright/model/DecimalsIsDigitsPinLaw"), (0, u "pick"), (0, u "(II)C"), (0, .integer 2147483647), (0, .class_ 16), (0, u "java/lang/String"), (0, .methodref 15 18), (0, .nameAndType 5 19), (0, u "([C)V"), (0, .methodref 9 21), (0, .nameAndType 22 23), (0, u "ok"), (0, u "(CIII)Z"), (0, .methodref 25 26), (0, .class_ 27), (0, .nameAndType 28 29), (0, u "com/example/planwright/planwright/model/Decimals"), (0, u "isDigits"), (0, u "(Ljava/lang/String;II)Z"), (2, u "law"), (0, u "(IIIII)Z")] 5

def k1m0 : Method := { name := "<init>", desc := "()V", sig := { parameters := [], returnType := none }, accessFlags := 2, code := none }
def k1c1 : Code := { maxStack := 4, maxLocals := 14, code := code, exceptionTable := #[], attributes := #[] }
def k1m1 : Method := { name := "law", desc := "(IIIII)Z", sig := { parameters := [.int, .int, .int, .int, .int], returnType := some .boolean }, accessFlags := 9, code := some k1c1 }
def k1c2 : Code := { maxStack := 3, maxLocals := 2, code := method_3_code, exceptionTable := #[], attributes := #[] }
def k1m2 : Method := { name := "pick", desc := "(II)C", sig := { parameters := [.int, .int], returnType := some .char }, accessFlags := 10, code := some k1c2 }
def k1c3 : Code := { maxStack := 2, maxLocals := 5, code := method_4_code, exceptionTable := #[], attributes := #[] }
def k1m3 : Method := { name := "ok", desc := "(CIII)Z", sig := { parameters := [.char, .int, .int, .int], returnType := some .boolean }, accessFlags := 10, code := some k1c3 }
/-- com/example/planwright/planwright/model/DecimalsIsDigitsPinLaw -/
def k1 : Class := { plain "com/example/planwright/planwright/model/DecimalsIsDigitsPinLaw" (some 0) with
  accessFlags := 49
  interfaces := #[]
  cf := some (fileOf pool1 9 #[] #[{ accessFlags := 2, nameIndex := 5, descriptorIndex := 6, attributes := #[] }, { accessFlags := 9, nameIndex := 32, descriptorIndex := 33, attributes := #[] }, { accessFlags := 10, nameIndex := 12, descriptorIndex := 13, attributes := #[] }, { accessFlags := 10, nameIndex := 22, descriptorIndex := 23, attributes := #[] }] 49 2 #[] #[])
  fields := #[]
  methods := #[k1m0, k1m1, k1m2, k1m3]
  instanceTypes := #[]
  staticTypes := #[]
  resolved := Array.replicate 39 none
  statics := none }

def pool2 : Array CpInfo := pool [(1, .class_ 2), (0, u "java/io/Serializable"), (0, .class_ 4), (0, u "java/lang/Object")] 2

/-- java/io/Serializable -/
def k2 : Class := { plain "java/io/Serializable" (some 0) with
  accessFlags := 1537
  interfaces := #[]
  cf := some (fileOf pool2 1 #[] #[] 1537 3 #[] #[])
  fields := #[]
  methods := #[]
  instanceTypes := #[]
  staticTypes := #[]
  resolved := Array.replicate 7 none
  statics := none }

def pool3 : Array CpInfo := pool [(1, .class_ 2), (0, u "java/lang/Comparable"), (0, .class_ 4), (0, u "java/lang/Object")] 7

/-- java/lang/Comparable -/
def k3 : Class := { plain "java/lang/Comparable" (some 0) with
  accessFlags := 1537
  interfaces := #[]
  cf := some (fileOf pool3 1 #[] #[] 1537 3 #[] #[])
  fields := #[]
  methods := #[]
  instanceTypes := #[]
  staticTypes := #[]
  resolved := Array.replicate 12 none
  statics := none }

def pool4 : Array CpInfo := pool [(2, .class_ 4), (1, u "java/lang/CharSequence"), (42, .class_ 48), (0, u "java/lang/CharSequence$1CodePointIterator"), (10, .class_ 60), (0, u "java/lang/CharSequence$1CharIterator"), (5, .class_ 67), (0, u "java/lang/Object")] 63

/-- java/lang/CharSequence -/
def k4 : Class := { plain "java/lang/CharSequence" (some 0) with
  accessFlags := 1537
  interfaces := #[]
  cf := some (fileOf pool4 2 #[.nestMembers #[47, 59]] #[] 1537 66 #[] #[])
  fields := #[]
  methods := #[]
  instanceTypes := #[]
  staticTypes := #[]
  resolved := Array.replicate 131 none
  statics := none }

def pool5 : Array CpInfo := pool [(1, .class_ 2), (0, u "java/lang/constant/Constable"), (0, .class_ 4), (0, u "java/lang/Object")] 6

/-- java/lang/constant/Constable -/
def k5 : Class := { plain "java/lang/constant/Constable" (some 0) with
  accessFlags := 1537
  interfaces := #[]
  cf := some (fileOf pool5 1 #[] #[] 1537 3 #[] #[])
  fields := #[]
  methods := #[]
  instanceTypes := #[]
  staticTypes := #[]
  resolved := Array.replicate 11 none
  statics := none }

def pool6 : Array CpInfo := pool [(1, .class_ 2), (0, u "java/lang/constant/ConstantDesc"), (0, .class_ 4), (0, u "java/lang/Object")] 32

/-- java/lang/constant/ConstantDesc -/
def k6 : Class := { plain "java/lang/constant/ConstantDesc" (some 0) with
  accessFlags := 1537
  interfaces := #[]
  cf := some (fileOf pool6 1 #[] #[] 1537 3 #[] #[])
  fields := #[]
  methods := #[]
  instanceTypes := #[]
  staticTypes := #[]
  resolved := Array.replicate 37 none
  statics := none }

def pool7 : Array CpInfo := pool [(1, .methodref 2 3), (0, .class_ 4), (0, .nameAndType 5 6), (0, u "java/lang/Object"), (0, u "<init>"), (0, u "()V"), (2, .fieldref 10 11), (0, .class_ 12), (0, .nameAndType 13 14), (0, u "java/lang/String"), (0, u "value"), (0, u "[B"), (0, .fieldref 10 16), (0, .nameAndType 17 18), (0, u "coder"), (0, u "B"), (2, u "hash"), (0, u "I"), (2, u "hashIsZero"), (0, u "Z"), (0, .methodref 10 28), (0, .nameAndType 5 29), (0, u "([CIILjava/lang/Void;)V"), (8, .fieldref 10 39), (0, .nameAndType 40 26), (0, u "COMPACT_STRINGS"), (1, .class_ 44), (1, u "java/lang/StringUTF16"), (0, u "compress"), (1, .methodref 42 48), (0, .nameAndType 49 50), (0, u "coderFromArrayLen"), (0, u "([BI)B"), (56, .class_ 109), (1, u "java/lang/StringLatin1"), (32, u "()Z"), (34, .methodref 42 178), (0, .nameAndType 45 179), (0, u "([CII)[B"), (183, u "([BI)C"), (27, u "(II)V"), (35, u "(I)C"), (64, .methodref 10 493), (0, .nameAndType 494 142), (0, u "isLatin1"), (0, .methodref 107 496), (0, .nameAndType 497 363), (0, u "charAt"), (0, .methodref 42 496), (2, u "checkIndex"), (73, .class_ 576), (0, u "java/lang/CharSequence"), (22, u "CASE_INSENSITIVE_ORDER"), (0, u "Ljava/util/Comparator;"), (409, u "([C)V"), (42, .fieldref 1054 1055), (0, .class_ 1056), (0, .nameAndType 1057 1058), (0, u "jdk/internal/util/Preconditions"), (0, u "SIOOBE_FORMATTER"), (0, u "Ljava/util/function/BiFunction;"), (0, .methodref 1054 1060), (0, .nameAndType 501 1061), (0, u "(IILjava/util/function/BiFunction;)I"), (39, u "serialPersistentFields"), (0, u "[Ljava/io/ObjectStreamField;"), (0, .class_ 1104), (0, u "java/lang/String$CaseInsensitiveComparator"), (1, .class_ 1107), (0, u "java/io/Serializable"), (0, .class_ 1109), (0, u "java/lang/Comparable"), (0, .class_ 1111), (0, u "java/lang/constant/Constable"), (0, .class_ 1113), (0, u "java/lang/constant/ConstantDesc"), (2, u "serialVersionUID"), (0, u "J"), (3, u "REPL"), (0, u "C"), (2, u "LATIN1"), (1, u "UTF16")] 323

def k7m0 : Method := { name := "<init>", desc := "()V", sig := { parameters := [], returnType := none }, accessFlags := 1, code := none }
def k7c1 : Code := { maxStack := 5, maxLocals := 2, code := jdk_42_method_3_code, exceptionTable := #[], attributes := #[] }
def k7m1 : Method := { name := "<init>", desc := "([C)V", sig := { parameters := [(.array .char)], returnType := none }, accessFlags := 1, code := some k7c1 }
def k7c2 : Code := { maxStack := 2, maxLocals := 2, code := jdk_42_method_56_code, exceptionTable := #[], attributes := #[] }
def k7m2 : Method := { name := "charAt", desc := "(I)C", sig := { parameters := [.int], returnType := some .char }, accessFlags := 1, code := some k7c2 }
def k7c3 : Code := { maxStack := 4, maxLocals := 6, code := jdk_42_method_149_code, exceptionTable := #[], attributes := #[] }
def k7m3 : Method := { name := "<init>", desc := "([CIILjava/lang/Void;)V", sig := { parameters := [(.array .char), .int, .int, (.object "java/lang/Void")], returnType := none }, accessFlags := 2, code := some k7c3 }
def k7c4 : Code := { maxStack := 1, maxLocals := 1, code := jdk_42_method_154_code, exceptionTable := #[], attributes := #[] }
def k7m4 : Method := { name := "isLatin1", desc := "()Z", sig := { parameters := [], returnType := some .boolean }, accessFlags := 0, code := some k7c4 }
def k7c5 : Code := { maxStack := 3, maxLocals := 2, code := jdk_42_method_155_code, exceptionTable := #[], attributes := #[] }
def k7m5 : Method := { name := "checkIndex", desc := "(II)V", sig := { parameters := [.int, .int], returnType := none }, accessFlags := 8, code := some k7c5 }
/-- java/lang/String -/
def k7 : Class := { plain "java/lang/String" (some 0) with
  accessFlags := 49
  interfaces := #[2, 3, 4, 5, 6]
  cf := some (fileOf pool7 10 #[.nestMembers #[1103]] #[{ accessFlags := 1, nameIndex := 5, descriptorIndex := 6, attributes := #[] }, { accessFlags := 1, nameIndex := 5, descriptorIndex := 1010, attributes := #[] }, { accessFlags := 1, nameIndex := 497, descriptorIndex := 427, attributes := #[] }, { accessFlags := 2, nameIndex := 5, descriptorIndex := 29, attributes := #[] }, { accessFlags := 0, nameIndex := 494, descriptorIndex := 142, attributes := #[] }, { accessFlags := 8, nameIndex := 501, descriptorIndex := 391, attributes := #[] }] 49 2 #[1106, 1108, 575, 1110, 1112] #[{ accessFlags := 18, nameIndex := 13, descriptorIndex := 14, attributes := #[] }, { accessFlags := 18, nameIndex := 17, descriptorIndex := 18, attributes := #[] }, { accessFlags := 2, nameIndex := 21, descriptorIndex := 22, attributes := #[] }, { accessFlags := 2, nameIndex := 25, descriptorIndex := 26, attributes := #[] }, { accessFlags := 26, nameIndex := 1116, descriptorIndex := 1117, attributes := #[] }, { accessFlags := 24, nameIndex := 40, descriptorIndex := 26, attributes := #[] }, { accessFlags := 26, nameIndex := 1101, descriptorIndex := 1102, attributes := #[] }, { accessFlags := 26, nameIndex := 1121, descriptorIndex := 1122, attributes := #[] }, { accessFlags := 25, nameIndex := 599, descriptorIndex := 600, attributes := #[] }, { accessFlags := 24, nameIndex := 1125, descriptorIndex := 18, attributes := #[] }, { accessFlags := 24, nameIndex := 1127, descriptorIndex := 18, attributes := #[] }])
  fields := #[{ name := "value", type := (.array .byte), accessFlags := 18, slot := 0, constantValue := 0 }, { name := "coder", type := .byte, accessFlags := 18, slot := 1, constantValue := 0 }, { name := "hash", type := .int, accessFlags := 2, slot := 2, constantValue := 0 }, { name := "hashIsZero", type := .boolean, accessFlags := 2, slot := 3, constantValue := 0 }, { name := "serialVersionUID", type := .long, accessFlags := 26, slot := 0, constantValue := 0 }, { name := "COMPACT_STRINGS", type := .boolean, accessFlags := 24, slot := 1, constantValue := 0 }, { name := "serialPersistentFields", type := (.array (.object "java/io/ObjectStreamField")), accessFlags := 26, slot := 2, constantValue := 0 }, { name := "REPL", type := .char, accessFlags := 26, slot := 3, constantValue := 0 }, { name := "CASE_INSENSITIVE_ORDER", type := (.object "java/util/Comparator"), accessFlags := 25, slot := 4, constantValue := 0 }, { name := "LATIN1", type := .byte, accessFlags := 24, slot := 5, constantValue := 0 }, { name := "UTF16", type := .byte, accessFlags := 24, slot := 6, constantValue := 0 }]
  methods := #[k7m0, k7m1, k7m2, k7m3, k7m4, k7m5]
  instanceTypes := #[(.array .byte), .byte, .int, .boolean]
  staticTypes := #[.long, .boolean, (.array (.object "java/io/ObjectStreamField")), .char, (.object "java/util/Comparator"), .byte, .byte]
  resolved := Array.replicate 1451 none
  statics := some 0 }

def pool8 : Array CpInfo := pool [(3, .class_ 4), (0, u "java/lang/String"), (1, .class_ 8), (1, u "java/lang/Object"), (0, u "<init>"), (0, u "()V"), (0, .methodref 12 13), (0, .class_ 14), (0, .nameAndType 15 16), (0, u "java/lang/StringUTF16"), (0, u "newBytesLength"), (0, u "(I)I"), (3, .integer 1073741823), (23, .fieldref 12 45), (0, .nameAndType 46 47), (0, u "$assertionsDisabled"), (0, u "Z"), (0, .methodref 12 49), (0, .nameAndType 50 51), (0, u "length"), (0, u "([B)I"), (7, .fieldref 12 60), (0, .nameAndType 61 62), (0, u "HI_BYTE_SHIFT"), (0, u "I"), (0, .fieldref 12 64), (0, .nameAndType 65 62), (0, u "LO_BYTE_SHIFT"), (1, .methodref 12 68), (0, .nameAndType 69 70), (0, u "checkIndex"), (0, u "(I[B)V"), (0, .methodref 12 72), (0, .nameAndType 73 74), (0, u "getChar"), (0, u "([BI)C"), (32, .methodref 12 108), (0, .nameAndType 109 110), (0, u "newBytesFor"), (0, u "(I)[B"), (0, .methodref 12 112), (0, .nameAndType 113 114), (0, u "putChar"), (0, u "([BII)V"), (0, .methodref 12 116), (0, .nameAndType 117 118), (0, u "compress"), (0, u "([CI[BII)I"), (0, .methodref 12 120), (0, .nameAndType 121 122), (0, u "toBytes"), (0, u "([CII)[B"), (138, u "coderFromArrayLen"), (0, u "([BI)B"), (106, .class_ 371), (1, u "java/lang/StringUTF16$LinesSpliterator"), (20, u "charAt"), (21, .methodref 3 415), (0, .nameAndType 69 416), (0, u "(II)V"), (13, u "MAX_LENGTH"), (196, .class_ 628), (0, u "java/lang/StringUTF16$CodePointsSpliterator"), (0, .class_ 630), (0, u "java/lang/StringUTF16$CharsSpliterator")] 4

def k8m0 : Method := { name := "<init>", desc := "()V", sig := { parameters := [], returnType := none }, accessFlags := 0, code := none }
def k8c1 : Code := { maxStack := 1, maxLocals := 1, code := jdk_52_method_2_code, exceptionTable := #[], attributes := #[] }
def k8m1 : Method := { name := "newBytesFor", desc := "(I)[B", sig := { parameters := [.int], returnType := some (.array .byte) }, accessFlags := 9, code := some k8c1 }
def k8c2 : Code := { maxStack := 4, maxLocals := 1, code := jdk_52_method_3_code, exceptionTable := #[], attributes := #[] }
def k8m2 : Method := { name := "newBytesLength", desc := "(I)I", sig := { parameters := [.int], returnType := some .int }, accessFlags := 9, code := some k8c2 }
def k8c3 : Code := { maxStack := 4, maxLocals := 3, code := jdk_52_method_4_code, exceptionTable := #[], attributes := #[] }
def k8m3 : Method := { name := "putChar", desc := "([BII)V", sig := { parameters := [(.array .byte), .int, .int], returnType := none }, accessFlags := 8, code := some k8c3 }
def k8c4 : Code := { maxStack := 3, maxLocals := 2, code := jdk_52_method_5_code, exceptionTable := #[], attributes := #[] }
def k8m4 : Method := { name := "getChar", desc := "([BI)C", sig := { parameters := [(.array .byte), .int], returnType := some .char }, accessFlags := 8, code := some k8c4 }
def k8c5 : Code := { maxStack := 2, maxLocals := 1, code := jdk_52_method_6_code, exceptionTable := #[], attributes := #[] }
def k8m5 : Method := { name := "length", desc := "([B)I", sig := { parameters := [(.array .byte)], returnType := some .int }, accessFlags := 9, code := some k8c5 }
def k8c6 : Code := { maxStack := 4, maxLocals := 5, code := jdk_52_method_14_code, exceptionTable := #[], attributes := #[] }
def k8m6 : Method := { name := "toBytes", desc := "([CII)[B", sig := { parameters := [(.array .char), .int, .int], returnType := some (.array .byte) }, accessFlags := 9, code := some k8c6 }
def k8c7 : Code := { maxStack := 2, maxLocals := 2, code := jdk_52_method_15_code, exceptionTable := #[], attributes := #[] }
def k8m7 : Method := { name := "coderFromArrayLen", desc := "([BI)B", sig := { parameters := [(.array .byte), .int], returnType := some .byte }, accessFlags := 8, code := some k8c7 }
def k8c8 : Code := { maxStack := 5, maxLocals := 6, code := jdk_52_method_16_code, exceptionTable := #[], attributes := #[] }
def k8m8 : Method := { name := "compress", desc := "([CII)[B", sig := { parameters := [(.array .char), .int, .int], returnType := some (.array .byte) }, accessFlags := 9, code := some k8c8 }
def k8c9 : Code := { maxStack := 3, maxLocals := 7, code := jdk_52_method_21_code, exceptionTable := #[], attributes := #[] }
def k8m9 : Method := { name := "compress", desc := "([CI[BII)I", sig := { parameters := [(.array .char), .int, (.array .byte), .int, .int], returnType := some .int }, accessFlags := 9, code := some k8c9 }
def k8c10 : Code := { maxStack := 2, maxLocals := 2, code := jdk_52_method_83_code, exceptionTable := #[], attributes := #[] }
def k8m10 : Method := { name := "charAt", desc := "([BI)C", sig := { parameters := [(.array .byte), .int], returnType := some .char }, accessFlags := 9, code := some k8c10 }
def k8c11 : Code := { maxStack := 2, maxLocals := 2, code := jdk_52_method_91_code, exceptionTable := #[], attributes := #[] }
def k8m11 : Method := { name := "checkIndex", desc := "(I[B)V", sig := { parameters := [.int, (.array .byte)], returnType := none }, accessFlags := 9, code := some k8c11 }
/-- java/lang/StringUTF16 -/
def k8 : Class := { plain "java/lang/StringUTF16" (some 0) with
  accessFlags := 48
  interfaces := #[]
  cf := some (fileOf pool8 12 #[.nestMembers #[627, 629, 369]] #[{ accessFlags := 0, nameIndex := 9, descriptorIndex := 10, attributes := #[] }, { accessFlags := 9, nameIndex := 109, descriptorIndex := 110, attributes := #[] }, { accessFlags := 9, nameIndex := 15, descriptorIndex := 16, attributes := #[] }, { accessFlags := 8, nameIndex := 113, descriptorIndex := 114, attributes := #[] }, { accessFlags := 8, nameIndex := 73, descriptorIndex := 74, attributes := #[] }, { accessFlags := 9, nameIndex := 50, descriptorIndex := 51, attributes := #[] }, { accessFlags := 9, nameIndex := 121, descriptorIndex := 122, attributes := #[] }, { accessFlags := 8, nameIndex := 261, descriptorIndex := 262, attributes := #[] }, { accessFlags := 9, nameIndex := 117, descriptorIndex := 122, attributes := #[] }, { accessFlags := 9, nameIndex := 117, descriptorIndex := 118, attributes := #[] }, { accessFlags := 9, nameIndex := 392, descriptorIndex := 74, attributes := #[] }, { accessFlags := 9, nameIndex := 69, descriptorIndex := 70, attributes := #[] }] 48 6 #[] #[{ accessFlags := 26, nameIndex := 61, descriptorIndex := 62, attributes := #[] }, { accessFlags := 26, nameIndex := 65, descriptorIndex := 62, attributes := #[] }, { accessFlags := 24, nameIndex := 430, descriptorIndex := 62, attributes := #[] }, { accessFlags := 4120, nameIndex := 46, descriptorIndex := 47, attributes := #[] }])
  fields := #[{ name := "HI_BYTE_SHIFT", type := .int, accessFlags := 26, slot := 0, constantValue := 0 }, { name := "LO_BYTE_SHIFT", type := .int, accessFlags := 26, slot := 1, constantValue := 0 }, { name := "MAX_LENGTH", type := .int, accessFlags := 24, slot := 2, constantValue := 0 }, { name := "$assertionsDisabled", type := .boolean, accessFlags := 4120, slot := 3, constantValue := 0 }]
  methods := #[k8m0, k8m1, k8m2, k8m3, k8m4, k8m5, k8m6, k8m7, k8m8, k8m9, k8m10, k8m11]
  instanceTypes := #[]
  staticTypes := #[.int, .int, .int, .boolean]
  resolved := Array.replicate 635 none
  statics := some 1 }

def pool9 : Array CpInfo := pool [(2, .class_ 4), (1, u "java/lang/Object"), (0, u "<init>"), (0, u "()V"), (0, .methodref 8 9), (0, .class_ 10), (0, .nameAndType 11 12), (0, u "java/lang/String"), (0, u "charAt"), (0, u "(I)C"), (9, .class_ 24), (1, u "com/example/planwright/planwright/model/Decimals"), (0, u "UNSIGNED"), (0, u "Ljava/util/regex/Pattern;"), (7, u "HUNDRED"), (0, u "Ljava/math/BigDecimal;"), (2, u "isDigits"), (0, u "(Ljava/lang/String;II)Z")] 4

def k9m0 : Method := { name := "<init>", desc := "()V", sig := { parameters := [], returnType := none }, accessFlags := 2, code := none }
def k9c1 : Code := { maxStack := 2, maxLocals := 5, code := prog_39_method_2_code, exceptionTable := #[], attributes := #[] }
def k9m1 : Method := { name := "isDigits", desc := "(Ljava/lang/String;II)Z", sig := { parameters := [(.object "java/lang/String"), .int, .int], returnType := some .boolean }, accessFlags := 8, code := some k9c1 }
/-- com/example/planwright/planwright/model/Decimals -/
def k9 : Class := { plain "com/example/planwright/planwright/model/Decimals" (some 0) with
  accessFlags := 48
  interfaces := #[]
  cf := some (fileOf pool9 22 #[] #[{ accessFlags := 2, nameIndex := 5, descriptorIndex := 6, attributes := #[] }, { accessFlags := 8, nameIndex := 38, descriptorIndex := 39, attributes := #[] }] 48 2 #[] #[{ accessFlags := 24, nameIndex := 25, descriptorIndex := 26, attributes := #[] }, { accessFlags := 24, nameIndex := 34, descriptorIndex := 35, attributes := #[] }])
  fields := #[{ name := "UNSIGNED", type := (.object "java/util/regex/Pattern"), accessFlags := 24, slot := 0, constantValue := 0 }, { name := "HUNDRED", type := (.object "java/math/BigDecimal"), accessFlags := 24, slot := 1, constantValue := 0 }]
  methods := #[k9m0, k9m1]
  instanceTypes := #[]
  staticTypes := #[(.object "java/util/regex/Pattern"), (.object "java/math/BigDecimal")]
  resolved := Array.replicate 44 none
  statics := none }

def pool10 : Array CpInfo := pool [(1, .class_ 2), (0, u "java/lang/String"), (1, .class_ 6), (1, u "java/lang/Object"), (0, u "<init>"), (0, u "()V"), (0, .methodref 1 10), (0, .nameAndType 11 12), (0, u "checkIndex"), (0, u "(II)V"), (1, .class_ 16), (1, u "java/lang/StringLatin1"), (36, u "([BI)C"), (67, u "$assertionsDisabled"), (0, u "Z"), (98, .class_ 223), (1, u "java/lang/StringLatin1$LinesSpliterator"), (28, u "charAt"), (137, .class_ 391), (0, u "java/lang/StringLatin1$CharsSpliterator")] 3

def k10m0 : Method := { name := "<init>", desc := "()V", sig := { parameters := [], returnType := none }, accessFlags := 0, code := none }
def k10c1 : Code := { maxStack := 2, maxLocals := 2, code := jdk_43_method_2_code, exceptionTable := #[], attributes := #[] }
def k10m1 : Method := { name := "charAt", desc := "([BI)C", sig := { parameters := [(.array .byte), .int], returnType := some .char }, accessFlags := 9, code := some k10c1 }
/-- java/lang/StringLatin1 -/
def k10 : Class := { plain "java/lang/StringLatin1" (some 0) with
  accessFlags := 48
  interfaces := #[]
  cf := some (fileOf pool10 14 #[.nestMembers #[390, 221]] #[{ accessFlags := 0, nameIndex := 7, descriptorIndex := 8, attributes := #[] }, { accessFlags := 9, nameIndex := 252, descriptorIndex := 53, attributes := #[] }] 48 4 #[] #[{ accessFlags := 4120, nameIndex := 121, descriptorIndex := 122, attributes := #[] }])
  fields := #[{ name := "$assertionsDisabled", type := .boolean, accessFlags := 4120, slot := 0, constantValue := 0 }]
  methods := #[k10m0, k10m1]
  instanceTypes := #[]
  staticTypes := #[.boolean]
  resolved := Array.replicate 395 none
  statics := none }

def pool11 : Array CpInfo := pool [(2, .class_ 4), (1, u "java/lang/Object"), (0, u "<init>"), (0, u "()V"), (17, .class_ 26), (1, u "jdk/internal/util/Preconditions"), (6, u "checkIndex"), (21, .class_ 56), (0, u "jdk/internal/util/Preconditions$4"), (57, .class_ 115), (0, u "jdk/internal/util/Preconditions$1"), (7, u "SIOOBE_FORMATTER"), (0, u "Ljava/util/function/BiFunction;"), (0, .class_ 126), (0, u "jdk/internal/util/Preconditions$2"), (3, u "AIOOBE_FORMATTER"), (0, .class_ 132), (0, u "jdk/internal/util/Preconditions$3"), (3, u "IOOBE_FORMATTER"), (41, u "(IILjava/util/function/BiFunction;)I")] 15

def k11m0 : Method := { name := "<init>", desc := "()V", sig := { parameters := [], returnType := none }, accessFlags := 1, code := none }
def k11c1 : Code := { maxStack := 3, maxLocals := 3, code := jdk_41_method_11_code, exceptionTable := #[], attributes := #[] }
def k11m1 : Method := { name := "checkIndex", desc := "(IILjava/util/function/BiFunction;)I", sig := { parameters := [.int, .int, (.object "java/util/function/BiFunction")], returnType := some .int }, accessFlags := 9, code := some k11c1 }
/-- jdk/internal/util/Preconditions -/
def k11 : Class := { plain "jdk/internal/util/Preconditions" (some 0) with
  accessFlags := 33
  interfaces := #[]
  cf := some (fileOf pool11 24 #[.nestMembers #[55, 131, 125, 114]] #[{ accessFlags := 1, nameIndex := 5, descriptorIndex := 6, attributes := #[] }, { accessFlags := 9, nameIndex := 33, descriptorIndex := 178, attributes := #[] }] 33 2 #[] #[{ accessFlags := 25, nameIndex := 123, descriptorIndex := 124, attributes := #[] }, { accessFlags := 25, nameIndex := 130, descriptorIndex := 124, attributes := #[] }, { accessFlags := 25, nameIndex := 136, descriptorIndex := 124, attributes := #[] }])
  fields := #[{ name := "SIOOBE_FORMATTER", type := (.object "java/util/function/BiFunction"), accessFlags := 25, slot := 0, constantValue := 0 }, { name := "AIOOBE_FORMATTER", type := (.object "java/util/function/BiFunction"), accessFlags := 25, slot := 1, constantValue := 0 }, { name := "IOOBE_FORMATTER", type := (.object "java/util/function/BiFunction"), accessFlags := 25, slot := 2, constantValue := 0 }]
  methods := #[k11m0, k11m1]
  instanceTypes := #[]
  staticTypes := #[(.object "java/util/function/BiFunction"), (.object "java/util/function/BiFunction"), (.object "java/util/function/BiFunction")]
  resolved := Array.replicate 194 none
  statics := some 2 }

def pool12 : Array CpInfo := pool [(9, u "<init>"), (6, .class_ 18), (1, u "java/lang/Object"), (0, u "()V"), (1, .class_ 23), (1, u "jdk/internal/util/ArraysSupport"), (0, u "LOG2_ARRAY_LONG_INDEX_SCALE"), (0, u "I"), (2, u "U"), (0, u "Ljdk/internal/misc/Unsafe;"), (8, u "BIG_ENDIAN"), (0, u "Z"), (8, u "LOG2_BYTE_BIT_SIZE"), (4, u "LOG2_ARRAY_INT_INDEX_SCALE"), (54, u "JLA"), (0, u "Ljdk/internal/access/JavaLangAccess;"), (11, u "LOG2_ARRAY_BOOLEAN_INDEX_SCALE"), (9, u "LOG2_ARRAY_BYTE_INDEX_SCALE"), (5, u "LOG2_ARRAY_CHAR_INDEX_SCALE"), (5, u "LOG2_ARRAY_SHORT_INDEX_SCALE"), (18, u "LOG2_ARRAY_FLOAT_INDEX_SCALE"), (24, u "LOG2_ARRAY_DOUBLE_INDEX_SCALE"), (89, u "T_BOOLEAN"), (2, u "T_CHAR"), (1, u "T_FLOAT"), (1, u "T_DOUBLE"), (1, u "T_BYTE"), (1, u "T_SHORT"), (1, u "T_INT"), (1, u "T_LONG"), (1, u "SOFT_MAX_ARRAY_LENGTH")] 83

def k12m0 : Method := { name := "<init>", desc := "()V", sig := { parameters := [], returnType := none }, accessFlags := 2, code := none }
/-- jdk/internal/util/ArraysSupport -/
def k12 : Class := { plain "jdk/internal/util/ArraysSupport" (some 0) with
  accessFlags := 33
  interfaces := #[]
  cf := some (fileOf pool12 21 #[] #[{ accessFlags := 2, nameIndex := 9, descriptorIndex := 19, attributes := #[] }] 33 16 #[] #[{ accessFlags := 24, nameIndex := 28, descriptorIndex := 29, attributes := #[] }, { accessFlags := 26, nameIndex := 38, descriptorIndex := 39, attributes := #[] }, { accessFlags := 25, nameIndex := 121, descriptorIndex := 25, attributes := #[] }, { accessFlags := 25, nameIndex := 131, descriptorIndex := 25, attributes := #[] }, { accessFlags := 25, nameIndex := 137, descriptorIndex := 25, attributes := #[] }, { accessFlags := 25, nameIndex := 143, descriptorIndex := 25, attributes := #[] }, { accessFlags := 25, nameIndex := 53, descriptorIndex := 25, attributes := #[] }, { accessFlags := 25, nameIndex := 24, descriptorIndex := 25, attributes := #[] }, { accessFlags := 25, nameIndex := 162, descriptorIndex := 25, attributes := #[] }, { accessFlags := 25, nameIndex := 187, descriptorIndex := 25, attributes := #[] }, { accessFlags := 26, nameIndex := 48, descriptorIndex := 25, attributes := #[] }, { accessFlags := 25, nameIndex := 277, descriptorIndex := 25, attributes := #[] }, { accessFlags := 25, nameIndex := 280, descriptorIndex := 25, attributes := #[] }, { accessFlags := 25, nameIndex := 282, descriptorIndex := 25, attributes := #[] }, { accessFlags := 25, nameIndex := 284, descriptorIndex := 25, attributes := #[] }, { accessFlags := 25, nameIndex := 286, descriptorIndex := 25, attributes := #[] }, { accessFlags := 25, nameIndex := 288, descriptorIndex := 25, attributes := #[] }, { accessFlags := 25, nameIndex := 290, descriptorIndex := 25, attributes := #[] }, { accessFlags := 25, nameIndex := 292, descriptorIndex := 25, attributes := #[] }, { accessFlags := 26, nameIndex := 108, descriptorIndex := 109, attributes := #[] }, { accessFlags := 25, nameIndex := 294, descriptorIndex := 25, attributes := #[] }])
  fields := #[{ name := "U", type := (.object "jdk/internal/misc/Unsafe"), accessFlags := 24, slot := 0, constantValue := 0 }, { name := "BIG_ENDIAN", type := .boolean, accessFlags := 26, slot := 1, constantValue := 0 }, { name := "LOG2_ARRAY_BOOLEAN_INDEX_SCALE", type := .int, accessFlags := 25, slot := 2, constantValue := 0 }, { name := "LOG2_ARRAY_BYTE_INDEX_SCALE", type := .int, accessFlags := 25, slot := 3, constantValue := 0 }, { name := "LOG2_ARRAY_CHAR_INDEX_SCALE", type := .int, accessFlags := 25, slot := 4, constantValue := 0 }, { name := "LOG2_ARRAY_SHORT_INDEX_SCALE", type := .int, accessFlags := 25, slot := 5, constantValue := 0 }, { name := "LOG2_ARRAY_INT_INDEX_SCALE", type := .int, accessFlags := 25, slot := 6, constantValue := 0 }, { name := "LOG2_ARRAY_LONG_INDEX_SCALE", type := .int, accessFlags := 25, slot := 7, constantValue := 0 }, { name := "LOG2_ARRAY_FLOAT_INDEX_SCALE", type := .int, accessFlags := 25, slot := 8, constantValue := 0 }, { name := "LOG2_ARRAY_DOUBLE_INDEX_SCALE", type := .int, accessFlags := 25, slot := 9, constantValue := 0 }, { name := "LOG2_BYTE_BIT_SIZE", type := .int, accessFlags := 26, slot := 10, constantValue := 0 }, { name := "T_BOOLEAN", type := .int, accessFlags := 25, slot := 11, constantValue := 0 }, { name := "T_CHAR", type := .int, accessFlags := 25, slot := 12, constantValue := 0 }, { name := "T_FLOAT", type := .int, accessFlags := 25, slot := 13, constantValue := 0 }, { name := "T_DOUBLE", type := .int, accessFlags := 25, slot := 14, constantValue := 0 }, { name := "T_BYTE", type := .int, accessFlags := 25, slot := 15, constantValue := 0 }, { name := "T_SHORT", type := .int, accessFlags := 25, slot := 16, constantValue := 0 }, { name := "T_INT", type := .int, accessFlags := 25, slot := 17, constantValue := 0 }, { name := "T_LONG", type := .int, accessFlags := 25, slot := 18, constantValue := 0 }, { name := "JLA", type := (.object "jdk/internal/access/JavaLangAccess"), accessFlags := 26, slot := 19, constantValue := 0 }, { name := "SOFT_MAX_ARRAY_LENGTH", type := .int, accessFlags := 25, slot := 20, constantValue := 0 }]
  methods := #[k12m0]
  instanceTypes := #[]
  staticTypes := #[(.object "jdk/internal/misc/Unsafe"), .boolean, .int, .int, .int, .int, .int, .int, .int, .int, .int, .int, .int, .int, .int, .int, .int, .int, .int, (.object "jdk/internal/access/JavaLangAccess"), .int]
  resolved := Array.replicate 378 none
  statics := none }

def pool13 : Array CpInfo := pool [(1, u "java/lang/Cloneable"), (0, .class_ 1), (0, u "java/lang/Object"), (0, .class_ 3)] 3

/-- java/lang/Cloneable -/
def k13 : Class := { plain "java/lang/Cloneable" (some 0) with
  accessFlags := 1537
  interfaces := #[]
  cf := some (fileOf pool13 2 #[] #[] 1537 4 #[] #[])
  fields := #[]
  methods := #[]
  instanceTypes := #[]
  staticTypes := #[]
  resolved := Array.replicate 8 none
  statics := none }

/-- the primitive byte -/
def k14 : Class := { plain "byte" none with kind := .primitive 'B', accessFlags := 0x411 }
/-- [B -/
def k15 : Class := { plain "[B" (some 0) with kind := .array 14 .byte, interfaces := #[13, 2], accessFlags := 1041 }

/-- the primitive char -/
def k16 : Class := { plain "char" none with kind := .primitive 'C', accessFlags := 0x411 }
/-- [C -/
def k17 : Class := { plain "[C" (some 0) with kind := .array 16 .char, interfaces := #[13, 2], accessFlags := 1041 }

/-- the primitive int -/
def k18 : Class := { plain "int" none with kind := .primitive 'I', accessFlags := 0x411 }
/-- [I -/
def k19 : Class := { plain "[I" (some 0) with kind := .array 18 .int, interfaces := #[13, 2], accessFlags := 1041 }

def heap : Heap := #[{ cls := 7, slots := #[.long 0, .int 1, .null, .int 0, .null, .int 0, .int 0], vm := .statics 7 },
  { cls := 8, slots := #[.int 0, .int 8, .int 0, .int 1], vm := .statics 8 },
  { cls := 11, slots := #[.null, .null, .null], vm := .statics 11 }]
def classes : Array Class := #[k0, k1, k2, k3, k4, k5, k6, k7, k8, k9, k10, k11, k12, k13, k14, k15, k16, k17, k18, k19]
def interned : List (Array UInt16 × Addr) := []
def slotsUsed : Nat := 14
def theMethod : MethodId := ⟨1, 1⟩
def args0 : Array Value := #[.int 5, .int 5, .int 5, .int 5, .int 5]
def aboutOver (below : List Frame) : State where
  vm := { classes := classes, interned := interned.toArray }
  heap := heap
  slotsUsed := slotsUsed
  threads := #[{ frames := .invoking theMethod args0 :: below }]
def below0 : List Frame := [.native { method := ⟨0, 0⟩, args := #[] }]
def about1 : State := aboutOver below0
def p0 : Program := .bare "" "" ""
def e0 : Env := launch0.env 0 0 0
theorem w_frames : about1.frames = Frame.invoking theMethod args0 :: below0 := rfl
set_option maxRecDepth 65536 in
theorem w_args : argsFit about1.vm theMethod args0 = true := by decide +kernel
set_option maxRecDepth 65536 in
theorem w_heap : heapFits about1 = true := by decide +kernel
set_option maxRecDepth 65536 in
theorem w_runnable : about1.curStatus? = some .runnable := by decide +kernel
set_option maxRecDepth 65536 in
theorem w_alone : about1.alone = true := by decide +kernel
set_option maxRecDepth 65536 in
theorem w_named : about1.methodNamed? x = some theMethod := by decide +kernel
set_option maxRecDepth 65536 in
theorem w_hears : about1.hears theMethod below0 = true := by decide +kernel
set_option maxRecDepth 65536 in
theorem w_ripe : about1.ripe theMethod args0 below0 = true := by decide +kernel
theorem w_running : about1.status = .running := rfl
set_option maxRecDepth 65536 in
theorem w_room : about1.hasRoom e0.platform room_1 = true :=
  launch0.hasRoom_least _ room_1 (by decide +kernel) (by decide +kernel) (by decide +kernel) (by decide +kernel) (by decide +kernel) (by decide +kernel)
theorem allAtoms_all (ts : List Jvm.Cond) (a : Array Jvm.Value) (st : Jvm.State) : (allAtoms ts).before a st = ts.all (fun c => c.before a st) := by
  induction ts with
  | nil => rfl
  | cons c t ih =>
    show (Jvm.Cond.and c (allAtoms t)).before a st = _
    rw [Jvm.Cond.before_and, ih, List.all_cons]
def words1 : List Jvm.Cond := Jvm.Cond.code x code maxLocals ret :: tables_1
/-- a 'code' word, met by the world's own term for the bytes: nothing is compared byte by byte -/
theorem code_word {y : MethodName} {bytes : ByteArray} {mx : Nat} {rt : Option FieldType} {a : Array Value} {s : State} {m : MethodId} {meth : Method} {c : Code} (h1 : s.methodNamed? y = some m) (h2 : s.vm.method? m = some meth) (h3 : meth.code = some c) (h4 : c.code = bytes)
    (h5 : (c.maxLocals == mx && c.exceptionTable.isEmpty && decide (c.maxStack ≤ mostOperands) && decide (meth.sig.returnType = rt) && !meth.locks && decide (parseMethodDescriptor y.desc = some meth.sig)) = true) : (Jvm.Cond.code y bytes mx rt).before a s = true := by
  simp only [Bool.and_eq_true, beq_iff_eq, Bool.not_eq_true', decide_eq_true_eq] at h5
  obtain ⟨⟨⟨⟨⟨g1, g2⟩, g3⟩, g4⟩, g5⟩, g6⟩ := h5
  simp [Cond.before, Cond.holds, Cond.value, h1, h2, h3, h4, g1, g2, g3, g4, g5, g6]
def isCode : Jvm.Cond → Bool
  | .code _ _ _ _ => true
  | _ => false
theorem all_split {L : List Jvm.Cond} {P : Jvm.Cond → Bool} (h1 : L.all (fun c => isCode c || P c) = true) (h2 : ∀ c ∈ L.filter isCode, P c = true) : L.all P = true := by
  refine List.all_eq_true.mpr fun c hc => ?_
  have h := List.all_eq_true.mp h1 c hc
  rcases Bool.eq_false_or_eq_true (isCode c) with hi | hi
  · exact h2 c (List.mem_filter.mpr ⟨hc, hi⟩)
  · simpa [hi] using h
set_option maxRecDepth 65536 in
theorem w_c0 : (Jvm.Cond.code x code maxLocals ret).before args0 about1 = true := code_word (m := ⟨1, 1⟩) (meth := k1m1) (c := k1c1) (by decide +kernel) rfl rfl rfl (by decide +kernel)
set_option maxRecDepth 65536 in
theorem w_c1 : (Jvm.Cond.code ({ cls := "com/example/planwright/planwright/model/DecimalsIsDigitsPinLaw", name := "pick", desc := "(II)C" } : Jvm.MethodName) method_3_code (2 : Nat) (Option.some Jvm.ClassFile.FieldType.char)).before args0 about1 = true := code_word (m := ⟨1, 2⟩) (meth := k1m2) (c := k1c2) (by decide +kernel) rfl rfl rfl (by decide +kernel)
set_option maxRecDepth 65536 in
theorem w_c2 : (Jvm.Cond.code ({ cls := "java/lang/String", name := "<init>", desc := "([C)V" } : Jvm.MethodName) jdk_42_method_3_code (2 : Nat) (Option.none : Option Jvm.ClassFile.FieldType)).before args0 about1 = true := code_word (m := ⟨7, 1⟩) (meth := k7m1) (c := k7c1) (by decide +kernel) rfl rfl rfl (by decide +kernel)
set_option maxRecDepth 65536 in
theorem w_c3 : (Jvm.Cond.code ({ cls := "java/lang/String", name := "<init>", desc := "([CIILjava/lang/Void;)V" } : Jvm.MethodName) jdk_42_method_149_code (6 : Nat) (Option.none : Option Jvm.ClassFile.FieldType)).before args0 about1 = true := code_word (m := ⟨7, 3⟩) (meth := k7m3) (c := k7c3) (by decide +kernel) rfl rfl rfl (by decide +kernel)
set_option maxRecDepth 65536 in
theorem w_c4 : (Jvm.Cond.code ({ cls := "java/lang/Object", name := "<init>", desc := "()V" } : Jvm.MethodName) object_method_1_code (1 : Nat) (Option.none : Option Jvm.ClassFile.FieldType)).before args0 about1 = true := code_word (m := ⟨0, 0⟩) (meth := k0m0) (c := k0c0) (by decide +kernel) rfl rfl rfl (by decide +kernel)
set_option maxRecDepth 65536 in
theorem w_c5 : (Jvm.Cond.code ({ cls := "java/lang/StringUTF16", name := "compress", desc := "([CII)[B" } : Jvm.MethodName) jdk_52_method_16_code (6 : Nat) (Option.some (Jvm.ClassFile.FieldType.array Jvm.ClassFile.FieldType.byte))).before args0 about1 = true := code_word (m := ⟨8, 8⟩) (meth := k8m8) (c := k8c8) (by decide +kernel) rfl rfl rfl (by decide +kernel)
set_option maxRecDepth 65536 in
theorem w_c6 : (Jvm.Cond.code ({ cls := "java/lang/StringUTF16", name := "compress", desc := "([CI[BII)I" } : Jvm.MethodName) jdk_52_method_21_code (7 : Nat) (Option.some Jvm.ClassFile.FieldType.int)).before args0 about1 = true := code_word (m := ⟨8, 9⟩) (meth := k8m9) (c := k8c9) (by decide +kernel) rfl rfl rfl (by decide +kernel)
set_option maxRecDepth 65536 in
theorem w_c7 : (Jvm.Cond.code ({ cls := "java/lang/StringUTF16", name := "coderFromArrayLen", desc := "([BI)B" } : Jvm.MethodName) jdk_52_method_15_code (2 : Nat) (Option.some Jvm.ClassFile.FieldType.byte)).before args0 about1 = true := code_word (m := ⟨8, 7⟩) (meth := k8m7) (c := k8c7) (by decide +kernel) rfl rfl rfl (by decide +kernel)
set_option maxRecDepth 65536 in
theorem w_c8 : (Jvm.Cond.code ({ cls := "com/example/planwright/planwright/model/DecimalsIsDigitsPinLaw", name := "ok", desc := "(CIII)Z" } : Jvm.MethodName) method_4_code (5 : Nat) (Option.some Jvm.ClassFile.FieldType.boolean)).before args0 about1 = true := code_word (m := ⟨1, 3⟩) (meth := k1m3) (c := k1c3) (by decide +kernel) rfl rfl rfl (by decide +kernel)
set_option maxRecDepth 65536 in
theorem w_c9 : (Jvm.Cond.code ({ cls := "com/example/planwright/planwright/model/Decimals", name := "isDigits", desc := "(Ljava/lang/String;II)Z" } : Jvm.MethodName) prog_39_method_2_code (5 : Nat) (Option.some Jvm.ClassFile.FieldType.boolean)).before args0 about1 = true := code_word (m := ⟨9, 1⟩) (meth := k9m1) (c := k9c1) (by decide +kernel) rfl rfl rfl (by decide +kernel)
set_option maxRecDepth 65536 in
theorem w_c10 : (Jvm.Cond.code ({ cls := "java/lang/String", name := "charAt", desc := "(I)C" } : Jvm.MethodName) jdk_42_method_56_code (2 : Nat) (Option.some Jvm.ClassFile.FieldType.char)).before args0 about1 = true := code_word (m := ⟨7, 2⟩) (meth := k7m2) (c := k7c2) (by decide +kernel) rfl rfl rfl (by decide +kernel)
set_option maxRecDepth 65536 in
theorem w_c11 : (Jvm.Cond.code ({ cls := "java/lang/String", name := "isLatin1", desc := "()Z" } : Jvm.MethodName) jdk_42_method_154_code (1 : Nat) (Option.some Jvm.ClassFile.FieldType.boolean)).before args0 about1 = true := code_word (m := ⟨7, 4⟩) (meth := k7m4) (c := k7c4) (by decide +kernel) rfl rfl rfl (by decide +kernel)
set_option maxRecDepth 65536 in
theorem w_c12 : (Jvm.Cond.code ({ cls := "java/lang/StringLatin1", name := "charAt", desc := "([BI)C" } : Jvm.MethodName) jdk_43_method_2_code (2 : Nat) (Option.some Jvm.ClassFile.FieldType.char)).before args0 about1 = true := code_word (m := ⟨10, 1⟩) (meth := k10m1) (c := k10c1) (by decide +kernel) rfl rfl rfl (by decide +kernel)
set_option maxRecDepth 65536 in
theorem w_c13 : (Jvm.Cond.code ({ cls := "java/lang/String", name := "checkIndex", desc := "(II)V" } : Jvm.MethodName) jdk_42_method_155_code (2 : Nat) (Option.none : Option Jvm.ClassFile.FieldType)).before args0 about1 = true := code_word (m := ⟨7, 5⟩) (meth := k7m5) (c := k7c5) (by decide +kernel) rfl rfl rfl (by decide +kernel)
set_option maxRecDepth 65536 in
theorem w_c14 : (Jvm.Cond.code ({ cls := "jdk/internal/util/Preconditions", name := "checkIndex", desc := "(IILjava/util/function/BiFunction;)I" } : Jvm.MethodName) jdk_41_method_11_code (3 : Nat) (Option.some Jvm.ClassFile.FieldType.int)).before args0 about1 = true := code_word (m := ⟨11, 1⟩) (meth := k11m1) (c := k11c1) (by decide +kernel) rfl rfl rfl (by decide +kernel)
set_option maxRecDepth 65536 in
theorem w_c15 : (Jvm.Cond.code ({ cls := "java/lang/StringUTF16", name := "toBytes", desc := "([CII)[B" } : Jvm.MethodName) jdk_52_method_14_code (5 : Nat) (Option.some (Jvm.ClassFile.FieldType.array Jvm.ClassFile.FieldType.byte))).before args0 about1 = true := code_word (m := ⟨8, 6⟩) (meth := k8m6) (c := k8c6) (by decide +kernel) rfl rfl rfl (by decide +kernel)
set_option maxRecDepth 65536 in
theorem w_c16 : (Jvm.Cond.code ({ cls := "java/lang/StringUTF16", name := "newBytesFor", desc := "(I)[B" } : Jvm.MethodName) jdk_52_method_2_code (1 : Nat) (Option.some (Jvm.ClassFile.FieldType.array Jvm.ClassFile.FieldType.byte))).before args0 about1 = true := code_word (m := ⟨8, 1⟩) (meth := k8m1) (c := k8c1) (by decide +kernel) rfl rfl rfl (by decide +kernel)
set_option maxRecDepth 65536 in
theorem w_c17 : (Jvm.Cond.code ({ cls := "java/lang/StringUTF16", name := "newBytesLength", desc := "(I)I" } : Jvm.MethodName) jdk_52_method_3_code (1 : Nat) (Option.some Jvm.ClassFile.FieldType.int)).before args0 about1 = true := code_word (m := ⟨8, 2⟩) (meth := k8m2) (c := k8c2) (by decide +kernel) rfl rfl rfl (by decide +kernel)
set_option maxRecDepth 65536 in
theorem w_c18 : (Jvm.Cond.code ({ cls := "java/lang/StringUTF16", name := "putChar", desc := "([BII)V" } : Jvm.MethodName) jdk_52_method_4_code (3 : Nat) (Option.none : Option Jvm.ClassFile.FieldType)).before args0 about1 = true := code_word (m := ⟨8, 3⟩) (meth := k8m3) (c := k8c3) (by decide +kernel) rfl rfl rfl (by decide +kernel)
set_option maxRecDepth 65536 in
theorem w_c19 : (Jvm.Cond.code ({ cls := "java/lang/StringUTF16", name := "getChar", desc := "([BI)C" } : Jvm.MethodName) jdk_52_method_5_code (2 : Nat) (Option.some Jvm.ClassFile.FieldType.char)).before args0 about1 = true := code_word (m := ⟨8, 4⟩) (meth := k8m4) (c := k8c4) (by decide +kernel) rfl rfl rfl (by decide +kernel)
set_option maxRecDepth 65536 in
theorem w_c20 : (Jvm.Cond.code ({ cls := "java/lang/StringUTF16", name := "charAt", desc := "([BI)C" } : Jvm.MethodName) jdk_52_method_83_code (2 : Nat) (Option.some Jvm.ClassFile.FieldType.char)).before args0 about1 = true := code_word (m := ⟨8, 10⟩) (meth := k8m10) (c := k8c10) (by decide +kernel) rfl rfl rfl (by decide +kernel)
set_option maxRecDepth 65536 in
theorem w_c21 : (Jvm.Cond.code ({ cls := "java/lang/StringUTF16", name := "checkIndex", desc := "(I[B)V" } : Jvm.MethodName) jdk_52_method_91_code (2 : Nat) (Option.none : Option Jvm.ClassFile.FieldType)).before args0 about1 = true := code_word (m := ⟨8, 11⟩) (meth := k8m11) (c := k8c11) (by decide +kernel) rfl rfl rfl (by decide +kernel)
set_option maxRecDepth 65536 in
theorem w_c22 : (Jvm.Cond.code ({ cls := "java/lang/StringUTF16", name := "length", desc := "([B)I" } : Jvm.MethodName) jdk_52_method_6_code (1 : Nat) (Option.some Jvm.ClassFile.FieldType.int)).before args0 about1 = true := code_word (m := ⟨8, 5⟩) (meth := k8m5) (c := k8c5) (by decide +kernel) rfl rfl rfl (by decide +kernel)
def codes1 : List Jvm.Cond := [Jvm.Cond.code x code maxLocals ret, Jvm.Cond.code ({ cls := "com/example/planwright/planwright/model/DecimalsIsDigitsPinLaw", name := "pick", desc := "(II)C" } : Jvm.MethodName) method_3_code (2 : Nat) (Option.some Jvm.ClassFile.FieldType.char), Jvm.Cond.code ({ cls := "java/lang/String", name := "<init>", desc := "([C)V" } : Jvm.MethodName) jdk_42_method_3_code (2 : Nat) (Option.none : Option Jvm.ClassFile.FieldType), Jvm.Cond.code ({ cls := "java/lang/String", name := "<init>", desc := "([CIILjava/lang/Void;)V" } : Jvm.MethodName) jdk_42_method_149_code (6 : Nat) (Option.none : Option Jvm.ClassFile.FieldType), Jvm.Cond.code ({ cls := "java/lang/Object", name := "<init>", desc := "()V" } : Jvm.MethodName) object_method_1_code (1 : Nat) (Option.none : Option Jvm.ClassFile.FieldType), Jvm.Cond.code ({ cls := "java/lang/StringUTF16", name := "compress", desc := "([CII)[B" } : Jvm.MethodName) jdk_52_method_16_code (6 : Nat) (Option.some (Jvm.ClassFile.FieldType.array Jvm.ClassFile.FieldType.byte)), Jvm.Cond.code ({ cls := "java/lang/StringUTF16", name := "compress", desc := "([CI[BII)I" } : Jvm.MethodName) jdk_52_method_21_code (7 : Nat) (Option.some Jvm.ClassFile.FieldType.int), Jvm.Cond.code ({ cls := "java/lang/StringUTF16", name := "coderFromArrayLen", desc := "([BI)B" } : Jvm.MethodName) jdk_52_method_15_code (2 : Nat) (Option.some Jvm.ClassFile.FieldType.byte), Jvm.Cond.code ({ cls := "com/example/planwright/planwright/model/DecimalsIsDigitsPinLaw", name := "ok", desc := "(CIII)Z" } : Jvm.MethodName) method_4_code (5 : Nat) (Option.some Jvm.ClassFile.FieldType.boolean), Jvm.Cond.code ({ cls := "com/example/planwright/planwright/model/Decimals", name := "isDigits", desc := "(Ljava/lang/String;II)Z" } : Jvm.MethodName) prog_39_method_2_code (5 : Nat) (Option.some Jvm.ClassFile.FieldType.boolean), Jvm.Cond.code ({ cls := "java/lang/String", name := "charAt", desc := "(I)C" } : Jvm.MethodName) jdk_42_method_56_code (2 : Nat) (Option.some Jvm.ClassFile.FieldType.char), Jvm.Cond.code ({ cls := "java/lang/String", name := "isLatin1", desc := "()Z" } : Jvm.MethodName) jdk_42_method_154_code (1 : Nat) (Option.some Jvm.ClassFile.FieldType.boolean), Jvm.Cond.code ({ cls := "java/lang/StringLatin1", name := "charAt", desc := "([BI)C" } : Jvm.MethodName) jdk_43_method_2_code (2 : Nat) (Option.some Jvm.ClassFile.FieldType.char), Jvm.Cond.code ({ cls := "java/lang/String", name := "checkIndex", desc := "(II)V" } : Jvm.MethodName) jdk_42_method_155_code (2 : Nat) (Option.none : Option Jvm.ClassFile.FieldType), Jvm.Cond.code ({ cls := "jdk/internal/util/Preconditions", name := "checkIndex", desc := "(IILjava/util/function/BiFunction;)I" } : Jvm.MethodName) jdk_41_method_11_code (3 : Nat) (Option.some Jvm.ClassFile.FieldType.int), Jvm.Cond.code ({ cls := "java/lang/StringUTF16", name := "toBytes", desc := "([CII)[B" } : Jvm.MethodName) jdk_52_method_14_code (5 : Nat) (Option.some (Jvm.ClassFile.FieldType.array Jvm.ClassFile.FieldType.byte)), Jvm.Cond.code ({ cls := "java/lang/StringUTF16", name := "newBytesFor", desc := "(I)[B" } : Jvm.MethodName) jdk_52_method_2_code (1 : Nat) (Option.some (Jvm.ClassFile.FieldType.array Jvm.ClassFile.FieldType.byte)), Jvm.Cond.code ({ cls := "java/lang/StringUTF16", name := "newBytesLength", desc := "(I)I" } : Jvm.MethodName) jdk_52_method_3_code (1 : Nat) (Option.some Jvm.ClassFile.FieldType.int), Jvm.Cond.code ({ cls := "java/lang/StringUTF16", name := "putChar", desc := "([BII)V" } : Jvm.MethodName) jdk_52_method_4_code (3 : Nat) (Option.none : Option Jvm.ClassFile.FieldType), Jvm.Cond.code ({ cls := "java/lang/StringUTF16", name := "getChar", desc := "([BI)C" } : Jvm.MethodName) jdk_52_method_5_code (2 : Nat) (Option.some Jvm.ClassFile.FieldType.char), Jvm.Cond.code ({ cls := "java/lang/StringUTF16", name := "charAt", desc := "([BI)C" } : Jvm.MethodName) jdk_52_method_83_code (2 : Nat) (Option.some Jvm.ClassFile.FieldType.char), Jvm.Cond.code ({ cls := "java/lang/StringUTF16", name := "checkIndex", desc := "(I[B)V" } : Jvm.MethodName) jdk_52_method_91_code (2 : Nat) (Option.none : Option Jvm.ClassFile.FieldType), Jvm.Cond.code ({ cls := "java/lang/StringUTF16", name := "length", desc := "([B)I" } : Jvm.MethodName) jdk_52_method_6_code (1 : Nat) (Option.some Jvm.ClassFile.FieldType.int)]
set_option maxRecDepth 65536 in
theorem codes_eq : words1.filter isCode = codes1 := rfl
theorem w_codes : ∀ c ∈ words1.filter isCode, c.before args0 about1 = true := by
  rw [codes_eq]
  intro c hc
  simp only [codes1, List.mem_cons, List.not_mem_nil, or_false] at hc
  rcases hc with rfl | rfl | rfl | rfl | rfl | rfl | rfl | rfl | rfl | rfl | rfl | rfl | rfl | rfl | rfl | rfl | rfl | rfl | rfl | rfl | rfl | rfl | rfl
  · exact w_c0
  · exact w_c1
  · exact w_c2
  · exact w_c3
  · exact w_c4
  · exact w_c5
  · exact w_c6
  · exact w_c7
  · exact w_c8
  · exact w_c9
  · exact w_c10
  · exact w_c11
  · exact w_c12
  · exact w_c13
  · exact w_c14
  · exact w_c15
  · exact w_c16
  · exact w_c17
  · exact w_c18
  · exact w_c19
  · exact w_c20
  · exact w_c21
  · exact w_c22
set_option maxRecDepth 65536 in
theorem w_t1 : (words1.take 24).all (fun c => isCode c || c.before args0 about1) = true := by decide +kernel
set_option maxRecDepth 65536 in
theorem w_t2 : ((words1.drop 24).take 24).all (fun c => isCode c || c.before args0 about1) = true := by decide +kernel
set_option maxRecDepth 65536 in
theorem w_t3 : (((words1.drop 24).drop 24).take 24).all (fun c => isCode c || c.before args0 about1) = true := by decide +kernel
set_option maxRecDepth 65536 in
theorem w_t4 : (((words1.drop 24).drop 24).drop 24).all (fun c => isCode c || c.before args0 about1) = true := by decide +kernel
theorem w_tables : (allAtoms (Jvm.Cond.code x code maxLocals ret :: tables_1)).before args0 about1 = true := by
  rw [allAtoms_all]
  show words1.all (fun c => c.before args0 about1) = true
  refine all_split ?_ w_codes
  rw [← List.take_append_drop 24 words1, List.all_append, w_t1, ← List.take_append_drop 24 (words1.drop 24), List.all_append, w_t2, ← List.take_append_drop 24 ((words1.drop 24).drop 24), List.all_append, w_t3, w_t4]
  rfl
set_option maxRecDepth 65536 in
theorem w_rest : rest_1_c.before args0 about1 = true := by decide +kernel
set_option maxRecDepth 65536 in
theorem w_case : (Jvm.Cond.and given_1 narrow_1).before args0 about1 = true := by decide +kernel
theorem w_applies : (headSpec (Jvm.Cond.code x code maxLocals ret :: tables_1) room_1).applies x e0.platform about1 = true :=
  (Spec.applies_iff w_frames).mpr ⟨w_running, w_runnable, w_alone, w_named, w_hears, w_ripe, w_room, w_tables⟩
theorem atStart : AtStart classFile x code maxLocals ret World_1 tables_1 room_1 Calls_1 rest_1 Pre_1 launch0 p0 e0 about1 theMethod args0 below0 :=
  ⟨lists_1, trivial, launch0.admits_env _ _ _, launch0.least_env, fairChoices_fair.cas, fairChoices_fair.clock, w_frames, w_args, w_heap, w_applies, trivial, w_rest, w_case⟩
end start1
theorem witness_1 : WitnessClaimed_1 := ⟨start1.p0, start1.e0, start1.about1, start1.theMethod, start1.args0, start1.below0, start1.atStart⟩
end Jvm.Pilot.@@N@@
