import JvmDerived
import JvmDerived.Pilot.@@N@@Statement
import JvmDerived.Pilot.@@N@@Code
set_option linter.unusedVariables false
set_option linter.unusedSimpArgs false
set_option maxRecDepth 65536
set_option maxHeartbeats 4000000
namespace Jvm.Pilot.@@N@@
open Jvm Jvm.ClassFile Sem Op Lib Jvm.Free Jvm.Stand Jvm.LawKit Jvm.RoadKit Bundle Jvm.Pilot.@@N@@.Jvm.D
section Own
variable {p : Program} {l : Launch} {e : Env} {R : Room} {s : State} {m : MethodId} {args : Array Value} {below : List Frame} {meth : Method} {c : Code} {T : State} {locs : List Loc} {cells slots : Nat} {K J : Nat} {EE : Outcome → State → List Loc → Prop} {Q : Option Value → Heap → List Loc → Prop} {Z : State} {a0 : Array Value} {h : Heap}
/-- from U the run comes to its end, and what it leaves is Q's -/
def Ends (p : Program) (e : Env) (below : List Frame) (EE : Outcome → State → List Loc → Prop) (Q : Option Value → Heap → List Loc → Prop) (U : State) : Prop :=
  ∃ s₂ o, Steps p.tables e below U s₂ ∧ s₂.status = .running ∧ Ended s₂ below o ∧ ∃ v L, o = .returned v ∧ Q v s₂.heap L ∧ EE o s₂ L
/-- the end's frame: tables warmed alone; or strings interned too -/
abbrev EF (s : State) (K J : Nat) : Outcome → State → List Loc → Prop := fun o t L => FrameEnd s o t L K J
abbrev EW (s : State) (K J : Nat) : Outcome → State → List Loc → Prop := fun o t L => ReturnedEndW s o t L K J
theorem Ends.via {A B : State} (h : ∀ t, Steps p.tables e below A t → Steps p.tables e below B t) (k : Ends p e below EE Q A) : Ends p e below EE Q B := by
  obtain ⟨s2, o, h1, h2⟩ := k
  exact ⟨s2, o, h _ h1, h2⟩
theorem Ends.tr {A B : State} (h : Steps p.tables e below B A) (k : Ends p e below EE Q A) : Ends p e below EE Q B := by
  obtain ⟨s2, o, h1, h2⟩ := k
  exact ⟨s2, o, h.trans h1, h2⟩
theorem Ends.cast {g g' : JFrame} (q : g = g') (k : Ends p e below EE Q (T.setTop g')) : Ends p e below EE Q (T.setTop g) := q ▸ k
theorem own_iadd (X : Stand p l e R s m args below meth c T locs cells slots) (hx : p.tables.exec = Jvm.exec) {pc n : Nat} {Ls : Array Slot} {st : List Value} {x y : Int32} (hd : decode c.code pc = .ok (.iadd, 1))  (hn : pc + 1 = n) (k : Ends p e below EE Q (T.setTop (mkF m n Ls (.int (x + y) :: st)))) : Ends p e below EE Q (T.setTop (mkF m pc Ls (.int y :: .int x :: st))) := by
  subst hn
  exact Ends.via (fun t h => XS.iadd X.here hx rfl hd rfl h) k
theorem own_isub (X : Stand p l e R s m args below meth c T locs cells slots) (hx : p.tables.exec = Jvm.exec) {pc n : Nat} {Ls : Array Slot} {st : List Value} {x y : Int32} (hd : decode c.code pc = .ok (.isub, 1))  (hn : pc + 1 = n) (k : Ends p e below EE Q (T.setTop (mkF m n Ls (.int (x - y) :: st)))) : Ends p e below EE Q (T.setTop (mkF m pc Ls (.int y :: .int x :: st))) := by
  subst hn
  exact Ends.via (fun t h => XS.isub X.here hx rfl hd rfl h) k
theorem own_iand (X : Stand p l e R s m args below meth c T locs cells slots) (hx : p.tables.exec = Jvm.exec) {pc n : Nat} {Ls : Array Slot} {st : List Value} {x y : Int32} (hd : decode c.code pc = .ok (.iand, 1))  (hn : pc + 1 = n) (k : Ends p e below EE Q (T.setTop (mkF m n Ls (.int (x &&& y) :: st)))) : Ends p e below EE Q (T.setTop (mkF m pc Ls (.int y :: .int x :: st))) := by
  subst hn
  exact Ends.via (fun t h => XS.iand X.here hx rfl hd rfl h) k
theorem own_ior (X : Stand p l e R s m args below meth c T locs cells slots) (hx : p.tables.exec = Jvm.exec) {pc n : Nat} {Ls : Array Slot} {st : List Value} {x y : Int32} (hd : decode c.code pc = .ok (.ior, 1))  (hn : pc + 1 = n) (k : Ends p e below EE Q (T.setTop (mkF m n Ls (.int (x ||| y) :: st)))) : Ends p e below EE Q (T.setTop (mkF m pc Ls (.int y :: .int x :: st))) := by
  subst hn
  exact Ends.via (fun t h => XS.ior X.here hx rfl hd rfl h) k
theorem own_ixor (X : Stand p l e R s m args below meth c T locs cells slots) (hx : p.tables.exec = Jvm.exec) {pc n : Nat} {Ls : Array Slot} {st : List Value} {x y : Int32} (hd : decode c.code pc = .ok (.ixor, 1))  (hn : pc + 1 = n) (k : Ends p e below EE Q (T.setTop (mkF m n Ls (.int (x ^^^ y) :: st)))) : Ends p e below EE Q (T.setTop (mkF m pc Ls (.int y :: .int x :: st))) := by
  subst hn
  exact Ends.via (fun t h => XS.ixor X.here hx rfl hd rfl h) k
theorem own_ishl (X : Stand p l e R s m args below meth c T locs cells slots) (hx : p.tables.exec = Jvm.exec) {pc n : Nat} {Ls : Array Slot} {st : List Value} {x y : Int32} (hd : decode c.code pc = .ok (.ishl, 1))  (hn : pc + 1 = n) (k : Ends p e below EE Q (T.setTop (mkF m n Ls (.int (x <<< (y &&& 31)) :: st)))) : Ends p e below EE Q (T.setTop (mkF m pc Ls (.int y :: .int x :: st))) := by
  subst hn
  exact Ends.via (fun t h => XS.ishl X.here hx rfl hd rfl h) k
theorem own_ishr (X : Stand p l e R s m args below meth c T locs cells slots) (hx : p.tables.exec = Jvm.exec) {pc n : Nat} {Ls : Array Slot} {st : List Value} {x y : Int32} (hd : decode c.code pc = .ok (.ishr, 1))  (hn : pc + 1 = n) (k : Ends p e below EE Q (T.setTop (mkF m n Ls (.int (x >>> (y &&& 31)) :: st)))) : Ends p e below EE Q (T.setTop (mkF m pc Ls (.int y :: .int x :: st))) := by
  subst hn
  exact Ends.via (fun t h => XS.ishr X.here hx rfl hd rfl h) k
theorem own_iushr (X : Stand p l e R s m args below meth c T locs cells slots) (hx : p.tables.exec = Jvm.exec) {pc n : Nat} {Ls : Array Slot} {st : List Value} {x y : Int32} (hd : decode c.code pc = .ok (.iushr, 1))  (hn : pc + 1 = n) (k : Ends p e below EE Q (T.setTop (mkF m n Ls (.int ((x.toUInt32 >>> (y &&& 31).toUInt32).toInt32) :: st)))) : Ends p e below EE Q (T.setTop (mkF m pc Ls (.int y :: .int x :: st))) := by
  subst hn
  exact Ends.via (fun t h => XS.iushr X.here hx rfl hd rfl h) k
theorem own_irem (X : Stand p l e R s m args below meth c T locs cells slots) (hx : p.tables.exec = Jvm.exec) {pc n : Nat} {Ls : Array Slot} {st : List Value} {x y : Int32} (hd : decode c.code pc = .ok (.irem, 1)) (hy : y ≠ 0) (hn : pc + 1 = n) (k : Ends p e below EE Q (T.setTop (mkF m n Ls (.int (x % y) :: st)))) : Ends p e below EE Q (T.setTop (mkF m pc Ls (.int y :: .int x :: st))) := by
  subst hn
  exact Ends.via (fun t h => iremM X hx rfl hd rfl hy h) k
theorem own_i2b (X : Stand p l e R s m args below meth c T locs cells slots) (hx : p.tables.exec = Jvm.exec) {pc n : Nat} {Ls : Array Slot} {st : List Value} {x : Int32} (hd : decode c.code pc = .ok (.i2b, 1))  (hn : pc + 1 = n) (k : Ends p e below EE Q (T.setTop (mkF m n Ls (.int x.toInt8.toInt32 :: st)))) : Ends p e below EE Q (T.setTop (mkF m pc Ls (.int x :: st))) := by
  subst hn
  exact Ends.via (fun t h => XS.i2b X.here hx rfl hd rfl h) k
theorem own_i2c (X : Stand p l e R s m args below meth c T locs cells slots) (hx : p.tables.exec = Jvm.exec) {pc n : Nat} {Ls : Array Slot} {st : List Value} {x : Int32} (hd : decode c.code pc = .ok (.i2c, 1))  (hn : pc + 1 = n) (k : Ends p e below EE Q (T.setTop (mkF m n Ls (.int x.toUInt32.toUInt16.toUInt32.toInt32 :: st)))) : Ends p e below EE Q (T.setTop (mkF m pc Ls (.int x :: st))) := by
  subst hn
  exact Ends.via (fun t h => XS.i2c X.here hx rfl hd rfl h) k
theorem own_pop (X : Stand p l e R s m args below meth c T locs cells slots) (hx : p.tables.exec = Jvm.exec) {pc n : Nat} {Ls : Array Slot} {st : List Value} {x : Value} (hd : decode c.code pc = .ok (.pop, 1)) (hc : x.category = 1) (hn : pc + 1 = n) (k : Ends p e below EE Q (T.setTop (mkF m n Ls (st)))) : Ends p e below EE Q (T.setTop (mkF m pc Ls (x :: st))) := by
  subst hn
  exact Ends.via (fun t h => XS.pop X.here hx rfl hd rfl hc h) k
theorem own_dup (X : Stand p l e R s m args below meth c T locs cells slots) (hx : p.tables.exec = Jvm.exec) {pc n : Nat} {Ls : Array Slot} {st : List Value} {x : Value} (hd : decode c.code pc = .ok (.dup, 1)) (hc : x.category = 1) (hn : pc + 1 = n) (k : Ends p e below EE Q (T.setTop (mkF m n Ls (x :: x :: st)))) : Ends p e below EE Q (T.setTop (mkF m pc Ls (x :: st))) := by
  subst hn
  exact Ends.via (fun t h => XS.dup X.here hx rfl hd rfl hc h) k
theorem own_dup_x1 (X : Stand p l e R s m args below meth c T locs cells slots) (hx : p.tables.exec = Jvm.exec) {pc n : Nat} {Ls : Array Slot} {st : List Value} {x y : Value} (hd : decode c.code pc = .ok (.dup_x1, 1)) (hc : x.category = 1) (hc' : y.category = 1) (hn : pc + 1 = n) (k : Ends p e below EE Q (T.setTop (mkF m n Ls (x :: y :: x :: st)))) : Ends p e below EE Q (T.setTop (mkF m pc Ls (x :: y :: st))) := by
  subst hn
  exact Ends.via (fun t h => XS.dupX1 X.here hx rfl hd rfl hc hc' h) k
theorem own_aconst_null (X : Stand p l e R s m args below meth c T locs cells slots) (hx : p.tables.exec = Jvm.exec) {pc n : Nat} {Ls : Array Slot} {st : List Value}  (hd : decode c.code pc = .ok (.aconst_null, 1))  (hn : pc + 1 = n) (k : Ends p e below EE Q (T.setTop (mkF m n Ls (.null :: st)))) : Ends p e below EE Q (T.setTop (mkF m pc Ls (st))) := by
  subst hn
  exact Ends.via (fun t h => XS.aconstNull X.here hx rfl hd  h) k
theorem own_iconst (X : Stand p l e R s m args below meth c T locs cells slots) (hx : p.tables.exec = Jvm.exec) {pc n : Nat} {Ls : Array Slot} {st : List Value} {i : Int} (v : Int32) (hd : decode c.code pc = .ok (.iconst i, 1)) (hv : Int32.ofInt i = v) (hn : pc + 1 = n) (k : Ends p e below EE Q (T.setTop (mkF m n Ls (.int v :: st)))) : Ends p e below EE Q (T.setTop (mkF m pc Ls st)) := by
  subst hn hv
  exact Ends.via (fun t h => XS.iconst X.here hx rfl hd h) k
theorem own_bipush (X : Stand p l e R s m args below meth c T locs cells slots) (hx : p.tables.exec = Jvm.exec) {pc n : Nat} {Ls : Array Slot} {st : List Value} {i : Int} (v : Int32) (hd : decode c.code pc = .ok (.bipush i, 2)) (hv : (Int8.ofInt i).toInt32 = v) (hn : pc + 2 = n) (k : Ends p e below EE Q (T.setTop (mkF m n Ls (.int v :: st)))) : Ends p e below EE Q (T.setTop (mkF m pc Ls st)) := by
  subst hn hv
  exact Ends.via (fun t h => XS.bipush X.here hx rfl hd h) k
theorem own_sipush (X : Stand p l e R s m args below meth c T locs cells slots) (hx : p.tables.exec = Jvm.exec) {pc n : Nat} {Ls : Array Slot} {st : List Value} {i : Int} (v : Int32) (hd : decode c.code pc = .ok (.sipush i, 3)) (hv : (Int16.ofInt i).toInt32 = v) (hn : pc + 3 = n) (k : Ends p e below EE Q (T.setTop (mkF m n Ls (.int v :: st)))) : Ends p e below EE Q (T.setTop (mkF m pc Ls st)) := by
  subst hn hv
  exact Ends.via (fun t h => XS.sipush X.here hx rfl hd h) k
theorem own_iload (X : Stand p l e R s m args below meth c T locs cells slots) (hx : p.tables.exec = Jvm.exec) {pc n : Nat} {Ls : Array Slot} {st : List Value} {i : Nat} {v : Int32} (hd : decode c.code pc = .ok (.iload i, 2)) (hl : Ls[i]? = some (.val (.int v))) (hn : pc + 2 = n) (k : Ends p e below EE Q (T.setTop (mkF m n Ls (.int v :: st)))) : Ends p e below EE Q (T.setTop (mkF m pc Ls (st))) := by
  subst hn
  exact Ends.via (fun t h => XS.iload X.here hx rfl hd hl h) k
theorem own_iloadN (X : Stand p l e R s m args below meth c T locs cells slots) (hx : p.tables.exec = Jvm.exec) {pc n : Nat} {Ls : Array Slot} {st : List Value} {i : Fin 4} {v : Int32} (hd : decode c.code pc = .ok (.iload_n i, 1)) (hl : Ls[i.val]? = some (.val (.int v))) (hn : pc + 1 = n) (k : Ends p e below EE Q (T.setTop (mkF m n Ls (.int v :: st)))) : Ends p e below EE Q (T.setTop (mkF m pc Ls (st))) := by
  subst hn
  exact Ends.via (fun t h => XS.iloadN X.here hx rfl hd hl h) k
theorem own_istore (X : Stand p l e R s m args below meth c T locs cells slots) (hx : p.tables.exec = Jvm.exec) {pc n : Nat} {Ls : Array Slot} {st : List Value} {i : Nat} {v : Int32} {l' : Array Slot} (hd : decode c.code pc = .ok (.istore i, 2)) (hl : storeLocals Ls i (.int v) = some l') (hn : pc + 2 = n) (k : Ends p e below EE Q (T.setTop (mkF m n l' (st)))) : Ends p e below EE Q (T.setTop (mkF m pc Ls (.int v :: st))) := by
  subst hn
  exact Ends.via (fun t h => XS.istore X.here hx rfl hd rfl hl h) k
theorem own_istoreN (X : Stand p l e R s m args below meth c T locs cells slots) (hx : p.tables.exec = Jvm.exec) {pc n : Nat} {Ls : Array Slot} {st : List Value} {i : Fin 4} {v : Int32} {l' : Array Slot} (hd : decode c.code pc = .ok (.istore_n i, 1)) (hl : storeLocals Ls i.val (.int v) = some l') (hn : pc + 1 = n) (k : Ends p e below EE Q (T.setTop (mkF m n l' (st)))) : Ends p e below EE Q (T.setTop (mkF m pc Ls (.int v :: st))) := by
  subst hn
  exact Ends.via (fun t h => XS.istoreN X.here hx rfl hd rfl hl h) k
theorem own_aload (X : Stand p l e R s m args below meth c T locs cells slots) (hx : p.tables.exec = Jvm.exec) {pc n : Nat} {Ls : Array Slot} {st : List Value} {i : Nat} {v : Value} (hd : decode c.code pc = .ok (.aload i, 2)) (hl : Ls[i]? = some (.val v)) (hv : v.isRef = true) (hn : pc + 2 = n) (k : Ends p e below EE Q (T.setTop (mkF m n Ls (v :: st)))) : Ends p e below EE Q (T.setTop (mkF m pc Ls (st))) := by
  subst hn
  exact Ends.via (fun t h => XS.aload X.here hx rfl hd hl hv h) k
theorem own_aloadN (X : Stand p l e R s m args below meth c T locs cells slots) (hx : p.tables.exec = Jvm.exec) {pc n : Nat} {Ls : Array Slot} {st : List Value} {i : Fin 4} {v : Value} (hd : decode c.code pc = .ok (.aload_n i, 1)) (hl : Ls[i.val]? = some (.val v)) (hv : v.isRef = true) (hn : pc + 1 = n) (k : Ends p e below EE Q (T.setTop (mkF m n Ls (v :: st)))) : Ends p e below EE Q (T.setTop (mkF m pc Ls (st))) := by
  subst hn
  exact Ends.via (fun t h => XS.aloadN X.here hx rfl hd hl hv h) k
theorem own_astore (X : Stand p l e R s m args below meth c T locs cells slots) (hx : p.tables.exec = Jvm.exec) {pc n : Nat} {Ls : Array Slot} {st : List Value} {i : Nat} {v : Value} {l' : Array Slot} (hd : decode c.code pc = .ok (.astore i, 2)) (hv : v.isRef = true) (hl : storeLocals Ls i v = some l') (hn : pc + 2 = n) (k : Ends p e below EE Q (T.setTop (mkF m n l' (st)))) : Ends p e below EE Q (T.setTop (mkF m pc Ls (v :: st))) := by
  subst hn
  exact Ends.via (fun t h => XS.astore X.here hx rfl hd rfl hv hl h) k
theorem own_astoreN (X : Stand p l e R s m args below meth c T locs cells slots) (hx : p.tables.exec = Jvm.exec) {pc n : Nat} {Ls : Array Slot} {st : List Value} {i : Fin 4} {v : Value} {l' : Array Slot} (hd : decode c.code pc = .ok (.astore_n i, 1)) (hv : v.isRef = true) (hl : storeLocals Ls i.val v = some l') (hn : pc + 1 = n) (k : Ends p e below EE Q (T.setTop (mkF m n l' (st)))) : Ends p e below EE Q (T.setTop (mkF m pc Ls (v :: st))) := by
  subst hn
  exact Ends.via (fun t h => XS.astoreN X.here hx rfl hd rfl hv hl h) k
theorem own_iinc (X : Stand p l e R s m args below meth c T locs cells slots) (hx : p.tables.exec = Jvm.exec) {pc n : Nat} {Ls : Array Slot} {st : List Value} {i : Nat} {cst : Int} {x v : Int32} {l' : Array Slot} (hd : decode c.code pc = .ok (.iinc i cst, 3)) (hl : Ls[i]? = some (.val (.int x))) (hv : Int32.ofInt cst = v) (hl' : storeLocals Ls i (.int (x + v)) = some l') (hn : pc + 3 = n) (k : Ends p e below EE Q (T.setTop (mkF m n l' st))) : Ends p e below EE Q (T.setTop (mkF m pc Ls st)) := by
  subst hn hv
  exact Ends.via (fun t h => XS.iinc X.here hx rfl hd hl hl' h) k
theorem own_goto (X : Stand p l e R s m args below meth c T locs cells slots) (hx : p.tables.exec = Jvm.exec) {pc n : Nat} {Ls : Array Slot} {st : List Value} {o : Int} (hd : decode c.code pc = .ok (.goto o, 3)) (ho : 0 ≤ (pc : Int) + o) (hp : ((pc : Int) + o).toNat = n) (k : Ends p e below EE Q (T.setTop (mkF m n Ls st))) : Ends p e below EE Q (T.setTop (mkF m pc Ls st)) :=
  Ends.via (fun t h => XS.goto X.here hx rfl (pc0 := pc) rfl hd ho hp h) k
theorem own_ifYes (X : Stand p l e R s m args below meth c T locs cells slots) (hx : p.tables.exec = Jvm.exec) {pc n : Nat} {Ls : Array Slot} {st : List Value} {o : Int} {cd : ClassFile.Cond} {x : Int32} (hd : decode c.code pc = .ok (.ifCond cd o, 3)) (hc : ifCond.holds cd x = true) (ho : 0 ≤ (pc : Int) + o) (hp : ((pc : Int) + o).toNat = n) (k : Ends p e below EE Q (T.setTop (mkF m n Ls st))) : Ends p e below EE Q (T.setTop (mkF m pc Ls (.int x :: st))) :=
  Ends.via (fun t h => XS.ifYes X.here hx rfl (pc0 := pc) rfl hd rfl hc ho hp h) k
theorem own_ifNo (X : Stand p l e R s m args below meth c T locs cells slots) (hx : p.tables.exec = Jvm.exec) {pc n : Nat} {Ls : Array Slot} {st : List Value} {o : Int} {cd : ClassFile.Cond} {x : Int32} (hd : decode c.code pc = .ok (.ifCond cd o, 3)) (hc : ifCond.holds cd x = false) (hn : pc + 3 = n) (k : Ends p e below EE Q (T.setTop (mkF m n Ls st))) : Ends p e below EE Q (T.setTop (mkF m pc Ls (.int x :: st))) := by
  subst hn
  exact Ends.via (fun t h => XS.ifNo X.here hx rfl hd rfl hc h) k
theorem own_icmpYes (X : Stand p l e R s m args below meth c T locs cells slots) (hx : p.tables.exec = Jvm.exec) {pc n : Nat} {Ls : Array Slot} {st : List Value} {o : Int} {cd : ClassFile.Cond} {x y : Int32} (hd : decode c.code pc = .ok (.if_icmp cd o, 3)) (hc : if_icmp.holds cd x y = true) (ho : 0 ≤ (pc : Int) + o) (hp : ((pc : Int) + o).toNat = n) (k : Ends p e below EE Q (T.setTop (mkF m n Ls st))) : Ends p e below EE Q (T.setTop (mkF m pc Ls (.int y :: .int x :: st))) :=
  Ends.via (fun t h => XS.icmpYes X.here hx rfl (pc0 := pc) rfl hd rfl hc ho hp h) k
theorem own_icmpNo (X : Stand p l e R s m args below meth c T locs cells slots) (hx : p.tables.exec = Jvm.exec) {pc n : Nat} {Ls : Array Slot} {st : List Value} {o : Int} {cd : ClassFile.Cond} {x y : Int32} (hd : decode c.code pc = .ok (.if_icmp cd o, 3)) (hc : if_icmp.holds cd x y = false) (hn : pc + 3 = n) (k : Ends p e below EE Q (T.setTop (mkF m n Ls st))) : Ends p e below EE Q (T.setTop (mkF m pc Ls (.int y :: .int x :: st))) := by
  subst hn
  exact Ends.via (fun t h => XS.icmpNo X.here hx rfl hd rfl hc h) k
theorem own_acmpYes (X : Stand p l e R s m args below meth c T locs cells slots) (hx : p.tables.exec = Jvm.exec) {pc n : Nat} {Ls : Array Slot} {st : List Value} {o : Int} {cd : ClassFile.ACond} {x y : Value} (hd : decode c.code pc = .ok (.if_acmp cd o, 3)) (h1 : x.isRef = true) (h2 : y.isRef = true) (hc : Jvm.Free.XT.acmp cd x y = true) (ho : 0 ≤ (pc : Int) + o) (hp : ((pc : Int) + o).toNat = n) (k : Ends p e below EE Q (T.setTop (mkF m n Ls st))) : Ends p e below EE Q (T.setTop (mkF m pc Ls (y :: x :: st))) :=
  Ends.via (fun t h => Jvm.Free.XT.acmpYes X.here hx rfl (pc0 := pc) rfl hd rfl h1 h2 hc ho hp h) k
theorem own_acmpNo (X : Stand p l e R s m args below meth c T locs cells slots) (hx : p.tables.exec = Jvm.exec) {pc n : Nat} {Ls : Array Slot} {st : List Value} {o : Int} {cd : ClassFile.ACond} {x y : Value} (hd : decode c.code pc = .ok (.if_acmp cd o, 3)) (h1 : x.isRef = true) (h2 : y.isRef = true) (hc : Jvm.Free.XT.acmp cd x y = false) (hn : pc + 3 = n) (k : Ends p e below EE Q (T.setTop (mkF m n Ls st))) : Ends p e below EE Q (T.setTop (mkF m pc Ls (y :: x :: st))) := by
  subst hn
  exact Ends.via (fun t h => Jvm.Free.XT.acmpNo X.here hx rfl hd rfl h1 h2 hc h) k
theorem own_ifnullYes (X : Stand p l e R s m args below meth c T locs cells slots) (hx : p.tables.exec = Jvm.exec) {pc n : Nat} {Ls : Array Slot} {st : List Value} {o : Int} {v : Value} (hd : decode c.code pc = .ok (.ifnull o, 3)) (hv : v = .null) (ho : 0 ≤ (pc : Int) + o) (hp : ((pc : Int) + o).toNat = n) (k : Ends p e below EE Q (T.setTop (mkF m n Ls st))) : Ends p e below EE Q (T.setTop (mkF m pc Ls (v :: st))) :=
  Ends.via (fun t h => Jvm.Free.XT.nullYes X.here hx rfl (pc0 := pc) rfl hd rfl hv ho hp h) k
theorem own_ifnullNo (X : Stand p l e R s m args below meth c T locs cells slots) (hx : p.tables.exec = Jvm.exec) {pc n : Nat} {Ls : Array Slot} {st : List Value} {o : Int} {v : Value} (hd : decode c.code pc = .ok (.ifnull o, 3)) (hr : v.isRef = true) (hv : ¬ v = .null) (hn : pc + 3 = n) (k : Ends p e below EE Q (T.setTop (mkF m n Ls st))) : Ends p e below EE Q (T.setTop (mkF m pc Ls (v :: st))) := by
  subst hn
  exact Ends.via (fun t h => Jvm.Free.XT.nullNo X.here hx rfl hd rfl hr hv h) k
theorem own_ifnonnullYes (X : Stand p l e R s m args below meth c T locs cells slots) (hx : p.tables.exec = Jvm.exec) {pc n : Nat} {Ls : Array Slot} {st : List Value} {o : Int} {v : Value} (hd : decode c.code pc = .ok (.ifnonnull o, 3)) (hr : v.isRef = true) (hv : ¬ v = .null) (ho : 0 ≤ (pc : Int) + o) (hp : ((pc : Int) + o).toNat = n) (k : Ends p e below EE Q (T.setTop (mkF m n Ls st))) : Ends p e below EE Q (T.setTop (mkF m pc Ls (v :: st))) :=
  Ends.via (fun t h => Jvm.Free.XT.nonnullYes X.here hx rfl (pc0 := pc) rfl hd rfl hr hv ho hp h) k
theorem own_ifnonnullNo (X : Stand p l e R s m args below meth c T locs cells slots) (hx : p.tables.exec = Jvm.exec) {pc n : Nat} {Ls : Array Slot} {st : List Value} {o : Int} {v : Value} (hd : decode c.code pc = .ok (.ifnonnull o, 3)) (hv : v = .null) (hn : pc + 3 = n) (k : Ends p e below EE Q (T.setTop (mkF m n Ls st))) : Ends p e below EE Q (T.setTop (mkF m pc Ls (v :: st))) := by
  subst hn
  exact Ends.via (fun t h => Jvm.Free.XT.nonnullNo X.here hx rfl hd rfl hv h) k
theorem own_ldc (X : Stand p l e R s m args below meth c T locs cells slots) (hx : p.tables.exec = Jvm.exec) (hZ : Z.Warmed39 s.vm) {own : String} (hown : s.vm.findClass own = some m.cls) {pc n : Nat} {Ls : Array Slot} {st : List Value} {i : Nat} {v : Int32} (w : (Cond.constant own i v).before a0 Z = true) (hd : decode c.code pc = .ok (.ldc i, 2)) (hn : pc + 2 = n) (k : Ends p e below EE Q (T.setTop (mkF m n Ls (.int v :: st)))) : Ends p e below EE Q (T.setTop (mkF m pc Ls st)) := by
  subst hn
  exact Ends.via (fun t h => X.ldcI hx hown (mvT hZ w) rfl hd h) k
theorem own_retI (X : Stand p l e R s m args below meth c T locs cells slots) (hx : p.tables.exec = Jvm.exec) (lk : meth.locks = false) {pc : Nat} {Ls : Array Slot} {rest : List Value} {z : Int32} (hret : meth.sig.returnType = some .int)  (hd : decode c.code pc = .ok (.ireturn, 1)) (hK : cells ≤ K) (hJ : slots ≤ J) (hq : Q (some (.int z)) T.heap locs) : Ends p e below (EF s K J) Q (T.setTop (mkF m pc Ls (.int z :: rest))) := by
  obtain ⟨fs, hr, hrun, hended, hW, hsame⟩ := X.leave (v := (some (.int z))) (fun h => by rw [hret] at h; cases h) lk
  exact ⟨_, _, retOut X hx (w := .int z) (t := .int) hret rfl (Or.inl ⟨rfl, Or.inl rfl, z, rfl⟩) hd hr, hrun, hended, _, _, rfl, hq, ⟨_, rfl⟩, hW, hsame.mono hK hJ⟩
theorem own_retN (X : Stand p l e R s m args below meth c T locs cells slots) (hx : p.tables.exec = Jvm.exec) (lk : meth.locks = false) {pc : Nat} {Ls : Array Slot} {rest : List Value} {z : Int32} {t : FieldType}  (hret : meth.sig.returnType = some t) (ht : t = .boolean ∨ t = .byte ∨ t = .char ∨ t = .short) (hd : decode c.code pc = .ok (.ireturn, 1)) (hK : cells ≤ K) (hJ : slots ≤ J) (hq : Q (some (.int (nar t z))) T.heap locs) : Ends p e below (EF s K J) Q (T.setTop (mkF m pc Ls (.int z :: rest))) := by
  obtain ⟨fs, hr, hrun, hended, hW, hsame⟩ := X.leave (v := (some (.int (nar t z)))) (fun h => by rw [hret] at h; cases h) lk
  exact ⟨_, _, Jvm.RoadKit.retN X hx hret ht hd hr, hrun, hended, _, _, rfl, hq, ⟨_, rfl⟩, hW, hsame.mono hK hJ⟩
theorem own_retV (X : Stand p l e R s m args below meth c T locs cells slots) (hx : p.tables.exec = Jvm.exec) (lk : meth.locks = false) {pc : Nat} {Ls : Array Slot}  (hret : meth.sig.returnType = none)  (hd : decode c.code pc = .ok (.return_, 1)) (hK : cells ≤ K) (hJ : slots ≤ J) (hq : Q none T.heap locs) : Ends p e below (EF s K J) Q (T.setTop (mkF m pc Ls ([]))) := by
  obtain ⟨fs, hr, hrun, hended, hW, hsame⟩ := X.leave (v := none) (fun h => by rfl) lk
  exact ⟨_, _, X.returnOut hx hret hd hr, hrun, hended, _, _, rfl, hq, ⟨_, rfl⟩, hW, hsame.mono hK hJ⟩
theorem own_retA (X : Stand p l e R s m args below meth c T locs cells slots) (hx : p.tables.exec = Jvm.exec) (lk : meth.locks = false) {pc : Nat} {Ls : Array Slot} {rest : List Value} {w : Value} {t : FieldType}  (hret : meth.sig.returnType = some t) (ht : t.isReference = true) (hw : w.isRef = true) (hd : decode c.code pc = .ok (.areturn, 1)) (hK : cells ≤ K) (hJ : slots ≤ J) (hq : Q (some w) T.heap locs) : Ends p e below (EF s K J) Q (T.setTop (mkF m pc Ls (w :: rest))) := by
  obtain ⟨fs, hr, hrun, hended, hW, hsame⟩ := X.leave (v := (some w)) (fun h => by rw [hret] at h; cases h) lk
  exact ⟨_, _, retOut X hx (w := w) (t := t) hret (by rcases ref_cases hw with rfl | ⟨_, rfl⟩ <;> cases t <;> rfl) (Or.inr (Or.inr (Or.inr (Or.inr ⟨rfl, ht, hw⟩)))) hd hr, hrun, hended, _, _, rfl, hq, ⟨_, rfl⟩, hW, hsame.mono hK hJ⟩
theorem own_callS (X : Stand p l e R s m args below meth c T locs cells slots) (hx : p.tables.exec = Jvm.exec) (hZ : Z.Warmed39 s.vm) {own : String} {index : Nat} {y : MethodName} {bytes : ByteArray} {maxL : Nat} {ret : Option FieldType} (hown : s.vm.findClass own = some m.cls) (wl : (Cond.methodLink own index y).before a0 Z = true) (ws : (Cond.static y).before a0 Z = true) (wz : (Cond.initialized y.cls).before a0 Z = true) (wc : (Cond.code y bytes maxL ret).before a0 Z = true) (hy : y.cls ≠ "java/lang/invoke/MethodHandle" ∧ y.cls ≠ "java/lang/invoke/VarHandle") (eT : T.heap = h)
    {rm : Room} {Qc : Option Value → Heap → List Loc → Prop} {as' : Array Value} (hM : MetFree l y (head1 [Cond.code y bytes maxL ret] rm) (fun a U => a = as' ∧ Z.Warmed39 U.vm ∧ U.heap = h) (fun _ _ _ _ _ => True) (fun _ U o U' => ∃ v L, o = .returned v ∧ Qc v U'.heap L ∧ FrameEnd U o U' L rm.cells rm.slots)) {W : Nat} (hf : rm.frames + 1 ≤ R.frames) (hl : W + (maxL + 11) + rm.locals ≤ R.locals) (hc : cells + rm.cells ≤ R.cells) (hsl : slots + rm.slots ≤ R.slots) {pc n : Nat} {Ls : Array Slot} (hsize : Ls.size = c.maxLocals) {argsL rest : List Value} {ps : List FieldType} {r : Option FieldType} (hpd : parseMethodDescriptor y.desc = some ⟨ps, r⟩) (hlen : argsL.length = ps.length) (has : argsL.toArray = as') (hW : 0 + (rest.map fun v => v.category).sum ≤ W) (hd : decode c.code pc = .ok (.invokestatic index, 3)) (hn : pc + 3 = n) {st : List Value} (hst : st = argsL.reverse ++ rest)
    (k : ∀ v T' h' L', Stand p l e R s m args below meth c T' (locs ++ L') (cells + rm.cells) (slots + rm.slots) → T'.heap = h' → Qc v h' L' → Ends p e below EE Q (T'.setTop (mkF m n Ls (v.toList ++ rest)))) : Ends p e below EE Q (T.setTop (mkF m pc Ls st)) := by
  subst hn
  obtain ⟨v, _, ⟨T18, L18, k18, n18⟩, -, X18, ⟨Lc18, hQ18, l18, y18, z18⟩, st18⟩ := Jvm.LawKit.callS X hx hown (mvT hZ wl) (mvT hZ ws) (mvT hZ wz) (mvT hZ wc) hy (backOf (W := W) hM hZ wc wz hf hl) (g := mkF m pc Ls st) rfl hsize (argsL := argsL) (rest := rest) (lenOf hpd hlen) hst hW hd (fun _ _ => ⟨has, eT, hc, hsl⟩)
  dsimp only [Pt.U, Pt.locs, Pt.cells, Pt.slots] at X18 l18 y18 z18 st18 hQ18
  subst l18 y18 z18
  exact Ends.via (fun t h => st18 t h) (k v T18 _ Lc18 X18 rfl hQ18)
theorem own_callN (X : Stand p l e R s m args below meth c T locs cells slots) (hx : p.tables.exec = Jvm.exec) (hZ : Z.Warmed39 s.vm) {own : String} {index : Nat} {y : MethodName} {bytes : ByteArray} {maxL : Nat} (hy1 : y.name = "<init>") (hown : s.vm.findClass own = some m.cls) (wl : (Cond.methodLink own index y).before a0 Z = true) (wi : (Cond.instanceMethod y).before a0 Z = true) (wz : (Cond.initialized y.cls).before a0 Z = true) (wc : (Cond.code y bytes maxL none).before a0 Z = true) (hy : y.cls ≠ "java/lang/invoke/MethodHandle" ∧ y.cls ≠ "java/lang/invoke/VarHandle") (eT : T.heap = h)
    {rm : Room} {Qc : Option Value → Heap → List Loc → Prop} {as' : Array Value} (hM : MetFree l y (head1 [Cond.code y bytes maxL none] rm) (fun a U => a = as' ∧ Z.Warmed39 U.vm ∧ U.heap = h) (fun _ _ _ _ _ => True) (fun _ U o U' => ∃ v L, o = .returned v ∧ Qc v U'.heap L ∧ FrameEnd U o U' L rm.cells rm.slots)) {W : Nat} (hf : rm.frames + 1 ≤ R.frames) (hl : W + (maxL + 11) + rm.locals ≤ R.locals) (hc : cells + rm.cells ≤ R.cells) (hsl : slots + rm.slots ≤ R.slots) {pc n : Nat} {Ls : Array Slot} (hsize : Ls.size = c.maxLocals) {argsL rest : List Value} {ps : List FieldType} {r : Option FieldType} (hpd : parseMethodDescriptor y.desc = some ⟨ps, r⟩) (hlen : argsL.length = ps.length) {a : Addr} (has : (.ref a :: argsL).toArray = as') (hW : 0 + (rest.map fun v => v.category).sum ≤ W) (hd : decode c.code pc = .ok (.invokespecial index, 3)) (hn : pc + 3 = n) {st : List Value} (hst : st = argsL.reverse ++ .ref a :: rest)
    (k : ∀ v T' h' L', Stand p l e R s m args below meth c T' (locs ++ L') (cells + rm.cells) (slots + rm.slots) → T'.heap = h' → Qc v h' L' → Ends p e below EE Q (T'.setTop (mkF m n Ls (v.toList ++ rest)))) : Ends p e below EE Q (T.setTop (mkF m pc Ls st)) := by
  subst hn
  obtain ⟨v, _, ⟨T18, L18, k18, n18⟩, -, X18, ⟨Lc18, hQ18, l18, y18, z18⟩, st18⟩ := X.specialBack hx hy1 hown (mvT hZ wl) (mvT hZ wi) (mvT hZ wc) hy (backOf (W := W) hM hZ wc wz hf hl) (g := mkF m pc Ls st) rfl hsize (Steps.refl _) (a := a) (argsL := argsL) (rest := rest) (lenOf hpd hlen) hst hW hd (fun _ _ => ⟨has, eT, hc, hsl⟩)
  dsimp only [Pt.U, Pt.locs, Pt.cells, Pt.slots] at X18 l18 y18 z18 st18 hQ18
  subst l18 y18 z18
  exact Ends.tr st18 (k v T18 _ Lc18 X18 rfl hQ18)
theorem own_callV (X : Stand p l e R s m args below meth c T locs cells slots) (hx : p.tables.exec = Jvm.exec) (hZ : Z.Warmed39 s.vm) {own C : String} {index : Nat} {y : MethodName} {bytes : ByteArray} {maxL : Nat} {ret : Option FieldType} (hown : s.vm.findClass own = some m.cls) (wl : (Cond.methodLink own index y).before a0 Z = true) (wd : (Cond.declares y).before a0 Z = true) (wsel : (Cond.selects C y y).before a0 Z = true) (wi : (Cond.instanceMethod y).before a0 Z = true) (wz : (Cond.initialized y.cls).before a0 Z = true) (wc : (Cond.code y bytes maxL ret).before a0 Z = true) (hy : y.cls ≠ "java/lang/invoke/MethodHandle" ∧ y.cls ≠ "java/lang/invoke/VarHandle") (eT : T.heap = h) {a : Addr} (EX : Exa Z h a C)
    {rm : Room} {Qc : Option Value → Heap → List Loc → Prop} {as' : Array Value} (hM : MetFree l y (head1 [Cond.code y bytes maxL ret] rm) (fun a U => a = as' ∧ Z.Warmed39 U.vm ∧ U.heap = h) (fun _ _ _ _ _ => True) (fun _ U o U' => ∃ v L, o = .returned v ∧ Qc v U'.heap L ∧ FrameEnd U o U' L rm.cells rm.slots)) {W : Nat} (hf : rm.frames + 1 ≤ R.frames) (hl : W + (maxL + 11) + rm.locals ≤ R.locals) (hc : cells + rm.cells ≤ R.cells) (hsl : slots + rm.slots ≤ R.slots) {pc n : Nat} {Ls : Array Slot} (hsize : Ls.size = c.maxLocals) {argsL rest : List Value} {ps : List FieldType} {r : Option FieldType} (hpd : parseMethodDescriptor y.desc = some ⟨ps, r⟩) (hlen : argsL.length = ps.length) (has : (.ref a :: argsL).toArray = as') (hW : 0 + (rest.map fun v => v.category).sum ≤ W) (hd : decode c.code pc = .ok (.invokevirtual index, 3)) (hn : pc + 3 = n) {st : List Value} (hst : st = argsL.reverse ++ .ref a :: rest)
    (k : ∀ v T' h' L', Stand p l e R s m args below meth c T' (locs ++ L') (cells + rm.cells) (slots + rm.slots) → T'.heap = h' → Qc v h' L' → Ends p e below EE Q (T'.setTop (mkF m n Ls (v.toList ++ rest)))) : Ends p e below EE Q (T.setTop (mkF m pc Ls st)) := by
  subst hn
  obtain ⟨cq, kq, qa, qb, qc⟩ := isOf hZ eT EX
  obtain ⟨v, _, ⟨T18, L18, k18, n18⟩, -, X18, ⟨Lc18, hQ18, l18, y18, z18⟩, st18⟩ := X.virtualBack hx hown (mvT hZ wl) (mvT hZ wd) (notFace_of_selects (args := #[]) (mvT hZ wsel)) (mvT hZ wsel) (mvT hZ wi) hy (backOf (W := W) hM hZ wc wz hf hl) qa qc (g := mkF m pc Ls st) rfl hsize (Steps.refl _) (argsL := argsL) (rest := rest) (lenOf hpd hlen) hst hW hd (fun _ _ => ⟨has, eT, hc, hsl⟩)
  dsimp only [Pt.U, Pt.locs, Pt.cells, Pt.slots] at X18 l18 y18 z18 st18 hQ18
  subst l18 y18 z18
  exact Ends.tr st18 (k v T18 _ Lc18 X18 rfl hQ18)
theorem own_callP (X : Stand p l e R s m args below meth c T locs cells slots) (hx : p.tables.exec = Jvm.exec) (hZ : Z.Warmed39 s.vm) {own : String} {index : Nat} {y y0 : MethodName} {bytes : ByteArray} {maxL : Nat} {ret : Option FieldType} (hown : s.vm.findClass own = some m.cls) (wl : (Cond.methodLink own index y).before a0 Z = true) (wi : (Cond.instanceMethod y).before a0 Z = true) (wp : (Cond.privateMethod y).before a0 Z = true) (wsel : (Cond.selects y.cls y0 y0).before a0 Z = true) (hcl : y0.cls = y.cls) (wz : (Cond.initialized y.cls).before a0 Z = true) (wc : (Cond.code y bytes maxL ret).before a0 Z = true) (hy : y.cls ≠ "java/lang/invoke/MethodHandle" ∧ y.cls ≠ "java/lang/invoke/VarHandle") (eT : T.heap = h) {a : Addr} {C : String} (EX : Exa Z h a C)
    {rm : Room} {Qc : Option Value → Heap → List Loc → Prop} {as' : Array Value} (hM : MetFree l y (head1 [Cond.code y bytes maxL ret] rm) (fun a U => a = as' ∧ Z.Warmed39 U.vm ∧ U.heap = h) (fun _ _ _ _ _ => True) (fun _ U o U' => ∃ v L, o = .returned v ∧ Qc v U'.heap L ∧ FrameEnd U o U' L rm.cells rm.slots)) {W : Nat} (hf : rm.frames + 1 ≤ R.frames) (hl : W + (maxL + 11) + rm.locals ≤ R.locals) (hc : cells + rm.cells ≤ R.cells) (hsl : slots + rm.slots ≤ R.slots) {pc n : Nat} {Ls : Array Slot} (hsize : Ls.size = c.maxLocals) {argsL rest : List Value} {ps : List FieldType} {r : Option FieldType} (hpd : parseMethodDescriptor y.desc = some ⟨ps, r⟩) (hlen : argsL.length = ps.length) (has : (.ref a :: argsL).toArray = as') (hW : 0 + (rest.map fun v => v.category).sum ≤ W) (hd : decode c.code pc = .ok (.invokevirtual index, 3)) (hn : pc + 3 = n) {st : List Value} (hst : st = argsL.reverse ++ .ref a :: rest)
    (k : ∀ v T' h' L', Stand p l e R s m args below meth c T' (locs ++ L') (cells + rm.cells) (slots + rm.slots) → T'.heap = h' → Qc v h' L' → Ends p e below EE Q (T'.setTop (mkF m n Ls (v.toList ++ rest)))) : Ends p e below EE Q (T.setTop (mkF m pc Ls st)) := by
  subst hn
  have hpriv : s.PrivateAt y := Cond.privateMethod_at (mvP hZ wp (args := #[]))
  have wsel' : (Cond.selects y.cls y y).before args s = true := by
    obtain ⟨c1, r1, m1, f1, -, f3, -, mk, f5, f6⟩ := Cond.selects_spec (mvT (args := args) hZ wsel)
    have f7 := findClass_of_methodNamed f3
    rw [hcl] at f7
    exact selects_self_of_private f7 f5 f6 hpriv (mvT hZ wi) hy
  obtain ⟨cq, qa, qb⟩ := EX.cell
  obtain ⟨v, _, ⟨T18, L18, k18, n18⟩, -, X18, ⟨Lc18, hQ18, l18, y18, z18⟩, st18⟩ := X.privateBack hx hown (mvT hZ wl) (mvT hZ wi) wsel' hpriv (mvT hZ wc) hy (backOf (W := W) hM hZ wc wz hf hl) (g := mkF m pc Ls st) rfl hsize (Steps.refl _) (a := a) (cell := cq) (by rw [eT]; exact qa) qb (argsL := argsL) (rest := rest) (lenOf hpd hlen) hst hW hd (fun _ _ => ⟨has, eT, hc, hsl⟩)
  dsimp only [Pt.U, Pt.locs, Pt.cells, Pt.slots] at X18 l18 y18 z18 st18 hQ18
  subst l18 y18 z18
  exact Ends.tr st18 (k v T18 _ Lc18 X18 rfl hQ18)
theorem own_getF (X : Stand p l e R s m args below meth c T locs cells slots) (hx : p.tables.exec = Jvm.exec) (hZ : Z.Warmed39 s.vm) {own C f d : String} {index : Nat} (hown : s.vm.findClass own = some m.cls) (w : (Cond.fieldLink own index C f d).before a0 Z = true) (eT : T.heap = h) {a : Addr} {v : Value} (F : Fld Z h a C f d v) {pc n : Nat} {Ls : Array Slot} {st : List Value} (hd : decode c.code pc = .ok (.getfield index, 3)) (hn : pc + 3 = n)
    (k : ∀ T', Stand p l e R s m args below meth c T' locs cells slots → T'.heap = h → Ends p e below EE Q (T'.setTop (mkF m n Ls (v :: st)))) : Ends p e below EE Q (T.setTop (mkF m pc Ls (.ref a :: st))) := by
  subst hn
  obtain ⟨T', X', e', st'⟩ := Jvm.RoadKit.getF X hx hZ hown (host := "") (Or.inl w) Via.refl eT F (g := mkF m pc Ls (.ref a :: st)) rfl rfl hd
  exact Ends.via (fun t h => st' t h) (k T' X' e')
theorem own_getS (X : Stand p l e R s m args below meth c T locs cells slots) (hx : p.tables.exec = Jvm.exec) (hZ : Z.Warmed39 s.vm) {own C f d : String} {index : Nat} (hown : s.vm.findClass own = some m.cls) (w : (Cond.fieldLink own index C f d).before a0 Z = true) (eT : T.heap = h) {v : Value} (F : Sta Z h C f d v) {pc n : Nat} {Ls : Array Slot} {st : List Value} (hd : decode c.code pc = .ok (.getstatic index, 3)) (hn : pc + 3 = n)
    (k : ∀ T', Stand p l e R s m args below meth c T' locs cells slots → T'.heap = h → Ends p e below EE Q (T'.setTop (mkF m n Ls (v :: st)))) : Ends p e below EE Q (T.setTop (mkF m pc Ls st)) := by
  subst hn
  obtain ⟨T', X', e', st'⟩ := getS2 X hx hZ hown (host := "") (Or.inl w) Via.refl eT F (g := mkF m pc Ls st) rfl hd
  exact Ends.via (fun t h => st' t h) (k T' X' e')
theorem own_putF (X : Stand p l e R s m args below meth c T locs cells slots) (hx : p.tables.exec = Jvm.exec) (hZ : Z.Warmed39 s.vm) {own C f d CC : String} {index kk : Nat} {ty : FieldType} (hown : s.vm.findClass own = some m.cls) (w : (Cond.fieldLink own index C f d).before a0 Z = true) (eT : T.heap = h) {a : Addr} {v old : Value} (F : Fld Z h a C f d old) (EX : Exa Z h a CC) (Lw : (Cond.lays CC C f d).before a0 Z = true ∨ ((Cond.laysFinal CC C f d).before a0 Z = true ∧ own = C ∧ meth.name = "<init>")) (wi : (Cond.instantiable CC kk).before a0 Z = true) (hty : parseFieldDescriptor d = some ty) (hnw : narrow ty v = v) (hft : fits ty v = true) {pc n : Nat} {Ls : Array Slot} {st : List Value} (hd : decode c.code pc = .ok (.putfield index, 3)) (hn : pc + 3 = n)
    (k : ∀ T' h', Stand p l e R s m args below meth c T' (locs ++ [⟨a, Jvm.RoadKit.slotOf Z C f d⟩]) cells slots → T'.heap = h' → Wr h h' a (Jvm.RoadKit.slotOf Z C f d) v → Ends p e below EE Q (T'.setTop (mkF m n Ls st))) : Ends p e below EE Q (T.setTop (mkF m pc Ls (v :: .ref a :: st))) := by
  subst hn
  obtain ⟨T', h', X', e', W', st'⟩ := Jvm.RoadKit.putF X hx hZ hown (host := "") (Or.inl w) Via.refl eT F EX Lw wi hty hnw hft (g := mkF m pc Ls (v :: .ref a :: st)) rfl rfl hd
  exact Ends.via (fun t h => st' t h) (k T' h' X' e' W')
theorem own_newO (X : Stand p l e R s m args below meth c T locs cells slots) (hx : p.tables.exec = Jvm.exec) (hZ : Z.Warmed39 s.vm) {own C : String} {index i : Nat} (hown : s.vm.findClass own = some m.cls) (w : (Cond.classLink own index C).before a0 Z = true) (wi : (Cond.instantiable C i).before a0 Z = true) (wz : (Cond.initialized C).before a0 Z = true) (eT : T.heap = h) (hc : cells + 1 ≤ R.cells) (hl : slots + i ≤ R.slots) {pc n : Nat} {Ls : Array Slot} {st : List Value} (hd : decode c.code pc = .ok (.new index, 3)) (hn : pc + 3 = n)
    (k : ∀ T' h' b, Stand p l e R s m args below meth c T' locs (cells + 1) (slots + i) → T'.heap = h' → b = h.size → Ext h h' → Exa Z h' b C → (∀ {O nm d : String} {ty : FieldType}, Laid Z a0 C O nm d → parseFieldDescriptor d = some ty → Fld Z h' b O nm d (defaultValue ty)) → Ends p e below EE Q (T'.setTop (mkF m n Ls (.ref b :: st)))) : Ends p e below EE Q (T.setTop (mkF m pc Ls st)) := by
  subst hn
  obtain ⟨T', h', X', e', E', A', D', -, st'⟩ := Jvm.RoadKit.newO X hx hZ hown w wi wz eT (g := mkF m pc Ls st) rfl hd hc hl
  exact Ends.via (fun t h => st' t h) (k T' h' _ X' e' rfl E' A' D')
theorem own_initO (X : Stand p l e R s m args below meth c T locs cells slots) (hx : p.tables.exec = Jvm.exec) (hZ : Z.Warmed39 s.vm) {own : String} {index : Nat} (hown : s.vm.findClass own = some m.cls) (w1 : (Cond.methodLink own index Lib.objectInit).before a0 Z = true) (w2 : (Cond.instanceMethod Lib.objectInit).before a0 Z = true) (w3 : (Cond.code Lib.objectInit ⟨#[0xb1]⟩ 1 none).before a0 Z = true) (eT : T.heap = h) {a : Addr} {pc n : Nat} {Ls : Array Slot} {st : List Value} (hsize : Ls.size = c.maxLocals) (hd : decode c.code pc = .ok (.invokespecial index, 3)) (hn : pc + 3 = n) (hf : 1 ≤ R.frames) {W : Nat} (hW : 0 + (st.map fun v => v.category).sum ≤ W) (hl : W + 12 ≤ R.locals)
    (k : ∀ T', Stand p l e R s m args below meth c T' locs cells slots → T'.heap = h → Ends p e below EE Q (T'.setTop (mkF m n Ls (st)))) : Ends p e below EE Q (T.setTop (mkF m pc Ls (.ref a :: st))) := by
  subst hn
  obtain ⟨T', X', e', st'⟩ := Jvm.RoadKit.initO X hx hZ hown w1 w2 w3 eT (g := mkF m pc Ls (.ref a :: st)) rfl hsize rfl hd hf (W := W) hW hl
  exact Ends.via (fun t h => st' t h) (k T' X' e')
/-- an array of n places: the j-th holds f j -/
def VA (Z : State) (h : Heap) (a : Addr) (ty : FieldType) (n : Nat) (f : Nat → Value) : Prop := n < 2 ^ 31 ∧ ∃ c : Cell, Arr Z h a c ty ∧ c.slots.size = n ∧ ∀ j, j < n → c.slots[j]? = some (f j)
theorem VA.ext {h' : Heap} {a : Addr} {ty : FieldType} {n : Nat} {f : Nat → Value} (F : VA Z h a ty n f) (E : Ext h h') : VA Z h' a ty n f := by obtain ⟨q, c, A, r⟩ := F; exact ⟨q, c, A.ext E, r⟩
theorem VA.keep {h' : Heap} {a : Addr} {ty : FieldType} {n : Nat} {f : Nat → Value} {ws : List Addr} (F : VA Z h a ty n f) (K : Keep h h' ws) (q : a ∉ ws) : VA Z h' a ty n f := by obtain ⟨r0, c, A, r⟩ := F; exact ⟨r0, c, ⟨K.2.1 a c A.1 q, A.2⟩, r⟩
theorem VA.wrO {h' : Heap} {a b : Addr} {sl : Nat} {w : Value} {ty : FieldType} {n : Nat} {f : Nat → Value} (F : VA Z h a ty n f) (W : Wr h h' b sl w) (q : a ≠ b) : VA Z h' a ty n f := by obtain ⟨r0, c, A, r⟩ := F; exact ⟨r0, c, A.other W q, r⟩
theorem VA.lt {a : Addr} {ty : FieldType} {n : Nat} {f : Nat → Value} (F : VA Z h a ty n f) : a < h.size := by obtain ⟨-, c, A, -⟩ := F; exact A.lt
theorem VA.set {h' : Heap} {a : Addr} {ty : FieldType} {n i : Nat} {f : Nat → Value} {w : Value} (F : VA Z h a ty n f) (W : Wr h h' a i w) (hi : i < n) : VA Z h' a ty n (fun j => if j = i then w else f j) := by
  obtain ⟨q, c, A, r1, r2⟩ := F
  refine ⟨q, _, A.same W, (sz_set c i w).trans r1, fun j hj => ?_⟩
  by_cases e : j = i
  · subst e
    simp [Cell.setSlot, r1, hj]
  · show (c.setSlot i w).slots[j]? = some (if j = i then w else f j)
    rw [if_neg e, ← r2 j hj]
    exact Array.getElem?_setIfInBounds_ne (fun z => e z.symm)
theorem VA.congr {a : Addr} {ty : FieldType} {n : Nat} {f g : Nat → Value} (F : VA Z h a ty n f) (e : ∀ j, j < n → f j = g j) : VA Z h a ty n g := by obtain ⟨q, c, A, r1, r2⟩ := F; exact ⟨q, c, A, r1, fun j hj => (r2 j hj).trans (congrArg some (e j hj))⟩
def IA (Z : State) (h : Heap) (a : Addr) (n : Nat) (g : Nat → Int32) : Prop := VA Z h a .int n (fun j => .int (g j))
theorem IA.ext {h' : Heap} {a : Addr} {n : Nat} {g : Nat → Int32} (F : IA Z h a n g) (E : Ext h h') : IA Z h' a n g := VA.ext F E
theorem IA.keep {h' : Heap} {a : Addr} {n : Nat} {g : Nat → Int32} {ws : List Addr} (F : IA Z h a n g) (K : Keep h h' ws) (q : a ∉ ws) : IA Z h' a n g := VA.keep F K q
theorem IA.wrO {h' : Heap} {a b : Addr} {sl : Nat} {w : Value} {n : Nat} {g : Nat → Int32} (F : IA Z h a n g) (W : Wr h h' b sl w) (q : a ≠ b) : IA Z h' a n g := VA.wrO F W q
theorem IA.lt {a : Addr} {n : Nat} {g : Nat → Int32} (F : IA Z h a n g) : a < h.size := VA.lt F
theorem IA.set {h' : Heap} {a : Addr} {n i : Nat} {g : Nat → Int32} {x : Int32} (F : IA Z h a n g) (W : Wr h h' a i (.int x)) (hi : i < n) : IA Z h' a n (fun j => if j = i then x else g j) :=
  VA.congr (VA.set F W hi) fun j _ => by by_cases e : j = i <;> simp [e]
theorem IA.congr {a : Addr} {n : Nat} {f g : Nat → Int32} (F : IA Z h a n f) (e : ∀ j, j < n → f j = g j) : IA Z h a n g := VA.congr F fun j hj => by rw [e j hj]
theorem own_clamp {j : Int32} {i : Nat} (hj : j.toInt = (i : Int)) : j.toNatClampNeg = i ∧ ¬ j < 0 := by
  refine ⟨by simp only [Int32.toNatClampNeg, hj]; rfl, fun q => ?_⟩
  rw [Int32.lt_iff_toInt_lt, hj] at q
  have o : (0 : Int32).toInt = 0 := rfl
  omega
theorem own_in {j : Int32} {i n : Nat} {c : Cell} (hj : j.toInt = (i : Int)) (hi : i < n) (S : c.slots.size = n) : ¬ (j < 0 ∨ c.slots.size ≤ j.toNatClampNeg) := by
  obtain ⟨q1, q2⟩ := own_clamp hj
  rintro (z | z)
  · exact q2 z
  · rw [q1, S] at z; omega
theorem own_newI (X : Stand p l e R s m args below meth c T locs cells slots) (hx : p.tables.exec = Jvm.exec) (hZ : Z.Warmed39 s.vm) (w : (Cond.arrayClass .int).before a0 Z = true) (eT : T.heap = h) {N : Int32} {i cap : Nat} (hN : N.toInt = (i : Int)) (hcap : i ≤ cap) (hb : cap * 8 ≤ 536870912) (hc : cells + 1 ≤ R.cells) (hl : slots + cap ≤ R.slots) {pc n : Nat} {Ls : Array Slot} {st : List Value} (hd : decode c.code pc = .ok (.newarray .int, 2)) (hn : pc + 2 = n)
    (k : ∀ T' h' b, Stand p l e R s m args below meth c T' locs (cells + 1) (slots + cap) → T'.heap = h' → b = h.size → Ext h h' → IA Z h' b i (fun _ => 0) → Ends p e below EE Q (T'.setTop (mkF m n Ls (.ref b :: st)))) : Ends p e below EE Q (T.setTop (mkF m pc Ls (.int N :: st))) := by
  subst hn
  obtain ⟨q1, q2⟩ := own_clamp hN
  obtain ⟨T', h', cA, X', e', E', A', st'⟩ := newP X hx hZ (aty := .int) w eT (g := mkF m pc Ls (.int N :: st)) rfl hd rfl q2 (cap := cap) (by rw [q1]; exact hcap) hb hc hl
  have b1 := rng32 N
  refine Ends.via (fun t h => st' t h) (k T' h' _ X' e' rfl E' ⟨by omega, _, A', (sz_new _ _ _).trans q1, fun j hj => ?_⟩)
  simp [newA, q1, hj]
  rfl
theorem own_iastore (X : Stand p l e R s m args below meth c T locs cells slots) (hx : p.tables.exec = Jvm.exec) (hZ : Z.Warmed39 s.vm) (eT : T.heap = h) {a : Addr} {N : Nat} {g : Nat → Int32} (F : IA Z h a N g) {j x : Int32} {i : Nat} (hj : j.toInt = (i : Int)) (hi : i < N) {pc n : Nat} {Ls : Array Slot} {st : List Value} (hd : decode c.code pc = .ok (.iastore, 1)) (hn : pc + 1 = n)
    (k : ∀ T' h', Stand p l e R s m args below meth c T' (locs ++ [⟨a, i⟩]) cells slots → T'.heap = h' → Wr h h' a i (.int x) → IA Z h' a N (fun y => if y = i then x else g y) → Ends p e below EE Q (T'.setTop (mkF m n Ls st))) : Ends p e below EE Q (T.setTop (mkF m pc Ls (.int x :: .int j :: .ref a :: st))) := by
  subst hn
  have F' := F
  obtain ⟨q, cl, A, S, H⟩ := F
  obtain ⟨q1, q2⟩ := own_clamp hj
  obtain ⟨T', h', X', e', W', st'⟩ := stI X hx hZ eT A (j := j) (own_in hj hi S) (g := mkF m pc Ls (.int x :: .int j :: .ref a :: st)) rfl rfl hd
  rw [q1] at X' W'
  exact Ends.via (fun t h => st' t h) (k T' h' X' e' W' (IA.set F' W' hi))
theorem own_iaload (X : Stand p l e R s m args below meth c T locs cells slots) (hx : p.tables.exec = Jvm.exec) (hZ : Z.Warmed39 s.vm) (eT : T.heap = h) {a : Addr} {N : Nat} {g : Nat → Int32} (F : IA Z h a N g) {j : Int32} {i : Nat} (hj : j.toInt = (i : Int)) (hi : i < N) {pc n : Nat} {Ls : Array Slot} {st : List Value} (hd : decode c.code pc = .ok (.iaload, 1)) (hn : pc + 1 = n)
    (k : Ends p e below EE Q (T.setTop (mkF m n Ls (.int (g i) :: st)))) : Ends p e below EE Q (T.setTop (mkF m pc Ls (.int j :: .ref a :: st))) := by
  subst hn
  obtain ⟨q, cl, A, S, H⟩ := F
  obtain ⟨q1, q2⟩ := own_clamp hj
  exact Ends.via (fun t h => X.iaload hx (j := j) (v := .int (g i)) (by rw [eT]; exact A.1) (State.isArrayOf_alike hZ.alike A.2.1) A.2.2 (own_in hj hi S) (by rw [q1]; exact H i hi) (g := mkF m pc Ls (.int j :: .ref a :: st)) rfl rfl hd _ h) k
theorem own_arraylength (X : Stand p l e R s m args below meth c T locs cells slots) (hx : p.tables.exec = Jvm.exec) (hZ : Z.Warmed39 s.vm) (eT : T.heap = h) {a : Addr} {ty : FieldType} {N : Nat} {g : Nat → Value} (F : VA Z h a ty N g) {v : Int32} (hv : v.toInt = (N : Int)) {pc n : Nat} {Ls : Array Slot} {st : List Value} (hd : decode c.code pc = .ok (.arraylength, 1)) (hn : pc + 1 = n)
    (k : Ends p e below EE Q (T.setTop (mkF m n Ls (.int v :: st)))) : Ends p e below EE Q (T.setTop (mkF m pc Ls (.ref a :: st))) := by
  subst hn
  obtain ⟨q, cl, A, S, H⟩ := F
  have e1 : cl.slots.size.toInt32 = v := Int32.toInt_inj.mp (by rw [len_toInt (by omega), hv, S])
  rw [← e1] at k
  exact Ends.via (fun t h => X.arraylength hx (by rw [eT]; exact A.1) (State.isArrayOf_alike hZ.alike A.2.1) (g := mkF m pc Ls (.ref a :: st)) rfl rfl hd _ h) k
/-- an array of references to C's -/
def RA (Z : State) (h : Heap) (a : Addr) (C : String) (n : Nat) (g : Nat → Value) : Prop := n < 2 ^ 31 ∧ ∃ c : Cell, Arr Z h a c (.object C) ∧ Ovr Z c.cls C ∧ c.slots.size = n ∧ ∀ j, j < n → c.slots[j]? = some (g j)
theorem RA.va {a : Addr} {C : String} {n : Nat} {g : Nat → Value} (F : RA Z h a C n g) : VA Z h a (.object C) n g := by obtain ⟨q, c, A, -, r⟩ := F; exact ⟨q, c, A, r⟩
theorem RA.ext {h' : Heap} {a : Addr} {C : String} {n : Nat} {g : Nat → Value} (F : RA Z h a C n g) (E : Ext h h') : RA Z h' a C n g := by obtain ⟨q, c, A, r⟩ := F; exact ⟨q, c, A.ext E, r⟩
theorem RA.keep {h' : Heap} {a : Addr} {C : String} {n : Nat} {g : Nat → Value} {ws : List Addr} (F : RA Z h a C n g) (K : Keep h h' ws) (q : a ∉ ws) : RA Z h' a C n g := by obtain ⟨r0, c, A, r⟩ := F; exact ⟨r0, c, ⟨K.2.1 a c A.1 q, A.2⟩, r⟩
theorem RA.wrO {h' : Heap} {a b : Addr} {sl : Nat} {w : Value} {C : String} {n : Nat} {g : Nat → Value} (F : RA Z h a C n g) (W : Wr h h' b sl w) (q : a ≠ b) : RA Z h' a C n g := by obtain ⟨r0, c, A, r⟩ := F; exact ⟨r0, c, A.other W q, r⟩
theorem RA.lt {a : Addr} {C : String} {n : Nat} {g : Nat → Value} (F : RA Z h a C n g) : a < h.size := by obtain ⟨-, c, A, -⟩ := F; exact A.lt
theorem RA.set {h' : Heap} {a : Addr} {C : String} {n i : Nat} {g : Nat → Value} {w : Value} (F : RA Z h a C n g) (W : Wr h h' a i w) (hi : i < n) : RA Z h' a C n (fun j => if j = i then w else g j) := by
  obtain ⟨q, c, A, O, r1, r2⟩ := F
  refine ⟨q, _, A.same W, O, (sz_set c i w).trans r1, fun j hj => ?_⟩
  by_cases e : j = i
  · subst e
    simp [Cell.setSlot, r1, hj]
  · show (c.setSlot i w).slots[j]? = some (if j = i then w else g j)
    rw [if_neg e, ← r2 j hj]
    exact Array.getElem?_setIfInBounds_ne (fun z => e z.symm)
theorem own_newR (X : Stand p l e R s m args below meth c T locs cells slots) (hx : p.tables.exec = Jvm.exec) (hZ : Z.Warmed39 s.vm) {own C : String} {index : Nat} (hown : s.vm.findClass own = some m.cls) (w1 : (Cond.classLink own index C).before a0 Z = true) (w2 : (Cond.arrayOver (.object C)).before a0 Z = true) (eT : T.heap = h) {N : Int32} {i cap : Nat} (hN : N.toInt = (i : Int)) (hcap : i ≤ cap) (hb : cap * 8 ≤ 536870912) (hc : cells + 1 ≤ R.cells) (hl : slots + cap ≤ R.slots) {pc n : Nat} {Ls : Array Slot} {st : List Value} (hd : decode c.code pc = .ok (.anewarray index, 3)) (hn : pc + 3 = n)
    (k : ∀ T' h' b, Stand p l e R s m args below meth c T' locs (cells + 1) (slots + cap) → T'.heap = h' → b = h.size → Ext h h' → RA Z h' b C i (fun _ => .null) → Ends p e below EE Q (T'.setTop (mkF m n Ls (.ref b :: st)))) : Ends p e below EE Q (T.setTop (mkF m pc Ls (.int N :: st))) := by
  subst hn
  obtain ⟨q1, q2⟩ := own_clamp hN
  obtain ⟨T', h', cA, X', e', E', A', O', st'⟩ := newR X hx hZ hown w1 w2 eT (g := mkF m pc Ls (.int N :: st)) rfl hd rfl q2 (cap := cap) (by rw [q1]; exact hcap) hb hc hl
  have b1 := rng32 N
  refine Ends.via (fun t h => st' t h) (k T' h' _ X' e' rfl E' ⟨by omega, _, A', O', (sz_new _ _ _).trans q1, fun j hj => ?_⟩)
  simp [newA, q1, hj]
  rfl
theorem own_aastore (X : Stand p l e R s m args below meth c T locs cells slots) (hx : p.tables.exec = Jvm.exec) (hZ : Z.Warmed39 s.vm) (eT : T.heap = h) {a y : Addr} {C : String} {N : Nat} {g : Nat → Value} (F : RA Z h a C N g) (I : Ins Z h y C true) {j : Int32} {i : Nat} (hj : j.toInt = (i : Int)) (hi : i < N) {pc n : Nat} {Ls : Array Slot} {st : List Value} (hd : decode c.code pc = .ok (.aastore, 1)) (hn : pc + 1 = n)
    (k : ∀ T' h', Stand p l e R s m args below meth c T' (locs ++ [⟨a, i⟩]) cells slots → T'.heap = h' → Wr h h' a i (.ref y) → RA Z h' a C N (fun z => if z = i then .ref y else g z) → Ends p e below EE Q (T'.setTop (mkF m n Ls st))) : Ends p e below EE Q (T.setTop (mkF m pc Ls (.ref y :: .int j :: .ref a :: st))) := by
  subst hn
  have F' := F
  obtain ⟨q, cl, A, O, S, H⟩ := F
  obtain ⟨q1, q2⟩ := own_clamp hj
  obtain ⟨T', h', X', e', W', st'⟩ := stR X hx hZ eT A (j := j) (own_in hj hi S) rfl (Sto.of A O I) (g := mkF m pc Ls (.ref y :: .int j :: .ref a :: st)) rfl rfl hd
  rw [q1] at X' W'
  exact Ends.via (fun t h => st' t h) (k T' h' X' e' W' (RA.set F' W' hi))
theorem own_aaload (X : Stand p l e R s m args below meth c T locs cells slots) (hx : p.tables.exec = Jvm.exec) (hZ : Z.Warmed39 s.vm) (eT : T.heap = h) {a : Addr} {C : String} {N : Nat} {g : Nat → Value} (F : RA Z h a C N g) {j : Int32} {i : Nat} (hj : j.toInt = (i : Int)) (hi : i < N) {v : Value} (hv : g i = v) {pc n : Nat} {Ls : Array Slot} {st : List Value} (hd : decode c.code pc = .ok (.aaload, 1)) (hn : pc + 1 = n)
    (k : Ends p e below EE Q (T.setTop (mkF m n Ls (v :: st)))) : Ends p e below EE Q (T.setTop (mkF m pc Ls (.int j :: .ref a :: st))) := by
  subst hn hv
  obtain ⟨q, cl, A, O, S, H⟩ := F
  obtain ⟨q1, q2⟩ := own_clamp hj
  exact Ends.via (fun t h => X.aaload hx (j := j) (v := g i) (by rw [eT]; exact A.1) (State.isArrayOf_alike hZ.alike A.2.1) rfl A.2.2 (own_in hj hi S) (by rw [q1]; exact H i hi) (g := mkF m pc Ls (.int j :: .ref a :: st)) rfl rfl hd _ h) k
/-- an array of ints of a narrow kind (byte, char) -/
def PA (Z : State) (h : Heap) (a : Addr) (ty : FieldType) (n : Nat) (g : Nat → Int32) : Prop := VA Z h a ty n (fun j => .int (g j))
theorem PA.ext {h' : Heap} {a : Addr} {ty : FieldType} {n : Nat} {g : Nat → Int32} (F : PA Z h a ty n g) (E : Ext h h') : PA Z h' a ty n g := VA.ext F E
theorem PA.keep {h' : Heap} {a : Addr} {ty : FieldType} {n : Nat} {g : Nat → Int32} {ws : List Addr} (F : PA Z h a ty n g) (K : Keep h h' ws) (q : a ∉ ws) : PA Z h' a ty n g := VA.keep F K q
theorem PA.wrO {h' : Heap} {a b : Addr} {sl : Nat} {w : Value} {ty : FieldType} {n : Nat} {g : Nat → Int32} (F : PA Z h a ty n g) (W : Wr h h' b sl w) (q : a ≠ b) : PA Z h' a ty n g := VA.wrO F W q
theorem PA.lt {a : Addr} {ty : FieldType} {n : Nat} {g : Nat → Int32} (F : PA Z h a ty n g) : a < h.size := VA.lt F
theorem PA.set {h' : Heap} {a : Addr} {ty : FieldType} {n i : Nat} {g : Nat → Int32} {x : Int32} (F : PA Z h a ty n g) (W : Wr h h' a i (.int x)) (hi : i < n) : PA Z h' a ty n (fun j => if j = i then x else g j) :=
  VA.congr (VA.set F W hi) fun j _ => by by_cases e : j = i <;> simp [e]
theorem own_newarr (X : Stand p l e R s m args below meth c T locs cells slots) (hx : p.tables.exec = Jvm.exec) (hZ : Z.Warmed39 s.vm) {aty : ArrayType} {ty : FieldType} (hty : newarray.typeOf aty = ty) (hdf : defaultValue ty = .int 0) (w : (Cond.arrayClass ty).before a0 Z = true) (eT : T.heap = h) {N : Int32} {i cap : Nat} (hN : N.toInt = (i : Int)) (hcap : i ≤ cap) (hb : cap * 8 ≤ 536870912) (hc : cells + 1 ≤ R.cells) (hl : slots + cap ≤ R.slots) {pc n : Nat} {Ls : Array Slot} {st : List Value} (hd : decode c.code pc = .ok (.newarray aty, 2)) (hn : pc + 2 = n)
    (k : ∀ T' h' b, Stand p l e R s m args below meth c T' locs (cells + 1) (slots + cap) → T'.heap = h' → b = h.size → Ext h h' → PA Z h' b ty i (fun _ => 0) → Ends p e below EE Q (T'.setTop (mkF m n Ls (.ref b :: st)))) : Ends p e below EE Q (T.setTop (mkF m pc Ls (.int N :: st))) := by
  subst hn hty
  obtain ⟨q1, q2⟩ := own_clamp hN
  obtain ⟨T', h', cA, X', e', E', A', st'⟩ := newP X hx hZ (aty := aty) w eT (g := mkF m pc Ls (.int N :: st)) rfl hd rfl q2 (cap := cap) (by rw [q1]; exact hcap) hb hc hl
  have b1 := rng32 N
  refine Ends.via (fun t h => st' t h) (k T' h' _ X' e' rfl E' ⟨by omega, _, A', (sz_new _ _ _).trans q1, fun j hj => ?_⟩)
  simp [newA, q1, hj, hdf]
theorem own_castore (X : Stand p l e R s m args below meth c T locs cells slots) (hx : p.tables.exec = Jvm.exec) (hZ : Z.Warmed39 s.vm) (eT : T.heap = h) {a : Addr} {N : Nat} {g : Nat → Int32} (F : PA Z h a .char N g) {j x : Int32} {i : Nat} (hj : j.toInt = (i : Int)) (hi : i < N) {pc n : Nat} {Ls : Array Slot} {st : List Value} (hd : decode c.code pc = .ok (.castore, 1)) (hn : pc + 1 = n)
    (k : ∀ T' h', Stand p l e R s m args below meth c T' (locs ++ [⟨a, i⟩]) cells slots → T'.heap = h' → Wr h h' a i (.int (nar .char x)) → PA Z h' a .char N (fun y => if y = i then nar .char x else g y) → Ends p e below EE Q (T'.setTop (mkF m n Ls st))) : Ends p e below EE Q (T.setTop (mkF m pc Ls (.int x :: .int j :: .ref a :: st))) := by
  subst hn
  have F' := F
  obtain ⟨q, cl, A, S, H⟩ := F
  obtain ⟨q1, q2⟩ := own_clamp hj
  obtain ⟨T', h', X', e', W', st'⟩ := stC X hx hZ eT A (j := j) (own_in hj hi S) (g := mkF m pc Ls (.int x :: .int j :: .ref a :: st)) rfl rfl hd
  rw [q1] at X' W'
  exact Ends.via (fun t h => st' t h) (k T' h' X' e' W' (PA.set F' W' hi))
theorem own_bastore (X : Stand p l e R s m args below meth c T locs cells slots) (hx : p.tables.exec = Jvm.exec) (hZ : Z.Warmed39 s.vm) (eT : T.heap = h) {a : Addr} {N : Nat} {g : Nat → Int32} (F : PA Z h a .byte N g) {j x : Int32} {i : Nat} (hj : j.toInt = (i : Int)) (hi : i < N) {pc n : Nat} {Ls : Array Slot} {st : List Value} (hd : decode c.code pc = .ok (.bastore, 1)) (hn : pc + 1 = n)
    (k : ∀ T' h', Stand p l e R s m args below meth c T' (locs ++ [⟨a, i⟩]) cells slots → T'.heap = h' → Wr h h' a i (.int (nar .byte x)) → PA Z h' a .byte N (fun y => if y = i then nar .byte x else g y) → Ends p e below EE Q (T'.setTop (mkF m n Ls st))) : Ends p e below EE Q (T.setTop (mkF m pc Ls (.int x :: .int j :: .ref a :: st))) := by
  subst hn
  have F' := F
  obtain ⟨q, cl, A, S, H⟩ := F
  obtain ⟨q1, q2⟩ := own_clamp hj
  obtain ⟨T', h', X', e', W', st'⟩ := stB X hx hZ eT A (j := j) (own_in hj hi S) (g := mkF m pc Ls (.int x :: .int j :: .ref a :: st)) rfl rfl hd
  rw [q1] at X' W'
  exact Ends.via (fun t h => st' t h) (k T' h' X' e' W' (PA.set F' W' hi))
theorem own_caload (X : Stand p l e R s m args below meth c T locs cells slots) (hx : p.tables.exec = Jvm.exec) (hZ : Z.Warmed39 s.vm) (eT : T.heap = h) {a : Addr} {N : Nat} {g : Nat → Int32} (F : PA Z h a .char N g) {j : Int32} {i : Nat} (hj : j.toInt = (i : Int)) (hi : i < N) {pc n : Nat} {Ls : Array Slot} {st : List Value} (hd : decode c.code pc = .ok (.caload, 1)) (hn : pc + 1 = n)
    (k : Ends p e below EE Q (T.setTop (mkF m n Ls (.int (g i) :: st)))) : Ends p e below EE Q (T.setTop (mkF m pc Ls (.int j :: .ref a :: st))) := by
  subst hn
  obtain ⟨q, cl, A, S, H⟩ := F
  obtain ⟨q1, q2⟩ := own_clamp hj
  exact Ends.via (fun t h => X.caload hx (j := j) (v := .int (g i)) (by rw [eT]; exact A.1) (State.isArrayOf_alike hZ.alike A.2.1) A.2.2 (own_in hj hi S) (by rw [q1]; exact H i hi) (g := mkF m pc Ls (.int j :: .ref a :: st)) rfl rfl hd _ h) k
theorem own_baload (X : Stand p l e R s m args below meth c T locs cells slots) (hx : p.tables.exec = Jvm.exec) (hZ : Z.Warmed39 s.vm) (eT : T.heap = h) {a : Addr} {N : Nat} {g : Nat → Int32} (F : PA Z h a .byte N g) {j : Int32} {i : Nat} (hj : j.toInt = (i : Int)) (hi : i < N) {pc n : Nat} {Ls : Array Slot} {st : List Value} (hd : decode c.code pc = .ok (.baload, 1)) (hn : pc + 1 = n)
    (k : Ends p e below EE Q (T.setTop (mkF m n Ls (.int (g i) :: st)))) : Ends p e below EE Q (T.setTop (mkF m pc Ls (.int j :: .ref a :: st))) := by
  subst hn
  obtain ⟨q, cl, A, S, H⟩ := F
  obtain ⟨q1, q2⟩ := own_clamp hj
  exact Ends.via (fun t h => X.baloadBytes hx (j := j) (v := .int (g i)) (by rw [eT]; exact A.1) (State.isArrayOf_alike hZ.alike A.2.1) A.2.2 (own_in hj hi S) (by rw [q1]; exact H i hi) (g := mkF m pc Ls (.int j :: .ref a :: st)) rfl rfl hd _ h) k
theorem own_ldcF (X : Stand p l e R s m args below meth c T locs cells slots) (hx : p.tables.exec = Jvm.exec) (hZ : Z.Warmed39 s.vm) {own : String} (hown : s.vm.findClass own = some m.cls) {pc n : Nat} {Ls : Array Slot} {st : List Value} {i : Nat} {v : UInt32} (w : (Cond.constantFloat own i v).before a0 Z = true) (hd : decode c.code pc = .ok (.ldc i, 2)) (hn : pc + 2 = n) (k : Ends p e below EE Q (T.setTop (mkF m n Ls (.float v :: st)))) : Ends p e below EE Q (T.setTop (mkF m pc Ls st)) := by
  subst hn
  exact Ends.via (fun t h => X.ldcFloatC hx hown (mvT hZ w) (g := mkF m pc Ls st) rfl hd t h) k
theorem own_ldcM (X : Stand p l e R s m args below meth c T locs cells slots) (hx : p.tables.exec = Jvm.exec) (hZ : Z.Warmed39 s.vm) {own C : String} (hown : s.vm.findClass own = some m.cls) {pc n : Nat} {Ls : Array Slot} {st : List Value} {i : Nat} (w : (Cond.classLink own i C).before a0 Z = true) {mr : Addr} (M : Mir Z C mr) (eT : T.heap = h) (hd : decode c.code pc = .ok (.ldc i, 2)) (hn : pc + 2 = n)
    (k : ∀ T', Stand p l e R s m args below meth c T' locs cells slots → T'.heap = h → Ends p e below EE Q (T'.setTop (mkF m n Ls (.ref mr :: st)))) : Ends p e below EE Q (T.setTop (mkF m pc Ls st)) := by
  subst hn
  obtain ⟨cc, kc, m1, m2, m3, -⟩ := M
  obtain ⟨k', q, ek⟩ := hZ.alike.2.2 _ _ m2
  have f1 : s.vm.findClass C = some cc := by rw [hZ.alike.findClass]; exact m1
  have hm : k'.mirror = some mr := by rw [ek]; exact m3
  have ev : (Term.mirror C).eval args s none [] s = some (.ref mr) := by simp [Term.eval, f1, q, hm]
  obtain ⟨vm', X', st'⟩ := X.ldcMirror hx hown (mvT hZ w) ev (g := mkF m pc Ls st) rfl hd
  exact Ends.via (fun t h => st' t h) (k _ X' eT)
theorem own_gcls (X : Stand p l e R s m args below meth c T locs cells slots) (hx : p.tables.exec = Jvm.exec) (hZ : Z.Warmed39 s.vm) {own C : String} (hown : s.vm.findClass own = some m.cls) {i : Nat}
    (w1 : (Cond.methodLink own i ⟨"java/lang/Object", "getClass", "()Ljava/lang/Class;"⟩).before a0 Z = true) (w2 : (Cond.declares ⟨"java/lang/Object", "getClass", "()Ljava/lang/Class;"⟩).before a0 Z = true) (w3 : (Cond.noSuperclass "java/lang/Object").before a0 Z = true) (w4 : (Cond.selects C ⟨"java/lang/Object", "getClass", "()Ljava/lang/Class;"⟩ ⟨"java/lang/Object", "getClass", "()Ljava/lang/Class;"⟩).before a0 Z = true)
    (w5 : (Cond.instanceMethod ⟨"java/lang/Object", "getClass", "()Ljava/lang/Class;"⟩).before a0 Z = true) (w6 : (Cond.native ⟨"java/lang/Object", "getClass", "()Ljava/lang/Class;"⟩).before a0 Z = true) (eT : T.heap = h) {a : Addr} (E : Exa Z h a C) {mr : Addr} (M : Mir Z C mr) {pc n : Nat} {Ls : Array Slot} {st : List Value} (hsize : Ls.size = c.maxLocals) (hd : decode c.code pc = .ok (.invokevirtual i, 3)) (hn : pc + 3 = n) (hf : 1 ≤ R.frames) {W : Nat} (hW : 0 + (st.map fun v => v.category).sum ≤ W) (hl : W + (nativeFrameWords "java/lang/Object" "getClass" 1 + 11) ≤ R.locals)
    (k : ∀ T', Stand p l e R s m args below meth c T' locs cells slots → T'.heap = h → Ends p e below EE Q (T'.setTop (mkF m n Ls (.ref mr :: st)))) : Ends p e below EE Q (T.setTop (mkF m pc Ls (.ref a :: st))) := by
  subst hn
  obtain ⟨T', X', e', st'⟩ := gcls X hx hZ hown w1 w2 w3 w4 w5 w6 eT E M (g := mkF m pc Ls (.ref a :: st)) rfl hsize rfl hd hf hW hl
  exact Ends.via (fun t h => st' t h) (k T' X' e')
theorem own_nsroot {O K : String} {kk : Nat} (w : (Cond.noSuperclass O).before a0 Z = true) (wk : (Cond.instantiable K kk).before a0 Z = true) (hn : O ≠ K) : NS Z O K := by
  obtain ⟨c, k, h1, h2, h3, -, -⟩ := Cond.noSuperclass_spec w
  obtain ⟨t, k', g1, -⟩ := Cond.instantiable_spec wk
  have ne := ids_ne h1 g1 hn
  refine ⟨c, t, h1, g1, fun fuel => ?_⟩
  cases fuel with
  | zero => rfl
  | succ f => simp [Vm.isSubclassAux, ne, h2, h3]
theorem own_nsno {C S K : String} {kk : Nat} (w : (Cond.superclass C S).before a0 Z = true) (wk : (Cond.instantiable K kk).before a0 Z = true) (n : NS Z C K) (hn : C ≠ K) : ∃ c t, Z.vm.findClass C = some c ∧ Z.vm.findClass K = some t ∧ Z.vm.assignable c t = false := by
  obtain ⟨c, t, h0, g0, n3⟩ := n
  obtain ⟨p, k, kp, h1, h2, h3, h4, h5, -, h7⟩ := Cond.superclass_spec h0 w
  obtain ⟨t', k', g1, g2, g5, g7, -⟩ := Cond.instantiable_spec wk
  cases g0.symm.trans g1
  have g7' : k'.isInterface = false := by
    cases q : k'.isInterface with
    | false => rfl
    | true => simp [q] at g7
  have ne := ids_ne h0 g0 hn
  refine ⟨c, t, h0, g0, ?_⟩
  show Z.vm.assignableAux (255 + 1) c t = false
  simp [Vm.assignableAux, ne, h2, g2, h5, g5, g7', Vm.isSubclass, n3]
theorem own_inst0 (X : Stand p l e R s m args below meth c T locs cells slots) (hx : p.tables.exec = Jvm.exec) (hZ : Z.Warmed39 s.vm) {own C K : String} (hown : s.vm.findClass own = some m.cls) {i : Nat} (w : (Cond.classLink own i K).before a0 Z = true) (eT : T.heap = h) {a : Addr} (E : Exa Z h a C) (F : ∃ c t, Z.vm.findClass C = some c ∧ Z.vm.findClass K = some t ∧ Z.vm.assignable c t = false) {pc n : Nat} {Ls : Array Slot} {st : List Value} (hd : decode c.code pc = .ok (.instanceof i, 3)) (hn : pc + 3 = n)
    (k : ∀ T', Stand p l e R s m args below meth c T' locs cells slots → T'.heap = h → Ends p e below EE Q (T'.setTop (mkF m n Ls (.int 0 :: st)))) : Ends p e below EE Q (T.setTop (mkF m pc Ls (.ref a :: st))) := by
  subst hn
  obtain ⟨T', X', e', st'⟩ := instNo X hx hZ hown w eT E F (g := mkF m pc Ls (.ref a :: st)) rfl rfl hd
  exact Ends.via (fun t h => st' t h) (k T' X' e')
theorem own_tswIn (X : Stand p l e R s m args below meth c T locs cells slots) (hx : p.tables.exec = Jvm.exec) {pc n len : Nat} {Ls : Array Slot} {st : List Value} {dflt low high o : Int} {offs : Array Int} {i : Int32} (hd : decode c.code pc = .ok (.tableswitch dflt low high offs, len)) (hin : ¬ (i.toInt < low ∨ i.toInt > high)) (hoff : offs[(i.toInt - low).toNat]? = some o) (ho : 0 ≤ (pc : Int) + o) (hp : ((pc : Int) + o).toNat = n) (k : Ends p e below EE Q (T.setTop (mkF m n Ls st))) : Ends p e below EE Q (T.setTop (mkF m pc Ls (.int i :: st))) :=
  Ends.via (fun t h => Jvm.Free.XS.tswIn X.here hx rfl (pc0 := pc) rfl hd rfl hin hoff ho hp h) k
theorem own_tswOut (X : Stand p l e R s m args below meth c T locs cells slots) (hx : p.tables.exec = Jvm.exec) {pc n len : Nat} {Ls : Array Slot} {st : List Value} {dflt low high : Int} {offs : Array Int} {i : Int32} (hd : decode c.code pc = .ok (.tableswitch dflt low high offs, len)) (hout : i.toInt < low ∨ i.toInt > high) (ho : 0 ≤ (pc : Int) + dflt) (hp : ((pc : Int) + dflt).toNat = n) (k : Ends p e below EE Q (T.setTop (mkF m n Ls st))) : Ends p e below EE Q (T.setTop (mkF m pc Ls (.int i :: st))) :=
  Ends.via (fun t h => Jvm.Free.XS.tswOut X.here hx rfl (pc0 := pc) rfl hd rfl hout ho hp h) k
theorem own_lswHit (X : Stand p l e R s m args below meth c T locs cells slots) (hx : p.tables.exec = Jvm.exec) {pc n len : Nat} {Ls : Array Slot} {st : List Value} {dflt a off : Int} {pairs : Array (Int × Int)} {i : Int32} (hd : decode c.code pc = .ok (.lookupswitch dflt pairs, len)) (hsorted : (pairs.toList.zip (pairs.toList.drop 1)).all (fun (a, next) => a.1 < next.1) = true) (hfind : pairs.find? (·.1 == i.toInt) = some (a, off)) (ho : 0 ≤ (pc : Int) + off) (hp : ((pc : Int) + off).toNat = n) (k : Ends p e below EE Q (T.setTop (mkF m n Ls st))) : Ends p e below EE Q (T.setTop (mkF m pc Ls (.int i :: st))) := by
  subst hp
  exact Ends.via (fun t h => X.lookupswitchHit hx (g := mkF m pc Ls (.int i :: st)) rfl rfl hd hsorted hfind ho t h) k
theorem own_getFV (X : Stand p l e R s m args below meth c T locs cells slots) (hx : p.tables.exec = Jvm.exec) (hZ : Z.Warmed39 s.vm) {own C O f d : String} {index : Nat} (hown : s.vm.findClass own = some m.cls) (w : (Cond.fieldLink own index C f d).before a0 Z = true) (via : Via Z C O f d) (eT : T.heap = h) {a : Addr} {v : Value} (F : Fld Z h a O f d v) {pc n : Nat} {Ls : Array Slot} {st : List Value} (hd : decode c.code pc = .ok (.getfield index, 3)) (hn : pc + 3 = n)
    (k : ∀ T', Stand p l e R s m args below meth c T' locs cells slots → T'.heap = h → Ends p e below EE Q (T'.setTop (mkF m n Ls (v :: st)))) : Ends p e below EE Q (T.setTop (mkF m pc Ls (.ref a :: st))) := by
  subst hn
  obtain ⟨T', X', e', st'⟩ := Jvm.RoadKit.getF X hx hZ hown (host := "") (Or.inl w) via eT F (g := mkF m pc Ls (.ref a :: st)) rfl rfl hd
  exact Ends.via (fun t h => st' t h) (k T' X' e')
theorem own_putFV (X : Stand p l e R s m args below meth c T locs cells slots) (hx : p.tables.exec = Jvm.exec) (hZ : Z.Warmed39 s.vm) {own C O f d CC : String} {index kk : Nat} {ty : FieldType} (hown : s.vm.findClass own = some m.cls) (w : (Cond.fieldLink own index C f d).before a0 Z = true) (via : Via Z C O f d) (eT : T.heap = h) {a : Addr} {v old : Value} (F : Fld Z h a O f d old) (EX : Exa Z h a CC) (Lw : (Cond.lays CC O f d).before a0 Z = true ∨ ((Cond.laysFinal CC O f d).before a0 Z = true ∧ own = O ∧ meth.name = "<init>")) (wi : (Cond.instantiable CC kk).before a0 Z = true) (hty : parseFieldDescriptor d = some ty) (hnw : narrow ty v = v) (hft : fits ty v = true) {pc n : Nat} {Ls : Array Slot} {st : List Value} (hd : decode c.code pc = .ok (.putfield index, 3)) (hn : pc + 3 = n)
    (k : ∀ T' h', Stand p l e R s m args below meth c T' (locs ++ [⟨a, Jvm.RoadKit.slotOf Z O f d⟩]) cells slots → T'.heap = h' → Wr h h' a (Jvm.RoadKit.slotOf Z O f d) v → Ends p e below EE Q (T'.setTop (mkF m n Ls st))) : Ends p e below EE Q (T.setTop (mkF m pc Ls (v :: .ref a :: st))) := by
  subst hn
  obtain ⟨T', h', X', e', W', st'⟩ := Jvm.RoadKit.putF X hx hZ hown (host := "") (Or.inl w) via eT F EX Lw wi hty hnw hft (g := mkF m pc Ls (v :: .ref a :: st)) rfl rfl hd
  exact Ends.via (fun t h => st' t h) (k T' h' X' e' W')
theorem own_getSN (X : Stand p l e R s m args below meth c T locs cells slots) (hx : p.tables.exec = Jvm.exec) (hZ : Z.Warmed39 s.vm) {own C f d host : String} {index : Nat} (hown : s.vm.findClass own = some m.cls) (w : (Cond.fieldLinkNest own index C f d host).before a0 Z = true) (eT : T.heap = h) {v : Value} (F : Sta Z h C f d v) {pc n : Nat} {Ls : Array Slot} {st : List Value} (hd : decode c.code pc = .ok (.getstatic index, 3)) (hn : pc + 3 = n)
    (k : ∀ T', Stand p l e R s m args below meth c T' locs cells slots → T'.heap = h → Ends p e below EE Q (T'.setTop (mkF m n Ls (v :: st)))) : Ends p e below EE Q (T.setTop (mkF m pc Ls st)) := by
  subst hn
  obtain ⟨T', X', e', st'⟩ := getS2 X hx hZ hown (host := host) (Or.inr w) Via.refl eT F (g := mkF m pc Ls st) rfl hd
  exact Ends.via (fun t h => st' t h) (k T' X' e')
theorem own_callI (X : Stand p l e R s m args below meth c T locs cells slots) (hx : p.tables.exec = Jvm.exec) (hZ : Z.Warmed39 s.vm) {own C : String} {index count : Nat} {xi y : MethodName} {bytes : ByteArray} {maxL : Nat} {ret : Option FieldType} (hown : s.vm.findClass own = some m.cls) (wl : (Cond.methodLink own index xi).before a0 Z = true) (wd : (Cond.declares xi).before a0 Z = true) (wf : (Cond.interfaceMethod xi.cls xi.cls xi.name xi.desc).before a0 Z = true) (wsel : (Cond.selects C xi y).before a0 Z = true) (wi : (Cond.instanceMethod y).before a0 Z = true) (wp : (Cond.publicMethod y).before a0 Z = true) (wu : (Cond.unhidden C xi.name xi.desc).before a0 Z = true) (wca : (Cond.castable C xi.cls).before a0 Z = true) (wz : (Cond.initialized y.cls).before a0 Z = true) (wc : (Cond.code y bytes maxL ret).before a0 Z = true) (hy : xi.cls ≠ "java/lang/invoke/MethodHandle" ∧ xi.cls ≠ "java/lang/invoke/VarHandle") (eT : T.heap = h) {a : Addr} (EX : Exa Z h a C)
    {rm : Room} {Qc : Option Value → Heap → List Loc → Prop} {as' : Array Value} (hM : MetFree l y (head1 [Cond.code y bytes maxL ret] rm) (fun a U => a = as' ∧ Z.Warmed39 U.vm ∧ U.heap = h) (fun _ _ _ _ _ => True) (fun _ U o U' => ∃ v L, o = .returned v ∧ Qc v U'.heap L ∧ FrameEnd U o U' L rm.cells rm.slots)) {W : Nat} (hf : rm.frames + 1 ≤ R.frames) (hl : W + (maxL + 11) + rm.locals ≤ R.locals) (hc : cells + rm.cells ≤ R.cells) (hsl : slots + rm.slots ≤ R.slots) {pc n : Nat} {Ls : Array Slot} (hsize : Ls.size = c.maxLocals) {argsL rest : List Value} {ps : List FieldType} {r : Option FieldType} (hpd : parseMethodDescriptor xi.desc = some ⟨ps, r⟩) (hlen : argsL.length = ps.length) (has : (.ref a :: argsL).toArray = as') (hW : 0 + (rest.map fun v => v.category).sum ≤ W) (hd : decode c.code pc = .ok (.invokeinterface index count, 5)) (hn : pc + 5 = n) {st : List Value} (hst : st = argsL.reverse ++ .ref a :: rest)
    (k : ∀ v T' h' L', Stand p l e R s m args below meth c T' (locs ++ L') (cells + rm.cells) (slots + rm.slots) → T'.heap = h' → Qc v h' L' → Ends p e below EE Q (T'.setTop (mkF m n Ls (v.toList ++ rest)))) : Ends p e below EE Q (T.setTop (mkF m pc Ls st)) := by
  subst hn
  obtain ⟨cq, kq, qa, qb, qc⟩ := isOf hZ eT EX
  obtain ⟨v, _, ⟨T18, L18, k18, n18⟩, -, X18, ⟨Lc18, hQ18, l18, y18, z18⟩, st18⟩ := X.interfaceBack hx hown (mvT hZ wl) (mvT hZ wd) (mvT hZ wf (by simp [Cond.onTables, Cond.keepsFace, Cond.keeps, Cond.steady, Cond.faceAtom, hy.1, hy.2])) (mvT hZ wsel) (mvT hZ wi) (mvT hZ wp) (mvT hZ wu) (mvT hZ wca) hy (backOf (W := W) hM hZ wc wz hf hl) qa qb qc (g := mkF m pc Ls st) rfl hsize (Steps.refl _) (argsL := argsL) (rest := rest) (lenOf hpd hlen) hst hW hd (fun _ _ => ⟨has, eT, hc, hsl⟩)
  dsimp only [Pt.U, Pt.locs, Pt.cells, Pt.slots] at X18 l18 y18 z18 st18 hQ18
  subst l18 y18 z18
  exact Ends.tr st18 (k v T18 _ Lc18 X18 rfl hQ18)
theorem own_callV2 (X : Stand p l e R s m args below meth c T locs cells slots) (hx : p.tables.exec = Jvm.exec) (hZ : Z.Warmed39 s.vm) {own C : String} {index : Nat} {y z : MethodName} {bytes : ByteArray} {maxL : Nat} {ret : Option FieldType} (hown : s.vm.findClass own = some m.cls) (wl : (Cond.methodLink own index y).before a0 Z = true) (wd : (Cond.declares y).before a0 Z = true) (wnf : (Cond.noSuperclass y.cls).before a0 Z = true) (wsel : (Cond.selects C y z).before a0 Z = true) (wi : (Cond.instanceMethod z).before a0 Z = true) (wz : (Cond.initialized z.cls).before a0 Z = true) (wc : (Cond.code z bytes maxL ret).before a0 Z = true) (hy : y.cls ≠ "java/lang/invoke/MethodHandle" ∧ y.cls ≠ "java/lang/invoke/VarHandle") (eT : T.heap = h) {a : Addr} (EX : Exa Z h a C)
    {rm : Room} {Qc : Option Value → Heap → List Loc → Prop} {as' : Array Value} (hM : MetFree l z (head1 [Cond.code z bytes maxL ret] rm) (fun a U => a = as' ∧ Z.Warmed39 U.vm ∧ U.heap = h) (fun _ _ _ _ _ => True) (fun _ U o U' => ∃ v L, o = .returned v ∧ Qc v U'.heap L ∧ FrameEnd U o U' L rm.cells rm.slots)) {W : Nat} (hf : rm.frames + 1 ≤ R.frames) (hl : W + (maxL + 11) + rm.locals ≤ R.locals) (hc : cells + rm.cells ≤ R.cells) (hsl : slots + rm.slots ≤ R.slots) {pc n : Nat} {Ls : Array Slot} (hsize : Ls.size = c.maxLocals) {argsL rest : List Value} {ps : List FieldType} {r : Option FieldType} (hpd : parseMethodDescriptor y.desc = some ⟨ps, r⟩) (hlen : argsL.length = ps.length) (has : (.ref a :: argsL).toArray = as') (hW : 0 + (rest.map fun v => v.category).sum ≤ W) (hd : decode c.code pc = .ok (.invokevirtual index, 3)) (hn : pc + 3 = n) {st : List Value} (hst : st = argsL.reverse ++ .ref a :: rest)
    (k : ∀ v T' h' L', Stand p l e R s m args below meth c T' (locs ++ L') (cells + rm.cells) (slots + rm.slots) → T'.heap = h' → Qc v h' L' → Ends p e below EE Q (T'.setTop (mkF m n Ls (v.toList ++ rest)))) : Ends p e below EE Q (T.setTop (mkF m pc Ls st)) := by
  subst hn
  obtain ⟨cq, kq, qa, qb, qc⟩ := isOf hZ eT EX
  obtain ⟨v, _, ⟨T18, L18, k18, n18⟩, -, X18, ⟨Lc18, hQ18, l18, y18, z18⟩, st18⟩ := X.virtualBack hx hown (mvT hZ wl) (mvT hZ wd) (nf_top (args := #[]) (mvT hZ wnf)) (mvT hZ wsel) (mvT hZ wi) hy (backOf (W := W) hM hZ wc wz hf hl) qa qc (g := mkF m pc Ls st) rfl hsize (Steps.refl _) (argsL := argsL) (rest := rest) (lenOf hpd hlen) hst hW hd (fun _ _ => ⟨has, eT, hc, hsl⟩)
  dsimp only [Pt.U, Pt.locs, Pt.cells, Pt.slots] at X18 l18 y18 z18 st18 hQ18
  subst l18 y18 z18
  exact Ends.tr st18 (k v T18 _ Lc18 X18 rfl hQ18)
theorem own_clN {N : Nat} (h : N < 2 ^ 31) : (Nat.toInt32 N).toNatClampNeg = N ∧ ¬ Nat.toInt32 N < 0 := own_clamp (len_toInt h)
theorem own_raArv {a : Addr} {C : String} {N : Nat} {g : Nat → Value} (F : RA Z h a C N g) (hR : ∀ j, j < N → (g j).isRef = true) : ∃ kc, Arv Z h a kc (.object C) (Nat.toInt32 N) ((List.range N).map g) .null ∧ Ovr Z kc C := by
  obtain ⟨q, cl, A, O, S, H⟩ := F
  obtain ⟨q1, q2⟩ := own_clN q
  refine ⟨cl.cls, ⟨cl, A, rfl, by rw [q1, S], q2, fun j hj => ?_, fun j hj => ?_⟩, O⟩
  · rw [S] at hj
    rw [H j hj]
    simp [hj]
  · rw [S] at hj
    have e : ((List.range N).map g).getD j .null = g j := by simp [hj]
    rw [e]
    rcases ref_cases (hR j hj) with z | ⟨y, z⟩ <;> rw [z] <;> rfl
theorem own_arvRa {b : Addr} {C : String} {kc : ClassId} {M : Nat} (hM : M < 2 ^ 31) {vs : List Value} {dd : Value} {g : Nat → Value} (F : Arv Z h b kc (.object C) (Nat.toInt32 M) vs dd) (O : Ovr Z kc C) (e : ∀ j, j < M → vs.getD j dd = g j) : RA Z h b C M g := by
  obtain ⟨cl, A, rfl, S, -, H, -⟩ := F
  rw [(own_clN hM).1] at S
  exact ⟨hM, cl, A, O, S, fun j hj => (H j (by omega)).trans (congrArg some (e j hj))⟩
theorem own_stoL {b : Addr} : ∀ (us : List Value), (∀ v ∈ us, Sto Z h b v) → StoL Z h b us
  | [], _ => trivial
  | _ :: r, H => ⟨H _ (List.mem_cons_self ..), own_stoL r fun v hv => H v (List.mem_cons_of_mem _ hv)⟩
theorem own_cpR (X : Stand p l e R s m args below meth c T locs cells slots) (hx : p.tables.exec = Jvm.exec) (hZ : Z.Warmed39 s.vm) {own : String} {index : Nat} (hown : s.vm.findClass own = some m.cls)
    (w1 : (Cond.methodLink own index Jvm.Stand.acN).before a0 Z = true) (w2 : (Cond.native Jvm.Stand.acN).before a0 Z = true) (w3 : (Cond.static Jvm.Stand.acN).before a0 Z = true) (w4 : (Cond.initialized "java/lang/System").before a0 Z = true) (eT : T.heap = h)
    {a b : Addr} {C : String} {N M nn : Nat} {g gd : Nat → Value} (F : RA Z h a C N g) (G : RA Z h b C M gd) (hR : ∀ j, j < N → (g j).isRef = true) (hRd : ∀ j, j < M → (gd j).isRef = true) (hI : ∀ j, j < nn → ∃ y, g j = .ref y ∧ Ins Z h y C true) {z : Int32} (hz : z.toInt = (nn : Int)) (h4 : nn ≤ N) (h5 : nn ≤ M) {n0 : Nat} (NN : Fr n0 locs) (ge : n0 ≤ b)
    {pc n : Nat} {Ls : Array Slot} {st : List Value} (hsize : Ls.size = c.maxLocals) (hd : decode c.code pc = .ok (.invokestatic index, 3)) (hn : pc + 3 = n) (hf : 1 ≤ R.frames) {W : Nat} (hW : 0 + (st.map fun v => v.category).sum ≤ W) (hlo : W + (nativeFrameWords "java/lang/System" "arraycopy" 5 + 11) ≤ R.locals)
    (k : ∀ T' h' L, Stand p l e R s m args below meth c T' L cells slots → T'.heap = h' → Fr n0 L → Keep h h' [b] → RA Z h' b C M (fun j => if j < nn then g j else gd j) → Ends p e below EE Q (T'.setTop (mkF m n Ls st))) : Ends p e below EE Q (T.setTop (mkF m pc Ls (.int z :: .int 0 :: .ref b :: .int 0 :: .ref a :: st))) := by
  subst hn
  have hN := F.1
  have hMM := G.1
  obtain ⟨z1, z2⟩ := own_clamp hz
  obtain ⟨n1, n2⟩ := own_clN hN
  obtain ⟨m1, m2⟩ := own_clN hMM
  have c0 : (0 : Int32).toNatClampNeg = 0 := rfl
  have hsto : StoL Z h b ((List.range z.toNatClampNeg).map fun i => ((List.range N).map g).getD ((0 : Int32).toNatClampNeg + i) .null) := by
    apply own_stoL
    intro v hv
    obtain ⟨i, hi, rfl⟩ := List.mem_map.mp hv
    rw [z1] at hi
    have hi' := List.mem_range.mp hi
    obtain ⟨y, e1, I⟩ := hI i hi'
    have e2 : ((List.range N).map g).getD ((0 : Int32).toNatClampNeg + i) .null = g i := by rw [c0, Nat.zero_add]; simp [Nat.lt_of_lt_of_le hi' h4]
    rw [e2, e1]
    obtain ⟨-, cl, A, O, -⟩ := G
    exact Sto.of A O I
  obtain ⟨ka, A1, -⟩ := own_raArv F hR
  obtain ⟨kb, B1, O1⟩ := own_raArv G hRd
  obtain ⟨T', h', L, X', e', N', K', B', st'⟩ := cpA X hx hZ hown w1 w2 w3 w4 eT A1 B1 (Or.inr ⟨rfl, rfl, hsto⟩) (sp := 0) (dp := 0) (nn := z) (by decide) (by decide) z2 (by rw [z1, n1, c0]; omega) (by rw [z1, m1, c0]; omega) rfl (by rw [z1, c0]; simpa using h5) NN ge (g := mkF m pc Ls (.int z :: .int 0 :: .ref b :: .int 0 :: .ref a :: st)) rfl hsize (rest := st) rfl hd hf hW hlo
  refine Ends.via (fun t h => st' t h) (k T' h' L X' e' N' K' (own_arvRa hMM B' O1 fun j hj => ?_))
  rw [z1, c0]
  by_cases q : j < nn
  · rw [if_pos q]
    simp [List.getElem?_append, q, Nat.lt_of_lt_of_le q h4]
  · rw [if_neg q]
    simp [List.getElem?_append, q]
    rw [show nn + (j - nn) = j by omega]
    simp [hj]
/-- a cell's kind: of the class named, or an array over the type -/
def InS (Z : State) (t : String ⊕ FieldType) (c : ClassId) : Prop := match t with
  | .inl C => Z.vm.findClass C = some c
  | .inr ty => ∃ (k : Class) (comp : ClassId), Z.vm.classes[c]? = some k ∧ k.kind = .array comp ty
/-- from h to h' only cells of the kinds L were written -/
def Kc (Z : State) (h h' : Heap) (L : List (String ⊕ FieldType)) : Prop := h.size ≤ h'.size ∧ (∀ (x : Addr) (c : Cell), h[x]? = some c → (∀ t ∈ L, ¬ InS Z t c.cls) → h'[x]? = some c) ∧ ∀ (x : Addr) (c : Cell), h[x]? = some c → ∃ c' : Cell, h'[x]? = some c' ∧ c'.cls = c.cls ∧ c'.vm = c.vm ∧ c'.slots.size = c.slots.size
theorem Kc.refl (h : Heap) (L : List (String ⊕ FieldType)) : Kc Z h h L := ⟨Nat.le_refl _, fun _ _ q _ => q, fun _ c q => ⟨c, q, rfl, rfl, rfl⟩⟩
theorem Kc.trans {h' h'' : Heap} {L L' : List (String ⊕ FieldType)} (K : Kc Z h h' L) (K' : Kc Z h' h'' L') (q : ∀ t ∈ L', t ∈ L) : Kc Z h h'' L := by
  refine ⟨Nat.le_trans K.1 K'.1, fun x c e r => K'.2.1 x c (K.2.1 x c e r) fun t ht => r t (q t ht), fun x c e => ?_⟩
  obtain ⟨c1, e1, a1, a2, a3⟩ := K.2.2 x c e
  obtain ⟨c2, e2, b1, b2, b3⟩ := K'.2.2 x c1 e1
  exact ⟨c2, e2, b1.trans a1, b2.trans a2, b3.trans a3⟩
theorem Kc.ext {h' h'' : Heap} {L : List (String ⊕ FieldType)} (K : Kc Z h h' L) (E : Ext h' h'') : Kc Z h h'' L := K.trans (L' := []) ⟨E.1, fun x c q _ => E.2 x c q, fun x c q => ⟨c, E.2 x c q, rfl, rfl, rfl⟩⟩ (fun _ q => nomatch q)
theorem Kc.ofKeep {h' : Heap} {ws : List Addr} {L : List (String ⊕ FieldType)} (K : Keep h h' ws) (q : ∀ x ∈ ws, ∃ t ∈ L, ∀ c : Cell, h[x]? = some c → InS Z t c.cls) : Kc Z h h' L :=
  ⟨K.1, fun x c e r => K.2.1 x c e fun hx => by obtain ⟨t, ht, z⟩ := q x hx; exact r t ht (z c e), K.2.2⟩
theorem kin0 {L : List (String ⊕ FieldType)} : ∀ x ∈ ([] : List Addr), ∃ t ∈ L, ∀ c : Cell, h[x]? = some c → InS Z t c.cls := fun _ q => nomatch q
theorem kinS {L : List (String ⊕ FieldType)} {a : Addr} {ws : List Addr} {t : String ⊕ FieldType} (ht : t ∈ L) (z : ∀ c : Cell, h[a]? = some c → InS Z t c.cls) (r : ∀ x ∈ ws, ∃ t ∈ L, ∀ c : Cell, h[x]? = some c → InS Z t c.cls) : ∀ x ∈ a :: ws, ∃ t ∈ L, ∀ c : Cell, h[x]? = some c → InS Z t c.cls := fun x hx => by
  rcases List.mem_cons.mp hx with rfl | hx
  · exact ⟨t, ht, z⟩
  · exact r x hx
theorem exaSort {a : Addr} {C : String} (F : Exa Z h a C) (c : Cell) (e : h[a]? = some c) : InS Z (.inl C) c.cls := by
  obtain ⟨cell, k, h1, h2, -⟩ := F
  cases h1.symm.trans e
  exact h2
theorem VA.sort {a : Addr} {ty : FieldType} {n : Nat} {f : Nat → Value} (F : VA Z h a ty n f) (c : Cell) (e : h[a]? = some c) : InS Z (.inr ty) c.cls := by
  obtain ⟨-, cell, A, -⟩ := F
  cases A.1.symm.trans e
  obtain ⟨-, k, q1, comp, q2⟩ := A.2.1
  exact ⟨k, comp, q1, q2⟩
def NoS (Z : State) (t0 : String ⊕ FieldType) (L : List (String ⊕ FieldType)) : Prop := ∀ t ∈ L, ∀ c, InS Z t0 c → ¬ InS Z t c
theorem no0 {t0 : String ⊕ FieldType} : NoS Z t0 [] := fun _ q => nomatch q
theorem noS {t0 t : String ⊕ FieldType} {L : List (String ⊕ FieldType)} (z : ∀ c, InS Z t0 c → ¬ InS Z t c) (r : NoS Z t0 L) : NoS Z t0 (t :: L) := fun u hu => by
  rcases List.mem_cons.mp hu with rfl | hu
  · exact z
  · exact r u hu
theorem noCC {C C' : String} (q : C ≠ C') : ∀ c, InS Z (.inl C) c → ¬ InS Z (.inl C') c := fun _ h1 h2 => ids_ne h1 h2 q rfl
theorem noCA {C : String} {ty : FieldType} {kk : Nat} (w : (Cond.instantiable C kk).before a0 Z = true) : ∀ c, InS Z (.inl C) c → ¬ InS Z (.inr ty) c := fun c h1 h2 => by
  obtain ⟨t, k', g1, g2, g3, -⟩ := Cond.instantiable_spec w
  obtain ⟨k, comp, q1, q2⟩ := h2
  cases (show Z.vm.findClass C = some c from h1).symm.trans g1
  cases g2.symm.trans q1
  rw [g3] at q2; cases q2
theorem noAC {C : String} {ty : FieldType} {kk : Nat} (w : (Cond.instantiable C kk).before a0 Z = true) : ∀ c, InS Z (.inr ty) c → ¬ InS Z (.inl C) c := fun c h1 h2 => noCA w c h2 h1
theorem noAA {ty ty' : FieldType} (q : ty ≠ ty') : ∀ c, InS Z (.inr ty) c → ¬ InS Z (.inr ty') c := fun c h1 h2 => by
  obtain ⟨k, comp, q1, q2⟩ := h1
  obtain ⟨k', comp', r1, r2⟩ := h2
  cases q1.symm.trans r1
  rw [q2] at r2
  injection r2 with _ z
  exact q z
theorem exaKc {h' : Heap} {a : Addr} {C : String} {L : List (String ⊕ FieldType)} (F : Exa Z h a C) (K : Kc Z h h' L) : Exa Z h' a C := by
  obtain ⟨cell, k, h1, h2, h3, h4, h5⟩ := F
  obtain ⟨c', q, r1, r2, r3⟩ := K.2.2 a cell h1
  exact ⟨c', k, q, r1 ▸ h2, r1 ▸ h3, r2 ▸ h4, r3 ▸ h5⟩
theorem fldKc {h' : Heap} {a : Addr} {CC C n d : String} {v : Value} {L : List (String ⊕ FieldType)} (F : Fld Z h a C n d v) (E : Exa Z h a CC) (K : Kc Z h h' L) (q : NoS Z (.inl CC) L) : Fld Z h' a C n d v := by
  obtain ⟨cell, cf, k, i, f, h1, r⟩ := F
  exact ⟨cell, cf, k, i, f, K.2.1 a cell h1 fun t ht => q t ht _ (exaSort E cell h1), r⟩
theorem VA.kc {h' : Heap} {a : Addr} {ty : FieldType} {n : Nat} {f : Nat → Value} {L : List (String ⊕ FieldType)} (F : VA Z h a ty n f) (K : Kc Z h h' L) (q : NoS Z (.inr ty) L) : VA Z h' a ty n f := by
  have F' := F
  obtain ⟨r0, c, A, r⟩ := F
  exact ⟨r0, c, ⟨K.2.1 a c A.1 fun t ht => q t ht _ (F'.sort c A.1), A.2⟩, r⟩
theorem RA.kc {h' : Heap} {a : Addr} {C : String} {n : Nat} {g : Nat → Value} {L : List (String ⊕ FieldType)} (F : RA Z h a C n g) (K : Kc Z h h' L) (q : NoS Z (.inr (.object C)) L) : RA Z h' a C n g := by
  have F' := F.va
  obtain ⟨r0, c, A, r⟩ := F
  exact ⟨r0, c, ⟨K.2.1 a c A.1 fun t ht => q t ht _ (F'.sort c A.1), A.2⟩, r⟩
theorem PA.kc {h' : Heap} {a : Addr} {ty : FieldType} {n : Nat} {g : Nat → Int32} {L : List (String ⊕ FieldType)} (F : PA Z h a ty n g) (K : Kc Z h h' L) (q : NoS Z (.inr ty) L) : PA Z h' a ty n g := VA.kc F K q
theorem IA.kc {h' : Heap} {a : Addr} {n : Nat} {g : Nat → Int32} {L : List (String ⊕ FieldType)} (F : IA Z h a n g) (K : Kc Z h h' L) (q : NoS Z (.inr .int) L) : IA Z h' a n g := VA.kc F K q
theorem own_neOA {a b : Addr} {C : String} {kk : Nat} {ty : FieldType} {n : Nat} {f : Nat → Value} (F : Exa Z h a C) (w : (Cond.instantiable C kk).before a0 Z = true) (G : VA Z h b ty n f) : a ≠ b := by
  obtain ⟨-, c, A, -⟩ := G
  exact ne_arr F w A
theorem own_neAA {a b : Addr} {ty ty' : FieldType} {n n' : Nat} {f f' : Nat → Value} (F : VA Z h a ty n f) (G : VA Z h b ty' n' f') (q : ty ≠ ty') : a ≠ b := fun e => by
  subst e
  have G' := G
  obtain ⟨-, c, A, -⟩ := G
  exact noAA q _ (F.sort c A.1) (G'.sort c A.1)
theorem own_newRE (X : Stand p l e R s m args below meth c T locs cells slots) (hx : p.tables.exec = Jvm.exec) (hZ : Z.Warmed39 s.vm) {own C : String} {index : Nat} (hown : s.vm.findClass own = some m.cls) (w1 : (Cond.classLink own index C).before a0 Z = true) (w2 : (Cond.arrayOver (.object C)).before a0 Z = true) {ad : String} (had : "[" ++ (FieldType.object C).toString = ad) (eT : T.heap = h) {N : Int32} {i cap : Nat} (hN : N.toInt = (i : Int)) (hcap : i ≤ cap) (hb : cap * 8 ≤ 536870912) (hc : cells + 1 ≤ R.cells) (hl : slots + cap ≤ R.slots) {pc n : Nat} {Ls : Array Slot} {st : List Value} (hd : decode c.code pc = .ok (.anewarray index, 3)) (hn : pc + 3 = n)
    (k : ∀ T' h' b, Stand p l e R s m args below meth c T' locs (cells + 1) (slots + cap) → T'.heap = h' → b = h.size → Ext h h' → RA Z h' b C i (fun _ => .null) → Exa Z h' b ad → Ends p e below EE Q (T'.setTop (mkF m n Ls (.ref b :: st)))) : Ends p e below EE Q (T.setTop (mkF m pc Ls (.int N :: st))) := by
  subst hn
  obtain ⟨q1, q2⟩ := own_clamp hN
  obtain ⟨T', h', cA, X', e', E', A', XX, O', st'⟩ := newRE X hx hZ hown w1 w2 eT (g := mkF m pc Ls (.int N :: st)) rfl hd rfl q2 (cap := cap) (by rw [q1]; exact hcap) hb hc hl had
  have b1 := rng32 N
  refine Ends.via (fun t h => st' t h) (k T' h' _ X' e' rfl E' ⟨by omega, _, A', O', (sz_new _ _ _).trans q1, fun j hj => ?_⟩ XX)
  simp [newA, q1, hj]
  rfl
theorem own_callNN (X : Stand p l e R s m args below meth c T locs cells slots) (hx : p.tables.exec = Jvm.exec) (hZ : Z.Warmed39 s.vm) {own host : String} {index : Nat} {y : MethodName} {bytes : ByteArray} {maxL : Nat} (hy1 : y.name = "<init>") (hown : s.vm.findClass own = some m.cls) (wl : (Cond.methodLinkNest own index y host).before a0 Z = true) (wi : (Cond.instanceMethod y).before a0 Z = true) (wz : (Cond.initialized y.cls).before a0 Z = true) (wc : (Cond.code y bytes maxL none).before a0 Z = true) (hy : y.cls ≠ "java/lang/invoke/MethodHandle" ∧ y.cls ≠ "java/lang/invoke/VarHandle") (eT : T.heap = h)
    {rm : Room} {Qc : Option Value → Heap → List Loc → Prop} {as' : Array Value} (hM : MetFree l y (head1 [Cond.code y bytes maxL none] rm) (fun a U => a = as' ∧ Z.Warmed39 U.vm ∧ U.heap = h) (fun _ _ _ _ _ => True) (fun _ U o U' => ∃ v L, o = .returned v ∧ Qc v U'.heap L ∧ FrameEnd U o U' L rm.cells rm.slots)) {W : Nat} (hf : rm.frames + 1 ≤ R.frames) (hl : W + (maxL + 11) + rm.locals ≤ R.locals) (hc : cells + rm.cells ≤ R.cells) (hsl : slots + rm.slots ≤ R.slots) {pc n : Nat} {Ls : Array Slot} (hsize : Ls.size = c.maxLocals) {argsL rest : List Value} {ps : List FieldType} {r : Option FieldType} (hpd : parseMethodDescriptor y.desc = some ⟨ps, r⟩) (hlen : argsL.length = ps.length) {a : Addr} (has : (.ref a :: argsL).toArray = as') (hW : 0 + (rest.map fun v => v.category).sum ≤ W) (hd : decode c.code pc = .ok (.invokespecial index, 3)) (hn : pc + 3 = n) {st : List Value} (hst : st = argsL.reverse ++ .ref a :: rest)
    (k : ∀ v T' h' L', Stand p l e R s m args below meth c T' (locs ++ L') (cells + rm.cells) (slots + rm.slots) → T'.heap = h' → Qc v h' L' → Ends p e below EE Q (T'.setTop (mkF m n Ls (v.toList ++ rest)))) : Ends p e below EE Q (T.setTop (mkF m pc Ls st)) := by
  subst hn
  obtain ⟨v, _, ⟨T18, L18, k18, n18⟩, -, X18, ⟨Lc18, hQ18, l18, y18, z18⟩, st18⟩ := X.specialBackNest hx hy1 hown (Cond.methodLinkNest_wide hZ wl :) (mvT hZ wi) (mvT hZ wc) hy (backOf (W := W) hM hZ wc wz hf hl) (g := mkF m pc Ls st) rfl hsize (Steps.refl _) (a := a) (argsL := argsL) (rest := rest) (lenOf hpd hlen) hst hW hd (fun _ _ => ⟨has, eT, hc, hsl⟩)
  dsimp only [Pt.U, Pt.locs, Pt.cells, Pt.slots] at X18 l18 y18 z18 st18 hQ18
  subst l18 y18 z18
  exact Ends.tr st18 (k v T18 _ Lc18 X18 rfl hQ18)
end Own
def SP (Z : State) (h : Heap) (a : Addr) (v0 : Value) (v1 : Int32) (v2 : Int32) (v3 : Int32) : Prop := Exa Z h a "java/lang/String" ∧ Fld Z h a "java/lang/String" "value" "[B" v0 ∧ Fld Z h a "java/lang/String" "coder" "B" (.int v1) ∧ Fld Z h a "java/lang/String" "hash" "I" (.int v2) ∧ Fld Z h a "java/lang/String" "hashIsZero" "Z" (.int v3)
theorem SP.ext {Z : State} {h h' : Heap} {a : Addr} {v0 : Value} {v1 : Int32} {v2 : Int32} {v3 : Int32} (F : SP Z h a v0 v1 v2 v3) (E : Ext h h') : SP Z h' a v0 v1 v2 v3 := ⟨F.1.ext E, F.2.1.ext E, F.2.2.1.ext E, F.2.2.2.1.ext E, F.2.2.2.2.ext E⟩
theorem SP.keep {Z : State} {h h' : Heap} {a : Addr} {v0 : Value} {v1 : Int32} {v2 : Int32} {v3 : Int32} {ws : List Addr} (F : SP Z h a v0 v1 v2 v3) (K : Keep h h' ws) (q : a ∉ ws) : SP Z h' a v0 v1 v2 v3 := ⟨F.1.keep K, F.2.1.keep K q, F.2.2.1.keep K q, F.2.2.2.1.keep K q, F.2.2.2.2.keep K q⟩
theorem SP.lt {Z : State} {h : Heap} {a : Addr} {v0 : Value} {v1 : Int32} {v2 : Int32} {v3 : Int32} (F : SP Z h a v0 v1 v2 v3) : a < h.size := F.1.lt
theorem SP.wrO {Z : State} {h h' : Heap} {a : Addr} {v0 : Value} {v1 : Int32} {v2 : Int32} {v3 : Int32} {b : Addr} {sl : Nat} {w : Value} (F : SP Z h a v0 v1 v2 v3) (W : Wr h h' b sl w) (q : a ≠ b) : SP Z h' a v0 v1 v2 v3 := ⟨F.1.wr W, F.2.1.other W (Or.inl q), F.2.2.1.other W (Or.inl q), F.2.2.2.1.other W (Or.inl q), F.2.2.2.2.other W (Or.inl q)⟩
theorem SP.kc {Z : State} {h h' : Heap} {a : Addr} {v0 : Value} {v1 : Int32} {v2 : Int32} {v3 : Int32} {LL : List (String ⊕ FieldType)} (F : SP Z h a v0 v1 v2 v3) (K : Kc Z h h' LL) (q : NoS Z (.inl "java/lang/String") LL) : SP Z h' a v0 v1 v2 v3 := ⟨exaKc F.1 K, fldKc F.2.1 F.1 K q, fldKc F.2.2.1 F.1 K q, fldKc F.2.2.2.1 F.1 K q, fldKc F.2.2.2.2 F.1 K q⟩
theorem SP.set_value {Z : State} {h h' : Heap} {a : Addr} {v0 : Value} {v1 : Int32} {v2 : Int32} {v3 : Int32} {w : Value} {a0 : Array Value} (hw : ∀ d ∈ tables_1, d.before a0 Z = true) (F : SP Z h a v0 v1 v2 v3) (W : Wr h h' a (Jvm.RoadKit.slotOf Z "java/lang/String" "value" "[B") w) : SP Z h' a w v1 v2 v3 := ⟨F.1.wr W, F.2.1.same W, F.2.2.1.other W (Or.inr (slot_ne (a0 := a0) (Or.inr (hw _ (List.mem_of_getElem? (i := 83) rfl))) (Or.inr (hw _ (List.mem_of_getElem? (i := 81) rfl))) (by decide) (t := .byte) (t' := (.array .byte)) (by decide) (by decide))), F.2.2.2.1.other W (Or.inr (slot_ne (a0 := a0) (Or.inl (hw _ (List.mem_of_getElem? (i := 105) rfl))) (Or.inr (hw _ (List.mem_of_getElem? (i := 81) rfl))) (by decide) (t := .int) (t' := (.array .byte)) (by decide) (by decide))), F.2.2.2.2.other W (Or.inr (slot_ne (a0 := a0) (Or.inl (hw _ (List.mem_of_getElem? (i := 107) rfl))) (Or.inr (hw _ (List.mem_of_getElem? (i := 81) rfl))) (by decide) (t := .boolean) (t' := (.array .byte)) (by decide) (by decide)))⟩
theorem SP.set_coder {Z : State} {h h' : Heap} {a : Addr} {v0 : Value} {v1 : Int32} {v2 : Int32} {v3 : Int32} {w : Int32} {a0 : Array Value} (hw : ∀ d ∈ tables_1, d.before a0 Z = true) (F : SP Z h a v0 v1 v2 v3) (W : Wr h h' a (Jvm.RoadKit.slotOf Z "java/lang/String" "coder" "B") (.int w)) : SP Z h' a v0 w v2 v3 := ⟨F.1.wr W, F.2.1.other W (Or.inr (slot_ne (a0 := a0) (Or.inr (hw _ (List.mem_of_getElem? (i := 81) rfl))) (Or.inr (hw _ (List.mem_of_getElem? (i := 83) rfl))) (by decide) (t := (.array .byte)) (t' := .byte) (by decide) (by decide))), F.2.2.1.same W, F.2.2.2.1.other W (Or.inr (slot_ne (a0 := a0) (Or.inl (hw _ (List.mem_of_getElem? (i := 105) rfl))) (Or.inr (hw _ (List.mem_of_getElem? (i := 83) rfl))) (by decide) (t := .int) (t' := .byte) (by decide) (by decide))), F.2.2.2.2.other W (Or.inr (slot_ne (a0 := a0) (Or.inl (hw _ (List.mem_of_getElem? (i := 107) rfl))) (Or.inr (hw _ (List.mem_of_getElem? (i := 83) rfl))) (by decide) (t := .boolean) (t' := .byte) (by decide) (by decide)))⟩
theorem SP.set_hash {Z : State} {h h' : Heap} {a : Addr} {v0 : Value} {v1 : Int32} {v2 : Int32} {v3 : Int32} {w : Int32} {a0 : Array Value} (hw : ∀ d ∈ tables_1, d.before a0 Z = true) (F : SP Z h a v0 v1 v2 v3) (W : Wr h h' a (Jvm.RoadKit.slotOf Z "java/lang/String" "hash" "I") (.int w)) : SP Z h' a v0 v1 w v3 := ⟨F.1.wr W, F.2.1.other W (Or.inr (slot_ne (a0 := a0) (Or.inr (hw _ (List.mem_of_getElem? (i := 81) rfl))) (Or.inl (hw _ (List.mem_of_getElem? (i := 105) rfl))) (by decide) (t := (.array .byte)) (t' := .int) (by decide) (by decide))), F.2.2.1.other W (Or.inr (slot_ne (a0 := a0) (Or.inr (hw _ (List.mem_of_getElem? (i := 83) rfl))) (Or.inl (hw _ (List.mem_of_getElem? (i := 105) rfl))) (by decide) (t := .byte) (t' := .int) (by decide) (by decide))), F.2.2.2.1.same W, F.2.2.2.2.other W (Or.inr (slot_ne (a0 := a0) (Or.inl (hw _ (List.mem_of_getElem? (i := 107) rfl))) (Or.inl (hw _ (List.mem_of_getElem? (i := 105) rfl))) (by decide) (t := .boolean) (t' := .int) (by decide) (by decide)))⟩
theorem SP.set_hashIsZero {Z : State} {h h' : Heap} {a : Addr} {v0 : Value} {v1 : Int32} {v2 : Int32} {v3 : Int32} {w : Int32} {a0 : Array Value} (hw : ∀ d ∈ tables_1, d.before a0 Z = true) (F : SP Z h a v0 v1 v2 v3) (W : Wr h h' a (Jvm.RoadKit.slotOf Z "java/lang/String" "hashIsZero" "Z") (.int w)) : SP Z h' a v0 v1 v2 w := ⟨F.1.wr W, F.2.1.other W (Or.inr (slot_ne (a0 := a0) (Or.inr (hw _ (List.mem_of_getElem? (i := 81) rfl))) (Or.inl (hw _ (List.mem_of_getElem? (i := 107) rfl))) (by decide) (t := (.array .byte)) (t' := .boolean) (by decide) (by decide))), F.2.2.1.other W (Or.inr (slot_ne (a0 := a0) (Or.inr (hw _ (List.mem_of_getElem? (i := 83) rfl))) (Or.inl (hw _ (List.mem_of_getElem? (i := 107) rfl))) (by decide) (t := .byte) (t' := .boolean) (by decide) (by decide))), F.2.2.2.1.other W (Or.inr (slot_ne (a0 := a0) (Or.inl (hw _ (List.mem_of_getElem? (i := 105) rfl))) (Or.inl (hw _ (List.mem_of_getElem? (i := 107) rfl))) (by decide) (t := .int) (t' := .boolean) (by decide) (by decide))), F.2.2.2.2.same W⟩
def AL (Z : State) (h : Heap) (a : Addr) (v0 : Value) (v1 : Int32) (v2 : Int32) : Prop := Exa Z h a "java/util/ArrayList" ∧ Fld Z h a "java/util/ArrayList" "elementData" "[Ljava/lang/Object;" v0 ∧ Fld Z h a "java/util/ArrayList" "size" "I" (.int v1) ∧ Fld Z h a "java/util/AbstractList" "modCount" "I" (.int v2)
theorem AL.ext {Z : State} {h h' : Heap} {a : Addr} {v0 : Value} {v1 : Int32} {v2 : Int32} (F : AL Z h a v0 v1 v2) (E : Ext h h') : AL Z h' a v0 v1 v2 := ⟨F.1.ext E, F.2.1.ext E, F.2.2.1.ext E, F.2.2.2.ext E⟩
theorem AL.keep {Z : State} {h h' : Heap} {a : Addr} {v0 : Value} {v1 : Int32} {v2 : Int32} {ws : List Addr} (F : AL Z h a v0 v1 v2) (K : Keep h h' ws) (q : a ∉ ws) : AL Z h' a v0 v1 v2 := ⟨F.1.keep K, F.2.1.keep K q, F.2.2.1.keep K q, F.2.2.2.keep K q⟩
theorem AL.lt {Z : State} {h : Heap} {a : Addr} {v0 : Value} {v1 : Int32} {v2 : Int32} (F : AL Z h a v0 v1 v2) : a < h.size := F.1.lt
theorem AL.wrO {Z : State} {h h' : Heap} {a : Addr} {v0 : Value} {v1 : Int32} {v2 : Int32} {b : Addr} {sl : Nat} {w : Value} (F : AL Z h a v0 v1 v2) (W : Wr h h' b sl w) (q : a ≠ b) : AL Z h' a v0 v1 v2 := ⟨F.1.wr W, F.2.1.other W (Or.inl q), F.2.2.1.other W (Or.inl q), F.2.2.2.other W (Or.inl q)⟩
theorem AL.kc {Z : State} {h h' : Heap} {a : Addr} {v0 : Value} {v1 : Int32} {v2 : Int32} {LL : List (String ⊕ FieldType)} (F : AL Z h a v0 v1 v2) (K : Kc Z h h' LL) (q : NoS Z (.inl "java/util/ArrayList") LL) : AL Z h' a v0 v1 v2 := ⟨exaKc F.1 K, fldKc F.2.1 F.1 K q, fldKc F.2.2.1 F.1 K q, fldKc F.2.2.2 F.1 K q⟩
theorem AL.set_elementData {Z : State} {h h' : Heap} {a : Addr} {v0 : Value} {v1 : Int32} {v2 : Int32} {w : Value} {a0 : Array Value} (hw : ∀ d ∈ tables_1, d.before a0 Z = true) (F : AL Z h a v0 v1 v2) (W : Wr h h' a (Jvm.RoadKit.slotOf Z "java/util/ArrayList" "elementData" "[Ljava/lang/Object;") w) : AL Z h' a w v1 v2 := ⟨F.1.wr W, F.2.1.same W, F.2.2.1.other W (Or.inr (slot_ne (a0 := a0) (Or.inl (hw _ (List.mem_of_getElem? (i := 192) rfl))) (Or.inl (hw _ (List.mem_of_getElem? (i := 26) rfl))) (by decide) (t := .int) (t' := (.array (.object "java/lang/Object"))) (by decide) (by decide))), F.2.2.2.other W (Or.inr (slot_ne (a0 := a0) (Or.inl (hw _ (List.mem_of_getElem? (i := 23) rfl))) (Or.inl (hw _ (List.mem_of_getElem? (i := 26) rfl))) (by decide) (t := .int) (t' := (.array (.object "java/lang/Object"))) (by decide) (by decide)))⟩
theorem AL.set_size {Z : State} {h h' : Heap} {a : Addr} {v0 : Value} {v1 : Int32} {v2 : Int32} {w : Int32} {a0 : Array Value} (hw : ∀ d ∈ tables_1, d.before a0 Z = true) (F : AL Z h a v0 v1 v2) (W : Wr h h' a (Jvm.RoadKit.slotOf Z "java/util/ArrayList" "size" "I") (.int w)) : AL Z h' a v0 w v2 := ⟨F.1.wr W, F.2.1.other W (Or.inr (slot_ne (a0 := a0) (Or.inl (hw _ (List.mem_of_getElem? (i := 26) rfl))) (Or.inl (hw _ (List.mem_of_getElem? (i := 192) rfl))) (by decide) (t := (.array (.object "java/lang/Object"))) (t' := .int) (by decide) (by decide))), F.2.2.1.same W, F.2.2.2.other W (Or.inr (slot_ne (a0 := a0) (Or.inl (hw _ (List.mem_of_getElem? (i := 23) rfl))) (Or.inl (hw _ (List.mem_of_getElem? (i := 192) rfl))) (by decide) (t := .int) (t' := .int) (by decide) (by decide)))⟩
theorem AL.set_modCount {Z : State} {h h' : Heap} {a : Addr} {v0 : Value} {v1 : Int32} {v2 : Int32} {w : Int32} {a0 : Array Value} (hw : ∀ d ∈ tables_1, d.before a0 Z = true) (F : AL Z h a v0 v1 v2) (W : Wr h h' a (Jvm.RoadKit.slotOf Z "java/util/AbstractList" "modCount" "I") (.int w)) : AL Z h' a v0 v1 w := ⟨F.1.wr W, F.2.1.other W (Or.inr (slot_ne (a0 := a0) (Or.inl (hw _ (List.mem_of_getElem? (i := 26) rfl))) (Or.inl (hw _ (List.mem_of_getElem? (i := 23) rfl))) (by decide) (t := (.array (.object "java/lang/Object"))) (t' := .int) (by decide) (by decide))), F.2.2.1.other W (Or.inr (slot_ne (a0 := a0) (Or.inl (hw _ (List.mem_of_getElem? (i := 192) rfl))) (Or.inl (hw _ (List.mem_of_getElem? (i := 23) rfl))) (by decide) (t := .int) (t' := .int) (by decide) (by decide))), F.2.2.2.same W⟩
def HS (Z : State) (h : Heap) (a : Addr) (v0 : Value) : Prop := Exa Z h a "java/util/HashSet" ∧ Fld Z h a "java/util/HashSet" "map" "Ljava/util/HashMap;" v0
theorem HS.ext {Z : State} {h h' : Heap} {a : Addr} {v0 : Value} (F : HS Z h a v0) (E : Ext h h') : HS Z h' a v0 := ⟨F.1.ext E, F.2.ext E⟩
theorem HS.keep {Z : State} {h h' : Heap} {a : Addr} {v0 : Value} {ws : List Addr} (F : HS Z h a v0) (K : Keep h h' ws) (q : a ∉ ws) : HS Z h' a v0 := ⟨F.1.keep K, F.2.keep K q⟩
theorem HS.lt {Z : State} {h : Heap} {a : Addr} {v0 : Value} (F : HS Z h a v0) : a < h.size := F.1.lt
theorem HS.wrO {Z : State} {h h' : Heap} {a : Addr} {v0 : Value} {b : Addr} {sl : Nat} {w : Value} (F : HS Z h a v0) (W : Wr h h' b sl w) (q : a ≠ b) : HS Z h' a v0 := ⟨F.1.wr W, F.2.other W (Or.inl q)⟩
theorem HS.kc {Z : State} {h h' : Heap} {a : Addr} {v0 : Value} {LL : List (String ⊕ FieldType)} (F : HS Z h a v0) (K : Kc Z h h' LL) (q : NoS Z (.inl "java/util/HashSet") LL) : HS Z h' a v0 := ⟨exaKc F.1 K, fldKc F.2 F.1 K q⟩
theorem HS.set_map {Z : State} {h h' : Heap} {a : Addr} {v0 : Value} {w : Value} {a0 : Array Value} (hw : ∀ d ∈ tables_1, d.before a0 Z = true) (F : HS Z h a v0) (W : Wr h h' a (Jvm.RoadKit.slotOf Z "java/util/HashSet" "map" "Ljava/util/HashMap;") w) : HS Z h' a w := ⟨F.1.wr W, F.2.same W⟩
def HM (Z : State) (h : Heap) (a : Addr) (v0 : Value) (v1 : Int32) (v2 : Int32) (v3 : Int32) (v4 : Value) : Prop := Exa Z h a "java/util/HashMap" ∧ Fld Z h a "java/util/HashMap" "table" "[Ljava/util/HashMap$Node;" v0 ∧ Fld Z h a "java/util/HashMap" "size" "I" (.int v1) ∧ Fld Z h a "java/util/HashMap" "threshold" "I" (.int v2) ∧ Fld Z h a "java/util/HashMap" "modCount" "I" (.int v3) ∧ Fld Z h a "java/util/HashMap" "loadFactor" "F" v4
theorem HM.ext {Z : State} {h h' : Heap} {a : Addr} {v0 : Value} {v1 : Int32} {v2 : Int32} {v3 : Int32} {v4 : Value} (F : HM Z h a v0 v1 v2 v3 v4) (E : Ext h h') : HM Z h' a v0 v1 v2 v3 v4 := ⟨F.1.ext E, F.2.1.ext E, F.2.2.1.ext E, F.2.2.2.1.ext E, F.2.2.2.2.1.ext E, F.2.2.2.2.2.ext E⟩
theorem HM.keep {Z : State} {h h' : Heap} {a : Addr} {v0 : Value} {v1 : Int32} {v2 : Int32} {v3 : Int32} {v4 : Value} {ws : List Addr} (F : HM Z h a v0 v1 v2 v3 v4) (K : Keep h h' ws) (q : a ∉ ws) : HM Z h' a v0 v1 v2 v3 v4 := ⟨F.1.keep K, F.2.1.keep K q, F.2.2.1.keep K q, F.2.2.2.1.keep K q, F.2.2.2.2.1.keep K q, F.2.2.2.2.2.keep K q⟩
theorem HM.lt {Z : State} {h : Heap} {a : Addr} {v0 : Value} {v1 : Int32} {v2 : Int32} {v3 : Int32} {v4 : Value} (F : HM Z h a v0 v1 v2 v3 v4) : a < h.size := F.1.lt
theorem HM.wrO {Z : State} {h h' : Heap} {a : Addr} {v0 : Value} {v1 : Int32} {v2 : Int32} {v3 : Int32} {v4 : Value} {b : Addr} {sl : Nat} {w : Value} (F : HM Z h a v0 v1 v2 v3 v4) (W : Wr h h' b sl w) (q : a ≠ b) : HM Z h' a v0 v1 v2 v3 v4 := ⟨F.1.wr W, F.2.1.other W (Or.inl q), F.2.2.1.other W (Or.inl q), F.2.2.2.1.other W (Or.inl q), F.2.2.2.2.1.other W (Or.inl q), F.2.2.2.2.2.other W (Or.inl q)⟩
theorem HM.kc {Z : State} {h h' : Heap} {a : Addr} {v0 : Value} {v1 : Int32} {v2 : Int32} {v3 : Int32} {v4 : Value} {LL : List (String ⊕ FieldType)} (F : HM Z h a v0 v1 v2 v3 v4) (K : Kc Z h h' LL) (q : NoS Z (.inl "java/util/HashMap") LL) : HM Z h' a v0 v1 v2 v3 v4 := ⟨exaKc F.1 K, fldKc F.2.1 F.1 K q, fldKc F.2.2.1 F.1 K q, fldKc F.2.2.2.1 F.1 K q, fldKc F.2.2.2.2.1 F.1 K q, fldKc F.2.2.2.2.2 F.1 K q⟩
theorem HM.set_table {Z : State} {h h' : Heap} {a : Addr} {v0 : Value} {v1 : Int32} {v2 : Int32} {v3 : Int32} {v4 : Value} {w : Value} {a0 : Array Value} (hw : ∀ d ∈ tables_1, d.before a0 Z = true) (F : HM Z h a v0 v1 v2 v3 v4) (W : Wr h h' a (Jvm.RoadKit.slotOf Z "java/util/HashMap" "table" "[Ljava/util/HashMap$Node;") w) : HM Z h' a w v1 v2 v3 v4 := ⟨F.1.wr W, F.2.1.same W, F.2.2.1.other W (Or.inr (slot_ne (a0 := a0) (Or.inl (hw _ (List.mem_of_getElem? (i := 155) rfl))) (Or.inl (hw _ (List.mem_of_getElem? (i := 122) rfl))) (by decide) (t := .int) (t' := (.array (.object "java/util/HashMap$Node"))) (by decide) (by decide))), F.2.2.2.1.other W (Or.inr (slot_ne (a0 := a0) (Or.inl (hw _ (List.mem_of_getElem? (i := 129) rfl))) (Or.inl (hw _ (List.mem_of_getElem? (i := 122) rfl))) (by decide) (t := .int) (t' := (.array (.object "java/util/HashMap$Node"))) (by decide) (by decide))), F.2.2.2.2.1.other W (Or.inr (slot_ne (a0 := a0) (Or.inl (hw _ (List.mem_of_getElem? (i := 153) rfl))) (Or.inl (hw _ (List.mem_of_getElem? (i := 122) rfl))) (by decide) (t := .int) (t' := (.array (.object "java/util/HashMap$Node"))) (by decide) (by decide))), F.2.2.2.2.2.other W (Or.inr (slot_ne (a0 := a0) (Or.inr (hw _ (List.mem_of_getElem? (i := 57) rfl))) (Or.inl (hw _ (List.mem_of_getElem? (i := 122) rfl))) (by decide) (t := .float) (t' := (.array (.object "java/util/HashMap$Node"))) (by decide) (by decide)))⟩
theorem HM.set_size {Z : State} {h h' : Heap} {a : Addr} {v0 : Value} {v1 : Int32} {v2 : Int32} {v3 : Int32} {v4 : Value} {w : Int32} {a0 : Array Value} (hw : ∀ d ∈ tables_1, d.before a0 Z = true) (F : HM Z h a v0 v1 v2 v3 v4) (W : Wr h h' a (Jvm.RoadKit.slotOf Z "java/util/HashMap" "size" "I") (.int w)) : HM Z h' a v0 w v2 v3 v4 := ⟨F.1.wr W, F.2.1.other W (Or.inr (slot_ne (a0 := a0) (Or.inl (hw _ (List.mem_of_getElem? (i := 122) rfl))) (Or.inl (hw _ (List.mem_of_getElem? (i := 155) rfl))) (by decide) (t := (.array (.object "java/util/HashMap$Node"))) (t' := .int) (by decide) (by decide))), F.2.2.1.same W, F.2.2.2.1.other W (Or.inr (slot_ne (a0 := a0) (Or.inl (hw _ (List.mem_of_getElem? (i := 129) rfl))) (Or.inl (hw _ (List.mem_of_getElem? (i := 155) rfl))) (by decide) (t := .int) (t' := .int) (by decide) (by decide))), F.2.2.2.2.1.other W (Or.inr (slot_ne (a0 := a0) (Or.inl (hw _ (List.mem_of_getElem? (i := 153) rfl))) (Or.inl (hw _ (List.mem_of_getElem? (i := 155) rfl))) (by decide) (t := .int) (t' := .int) (by decide) (by decide))), F.2.2.2.2.2.other W (Or.inr (slot_ne (a0 := a0) (Or.inr (hw _ (List.mem_of_getElem? (i := 57) rfl))) (Or.inl (hw _ (List.mem_of_getElem? (i := 155) rfl))) (by decide) (t := .float) (t' := .int) (by decide) (by decide)))⟩
theorem HM.set_threshold {Z : State} {h h' : Heap} {a : Addr} {v0 : Value} {v1 : Int32} {v2 : Int32} {v3 : Int32} {v4 : Value} {w : Int32} {a0 : Array Value} (hw : ∀ d ∈ tables_1, d.before a0 Z = true) (F : HM Z h a v0 v1 v2 v3 v4) (W : Wr h h' a (Jvm.RoadKit.slotOf Z "java/util/HashMap" "threshold" "I") (.int w)) : HM Z h' a v0 v1 w v3 v4 := ⟨F.1.wr W, F.2.1.other W (Or.inr (slot_ne (a0 := a0) (Or.inl (hw _ (List.mem_of_getElem? (i := 122) rfl))) (Or.inl (hw _ (List.mem_of_getElem? (i := 129) rfl))) (by decide) (t := (.array (.object "java/util/HashMap$Node"))) (t' := .int) (by decide) (by decide))), F.2.2.1.other W (Or.inr (slot_ne (a0 := a0) (Or.inl (hw _ (List.mem_of_getElem? (i := 155) rfl))) (Or.inl (hw _ (List.mem_of_getElem? (i := 129) rfl))) (by decide) (t := .int) (t' := .int) (by decide) (by decide))), F.2.2.2.1.same W, F.2.2.2.2.1.other W (Or.inr (slot_ne (a0 := a0) (Or.inl (hw _ (List.mem_of_getElem? (i := 153) rfl))) (Or.inl (hw _ (List.mem_of_getElem? (i := 129) rfl))) (by decide) (t := .int) (t' := .int) (by decide) (by decide))), F.2.2.2.2.2.other W (Or.inr (slot_ne (a0 := a0) (Or.inr (hw _ (List.mem_of_getElem? (i := 57) rfl))) (Or.inl (hw _ (List.mem_of_getElem? (i := 129) rfl))) (by decide) (t := .float) (t' := .int) (by decide) (by decide)))⟩
theorem HM.set_modCount {Z : State} {h h' : Heap} {a : Addr} {v0 : Value} {v1 : Int32} {v2 : Int32} {v3 : Int32} {v4 : Value} {w : Int32} {a0 : Array Value} (hw : ∀ d ∈ tables_1, d.before a0 Z = true) (F : HM Z h a v0 v1 v2 v3 v4) (W : Wr h h' a (Jvm.RoadKit.slotOf Z "java/util/HashMap" "modCount" "I") (.int w)) : HM Z h' a v0 v1 v2 w v4 := ⟨F.1.wr W, F.2.1.other W (Or.inr (slot_ne (a0 := a0) (Or.inl (hw _ (List.mem_of_getElem? (i := 122) rfl))) (Or.inl (hw _ (List.mem_of_getElem? (i := 153) rfl))) (by decide) (t := (.array (.object "java/util/HashMap$Node"))) (t' := .int) (by decide) (by decide))), F.2.2.1.other W (Or.inr (slot_ne (a0 := a0) (Or.inl (hw _ (List.mem_of_getElem? (i := 155) rfl))) (Or.inl (hw _ (List.mem_of_getElem? (i := 153) rfl))) (by decide) (t := .int) (t' := .int) (by decide) (by decide))), F.2.2.2.1.other W (Or.inr (slot_ne (a0 := a0) (Or.inl (hw _ (List.mem_of_getElem? (i := 129) rfl))) (Or.inl (hw _ (List.mem_of_getElem? (i := 153) rfl))) (by decide) (t := .int) (t' := .int) (by decide) (by decide))), F.2.2.2.2.1.same W, F.2.2.2.2.2.other W (Or.inr (slot_ne (a0 := a0) (Or.inr (hw _ (List.mem_of_getElem? (i := 57) rfl))) (Or.inl (hw _ (List.mem_of_getElem? (i := 153) rfl))) (by decide) (t := .float) (t' := .int) (by decide) (by decide)))⟩
theorem HM.set_loadFactor {Z : State} {h h' : Heap} {a : Addr} {v0 : Value} {v1 : Int32} {v2 : Int32} {v3 : Int32} {v4 : Value} {w : Value} {a0 : Array Value} (hw : ∀ d ∈ tables_1, d.before a0 Z = true) (F : HM Z h a v0 v1 v2 v3 v4) (W : Wr h h' a (Jvm.RoadKit.slotOf Z "java/util/HashMap" "loadFactor" "F") w) : HM Z h' a v0 v1 v2 v3 w := ⟨F.1.wr W, F.2.1.other W (Or.inr (slot_ne (a0 := a0) (Or.inl (hw _ (List.mem_of_getElem? (i := 122) rfl))) (Or.inr (hw _ (List.mem_of_getElem? (i := 57) rfl))) (by decide) (t := (.array (.object "java/util/HashMap$Node"))) (t' := .float) (by decide) (by decide))), F.2.2.1.other W (Or.inr (slot_ne (a0 := a0) (Or.inl (hw _ (List.mem_of_getElem? (i := 155) rfl))) (Or.inr (hw _ (List.mem_of_getElem? (i := 57) rfl))) (by decide) (t := .int) (t' := .float) (by decide) (by decide))), F.2.2.2.1.other W (Or.inr (slot_ne (a0 := a0) (Or.inl (hw _ (List.mem_of_getElem? (i := 129) rfl))) (Or.inr (hw _ (List.mem_of_getElem? (i := 57) rfl))) (by decide) (t := .int) (t' := .float) (by decide) (by decide))), F.2.2.2.2.1.other W (Or.inr (slot_ne (a0 := a0) (Or.inl (hw _ (List.mem_of_getElem? (i := 153) rfl))) (Or.inr (hw _ (List.mem_of_getElem? (i := 57) rfl))) (by decide) (t := .int) (t' := .float) (by decide) (by decide))), F.2.2.2.2.2.same W⟩
def ND (Z : State) (h : Heap) (a : Addr) (v0 : Int32) (v1 : Value) (v2 : Value) (v3 : Value) : Prop := Exa Z h a "java/util/HashMap$Node" ∧ Fld Z h a "java/util/HashMap$Node" "hash" "I" (.int v0) ∧ Fld Z h a "java/util/HashMap$Node" "key" "Ljava/lang/Object;" v1 ∧ Fld Z h a "java/util/HashMap$Node" "value" "Ljava/lang/Object;" v2 ∧ Fld Z h a "java/util/HashMap$Node" "next" "Ljava/util/HashMap$Node;" v3
theorem ND.ext {Z : State} {h h' : Heap} {a : Addr} {v0 : Int32} {v1 : Value} {v2 : Value} {v3 : Value} (F : ND Z h a v0 v1 v2 v3) (E : Ext h h') : ND Z h' a v0 v1 v2 v3 := ⟨F.1.ext E, F.2.1.ext E, F.2.2.1.ext E, F.2.2.2.1.ext E, F.2.2.2.2.ext E⟩
theorem ND.keep {Z : State} {h h' : Heap} {a : Addr} {v0 : Int32} {v1 : Value} {v2 : Value} {v3 : Value} {ws : List Addr} (F : ND Z h a v0 v1 v2 v3) (K : Keep h h' ws) (q : a ∉ ws) : ND Z h' a v0 v1 v2 v3 := ⟨F.1.keep K, F.2.1.keep K q, F.2.2.1.keep K q, F.2.2.2.1.keep K q, F.2.2.2.2.keep K q⟩
theorem ND.lt {Z : State} {h : Heap} {a : Addr} {v0 : Int32} {v1 : Value} {v2 : Value} {v3 : Value} (F : ND Z h a v0 v1 v2 v3) : a < h.size := F.1.lt
theorem ND.wrO {Z : State} {h h' : Heap} {a : Addr} {v0 : Int32} {v1 : Value} {v2 : Value} {v3 : Value} {b : Addr} {sl : Nat} {w : Value} (F : ND Z h a v0 v1 v2 v3) (W : Wr h h' b sl w) (q : a ≠ b) : ND Z h' a v0 v1 v2 v3 := ⟨F.1.wr W, F.2.1.other W (Or.inl q), F.2.2.1.other W (Or.inl q), F.2.2.2.1.other W (Or.inl q), F.2.2.2.2.other W (Or.inl q)⟩
theorem ND.kc {Z : State} {h h' : Heap} {a : Addr} {v0 : Int32} {v1 : Value} {v2 : Value} {v3 : Value} {LL : List (String ⊕ FieldType)} (F : ND Z h a v0 v1 v2 v3) (K : Kc Z h h' LL) (q : NoS Z (.inl "java/util/HashMap$Node") LL) : ND Z h' a v0 v1 v2 v3 := ⟨exaKc F.1 K, fldKc F.2.1 F.1 K q, fldKc F.2.2.1 F.1 K q, fldKc F.2.2.2.1 F.1 K q, fldKc F.2.2.2.2 F.1 K q⟩
theorem ND.set_hash {Z : State} {h h' : Heap} {a : Addr} {v0 : Int32} {v1 : Value} {v2 : Value} {v3 : Value} {w : Int32} {a0 : Array Value} (hw : ∀ d ∈ tables_1, d.before a0 Z = true) (F : ND Z h a v0 v1 v2 v3) (W : Wr h h' a (Jvm.RoadKit.slotOf Z "java/util/HashMap$Node" "hash" "I") (.int w)) : ND Z h' a w v1 v2 v3 := ⟨F.1.wr W, F.2.1.same W, F.2.2.1.other W (Or.inr (slot_ne (a0 := a0) (Or.inr (hw _ (List.mem_of_getElem? (i := 147) rfl))) (Or.inr (hw _ (List.mem_of_getElem? (i := 145) rfl))) (by decide) (t := (.object "java/lang/Object")) (t' := .int) (by decide) (by decide))), F.2.2.2.1.other W (Or.inr (slot_ne (a0 := a0) (Or.inl (hw _ (List.mem_of_getElem? (i := 149) rfl))) (Or.inr (hw _ (List.mem_of_getElem? (i := 145) rfl))) (by decide) (t := (.object "java/lang/Object")) (t' := .int) (by decide) (by decide))), F.2.2.2.2.other W (Or.inr (slot_ne (a0 := a0) (Or.inl (hw _ (List.mem_of_getElem? (i := 151) rfl))) (Or.inr (hw _ (List.mem_of_getElem? (i := 145) rfl))) (by decide) (t := (.object "java/util/HashMap$Node")) (t' := .int) (by decide) (by decide)))⟩
theorem ND.set_key {Z : State} {h h' : Heap} {a : Addr} {v0 : Int32} {v1 : Value} {v2 : Value} {v3 : Value} {w : Value} {a0 : Array Value} (hw : ∀ d ∈ tables_1, d.before a0 Z = true) (F : ND Z h a v0 v1 v2 v3) (W : Wr h h' a (Jvm.RoadKit.slotOf Z "java/util/HashMap$Node" "key" "Ljava/lang/Object;") w) : ND Z h' a v0 w v2 v3 := ⟨F.1.wr W, F.2.1.other W (Or.inr (slot_ne (a0 := a0) (Or.inr (hw _ (List.mem_of_getElem? (i := 145) rfl))) (Or.inr (hw _ (List.mem_of_getElem? (i := 147) rfl))) (by decide) (t := .int) (t' := (.object "java/lang/Object")) (by decide) (by decide))), F.2.2.1.same W, F.2.2.2.1.other W (Or.inr (slot_ne (a0 := a0) (Or.inl (hw _ (List.mem_of_getElem? (i := 149) rfl))) (Or.inr (hw _ (List.mem_of_getElem? (i := 147) rfl))) (by decide) (t := (.object "java/lang/Object")) (t' := (.object "java/lang/Object")) (by decide) (by decide))), F.2.2.2.2.other W (Or.inr (slot_ne (a0 := a0) (Or.inl (hw _ (List.mem_of_getElem? (i := 151) rfl))) (Or.inr (hw _ (List.mem_of_getElem? (i := 147) rfl))) (by decide) (t := (.object "java/util/HashMap$Node")) (t' := (.object "java/lang/Object")) (by decide) (by decide)))⟩
theorem ND.set_value {Z : State} {h h' : Heap} {a : Addr} {v0 : Int32} {v1 : Value} {v2 : Value} {v3 : Value} {w : Value} {a0 : Array Value} (hw : ∀ d ∈ tables_1, d.before a0 Z = true) (F : ND Z h a v0 v1 v2 v3) (W : Wr h h' a (Jvm.RoadKit.slotOf Z "java/util/HashMap$Node" "value" "Ljava/lang/Object;") w) : ND Z h' a v0 v1 w v3 := ⟨F.1.wr W, F.2.1.other W (Or.inr (slot_ne (a0 := a0) (Or.inr (hw _ (List.mem_of_getElem? (i := 145) rfl))) (Or.inl (hw _ (List.mem_of_getElem? (i := 149) rfl))) (by decide) (t := .int) (t' := (.object "java/lang/Object")) (by decide) (by decide))), F.2.2.1.other W (Or.inr (slot_ne (a0 := a0) (Or.inr (hw _ (List.mem_of_getElem? (i := 147) rfl))) (Or.inl (hw _ (List.mem_of_getElem? (i := 149) rfl))) (by decide) (t := (.object "java/lang/Object")) (t' := (.object "java/lang/Object")) (by decide) (by decide))), F.2.2.2.1.same W, F.2.2.2.2.other W (Or.inr (slot_ne (a0 := a0) (Or.inl (hw _ (List.mem_of_getElem? (i := 151) rfl))) (Or.inl (hw _ (List.mem_of_getElem? (i := 149) rfl))) (by decide) (t := (.object "java/util/HashMap$Node")) (t' := (.object "java/lang/Object")) (by decide) (by decide)))⟩
theorem ND.set_next {Z : State} {h h' : Heap} {a : Addr} {v0 : Int32} {v1 : Value} {v2 : Value} {v3 : Value} {w : Value} {a0 : Array Value} (hw : ∀ d ∈ tables_1, d.before a0 Z = true) (F : ND Z h a v0 v1 v2 v3) (W : Wr h h' a (Jvm.RoadKit.slotOf Z "java/util/HashMap$Node" "next" "Ljava/util/HashMap$Node;") w) : ND Z h' a v0 v1 v2 w := ⟨F.1.wr W, F.2.1.other W (Or.inr (slot_ne (a0 := a0) (Or.inr (hw _ (List.mem_of_getElem? (i := 145) rfl))) (Or.inl (hw _ (List.mem_of_getElem? (i := 151) rfl))) (by decide) (t := .int) (t' := (.object "java/util/HashMap$Node")) (by decide) (by decide))), F.2.2.1.other W (Or.inr (slot_ne (a0 := a0) (Or.inr (hw _ (List.mem_of_getElem? (i := 147) rfl))) (Or.inl (hw _ (List.mem_of_getElem? (i := 151) rfl))) (by decide) (t := (.object "java/lang/Object")) (t' := (.object "java/util/HashMap$Node")) (by decide) (by decide))), F.2.2.2.1.other W (Or.inr (slot_ne (a0 := a0) (Or.inl (hw _ (List.mem_of_getElem? (i := 149) rfl))) (Or.inl (hw _ (List.mem_of_getElem? (i := 151) rfl))) (by decide) (t := (.object "java/lang/Object")) (t' := (.object "java/util/HashMap$Node")) (by decide) (by decide))), F.2.2.2.2.same W⟩
def JR (Z : State) (h : Heap) (a : Addr) (v0 : Value) (v1 : Value) (v2 : Int32) : Prop := Exa Z h a "com/example/avocet/avocet/eval/JudgedRanking" ∧ Fld Z h a "com/example/avocet/avocet/eval/JudgedRanking" "documents" "Ljava/util/List;" v0 ∧ Fld Z h a "com/example/avocet/avocet/eval/JudgedRanking" "relevantFound" "[I" v1 ∧ Fld Z h a "com/example/avocet/avocet/eval/JudgedRanking" "relevantCount" "I" (.int v2)
theorem JR.ext {Z : State} {h h' : Heap} {a : Addr} {v0 : Value} {v1 : Value} {v2 : Int32} (F : JR Z h a v0 v1 v2) (E : Ext h h') : JR Z h' a v0 v1 v2 := ⟨F.1.ext E, F.2.1.ext E, F.2.2.1.ext E, F.2.2.2.ext E⟩
theorem JR.keep {Z : State} {h h' : Heap} {a : Addr} {v0 : Value} {v1 : Value} {v2 : Int32} {ws : List Addr} (F : JR Z h a v0 v1 v2) (K : Keep h h' ws) (q : a ∉ ws) : JR Z h' a v0 v1 v2 := ⟨F.1.keep K, F.2.1.keep K q, F.2.2.1.keep K q, F.2.2.2.keep K q⟩
theorem JR.lt {Z : State} {h : Heap} {a : Addr} {v0 : Value} {v1 : Value} {v2 : Int32} (F : JR Z h a v0 v1 v2) : a < h.size := F.1.lt
theorem JR.wrO {Z : State} {h h' : Heap} {a : Addr} {v0 : Value} {v1 : Value} {v2 : Int32} {b : Addr} {sl : Nat} {w : Value} (F : JR Z h a v0 v1 v2) (W : Wr h h' b sl w) (q : a ≠ b) : JR Z h' a v0 v1 v2 := ⟨F.1.wr W, F.2.1.other W (Or.inl q), F.2.2.1.other W (Or.inl q), F.2.2.2.other W (Or.inl q)⟩
theorem JR.kc {Z : State} {h h' : Heap} {a : Addr} {v0 : Value} {v1 : Value} {v2 : Int32} {LL : List (String ⊕ FieldType)} (F : JR Z h a v0 v1 v2) (K : Kc Z h h' LL) (q : NoS Z (.inl "com/example/avocet/avocet/eval/JudgedRanking") LL) : JR Z h' a v0 v1 v2 := ⟨exaKc F.1 K, fldKc F.2.1 F.1 K q, fldKc F.2.2.1 F.1 K q, fldKc F.2.2.2 F.1 K q⟩
theorem JR.set_documents {Z : State} {h h' : Heap} {a : Addr} {v0 : Value} {v1 : Value} {v2 : Int32} {w : Value} {a0 : Array Value} (hw : ∀ d ∈ tables_1, d.before a0 Z = true) (F : JR Z h a v0 v1 v2) (W : Wr h h' a (Jvm.RoadKit.slotOf Z "com/example/avocet/avocet/eval/JudgedRanking" "documents" "Ljava/util/List;") w) : JR Z h' a w v1 v2 := ⟨F.1.wr W, F.2.1.same W, F.2.2.1.other W (Or.inr (slot_ne (a0 := a0) (Or.inr (hw _ (List.mem_of_getElem? (i := 210) rfl))) (Or.inr (hw _ (List.mem_of_getElem? (i := 198) rfl))) (by decide) (t := (.array .int)) (t' := (.object "java/util/List")) (by decide) (by decide))), F.2.2.2.other W (Or.inr (slot_ne (a0 := a0) (Or.inr (hw _ (List.mem_of_getElem? (i := 226) rfl))) (Or.inr (hw _ (List.mem_of_getElem? (i := 198) rfl))) (by decide) (t := .int) (t' := (.object "java/util/List")) (by decide) (by decide)))⟩
theorem JR.set_relevantFound {Z : State} {h h' : Heap} {a : Addr} {v0 : Value} {v1 : Value} {v2 : Int32} {w : Value} {a0 : Array Value} (hw : ∀ d ∈ tables_1, d.before a0 Z = true) (F : JR Z h a v0 v1 v2) (W : Wr h h' a (Jvm.RoadKit.slotOf Z "com/example/avocet/avocet/eval/JudgedRanking" "relevantFound" "[I") w) : JR Z h' a v0 w v2 := ⟨F.1.wr W, F.2.1.other W (Or.inr (slot_ne (a0 := a0) (Or.inr (hw _ (List.mem_of_getElem? (i := 198) rfl))) (Or.inr (hw _ (List.mem_of_getElem? (i := 210) rfl))) (by decide) (t := (.object "java/util/List")) (t' := (.array .int)) (by decide) (by decide))), F.2.2.1.same W, F.2.2.2.other W (Or.inr (slot_ne (a0 := a0) (Or.inr (hw _ (List.mem_of_getElem? (i := 226) rfl))) (Or.inr (hw _ (List.mem_of_getElem? (i := 210) rfl))) (by decide) (t := .int) (t' := (.array .int)) (by decide) (by decide)))⟩
theorem JR.set_relevantCount {Z : State} {h h' : Heap} {a : Addr} {v0 : Value} {v1 : Value} {v2 : Int32} {w : Int32} {a0 : Array Value} (hw : ∀ d ∈ tables_1, d.before a0 Z = true) (F : JR Z h a v0 v1 v2) (W : Wr h h' a (Jvm.RoadKit.slotOf Z "com/example/avocet/avocet/eval/JudgedRanking" "relevantCount" "I") (.int w)) : JR Z h' a v0 v1 w := ⟨F.1.wr W, F.2.1.other W (Or.inr (slot_ne (a0 := a0) (Or.inr (hw _ (List.mem_of_getElem? (i := 198) rfl))) (Or.inr (hw _ (List.mem_of_getElem? (i := 226) rfl))) (by decide) (t := (.object "java/util/List")) (t' := .int) (by decide) (by decide))), F.2.2.1.other W (Or.inr (slot_ne (a0 := a0) (Or.inr (hw _ (List.mem_of_getElem? (i := 210) rfl))) (Or.inr (hw _ (List.mem_of_getElem? (i := 226) rfl))) (by decide) (t := (.array .int)) (t' := .int) (by decide) (by decide))), F.2.2.2.same W⟩
def L12 (Z : State) (h : Heap) (a : Addr) (v0 : Value) (v1 : Value) : Prop := Exa Z h a "java/util/ImmutableCollections$List12" ∧ Fld Z h a "java/util/ImmutableCollections$List12" "e0" "Ljava/lang/Object;" v0 ∧ Fld Z h a "java/util/ImmutableCollections$List12" "e1" "Ljava/lang/Object;" v1
theorem L12.ext {Z : State} {h h' : Heap} {a : Addr} {v0 : Value} {v1 : Value} (F : L12 Z h a v0 v1) (E : Ext h h') : L12 Z h' a v0 v1 := ⟨F.1.ext E, F.2.1.ext E, F.2.2.ext E⟩
theorem L12.keep {Z : State} {h h' : Heap} {a : Addr} {v0 : Value} {v1 : Value} {ws : List Addr} (F : L12 Z h a v0 v1) (K : Keep h h' ws) (q : a ∉ ws) : L12 Z h' a v0 v1 := ⟨F.1.keep K, F.2.1.keep K q, F.2.2.keep K q⟩
theorem L12.lt {Z : State} {h : Heap} {a : Addr} {v0 : Value} {v1 : Value} (F : L12 Z h a v0 v1) : a < h.size := F.1.lt
theorem L12.wrO {Z : State} {h h' : Heap} {a : Addr} {v0 : Value} {v1 : Value} {b : Addr} {sl : Nat} {w : Value} (F : L12 Z h a v0 v1) (W : Wr h h' b sl w) (q : a ≠ b) : L12 Z h' a v0 v1 := ⟨F.1.wr W, F.2.1.other W (Or.inl q), F.2.2.other W (Or.inl q)⟩
theorem L12.kc {Z : State} {h h' : Heap} {a : Addr} {v0 : Value} {v1 : Value} {LL : List (String ⊕ FieldType)} (F : L12 Z h a v0 v1) (K : Kc Z h h' LL) (q : NoS Z (.inl "java/util/ImmutableCollections$List12") LL) : L12 Z h' a v0 v1 := ⟨exaKc F.1 K, fldKc F.2.1 F.1 K q, fldKc F.2.2 F.1 K q⟩
theorem L12.set_e0 {Z : State} {h h' : Heap} {a : Addr} {v0 : Value} {v1 : Value} {w : Value} {a0 : Array Value} (hw : ∀ d ∈ tables_1, d.before a0 Z = true) (F : L12 Z h a v0 v1) (W : Wr h h' a (Jvm.RoadKit.slotOf Z "java/util/ImmutableCollections$List12" "e0" "Ljava/lang/Object;") w) : L12 Z h' a w v1 := ⟨F.1.wr W, F.2.1.same W, F.2.2.other W (Or.inr (slot_ne (a0 := a0) (Or.inr (hw _ (List.mem_of_getElem? (i := 324) rfl))) (Or.inr (hw _ (List.mem_of_getElem? (i := 322) rfl))) (by decide) (t := (.object "java/lang/Object")) (t' := (.object "java/lang/Object")) (by decide) (by decide)))⟩
theorem L12.set_e1 {Z : State} {h h' : Heap} {a : Addr} {v0 : Value} {v1 : Value} {w : Value} {a0 : Array Value} (hw : ∀ d ∈ tables_1, d.before a0 Z = true) (F : L12 Z h a v0 v1) (W : Wr h h' a (Jvm.RoadKit.slotOf Z "java/util/ImmutableCollections$List12" "e1" "Ljava/lang/Object;") w) : L12 Z h' a v0 w := ⟨F.1.wr W, F.2.1.other W (Or.inr (slot_ne (a0 := a0) (Or.inr (hw _ (List.mem_of_getElem? (i := 322) rfl))) (Or.inr (hw _ (List.mem_of_getElem? (i := 324) rfl))) (by decide) (t := (.object "java/lang/Object")) (t' := (.object "java/lang/Object")) (by decide) (by decide))), F.2.2.same W⟩
def LN (Z : State) (h : Heap) (a : Addr) (v0 : Value) (v1 : Int32) : Prop := Exa Z h a "java/util/ImmutableCollections$ListN" ∧ Fld Z h a "java/util/ImmutableCollections$ListN" "elements" "[Ljava/lang/Object;" v0 ∧ Fld Z h a "java/util/ImmutableCollections$ListN" "allowNulls" "Z" (.int v1)
theorem LN.ext {Z : State} {h h' : Heap} {a : Addr} {v0 : Value} {v1 : Int32} (F : LN Z h a v0 v1) (E : Ext h h') : LN Z h' a v0 v1 := ⟨F.1.ext E, F.2.1.ext E, F.2.2.ext E⟩
theorem LN.keep {Z : State} {h h' : Heap} {a : Addr} {v0 : Value} {v1 : Int32} {ws : List Addr} (F : LN Z h a v0 v1) (K : Keep h h' ws) (q : a ∉ ws) : LN Z h' a v0 v1 := ⟨F.1.keep K, F.2.1.keep K q, F.2.2.keep K q⟩
theorem LN.lt {Z : State} {h : Heap} {a : Addr} {v0 : Value} {v1 : Int32} (F : LN Z h a v0 v1) : a < h.size := F.1.lt
theorem LN.wrO {Z : State} {h h' : Heap} {a : Addr} {v0 : Value} {v1 : Int32} {b : Addr} {sl : Nat} {w : Value} (F : LN Z h a v0 v1) (W : Wr h h' b sl w) (q : a ≠ b) : LN Z h' a v0 v1 := ⟨F.1.wr W, F.2.1.other W (Or.inl q), F.2.2.other W (Or.inl q)⟩
theorem LN.kc {Z : State} {h h' : Heap} {a : Addr} {v0 : Value} {v1 : Int32} {LL : List (String ⊕ FieldType)} (F : LN Z h a v0 v1) (K : Kc Z h h' LL) (q : NoS Z (.inl "java/util/ImmutableCollections$ListN") LL) : LN Z h' a v0 v1 := ⟨exaKc F.1 K, fldKc F.2.1 F.1 K q, fldKc F.2.2 F.1 K q⟩
theorem LN.set_elements {Z : State} {h h' : Heap} {a : Addr} {v0 : Value} {v1 : Int32} {w : Value} {a0 : Array Value} (hw : ∀ d ∈ tables_1, d.before a0 Z = true) (F : LN Z h a v0 v1) (W : Wr h h' a (Jvm.RoadKit.slotOf Z "java/util/ImmutableCollections$ListN" "elements" "[Ljava/lang/Object;") w) : LN Z h' a w v1 := ⟨F.1.wr W, F.2.1.same W, F.2.2.other W (Or.inr (slot_ne (a0 := a0) (Or.inr (hw _ (List.mem_of_getElem? (i := 388) rfl))) (Or.inr (hw _ (List.mem_of_getElem? (i := 386) rfl))) (by decide) (t := .boolean) (t' := (.array (.object "java/lang/Object"))) (by decide) (by decide)))⟩
theorem LN.set_allowNulls {Z : State} {h h' : Heap} {a : Addr} {v0 : Value} {v1 : Int32} {w : Int32} {a0 : Array Value} (hw : ∀ d ∈ tables_1, d.before a0 Z = true) (F : LN Z h a v0 v1) (W : Wr h h' a (Jvm.RoadKit.slotOf Z "java/util/ImmutableCollections$ListN" "allowNulls" "Z") (.int w)) : LN Z h' a v0 w := ⟨F.1.wr W, F.2.1.other W (Or.inr (slot_ne (a0 := a0) (Or.inr (hw _ (List.mem_of_getElem? (i := 386) rfl))) (Or.inr (hw _ (List.mem_of_getElem? (i := 388) rfl))) (by decide) (t := (.array (.object "java/lang/Object"))) (t' := .boolean) (by decide) (by decide))), F.2.2.same W⟩
theorem own_inj {a b : Int32} (h : a.toInt = b.toInt) : a = b := Int32.toInt_inj.mp h
theorem own_add1 {i : Int32} {k : Nat} (h : i.toInt = (k : Int)) (hk : k < 100000) : (i + 1).toInt = ((k + 1 : Nat) : Int) := by
  have q := c_iadd i 1
  have r := rng32 (i + 1)
  have o : (1 : Int32).toInt = 1 := rfl
  omega
theorem own_sh1 {q : Int32} {i : Nat} (h : q.toInt = (i : Int)) (hi : i < 1000) : (q <<< ((1 : Int32) &&& 31)).toInt = ((2 * i : Nat) : Int) := by
  have a := c_ishl q 1 1 (by decide)
  have b := rng32 (q <<< ((1 : Int32) &&& 31))
  omega
theorem own_sh2 {q : Int32} {i : Nat} (h : q.toInt = (i : Int)) (hi : i < 1000) : (q <<< ((1 : Int32) &&& 31) + (1 : Int32)).toInt = ((2 * i + 1 : Nat) : Int) := own_add1 (own_sh1 h hi) (by omega)
def LOB (x : Int32) : Int32 := nar .byte ((x >>> ((0 : Int32) &&& 31)).toInt8.toInt32)
def HIB (x : Int32) : Int32 := nar .byte ((x >>> ((8 : Int32) &&& 31)).toInt8.toInt32)
def GC (a b : Int32) : Int32 := nar .char ((((a &&& (255 : Int32)) <<< ((0 : Int32) &&& 31)) ||| ((b &&& (255 : Int32)) <<< ((8 : Int32) &&& 31))).toUInt32.toUInt16.toUInt32.toInt32)
theorem own_nb (x : Int32) : (nar .byte x).toInt % 256 = x.toInt % 256 := by
  have q := c_i2b x
  show x.toInt8.toInt32.toInt % 256 = _
  omega
theorem own_lob (x : Int32) : (LOB x &&& (255 : Int32)).toInt = x.toInt % 256 := by
  have q1 := c_mask (LOB x) 255 8 (by decide) (by decide)
  have q2 := own_nb ((x >>> ((0 : Int32) &&& 31)).toInt8.toInt32)
  have q3 := c_i2b (x >>> ((0 : Int32) &&& 31))
  have q4 := c_ishr x 0 0 (by decide)
  rw [q1]
  show (nar .byte ((x >>> ((0 : Int32) &&& 31)).toInt8.toInt32)).toInt % _ = _
  omega
theorem own_hib (x : Int32) (h0 : 0 ≤ x.toInt) (h1 : x.toInt ≤ 65535) : (HIB x &&& (255 : Int32)).toInt = x.toInt / 256 := by
  have q1 := c_mask (HIB x) 255 8 (by decide) (by decide)
  have q2 := own_nb ((x >>> ((8 : Int32) &&& 31)).toInt8.toInt32)
  have q3 := c_i2b (x >>> ((8 : Int32) &&& 31))
  have q4 := c_ishr x 8 8 (by decide)
  rw [q1]
  show (nar .byte ((x >>> ((8 : Int32) &&& 31)).toInt8.toInt32)).toInt % _ = _
  omega
theorem own_gc (x : Int32) (h0 : 0 ≤ x.toInt) (h1 : x.toInt ≤ 65535) : GC (LOB x) (HIB x) = x := by
  have a := own_lob x
  have b := own_hib x h0 h1
  unfold GC
  generalize LOB x &&& (255 : Int32) = u at *
  generalize HIB x &&& (255 : Int32) = v at *
  have s0 := c_ishl u 0 0 (by decide)
  have r0 := rng32 (u <<< ((0 : Int32) &&& 31))
  have s1 := c_ishl v 8 8 (by decide)
  have r1 := rng32 (v <<< ((8 : Int32) &&& 31))
  generalize u <<< ((0 : Int32) &&& 31) = u' at *
  generalize v <<< ((8 : Int32) &&& 31) = v' at *
  have t := c_or' u' v' 8 (by decide) 256 rfl (by omega) (by omega) (by omega)
  have r2 := rng32 (u' ||| v')
  generalize u' ||| v' = w at *
  have c1 := c_i2c w
  have c2 := c_i2c (w.toUInt32.toUInt16.toUInt32.toInt32)
  apply own_inj
  show (w.toUInt32.toUInt16.toUInt32.toInt32).toUInt32.toUInt16.toUInt32.toInt32.toInt = _
  omega
theorem own_oldz {Z : State} {n0 : Nat} {h : Heap} (O : Old Z n0 h) : n0 ≤ h.size := O.1 ▸ O.2.1
def STT (Z : State) (cs : Int32) (dA pr eL eE : Addr) : Prop := ¬ cs = 0 ∧ VA Z Z.heap dA (.object "java/lang/Object") 0 (fun _ => .null) ∧ Sta Z Z.heap "java/lang/String" "COMPACT_STRINGS" "Z" (.int cs) ∧ Sta Z Z.heap "java/lang/StringUTF16" "$assertionsDisabled" "Z" (.int 1) ∧ Sta Z Z.heap "java/lang/StringUTF16" "HI_BYTE_SHIFT" "I" (.int 0) ∧ Sta Z Z.heap "java/lang/StringUTF16" "LO_BYTE_SHIFT" "I" (.int 8) ∧ Sta Z Z.heap "java/util/ArrayList" "DEFAULTCAPACITY_EMPTY_ELEMENTDATA" "[Ljava/lang/Object;" (.ref dA) ∧ Sta Z Z.heap "java/util/HashSet" "PRESENT" "Ljava/lang/Object;" (.ref pr) ∧ Sta Z Z.heap "java/util/ImmutableCollections" "EMPTY_LIST" "Ljava/util/ImmutableCollections$ListN;" (.ref eL) ∧ Sta Z Z.heap "java/util/ImmutableCollections" "EMPTY" "Ljava/lang/Object;" (.ref eE)
def STRK (Z : State) (h : Heap) (a : Addr) (ch : Int32) : Prop := ∃ b cd hs hz n f, SP Z h a (.ref b) cd hs hz ∧ PA Z h b .byte n f ∧ ((cd = 0 ∧ n = 1 ∧ f 0 &&& 255 = ch) ∨ (cd = 1 ∧ n = 2 ∧ GC (f 0) (f 1) = ch)) ∧ ((hs = 0 ∧ hz = 0) ∨ (¬ hs = 0 ∧ hs = ch) ∨ (hs = 0 ∧ ¬ hz = 0 ∧ ch = 0))
theorem STRK.exa {Z : State} {h : Heap} {a : Addr} {ch : Int32} (F : STRK Z h a ch) : Exa Z h a "java/lang/String" := by
  obtain ⟨b, cd, hs, hz, n, f, q, -⟩ := F
  exact q.1
theorem STRK.ext {Z : State} {h h' : Heap} {a : Addr} {ch : Int32} (F : STRK Z h a ch) (E : Ext h h') : STRK Z h' a ch := by
  obtain ⟨b, cd, hs, hz, n, f, q, r, t⟩ := F
  exact ⟨b, cd, hs, hz, n, f, q.ext E, r.ext E, t⟩
theorem STRK.kc {Z : State} {h h' : Heap} {a : Addr} {ch : Int32} {L : List (String ⊕ FieldType)} (F : STRK Z h a ch) (K : Kc Z h h' L) (q1 : NoS Z (.inl "java/lang/String") L) (q2 : NoS Z (.inr .byte) L) : STRK Z h' a ch := by
  obtain ⟨b, cd, hs, hz, n, f, q, r, t⟩ := F
  exact ⟨b, cd, hs, hz, n, f, q.kc K q1, r.kc K q2, t⟩
theorem d3_0 : decode jdk_22_method_1_code 0 = .ok (.aload_n 0, 1) := by decide +kernel
theorem d3_1 : decode jdk_22_method_1_code 1 = .ok (.invokespecial 1, 3) := by decide +kernel
theorem d3_4 : decode jdk_22_method_1_code 4 = .ok (.return_, 1) := by decide +kernel
theorem pn_3 : plainFor (⟨"java/util/AbstractCollection", "<init>", "()V"⟩ : MethodName) = true := by first | exact plainFor_of_name (by first | (simp [plainName, overriddenIn]; done) | decide +kernel) | decide +kernel
theorem ef_3 (m : MethodId) (a1 : Addr) : entryFrame m #[(.ref a1)] 1 = mkF m 0 #[.val (.ref a1)] [] := by first | (simp [entryFrame, argsToLocals, Value.category, Array.replicate]; done) | rfl
theorem pd_3 : parseMethodDescriptor "()V" = some ⟨[], none⟩ := by decide +kernel
def Q3 (Z : State) (a1 : Addr)  (h0 : Heap) (n0 : Nat) (v : Option Value) (h : Heap) (L : List Loc) : Prop := v = none ∧ Fr n0 L ∧ h0 = h
theorem rm3 (l : Launch) (Z : State) (a0 : Array Value) (hw : ∀ d ∈ tables_1, d.before a0 Z = true) (ws : List Jvm.Cond) (a1 : Addr)  (h0 : Heap) (n0 : Nat) (Z0 : n0 ≤ h0.size)  :
    MetFree l (⟨"java/util/AbstractCollection", "<init>", "()V"⟩ : MethodName) (head1 (Jvm.Cond.code (⟨"java/util/AbstractCollection", "<init>", "()V"⟩ : MethodName) jdk_22_method_1_code 1 (none) :: ws) ({ frames := 1, cells := 0, slots := 0, locals := 12 } : Room)) (fun a U => a = #[(.ref a1)] ∧ Z.Warmed39 U.vm ∧ U.heap = h0) (fun _ _ _ _ _ => True) (fun _ U o U' => ∃ v L, o = .returned v ∧ (Q3 Z a1  h0 n0) v U'.heap L ∧ FrameEnd U o U' L ({ frames := 1, cells := 0, slots := 0, locals := 12 } : Room).cells ({ frames := 1, cells := 0, slots := 0, locals := 12 } : Room).slots) := by
  refine MetFree.of_bodySF pn_3 hisR ?_
  intro p e s m args below meth c s₁ Bd hml0 hP hK
  obtain ⟨rfl, hZ, hh⟩ := hP
  have hx := Bd.exec
  have hby := Bd.bytes
  have hml : c.maxLocals = 1 := hml0
  have hown : s.vm.findClass "java/util/AbstractCollection" = some m.cls := findClass_of_methodNamed Bd.named
  have hnm := (name_of_methodNamed Bd.named Bd.method).1
  have X0 : Stand p l e ({ frames := 1, cells := 0, slots := 0, locals := 12 } : Room) s m #[(.ref a1)] below meth c s₁ [] 0 0 := Stand.of_body Bd
  have e0 : s₁.heap = h0 := by rw [← hh, Bd.state]; rfl
  have N0 := Fr.nil n0
  have lk : meth.locks = false := BodyLoose.notSynchronized Bd
  have hret := Bd.returns
  show Ends p e below (EF s ({ frames := 1, cells := 0, slots := 0, locals := 12 } : Room).cells ({ frames := 1, cells := 0, slots := 0, locals := 12 } : Room).slots) (Q3 Z a1  h0 n0) (s₁.setTop (entryFrame m #[(.ref a1)] 1))
  refine Ends.cast (ef_3 m a1) ?_
  refine own_aloadN (n := 1) X0 hx (hb hby d3_0) rfl rfl rfl ?_
  refine own_initO (n := 4) X0 hx hZ hown (hw _ (List.mem_of_getElem? (i := 19) rfl)) (hw _ (List.mem_of_getElem? (i := 20) rfl)) (hw _ (List.mem_of_getElem? (i := 21) rfl)) e0 (by rw [hml]; rfl) (hb hby d3_1) rfl (by decide) (W := 0) (Nat.le_of_eq rfl) (by decide) ?_
  intro T1 X1 e1
  refine own_retV X1 hx lk hret (hb hby d3_4) (by decide) (by decide) ?_
  rw [e1]
  exact ⟨rfl, N0, rfl⟩
theorem d2_0 : decode jdk_39_method_1_code 0 = .ok (.aload_n 0, 1) := by decide +kernel
theorem d2_1 : decode jdk_39_method_1_code 1 = .ok (.invokespecial 1, 3) := by decide +kernel
theorem d2_4 : decode jdk_39_method_1_code 4 = .ok (.aload_n 0, 1) := by decide +kernel
theorem d2_5 : decode jdk_39_method_1_code 5 = .ok (.iconst 0, 1) := by decide +kernel
theorem d2_6 : decode jdk_39_method_1_code 6 = .ok (.putfield 7, 3) := by decide +kernel
theorem d2_9 : decode jdk_39_method_1_code 9 = .ok (.return_, 1) := by decide +kernel
theorem pn_2 : plainFor (⟨"java/util/AbstractList", "<init>", "()V"⟩ : MethodName) = true := by first | exact plainFor_of_name (by first | (simp [plainName, overriddenIn]; done) | decide +kernel) | decide +kernel
theorem ef_2 (m : MethodId) (a1 : Addr) : entryFrame m #[(.ref a1)] 1 = mkF m 0 #[.val (.ref a1)] [] := by first | (simp [entryFrame, argsToLocals, Value.category, Array.replicate]; done) | rfl
theorem pd_2 : parseMethodDescriptor "()V" = some ⟨[], none⟩ := by decide +kernel
def Q2 (Z : State) (a1 : Addr)  (h0 : Heap) (n0 : Nat) (v : Option Value) (h : Heap) (L : List Loc) : Prop := v = none ∧ Fr n0 L ∧ Keep h0 h [a1] ∧ AL Z h a1 .null 0 0
theorem rm2 (l : Launch) (Z : State) (a0 : Array Value) (hw : ∀ d ∈ tables_1, d.before a0 Z = true) (ws : List Jvm.Cond) (a1 : Addr)  (h0 : Heap) (n0 : Nat) (Z0 : n0 ≤ h0.size) (F0 : AL Z h0 a1 .null 0 0) (nb : n0 ≤ a1) :
    MetFree l (⟨"java/util/AbstractList", "<init>", "()V"⟩ : MethodName) (head1 (Jvm.Cond.code (⟨"java/util/AbstractList", "<init>", "()V"⟩ : MethodName) jdk_39_method_1_code 1 (none) :: ws) ({ frames := 2, cells := 0, slots := 0, locals := 24 } : Room)) (fun a U => a = #[(.ref a1)] ∧ Z.Warmed39 U.vm ∧ U.heap = h0) (fun _ _ _ _ _ => True) (fun _ U o U' => ∃ v L, o = .returned v ∧ (Q2 Z a1  h0 n0) v U'.heap L ∧ FrameEnd U o U' L ({ frames := 2, cells := 0, slots := 0, locals := 24 } : Room).cells ({ frames := 2, cells := 0, slots := 0, locals := 24 } : Room).slots) := by
  refine MetFree.of_bodySF pn_2 hisR ?_
  intro p e s m args below meth c s₁ Bd hml0 hP hK
  obtain ⟨rfl, hZ, hh⟩ := hP
  have hx := Bd.exec
  have hby := Bd.bytes
  have hml : c.maxLocals = 1 := hml0
  have hown : s.vm.findClass "java/util/AbstractList" = some m.cls := findClass_of_methodNamed Bd.named
  have hnm := (name_of_methodNamed Bd.named Bd.method).1
  have X0 : Stand p l e ({ frames := 2, cells := 0, slots := 0, locals := 24 } : Room) s m #[(.ref a1)] below meth c s₁ [] 0 0 := Stand.of_body Bd
  have e0 : s₁.heap = h0 := by rw [← hh, Bd.state]; rfl
  have N0 := Fr.nil n0
  have lk : meth.locks = false := BodyLoose.notSynchronized Bd
  have hret := Bd.returns
  show Ends p e below (EF s ({ frames := 2, cells := 0, slots := 0, locals := 24 } : Room).cells ({ frames := 2, cells := 0, slots := 0, locals := 24 } : Room).slots) (Q2 Z a1  h0 n0) (s₁.setTop (entryFrame m #[(.ref a1)] 1))
  refine Ends.cast (ef_2 m a1) ?_
  refine own_aloadN (n := 1) X0 hx (hb hby d2_0) rfl rfl rfl ?_
  refine own_callN (n := 4) X0 hx hZ rfl hown (hw _ (List.mem_of_getElem? (i := 13) rfl)) (hw _ (List.mem_of_getElem? (i := 14) rfl)) (hw _ (List.mem_of_getElem? (i := 17) rfl)) (hw _ (List.mem_of_getElem? (i := 18) rfl)) (by decide) e0 (rm3 l Z a0 hw [] a1 h0 n0 Z0 ) (W := 0) (by decide) (by decide) (by decide) (by decide) (by rw [hml]; rfl) (argsL := []) (rest := []) pd_3 rfl (a := a1) (by rfl) (Nat.le_of_eq rfl) (hb hby d2_1) rfl rfl ?_
  intro v1 T1 h1 L1 X1 e1 q1
  obtain ⟨rfl, M1, rfl⟩ := q1
  have N1 := Fr.app N0 M1
  refine own_aloadN (n := 5) X1 hx (hb hby d2_4) rfl rfl rfl ?_
  refine own_iconst (n := 6) X1 hx (0 : Int32) (hb hby d2_5) rfl rfl ?_
  refine own_putF (n := 9) X1 hx hZ hown (hw _ (List.mem_of_getElem? (i := 22) rfl)) e1 F0.2.2.2 F0.1 (Or.inl (hw _ (List.mem_of_getElem? (i := 23) rfl))) (hw _ (List.mem_of_getElem? (i := 2) rfl)) (ty := .int) (by decide) rfl rfl (hb hby d2_6) rfl ?_
  intro T2 h2 X2 e2 W2
  have N2 := Fr.snoc X2 N1 nb
  have Z2 : n0 ≤ h2.size := Nat.le_trans Z0 (Keep.of_wr W2).1
  have F2_a1 := F0.set_modCount hw W2
  have K2 : Keep h0 h2 [a1] := (Keep.refl h0 [a1]).wr W2 (Or.inl (List.mem_of_getElem? (i := 0) rfl))
  refine own_retV X2 hx lk hret (hb hby d2_9) (by decide) (by decide) ?_
  rw [e2]
  exact ⟨rfl, N2, K2, F2_a1⟩
theorem d1_0 : decode jdk_38_method_2_code 0 = .ok (.aload_n 0, 1) := by decide +kernel
theorem d1_1 : decode jdk_38_method_2_code 1 = .ok (.invokespecial 1, 3) := by decide +kernel
theorem d1_4 : decode jdk_38_method_2_code 4 = .ok (.aload_n 0, 1) := by decide +kernel
theorem d1_5 : decode jdk_38_method_2_code 5 = .ok (.getstatic 39, 3) := by decide +kernel
theorem d1_8 : decode jdk_38_method_2_code 8 = .ok (.putfield 9, 3) := by decide +kernel
theorem d1_11 : decode jdk_38_method_2_code 11 = .ok (.return_, 1) := by decide +kernel
theorem pn_1 : plainFor (⟨"java/util/ArrayList", "<init>", "()V"⟩ : MethodName) = true := by first | exact plainFor_of_name (by first | (simp [plainName, overriddenIn]; done) | decide +kernel) | decide +kernel
theorem ef_1 (m : MethodId) (a1 : Addr) : entryFrame m #[(.ref a1)] 1 = mkF m 0 #[.val (.ref a1)] [] := by first | (simp [entryFrame, argsToLocals, Value.category, Array.replicate]; done) | rfl
theorem pd_1 : parseMethodDescriptor "()V" = some ⟨[], none⟩ := by decide +kernel
def Q1 (Z : State) (a1 : Addr) (dA : Addr) (h0 : Heap) (n0 : Nat) (v : Option Value) (h : Heap) (L : List Loc) : Prop := v = none ∧ Fr n0 L ∧ Keep h0 h [a1] ∧ AL Z h a1 (.ref dA) 0 0
theorem rm1 (l : Launch) (Z : State) (a0 : Array Value) (hw : ∀ d ∈ tables_1, d.before a0 Z = true) (ws : List Jvm.Cond) (a1 : Addr) (dA : Addr) (h0 : Heap) (n0 : Nat) (Z0 : n0 ≤ h0.size) (cs : Int32) (pr eL eE : Addr) (TT : STT Z cs dA pr eL eE) (OL : Old Z n0 h0) (F0 : AL Z h0 a1 .null 0 0) (nb : n0 ≤ a1) :
    MetFree l (⟨"java/util/ArrayList", "<init>", "()V"⟩ : MethodName) (head1 (Jvm.Cond.code (⟨"java/util/ArrayList", "<init>", "()V"⟩ : MethodName) jdk_38_method_2_code 1 (none) :: ws) ({ frames := 3, cells := 0, slots := 0, locals := 36 } : Room)) (fun a U => a = #[(.ref a1)] ∧ Z.Warmed39 U.vm ∧ U.heap = h0) (fun _ _ _ _ _ => True) (fun _ U o U' => ∃ v L, o = .returned v ∧ (Q1 Z a1 dA h0 n0) v U'.heap L ∧ FrameEnd U o U' L ({ frames := 3, cells := 0, slots := 0, locals := 36 } : Room).cells ({ frames := 3, cells := 0, slots := 0, locals := 36 } : Room).slots) := by
  refine MetFree.of_bodySF pn_1 hisR ?_
  intro p e s m args below meth c s₁ Bd hml0 hP hK
  obtain ⟨rfl, hZ, hh⟩ := hP
  have hx := Bd.exec
  have hby := Bd.bytes
  have hml : c.maxLocals = 1 := hml0
  have hown : s.vm.findClass "java/util/ArrayList" = some m.cls := findClass_of_methodNamed Bd.named
  have hnm := (name_of_methodNamed Bd.named Bd.method).1
  have X0 : Stand p l e ({ frames := 3, cells := 0, slots := 0, locals := 36 } : Room) s m #[(.ref a1)] below meth c s₁ [] 0 0 := Stand.of_body Bd
  have e0 : s₁.heap = h0 := by rw [← hh, Bd.state]; rfl
  have N0 := Fr.nil n0
  have lk : meth.locks = false := BodyLoose.notSynchronized Bd
  have hret := Bd.returns
  show Ends p e below (EF s ({ frames := 3, cells := 0, slots := 0, locals := 36 } : Room).cells ({ frames := 3, cells := 0, slots := 0, locals := 36 } : Room).slots) (Q1 Z a1 dA h0 n0) (s₁.setTop (entryFrame m #[(.ref a1)] 1))
  refine Ends.cast (ef_1 m a1) ?_
  refine own_aloadN (n := 1) X0 hx (hb hby d1_0) rfl rfl rfl ?_
  refine own_callN (n := 4) X0 hx hZ rfl hown (hw _ (List.mem_of_getElem? (i := 7) rfl)) (hw _ (List.mem_of_getElem? (i := 8) rfl)) (hw _ (List.mem_of_getElem? (i := 11) rfl)) (hw _ (List.mem_of_getElem? (i := 12) rfl)) (by decide) e0 (rm2 l Z a0 hw [] a1 h0 n0 Z0 F0 nb) (W := 0) (by decide) (by decide) (by decide) (by decide) (by rw [hml]; rfl) (argsL := []) (rest := []) pd_2 rfl (a := a1) (by rfl) (Nat.le_of_eq rfl) (hb hby d1_1) rfl rfl ?_
  intro v1 T1 h1 L1 X1 e1 q1
  obtain ⟨rfl, M1, K1, F1⟩ := q1
  have N1 := Fr.app N0 M1
  have Z1 : n0 ≤ h1.size := Nat.le_trans Z0 K1.1
  have OL1 := OL.keep K1 (allS nb all0)
  have KK1 := (Keep.refl h0 [a1]).trans K1 (fun z hz => by cases List.mem_singleton.mp hz; exact Or.inl (List.mem_of_getElem? (i := 0) rfl))
  refine own_aloadN (n := 5) X1 hx (hb hby d1_4) rfl rfl rfl ?_
  refine own_getS (n := 8) X1 hx hZ hown (hw _ (List.mem_of_getElem? (i := 24) rfl)) e1 (TT.2.2.2.2.2.2.1.ext OL1.2) (hb hby d1_5) rfl ?_
  intro T2 X2 e2
  refine own_putF (n := 11) X2 hx hZ hown (hw _ (List.mem_of_getElem? (i := 25) rfl)) e2 F1.2.1 F1.1 (Or.inl (hw _ (List.mem_of_getElem? (i := 26) rfl))) (hw _ (List.mem_of_getElem? (i := 2) rfl)) (ty := (.array (.object "java/lang/Object"))) (by decide) rfl rfl (hb hby d1_8) rfl ?_
  intro T3 h3 X3 e3 W3
  have N3 := Fr.snoc X3 N1 nb
  have Z3 : n0 ≤ h3.size := Nat.le_trans Z1 (Keep.of_wr W3).1
  have OL3 := OL1.wr W3 nb
  have F3_a1 := F1.set_elementData hw W3
  have K3 : Keep h0 h3 [a1] := KK1.wr W3 (Or.inl (List.mem_of_getElem? (i := 0) rfl))
  refine own_retV X3 hx lk hret (hb hby d1_11) (by decide) (by decide) ?_
  rw [e3]
  exact ⟨rfl, N3, K3, F3_a1⟩
theorem d6_0 : decode jdk_91_method_1_code 0 = .ok (.aload_n 0, 1) := by decide +kernel
theorem d6_1 : decode jdk_91_method_1_code 1 = .ok (.invokespecial 1, 3) := by decide +kernel
theorem d6_4 : decode jdk_91_method_1_code 4 = .ok (.return_, 1) := by decide +kernel
theorem pn_6 : plainFor (⟨"java/util/AbstractSet", "<init>", "()V"⟩ : MethodName) = true := by first | exact plainFor_of_name (by first | (simp [plainName, overriddenIn]; done) | decide +kernel) | decide +kernel
theorem ef_6 (m : MethodId) (a1 : Addr) : entryFrame m #[(.ref a1)] 1 = mkF m 0 #[.val (.ref a1)] [] := by first | (simp [entryFrame, argsToLocals, Value.category, Array.replicate]; done) | rfl
theorem pd_6 : parseMethodDescriptor "()V" = some ⟨[], none⟩ := by decide +kernel
def Q6 (Z : State) (a1 : Addr)  (h0 : Heap) (n0 : Nat) (v : Option Value) (h : Heap) (L : List Loc) : Prop := v = none ∧ Fr n0 L ∧ h0 = h
theorem rm6 (l : Launch) (Z : State) (a0 : Array Value) (hw : ∀ d ∈ tables_1, d.before a0 Z = true) (ws : List Jvm.Cond) (a1 : Addr)  (h0 : Heap) (n0 : Nat) (Z0 : n0 ≤ h0.size)  :
    MetFree l (⟨"java/util/AbstractSet", "<init>", "()V"⟩ : MethodName) (head1 (Jvm.Cond.code (⟨"java/util/AbstractSet", "<init>", "()V"⟩ : MethodName) jdk_91_method_1_code 1 (none) :: ws) ({ frames := 2, cells := 0, slots := 0, locals := 24 } : Room)) (fun a U => a = #[(.ref a1)] ∧ Z.Warmed39 U.vm ∧ U.heap = h0) (fun _ _ _ _ _ => True) (fun _ U o U' => ∃ v L, o = .returned v ∧ (Q6 Z a1  h0 n0) v U'.heap L ∧ FrameEnd U o U' L ({ frames := 2, cells := 0, slots := 0, locals := 24 } : Room).cells ({ frames := 2, cells := 0, slots := 0, locals := 24 } : Room).slots) := by
  refine MetFree.of_bodySF pn_6 hisR ?_
  intro p e s m args below meth c s₁ Bd hml0 hP hK
  obtain ⟨rfl, hZ, hh⟩ := hP
  have hx := Bd.exec
  have hby := Bd.bytes
  have hml : c.maxLocals = 1 := hml0
  have hown : s.vm.findClass "java/util/AbstractSet" = some m.cls := findClass_of_methodNamed Bd.named
  have hnm := (name_of_methodNamed Bd.named Bd.method).1
  have X0 : Stand p l e ({ frames := 2, cells := 0, slots := 0, locals := 24 } : Room) s m #[(.ref a1)] below meth c s₁ [] 0 0 := Stand.of_body Bd
  have e0 : s₁.heap = h0 := by rw [← hh, Bd.state]; rfl
  have N0 := Fr.nil n0
  have lk : meth.locks = false := BodyLoose.notSynchronized Bd
  have hret := Bd.returns
  show Ends p e below (EF s ({ frames := 2, cells := 0, slots := 0, locals := 24 } : Room).cells ({ frames := 2, cells := 0, slots := 0, locals := 24 } : Room).slots) (Q6 Z a1  h0 n0) (s₁.setTop (entryFrame m #[(.ref a1)] 1))
  refine Ends.cast (ef_6 m a1) ?_
  refine own_aloadN (n := 1) X0 hx (hb hby d6_0) rfl rfl rfl ?_
  refine own_callN (n := 4) X0 hx hZ rfl hown (hw _ (List.mem_of_getElem? (i := 39) rfl)) (hw _ (List.mem_of_getElem? (i := 14) rfl)) (hw _ (List.mem_of_getElem? (i := 17) rfl)) (hw _ (List.mem_of_getElem? (i := 18) rfl)) (by decide) e0 (rm3 l Z a0 hw [] a1 h0 n0 Z0 ) (W := 0) (by decide) (by decide) (by decide) (by decide) (by rw [hml]; rfl) (argsL := []) (rest := []) pd_3 rfl (a := a1) (by rfl) (Nat.le_of_eq rfl) (hb hby d6_1) rfl rfl ?_
  intro v1 T1 h1 L1 X1 e1 q1
  obtain ⟨rfl, M1, rfl⟩ := q1
  have N1 := Fr.app N0 M1
  refine own_retV X1 hx lk hret (hb hby d6_4) (by decide) (by decide) ?_
  rw [e1]
  exact ⟨rfl, N1, rfl⟩
theorem d8_0 : decode jdk_71_method_1_code 0 = .ok (.aload_n 0, 1) := by decide +kernel
theorem d8_1 : decode jdk_71_method_1_code 1 = .ok (.invokespecial 1, 3) := by decide +kernel
theorem d8_4 : decode jdk_71_method_1_code 4 = .ok (.return_, 1) := by decide +kernel
theorem pn_8 : plainFor (⟨"java/util/AbstractMap", "<init>", "()V"⟩ : MethodName) = true := by first | exact plainFor_of_name (by first | (simp [plainName, overriddenIn]; done) | decide +kernel) | decide +kernel
theorem ef_8 (m : MethodId) (a1 : Addr) : entryFrame m #[(.ref a1)] 1 = mkF m 0 #[.val (.ref a1)] [] := by first | (simp [entryFrame, argsToLocals, Value.category, Array.replicate]; done) | rfl
theorem pd_8 : parseMethodDescriptor "()V" = some ⟨[], none⟩ := by decide +kernel
def Q8 (Z : State) (a1 : Addr)  (h0 : Heap) (n0 : Nat) (v : Option Value) (h : Heap) (L : List Loc) : Prop := v = none ∧ Fr n0 L ∧ h0 = h
theorem rm8 (l : Launch) (Z : State) (a0 : Array Value) (hw : ∀ d ∈ tables_1, d.before a0 Z = true) (ws : List Jvm.Cond) (a1 : Addr)  (h0 : Heap) (n0 : Nat) (Z0 : n0 ≤ h0.size)  :
    MetFree l (⟨"java/util/AbstractMap", "<init>", "()V"⟩ : MethodName) (head1 (Jvm.Cond.code (⟨"java/util/AbstractMap", "<init>", "()V"⟩ : MethodName) jdk_71_method_1_code 1 (none) :: ws) ({ frames := 1, cells := 0, slots := 0, locals := 12 } : Room)) (fun a U => a = #[(.ref a1)] ∧ Z.Warmed39 U.vm ∧ U.heap = h0) (fun _ _ _ _ _ => True) (fun _ U o U' => ∃ v L, o = .returned v ∧ (Q8 Z a1  h0 n0) v U'.heap L ∧ FrameEnd U o U' L ({ frames := 1, cells := 0, slots := 0, locals := 12 } : Room).cells ({ frames := 1, cells := 0, slots := 0, locals := 12 } : Room).slots) := by
  refine MetFree.of_bodySF pn_8 hisR ?_
  intro p e s m args below meth c s₁ Bd hml0 hP hK
  obtain ⟨rfl, hZ, hh⟩ := hP
  have hx := Bd.exec
  have hby := Bd.bytes
  have hml : c.maxLocals = 1 := hml0
  have hown : s.vm.findClass "java/util/AbstractMap" = some m.cls := findClass_of_methodNamed Bd.named
  have hnm := (name_of_methodNamed Bd.named Bd.method).1
  have X0 : Stand p l e ({ frames := 1, cells := 0, slots := 0, locals := 12 } : Room) s m #[(.ref a1)] below meth c s₁ [] 0 0 := Stand.of_body Bd
  have e0 : s₁.heap = h0 := by rw [← hh, Bd.state]; rfl
  have N0 := Fr.nil n0
  have lk : meth.locks = false := BodyLoose.notSynchronized Bd
  have hret := Bd.returns
  show Ends p e below (EF s ({ frames := 1, cells := 0, slots := 0, locals := 12 } : Room).cells ({ frames := 1, cells := 0, slots := 0, locals := 12 } : Room).slots) (Q8 Z a1  h0 n0) (s₁.setTop (entryFrame m #[(.ref a1)] 1))
  refine Ends.cast (ef_8 m a1) ?_
  refine own_aloadN (n := 1) X0 hx (hb hby d8_0) rfl rfl rfl ?_
  refine own_initO (n := 4) X0 hx hZ hown (hw _ (List.mem_of_getElem? (i := 54) rfl)) (hw _ (List.mem_of_getElem? (i := 20) rfl)) (hw _ (List.mem_of_getElem? (i := 21) rfl)) e0 (by rw [hml]; rfl) (hb hby d8_1) rfl (by decide) (W := 0) (Nat.le_of_eq rfl) (by decide) ?_
  intro T1 X1 e1
  refine own_retV X1 hx lk hret (hb hby d8_4) (by decide) (by decide) ?_
  rw [e1]
  exact ⟨rfl, N0, rfl⟩
theorem d7_0 : decode jdk_69_method_7_code 0 = .ok (.aload_n 0, 1) := by decide +kernel
theorem d7_1 : decode jdk_69_method_7_code 1 = .ok (.invokespecial 43, 3) := by decide +kernel
theorem d7_4 : decode jdk_69_method_7_code 4 = .ok (.aload_n 0, 1) := by decide +kernel
theorem d7_5 : decode jdk_69_method_7_code 5 = .ok (.ldc 92, 2) := by decide +kernel
theorem d7_7 : decode jdk_69_method_7_code 7 = .ok (.putfield 81, 3) := by decide +kernel
theorem d7_10 : decode jdk_69_method_7_code 10 = .ok (.return_, 1) := by decide +kernel
theorem pn_7 : plainFor (⟨"java/util/HashMap", "<init>", "()V"⟩ : MethodName) = true := by first | exact plainFor_of_name (by first | (simp [plainName, overriddenIn]; done) | decide +kernel) | decide +kernel
theorem ef_7 (m : MethodId) (a1 : Addr) : entryFrame m #[(.ref a1)] 1 = mkF m 0 #[.val (.ref a1)] [] := by first | (simp [entryFrame, argsToLocals, Value.category, Array.replicate]; done) | rfl
theorem pd_7 : parseMethodDescriptor "()V" = some ⟨[], none⟩ := by decide +kernel
def Q7 (Z : State) (a1 : Addr)  (h0 : Heap) (n0 : Nat) (v : Option Value) (h : Heap) (L : List Loc) : Prop := v = none ∧ Fr n0 L ∧ Keep h0 h [a1] ∧ ∃ lf, HM Z h a1 .null 0 0 0 lf
theorem rm7 (l : Launch) (Z : State) (a0 : Array Value) (hw : ∀ d ∈ tables_1, d.before a0 Z = true) (ws : List Jvm.Cond) (a1 : Addr)  (h0 : Heap) (n0 : Nat) (Z0 : n0 ≤ h0.size) (F0 : HM Z h0 a1 .null 0 0 0 (.float 0)) (nb : n0 ≤ a1) :
    MetFree l (⟨"java/util/HashMap", "<init>", "()V"⟩ : MethodName) (head1 (Jvm.Cond.code (⟨"java/util/HashMap", "<init>", "()V"⟩ : MethodName) jdk_69_method_7_code 1 (none) :: ws) ({ frames := 2, cells := 0, slots := 0, locals := 24 } : Room)) (fun a U => a = #[(.ref a1)] ∧ Z.Warmed39 U.vm ∧ U.heap = h0) (fun _ _ _ _ _ => True) (fun _ U o U' => ∃ v L, o = .returned v ∧ (Q7 Z a1  h0 n0) v U'.heap L ∧ FrameEnd U o U' L ({ frames := 2, cells := 0, slots := 0, locals := 24 } : Room).cells ({ frames := 2, cells := 0, slots := 0, locals := 24 } : Room).slots) := by
  refine MetFree.of_bodySF pn_7 hisR ?_
  intro p e s m args below meth c s₁ Bd hml0 hP hK
  obtain ⟨rfl, hZ, hh⟩ := hP
  have hx := Bd.exec
  have hby := Bd.bytes
  have hml : c.maxLocals = 1 := hml0
  have hown : s.vm.findClass "java/util/HashMap" = some m.cls := findClass_of_methodNamed Bd.named
  have hnm := (name_of_methodNamed Bd.named Bd.method).1
  have X0 : Stand p l e ({ frames := 2, cells := 0, slots := 0, locals := 24 } : Room) s m #[(.ref a1)] below meth c s₁ [] 0 0 := Stand.of_body Bd
  have e0 : s₁.heap = h0 := by rw [← hh, Bd.state]; rfl
  have N0 := Fr.nil n0
  have lk : meth.locks = false := BodyLoose.notSynchronized Bd
  have hret := Bd.returns
  show Ends p e below (EF s ({ frames := 2, cells := 0, slots := 0, locals := 24 } : Room).cells ({ frames := 2, cells := 0, slots := 0, locals := 24 } : Room).slots) (Q7 Z a1  h0 n0) (s₁.setTop (entryFrame m #[(.ref a1)] 1))
  refine Ends.cast (ef_7 m a1) ?_
  refine own_aloadN (n := 1) X0 hx (hb hby d7_0) rfl rfl rfl ?_
  refine own_callN (n := 4) X0 hx hZ rfl hown (hw _ (List.mem_of_getElem? (i := 48) rfl)) (hw _ (List.mem_of_getElem? (i := 49) rfl)) (hw _ (List.mem_of_getElem? (i := 52) rfl)) (hw _ (List.mem_of_getElem? (i := 53) rfl)) (by decide) e0 (rm8 l Z a0 hw [] a1 h0 n0 Z0 ) (W := 0) (by decide) (by decide) (by decide) (by decide) (by rw [hml]; rfl) (argsL := []) (rest := []) pd_8 rfl (a := a1) (by rfl) (Nat.le_of_eq rfl) (hb hby d7_1) rfl rfl ?_
  intro v1 T1 h1 L1 X1 e1 q1
  obtain ⟨rfl, M1, rfl⟩ := q1
  have N1 := Fr.app N0 M1
  refine own_aloadN (n := 5) X1 hx (hb hby d7_4) rfl rfl rfl ?_
  refine own_ldcF (n := 7) X1 hx hZ hown (hw _ (List.mem_of_getElem? (i := 55) rfl)) (hb hby d7_5) rfl ?_
  refine own_putF (n := 10) X1 hx hZ hown (hw _ (List.mem_of_getElem? (i := 56) rfl)) e1 F0.2.2.2.2.2 F0.1 (Or.inr ⟨(hw _ (List.mem_of_getElem? (i := 57) rfl)), rfl, hnm⟩) (hw _ (List.mem_of_getElem? (i := 42) rfl)) (ty := .float) (by decide) rfl rfl (hb hby d7_7) rfl ?_
  intro T2 h2 X2 e2 W2
  have N2 := Fr.snoc X2 N1 nb
  have Z2 : n0 ≤ h2.size := Nat.le_trans Z0 (Keep.of_wr W2).1
  have F2_a1 := F0.set_loadFactor hw W2
  have K2 : Keep h0 h2 [a1] := (Keep.refl h0 [a1]).wr W2 (Or.inl (List.mem_of_getElem? (i := 0) rfl))
  refine own_retV X2 hx lk hret (hb hby d7_10) (by decide) (by decide) ?_
  rw [e2]
  exact ⟨rfl, N2, K2, _, F2_a1⟩
theorem d5_0 : decode jdk_93_method_1_code 0 = .ok (.aload_n 0, 1) := by decide +kernel
theorem d5_1 : decode jdk_93_method_1_code 1 = .ok (.invokespecial 1, 3) := by decide +kernel
theorem d5_4 : decode jdk_93_method_1_code 4 = .ok (.aload_n 0, 1) := by decide +kernel
theorem d5_5 : decode jdk_93_method_1_code 5 = .ok (.new 7, 3) := by decide +kernel
theorem d5_8 : decode jdk_93_method_1_code 8 = .ok (.dup, 1) := by decide +kernel
theorem d5_9 : decode jdk_93_method_1_code 9 = .ok (.invokespecial 9, 3) := by decide +kernel
theorem d5_12 : decode jdk_93_method_1_code 12 = .ok (.putfield 10, 3) := by decide +kernel
theorem d5_15 : decode jdk_93_method_1_code 15 = .ok (.return_, 1) := by decide +kernel
theorem pn_5 : plainFor (⟨"java/util/HashSet", "<init>", "()V"⟩ : MethodName) = true := by first | exact plainFor_of_name (by first | (simp [plainName, overriddenIn]; done) | decide +kernel) | decide +kernel
theorem ef_5 (m : MethodId) (a1 : Addr) : entryFrame m #[(.ref a1)] 1 = mkF m 0 #[.val (.ref a1)] [] := by first | (simp [entryFrame, argsToLocals, Value.category, Array.replicate]; done) | rfl
theorem pd_5 : parseMethodDescriptor "()V" = some ⟨[], none⟩ := by decide +kernel
def Q5 (Z : State) (a1 : Addr)  (h0 : Heap) (n0 : Nat) (v : Option Value) (h : Heap) (L : List Loc) : Prop := v = none ∧ Fr n0 L ∧ Keep h0 h [a1] ∧ ∃ mp lf, HS Z h a1 (.ref mp) ∧ HM Z h mp .null 0 0 0 lf ∧ h0.size ≤ mp
theorem rm5 (l : Launch) (Z : State) (a0 : Array Value) (hw : ∀ d ∈ tables_1, d.before a0 Z = true) (ws : List Jvm.Cond) (a1 : Addr)  (h0 : Heap) (n0 : Nat) (Z0 : n0 ≤ h0.size) (F0 : HS Z h0 a1 .null) (nb : n0 ≤ a1) :
    MetFree l (⟨"java/util/HashSet", "<init>", "()V"⟩ : MethodName) (head1 (Jvm.Cond.code (⟨"java/util/HashSet", "<init>", "()V"⟩ : MethodName) jdk_93_method_1_code 1 (none) :: ws) ({ frames := 3, cells := 1, slots := 8, locals := 38 } : Room)) (fun a U => a = #[(.ref a1)] ∧ Z.Warmed39 U.vm ∧ U.heap = h0) (fun _ _ _ _ _ => True) (fun _ U o U' => ∃ v L, o = .returned v ∧ (Q5 Z a1  h0 n0) v U'.heap L ∧ FrameEnd U o U' L ({ frames := 3, cells := 1, slots := 8, locals := 38 } : Room).cells ({ frames := 3, cells := 1, slots := 8, locals := 38 } : Room).slots) := by
  refine MetFree.of_bodySF pn_5 hisR ?_
  intro p e s m args below meth c s₁ Bd hml0 hP hK
  obtain ⟨rfl, hZ, hh⟩ := hP
  have hx := Bd.exec
  have hby := Bd.bytes
  have hml : c.maxLocals = 1 := hml0
  have hown : s.vm.findClass "java/util/HashSet" = some m.cls := findClass_of_methodNamed Bd.named
  have hnm := (name_of_methodNamed Bd.named Bd.method).1
  have X0 : Stand p l e ({ frames := 3, cells := 1, slots := 8, locals := 38 } : Room) s m #[(.ref a1)] below meth c s₁ [] 0 0 := Stand.of_body Bd
  have e0 : s₁.heap = h0 := by rw [← hh, Bd.state]; rfl
  have N0 := Fr.nil n0
  have lk : meth.locks = false := BodyLoose.notSynchronized Bd
  have hret := Bd.returns
  show Ends p e below (EF s ({ frames := 3, cells := 1, slots := 8, locals := 38 } : Room).cells ({ frames := 3, cells := 1, slots := 8, locals := 38 } : Room).slots) (Q5 Z a1  h0 n0) (s₁.setTop (entryFrame m #[(.ref a1)] 1))
  refine Ends.cast (ef_5 m a1) ?_
  refine own_aloadN (n := 1) X0 hx (hb hby d5_0) rfl rfl rfl ?_
  refine own_callN (n := 4) X0 hx hZ rfl hown (hw _ (List.mem_of_getElem? (i := 33) rfl)) (hw _ (List.mem_of_getElem? (i := 34) rfl)) (hw _ (List.mem_of_getElem? (i := 37) rfl)) (hw _ (List.mem_of_getElem? (i := 38) rfl)) (by decide) e0 (rm6 l Z a0 hw [] a1 h0 n0 Z0 ) (W := 0) (by decide) (by decide) (by decide) (by decide) (by rw [hml]; rfl) (argsL := []) (rest := []) pd_6 rfl (a := a1) (by rfl) (Nat.le_of_eq rfl) (hb hby d5_1) rfl rfl ?_
  intro v1 T1 h1 L1 X1 e1 q1
  obtain ⟨rfl, M1, rfl⟩ := q1
  have N1 := Fr.app N0 M1
  refine own_aloadN (n := 5) X1 hx (hb hby d5_4) rfl rfl rfl ?_
  refine own_newO (n := 8) X1 hx hZ hown (hw _ (List.mem_of_getElem? (i := 41) rfl)) (hw _ (List.mem_of_getElem? (i := 42) rfl)) (hw _ (List.mem_of_getElem? (i := 43) rfl)) e1 (by decide) (by decide) (hb hby d5_5) rfl ?_
  intro T2 h2 b2 X2 e2 g2 E2 A2 D2
  have Z2 : n0 ≤ h2.size := Nat.le_trans Z0 E2.1
  have nb_b2 : n0 ≤ b2 := Nat.le_trans Z0 (Nat.le_of_eq g2.symm)
  have ne_a1_b2 : a1 ≠ b2 := Nat.ne_of_lt (Nat.lt_of_lt_of_le F0.lt (Nat.le_of_eq g2.symm))
  have F2_a1 := F0.ext E2
  have K2 : Keep h0 h2 [a1] := (Keep.refl h0 [a1]).ext E2
  have big_b2 : h0.size ≤ b2 := Nat.le_trans (Keep.refl h0 [a1]).1 (Nat.le_of_eq g2.symm)
  have N2_b2 : HM Z h2 b2 (.null) (0) (0) (0) (.float 0) := ⟨A2, D2 (Or.inl (hw _ (List.mem_of_getElem? (i := 122) rfl))) (ty := (.array (.object "java/util/HashMap$Node"))) (by decide), D2 (Or.inl (hw _ (List.mem_of_getElem? (i := 155) rfl))) (ty := .int) (by decide), D2 (Or.inl (hw _ (List.mem_of_getElem? (i := 129) rfl))) (ty := .int) (by decide), D2 (Or.inl (hw _ (List.mem_of_getElem? (i := 153) rfl))) (ty := .int) (by decide), D2 (Or.inr (hw _ (List.mem_of_getElem? (i := 57) rfl))) (ty := .float) (by decide)⟩
  refine own_dup (n := 9) X2 hx (hb hby d5_8) rfl rfl ?_
  refine own_callN (n := 12) X2 hx hZ rfl hown (hw _ (List.mem_of_getElem? (i := 44) rfl)) (hw _ (List.mem_of_getElem? (i := 45) rfl)) (hw _ (List.mem_of_getElem? (i := 43) rfl)) (hw _ (List.mem_of_getElem? (i := 47) rfl)) (by decide) e2 (rm7 l Z a0 hw [] b2 h2 n0 Z2 N2_b2 nb_b2) (W := 2) (by decide) (by decide) (by decide) (by decide) (by rw [hml]; rfl) (argsL := []) (rest := [(.ref b2), (.ref a1)]) pd_7 rfl (a := b2) (by rfl) (Nat.le_of_eq rfl) (hb hby d5_9) rfl rfl ?_
  intro v3 T3 h3 L3 X3 e3 q3
  obtain ⟨rfl, M3, K3, lf3, F3⟩ := q3
  have N3 := Fr.app N1 M3
  have Z3 : n0 ≤ h3.size := Nat.le_trans Z2 K3.1
  have F3_a1 := F2_a1.keep K3 (ninS ne_a1_b2 nin0)
  have KK3 := K2.trans K3 (fun z hz => by cases List.mem_singleton.mp hz; exact Or.inr big_b2)
  refine own_putF (n := 15) X3 hx hZ hown (hw _ (List.mem_of_getElem? (i := 58) rfl)) e3 F3_a1.2 F3_a1.1 (Or.inl (hw _ (List.mem_of_getElem? (i := 59) rfl))) (hw _ (List.mem_of_getElem? (i := 28) rfl)) (ty := (.object "java/util/HashMap")) (by decide) rfl rfl (hb hby d5_12) rfl ?_
  intro T4 h4 X4 e4 W4
  have N4 := Fr.snoc X4 N3 nb
  have Z4 : n0 ≤ h4.size := Nat.le_trans Z3 (Keep.of_wr W4).1
  have F4_a1 := F3_a1.set_map hw W4
  have F4_b2 := F3.wrO W4 (Ne.symm ne_a1_b2)
  have K4 : Keep h0 h4 [a1] := KK3.wr W4 (Or.inl (List.mem_of_getElem? (i := 0) rfl))
  refine own_retV X4 hx lk hret (hb hby d5_15) (by decide) (by decide) ?_
  rw [e4]
  exact ⟨rfl, N4, K4, _, _, F4_a1, F4_b2, big_b2⟩
theorem own_lat {x : Int32} (h0 : 0 ≤ x.toInt) (h1 : ¬ (255 : Int32) < x) : nar .byte (x.toInt8.toInt32) &&& 255 = x := by
  have o : (255 : Int32).toInt = 255 := rfl
  rw [Int32.lt_iff_toInt_lt, o] at h1
  have q1 := c_mask (nar .byte (x.toInt8.toInt32)) 255 8 (by decide) (by decide)
  have q2 := own_nb (x.toInt8.toInt32)
  have q3 := c_i2b x
  apply own_inj
  rw [q1]
  omega
theorem own_hash {x : Int32} (h0 : 0 ≤ x.toInt) (h1 : x.toInt ≤ 65535) : x ^^^ (x.toUInt32 >>> ((16 : Int32) &&& 31).toUInt32).toInt32 = x := by
  have q := c_iushr x 16 16 (by decide) (by decide)
  have e : (x.toUInt32 >>> ((16 : Int32) &&& 31).toUInt32).toInt32 = 0 := own_inj (by rw [q]; show _ = (0 : Int); omega)
  rw [e]
  exact Int32.xor_zero
theorem d10_0 : decode jdk_43_method_3_code 0 = .ok (.iload_n 0, 1) := by decide +kernel
theorem d10_1 : decode jdk_43_method_3_code 1 = .ok (.sipush 255, 3) := by decide +kernel
theorem d10_4 : decode jdk_43_method_3_code 4 = .ok (.if_icmp .gt 7, 3) := by decide +kernel
theorem d10_7 : decode jdk_43_method_3_code 7 = .ok (.iconst 1, 1) := by decide +kernel
theorem d10_8 : decode jdk_43_method_3_code 8 = .ok (.goto 4, 3) := by decide +kernel
theorem d10_11 : decode jdk_43_method_3_code 11 = .ok (.iconst 0, 1) := by decide +kernel
theorem d10_12 : decode jdk_43_method_3_code 12 = .ok (.ireturn, 1) := by decide +kernel
theorem pn_10 : plainFor (⟨"java/lang/StringLatin1", "canEncode", "(C)Z"⟩ : MethodName) = true := by first | exact plainFor_of_name (by first | (simp [plainName, overriddenIn]; done) | decide +kernel) | decide +kernel
theorem ef_10 (m : MethodId) (p1 : Int32) : entryFrame m #[(.int p1)] 1 = mkF m 0 #[.val (.int p1)] [] := by first | (simp [entryFrame, argsToLocals, Value.category, Array.replicate]; done) | rfl
theorem pd_10 : parseMethodDescriptor "(C)Z" = some ⟨[.char], some .boolean⟩ := by decide +kernel
def Q10 (Z : State) (p1 : Int32)  (h0 : Heap) (n0 : Nat) (v : Option Value) (h : Heap) (L : List Loc) : Prop := ∃ r, v = some (.int r) ∧ (¬ (255 : Int32) < p1 → ¬ r = 0) ∧ ((255 : Int32) < p1 → r = 0) ∧ Fr n0 L ∧ h0 = h
theorem rm10 (l : Launch) (Z : State) (a0 : Array Value) (hw : ∀ d ∈ tables_1, d.before a0 Z = true) (ws : List Jvm.Cond) (p1 : Int32)  (h0 : Heap) (n0 : Nat) (Z0 : n0 ≤ h0.size)  :
    MetFree l (⟨"java/lang/StringLatin1", "canEncode", "(C)Z"⟩ : MethodName) (head1 (Jvm.Cond.code (⟨"java/lang/StringLatin1", "canEncode", "(C)Z"⟩ : MethodName) jdk_43_method_3_code 1 (some .boolean) :: ws) ({ frames := 0, cells := 0, slots := 0, locals := 0 } : Room)) (fun a U => a = #[(.int p1)] ∧ Z.Warmed39 U.vm ∧ U.heap = h0) (fun _ _ _ _ _ => True) (fun _ U o U' => ∃ v L, o = .returned v ∧ (Q10 Z p1  h0 n0) v U'.heap L ∧ FrameEnd U o U' L ({ frames := 0, cells := 0, slots := 0, locals := 0 } : Room).cells ({ frames := 0, cells := 0, slots := 0, locals := 0 } : Room).slots) := by
  refine MetFree.of_bodySF pn_10 hisR ?_
  intro p e s m args below meth c s₁ Bd hml0 hP hK
  obtain ⟨rfl, hZ, hh⟩ := hP
  have hx := Bd.exec
  have hby := Bd.bytes
  have hml : c.maxLocals = 1 := hml0
  have hown : s.vm.findClass "java/lang/StringLatin1" = some m.cls := findClass_of_methodNamed Bd.named
  have hnm := (name_of_methodNamed Bd.named Bd.method).1
  have X0 : Stand p l e ({ frames := 0, cells := 0, slots := 0, locals := 0 } : Room) s m #[(.int p1)] below meth c s₁ [] 0 0 := Stand.of_body Bd
  have e0 : s₁.heap = h0 := by rw [← hh, Bd.state]; rfl
  have N0 := Fr.nil n0
  have lk : meth.locks = false := BodyLoose.notSynchronized Bd
  have hret := Bd.returns
  show Ends p e below (EF s ({ frames := 0, cells := 0, slots := 0, locals := 0 } : Room).cells ({ frames := 0, cells := 0, slots := 0, locals := 0 } : Room).slots) (Q10 Z p1  h0 n0) (s₁.setTop (entryFrame m #[(.int p1)] 1))
  refine Ends.cast (ef_10 m p1) ?_
  refine own_iloadN (n := 1) X0 hx (hb hby d10_0) rfl rfl ?_
  refine own_sipush (n := 4) X0 hx (255 : Int32) (hb hby d10_1) rfl rfl ?_
  by_cases c4 : (255 : Int32) < p1
  · refine own_icmpYes (n := 11) X0 hx (hb hby d10_4) (Jvm.Free.XT.ii_gt_t c4) (by decide) (by decide) ?_
    refine own_iconst (n := 12) X0 hx (0 : Int32) (hb hby d10_11) rfl rfl ?_
    refine own_retN X0 hx lk hret (by simp) (hb hby d10_12) (by decide) (by decide) ?_
    rw [e0]
    exact ⟨_, rfl, fun z => absurd c4 z, fun _ => rfl, N0, rfl⟩
  · refine own_icmpNo (n := 7) X0 hx (hb hby d10_4) (Jvm.Free.XT.ii_gt_f c4) rfl ?_
    refine own_iconst (n := 8) X0 hx (1 : Int32) (hb hby d10_7) rfl rfl ?_
    refine own_goto (n := 12) X0 hx (hb hby d10_8) (by decide) (by decide) ?_
    refine own_retN X0 hx lk hret (by simp) (hb hby d10_12) (by decide) (by decide) ?_
    rw [e0]
    exact ⟨_, rfl, fun _ => by decide, fun z => absurd z c4, N0, rfl⟩
theorem d11_0 : decode jdk_43_method_46_code 0 = .ok (.iconst 1, 1) := by decide +kernel
theorem d11_1 : decode jdk_43_method_46_code 1 = .ok (.newarray .byte, 2) := by decide +kernel
theorem d11_3 : decode jdk_43_method_46_code 3 = .ok (.dup, 1) := by decide +kernel
theorem d11_4 : decode jdk_43_method_46_code 4 = .ok (.iconst 0, 1) := by decide +kernel
theorem d11_5 : decode jdk_43_method_46_code 5 = .ok (.iload_n 0, 1) := by decide +kernel
theorem d11_6 : decode jdk_43_method_46_code 6 = .ok (.i2b, 1) := by decide +kernel
theorem d11_7 : decode jdk_43_method_46_code 7 = .ok (.bastore, 1) := by decide +kernel
theorem d11_8 : decode jdk_43_method_46_code 8 = .ok (.areturn, 1) := by decide +kernel
theorem pn_11 : plainFor (⟨"java/lang/StringLatin1", "toBytes", "(C)[B"⟩ : MethodName) = true := by first | exact plainFor_of_name (by first | (simp [plainName, overriddenIn]; done) | decide +kernel) | decide +kernel
theorem ef_11 (m : MethodId) (p1 : Int32) : entryFrame m #[(.int p1)] 1 = mkF m 0 #[.val (.int p1)] [] := by first | (simp [entryFrame, argsToLocals, Value.category, Array.replicate]; done) | rfl
theorem pd_11 : parseMethodDescriptor "(C)[B" = some ⟨[.char], some (.array .byte)⟩ := by decide +kernel
def Q11 (Z : State) (p1 : Int32)  (h0 : Heap) (n0 : Nat) (v : Option Value) (h : Heap) (L : List Loc) : Prop := ∃ a f, v = some (.ref a) ∧ Fr n0 L ∧ Keep h0 h [] ∧ PA Z h a .byte 1 f ∧ h0.size ≤ a ∧ f 0 = nar .byte (p1.toInt8.toInt32)
theorem rm11 (l : Launch) (Z : State) (a0 : Array Value) (hw : ∀ d ∈ tables_1, d.before a0 Z = true) (ws : List Jvm.Cond) (p1 : Int32)  (h0 : Heap) (n0 : Nat) (Z0 : n0 ≤ h0.size)  :
    MetFree l (⟨"java/lang/StringLatin1", "toBytes", "(C)[B"⟩ : MethodName) (head1 (Jvm.Cond.code (⟨"java/lang/StringLatin1", "toBytes", "(C)[B"⟩ : MethodName) jdk_43_method_46_code 1 (some (.array .byte)) :: ws) ({ frames := 0, cells := 1, slots := 1, locals := 0 } : Room)) (fun a U => a = #[(.int p1)] ∧ Z.Warmed39 U.vm ∧ U.heap = h0) (fun _ _ _ _ _ => True) (fun _ U o U' => ∃ v L, o = .returned v ∧ (Q11 Z p1  h0 n0) v U'.heap L ∧ FrameEnd U o U' L ({ frames := 0, cells := 1, slots := 1, locals := 0 } : Room).cells ({ frames := 0, cells := 1, slots := 1, locals := 0 } : Room).slots) := by
  refine MetFree.of_bodySF pn_11 hisR ?_
  intro p e s m args below meth c s₁ Bd hml0 hP hK
  obtain ⟨rfl, hZ, hh⟩ := hP
  have hx := Bd.exec
  have hby := Bd.bytes
  have hml : c.maxLocals = 1 := hml0
  have hown : s.vm.findClass "java/lang/StringLatin1" = some m.cls := findClass_of_methodNamed Bd.named
  have hnm := (name_of_methodNamed Bd.named Bd.method).1
  have X0 : Stand p l e ({ frames := 0, cells := 1, slots := 1, locals := 0 } : Room) s m #[(.int p1)] below meth c s₁ [] 0 0 := Stand.of_body Bd
  have e0 : s₁.heap = h0 := by rw [← hh, Bd.state]; rfl
  have N0 := Fr.nil n0
  have lk : meth.locks = false := BodyLoose.notSynchronized Bd
  have hret := Bd.returns
  show Ends p e below (EF s ({ frames := 0, cells := 1, slots := 1, locals := 0 } : Room).cells ({ frames := 0, cells := 1, slots := 1, locals := 0 } : Room).slots) (Q11 Z p1  h0 n0) (s₁.setTop (entryFrame m #[(.int p1)] 1))
  refine Ends.cast (ef_11 m p1) ?_
  refine own_iconst (n := 1) X0 hx (1 : Int32) (hb hby d11_0) rfl rfl ?_
  refine own_newarr (n := 3) X0 hx hZ (ty := .byte) rfl rfl (hw _ (List.mem_of_getElem? (i := 74) rfl)) e0 (i := 1) (cap := 1) rfl (by decide) (by decide) (by decide) (by decide) (hb hby d11_1) rfl ?_
  intro T1 h1 b1 X1 e1 g1 E1 A1
  have Z1 : n0 ≤ h1.size := Nat.le_trans Z0 E1.1
  have nb_b1 : n0 ≤ b1 := Nat.le_trans Z0 (Nat.le_of_eq g1.symm)
  have K1 : Keep h0 h1 [] := (Keep.refl h0 []).ext E1
  have big_b1 : h0.size ≤ b1 := Nat.le_trans (Keep.refl h0 []).1 (Nat.le_of_eq g1.symm)
  refine own_dup (n := 4) X1 hx (hb hby d11_3) rfl rfl ?_
  refine own_iconst (n := 5) X1 hx (0 : Int32) (hb hby d11_4) rfl rfl ?_
  refine own_iloadN (n := 6) X1 hx (hb hby d11_5) rfl rfl ?_
  refine own_i2b (n := 7) X1 hx (hb hby d11_6) rfl ?_
  refine own_bastore (n := 8) X1 hx hZ e1 A1 (i := 0) rfl (by decide) (hb hby d11_7) rfl ?_
  intro T2 h2 X2 e2 W2 A2
  have N2 := Fr.snoc X2 N0 nb_b1
  have Z2 : n0 ≤ h2.size := Nat.le_trans Z1 (Keep.of_wr W2).1
  have K2 : Keep h0 h2 [] := K1.wr W2 (Or.inr big_b1)
  refine own_retA X2 hx lk hret rfl rfl (hb hby d11_8) (by decide) (by decide) ?_
  rw [e2]
  exact ⟨_, _, rfl, N2, K2, A2, big_b1, if_pos rfl⟩
theorem d12_0 : decode jdk_42_method_151_code 0 = .ok (.aload_n 0, 1) := by decide +kernel
theorem d12_1 : decode jdk_42_method_151_code 1 = .ok (.invokespecial 1, 3) := by decide +kernel
theorem d12_4 : decode jdk_42_method_151_code 4 = .ok (.aload_n 0, 1) := by decide +kernel
theorem d12_5 : decode jdk_42_method_151_code 5 = .ok (.aload_n 1, 1) := by decide +kernel
theorem d12_6 : decode jdk_42_method_151_code 6 = .ok (.putfield 9, 3) := by decide +kernel
theorem d12_9 : decode jdk_42_method_151_code 9 = .ok (.aload_n 0, 1) := by decide +kernel
theorem d12_10 : decode jdk_42_method_151_code 10 = .ok (.iload_n 2, 1) := by decide +kernel
theorem d12_11 : decode jdk_42_method_151_code 11 = .ok (.putfield 15, 3) := by decide +kernel
theorem d12_14 : decode jdk_42_method_151_code 14 = .ok (.return_, 1) := by decide +kernel
theorem pn_12 : plainFor (⟨"java/lang/String", "<init>", "([BB)V"⟩ : MethodName) = true := by first | exact plainFor_of_name (by first | (simp [plainName, overriddenIn]; done) | decide +kernel) | decide +kernel
theorem ef_12 (m : MethodId) (a1 : Addr) (a2 : Addr) (p3 : Int32) : entryFrame m #[(.ref a1), (.ref a2), (.int p3)] 3 = mkF m 0 #[.val (.ref a1), .val (.ref a2), .val (.int p3)] [] := by first | (simp [entryFrame, argsToLocals, Value.category, Array.replicate]; done) | rfl
theorem pd_12 : parseMethodDescriptor "([BB)V" = some ⟨[(.array .byte), .byte], none⟩ := by decide +kernel
def Q12 (Z : State) (a1 : Addr) (a2 : Addr) (p3 : Int32)  (h0 : Heap) (n0 : Nat) (v : Option Value) (h : Heap) (L : List Loc) : Prop := v = none ∧ Fr n0 L ∧ Keep h0 h [a1] ∧ SP Z h a1 (.ref a2) p3 0 0
theorem rm12 (l : Launch) (Z : State) (a0 : Array Value) (hw : ∀ d ∈ tables_1, d.before a0 Z = true) (ws : List Jvm.Cond) (a1 : Addr) (a2 : Addr) (p3 : Int32)  (h0 : Heap) (n0 : Nat) (Z0 : n0 ≤ h0.size) (F0 : SP Z h0 a1 .null 0 0 0) (nb : n0 ≤ a1) (e01 : p3 = 0 ∨ p3 = 1) :
    MetFree l (⟨"java/lang/String", "<init>", "([BB)V"⟩ : MethodName) (head1 (Jvm.Cond.code (⟨"java/lang/String", "<init>", "([BB)V"⟩ : MethodName) jdk_42_method_151_code 3 (none) :: ws) ({ frames := 1, cells := 0, slots := 0, locals := 12 } : Room)) (fun a U => a = #[(.ref a1), (.ref a2), (.int p3)] ∧ Z.Warmed39 U.vm ∧ U.heap = h0) (fun _ _ _ _ _ => True) (fun _ U o U' => ∃ v L, o = .returned v ∧ (Q12 Z a1 a2 p3  h0 n0) v U'.heap L ∧ FrameEnd U o U' L ({ frames := 1, cells := 0, slots := 0, locals := 12 } : Room).cells ({ frames := 1, cells := 0, slots := 0, locals := 12 } : Room).slots) := by
  refine MetFree.of_bodySF pn_12 hisR ?_
  intro p e s m args below meth c s₁ Bd hml0 hP hK
  obtain ⟨rfl, hZ, hh⟩ := hP
  have hx := Bd.exec
  have hby := Bd.bytes
  have hml : c.maxLocals = 3 := hml0
  have hown : s.vm.findClass "java/lang/String" = some m.cls := findClass_of_methodNamed Bd.named
  have hnm := (name_of_methodNamed Bd.named Bd.method).1
  have X0 : Stand p l e ({ frames := 1, cells := 0, slots := 0, locals := 12 } : Room) s m #[(.ref a1), (.ref a2), (.int p3)] below meth c s₁ [] 0 0 := Stand.of_body Bd
  have e0 : s₁.heap = h0 := by rw [← hh, Bd.state]; rfl
  have N0 := Fr.nil n0
  have lk : meth.locks = false := BodyLoose.notSynchronized Bd
  have hret := Bd.returns
  show Ends p e below (EF s ({ frames := 1, cells := 0, slots := 0, locals := 12 } : Room).cells ({ frames := 1, cells := 0, slots := 0, locals := 12 } : Room).slots) (Q12 Z a1 a2 p3  h0 n0) (s₁.setTop (entryFrame m #[(.ref a1), (.ref a2), (.int p3)] 3))
  refine Ends.cast (ef_12 m a1 a2 p3) ?_
  refine own_aloadN (n := 1) X0 hx (hb hby d12_0) rfl rfl rfl ?_
  refine own_initO (n := 4) X0 hx hZ hown (hw _ (List.mem_of_getElem? (i := 79) rfl)) (hw _ (List.mem_of_getElem? (i := 20) rfl)) (hw _ (List.mem_of_getElem? (i := 21) rfl)) e0 (by rw [hml]; rfl) (hb hby d12_1) rfl (by decide) (W := 0) (Nat.le_of_eq rfl) (by decide) ?_
  intro T1 X1 e1
  refine own_aloadN (n := 5) X1 hx (hb hby d12_4) rfl rfl rfl ?_
  refine own_aloadN (n := 6) X1 hx (hb hby d12_5) rfl rfl rfl ?_
  refine own_putF (n := 9) X1 hx hZ hown (hw _ (List.mem_of_getElem? (i := 80) rfl)) e1 F0.2.1 F0.1 (Or.inr ⟨(hw _ (List.mem_of_getElem? (i := 81) rfl)), rfl, hnm⟩) (hw _ (List.mem_of_getElem? (i := 70) rfl)) (ty := (.array .byte)) (by decide) rfl rfl (hb hby d12_6) rfl ?_
  intro T2 h2 X2 e2 W2
  have N2 := Fr.snoc X2 N0 nb
  have Z2 : n0 ≤ h2.size := Nat.le_trans Z0 (Keep.of_wr W2).1
  have F2_a1 := F0.set_value hw W2
  have K2 : Keep h0 h2 [a1] := (Keep.refl h0 [a1]).wr W2 (Or.inl (List.mem_of_getElem? (i := 0) rfl))
  refine own_aloadN (n := 10) X2 hx (hb hby d12_9) rfl rfl rfl ?_
  refine own_iloadN (n := 11) X2 hx (hb hby d12_10) rfl rfl ?_
  refine own_putF (n := 14) X2 hx hZ hown (hw _ (List.mem_of_getElem? (i := 82) rfl)) e2 F2_a1.2.2.1 F2_a1.1 (Or.inr ⟨(hw _ (List.mem_of_getElem? (i := 83) rfl)), rfl, hnm⟩) (hw _ (List.mem_of_getElem? (i := 70) rfl)) (ty := .byte) (by decide) (by rcases e01 with z | z <;> rw [z] <;> rfl) (by rcases e01 with z | z <;> rw [z] <;> rfl) (hb hby d12_11) rfl ?_
  intro T3 h3 X3 e3 W3
  have N3 := Fr.snoc X3 N2 nb
  have Z3 : n0 ≤ h3.size := Nat.le_trans Z2 (Keep.of_wr W3).1
  have F3_a1 := F2_a1.set_coder hw W3
  have K3 : Keep h0 h3 [a1] := K2.wr W3 (Or.inl (List.mem_of_getElem? (i := 0) rfl))
  refine own_retV X3 hx lk hret (hb hby d12_14) (by decide) (by decide) ?_
  rw [e3]
  exact ⟨rfl, N3, K3, F3_a1⟩
theorem d62_0 : decode jdk_52_method_5_code 0 = .ok (.getstatic 44, 3) := by decide +kernel
theorem d62_3 : decode jdk_52_method_5_code 3 = .ok (.ifCond .ne 25, 3) := by decide +kernel
theorem d62_6 : decode jdk_52_method_5_code 6 = .ok (.iload_n 1, 1) := by decide +kernel
theorem d62_7 : decode jdk_52_method_5_code 7 = .ok (.ifCond .lt 11, 3) := by decide +kernel
theorem d62_10 : decode jdk_52_method_5_code 10 = .ok (.iload_n 1, 1) := by decide +kernel
theorem d62_11 : decode jdk_52_method_5_code 11 = .ok (.aload_n 0, 1) := by decide +kernel
theorem d62_12 : decode jdk_52_method_5_code 12 = .ok (.invokestatic 48, 3) := by decide +kernel
theorem d62_15 : decode jdk_52_method_5_code 15 = .ok (.if_icmp .lt 13, 3) := by decide +kernel
theorem d62_18 : decode jdk_52_method_5_code 18 = .ok (.new 52, 3) := by decide +kernel
theorem d62_21 : decode jdk_52_method_5_code 21 = .ok (.dup, 1) := by decide +kernel
theorem d62_22 : decode jdk_52_method_5_code 22 = .ok (.ldc 54, 2) := by decide +kernel
theorem d62_24 : decode jdk_52_method_5_code 24 = .ok (.invokespecial 56, 3) := by decide +kernel
theorem d62_27 : decode jdk_52_method_5_code 27 = .ok (.athrow, 1) := by decide +kernel
theorem d62_28 : decode jdk_52_method_5_code 28 = .ok (.iload_n 1, 1) := by decide +kernel
theorem d62_29 : decode jdk_52_method_5_code 29 = .ok (.iconst 1, 1) := by decide +kernel
theorem d62_30 : decode jdk_52_method_5_code 30 = .ok (.ishl, 1) := by decide +kernel
theorem d62_31 : decode jdk_52_method_5_code 31 = .ok (.istore_n 1, 1) := by decide +kernel
theorem d62_32 : decode jdk_52_method_5_code 32 = .ok (.aload_n 0, 1) := by decide +kernel
theorem d62_33 : decode jdk_52_method_5_code 33 = .ok (.iload_n 1, 1) := by decide +kernel
theorem d62_34 : decode jdk_52_method_5_code 34 = .ok (.iinc 1 1, 3) := by decide +kernel
theorem d62_37 : decode jdk_52_method_5_code 37 = .ok (.baload, 1) := by decide +kernel
theorem d62_38 : decode jdk_52_method_5_code 38 = .ok (.sipush 255, 3) := by decide +kernel
theorem d62_41 : decode jdk_52_method_5_code 41 = .ok (.iand, 1) := by decide +kernel
theorem d62_42 : decode jdk_52_method_5_code 42 = .ok (.getstatic 59, 3) := by decide +kernel
theorem d62_45 : decode jdk_52_method_5_code 45 = .ok (.ishl, 1) := by decide +kernel
theorem d62_46 : decode jdk_52_method_5_code 46 = .ok (.aload_n 0, 1) := by decide +kernel
theorem d62_47 : decode jdk_52_method_5_code 47 = .ok (.iload_n 1, 1) := by decide +kernel
theorem d62_48 : decode jdk_52_method_5_code 48 = .ok (.baload, 1) := by decide +kernel
theorem d62_49 : decode jdk_52_method_5_code 49 = .ok (.sipush 255, 3) := by decide +kernel
theorem d62_52 : decode jdk_52_method_5_code 52 = .ok (.iand, 1) := by decide +kernel
theorem d62_53 : decode jdk_52_method_5_code 53 = .ok (.getstatic 63, 3) := by decide +kernel
theorem d62_56 : decode jdk_52_method_5_code 56 = .ok (.ishl, 1) := by decide +kernel
theorem d62_57 : decode jdk_52_method_5_code 57 = .ok (.ior, 1) := by decide +kernel
theorem d62_58 : decode jdk_52_method_5_code 58 = .ok (.i2c, 1) := by decide +kernel
theorem d62_59 : decode jdk_52_method_5_code 59 = .ok (.ireturn, 1) := by decide +kernel
theorem pn_62 : plainFor (⟨"java/lang/StringUTF16", "getChar", "([BI)C"⟩ : MethodName) = true := by first | exact plainFor_of_name (by first | (simp [plainName, overriddenIn]; done) | decide +kernel) | decide +kernel
theorem ef_62 (m : MethodId) (a1 : Addr) (p2 : Int32) : entryFrame m #[(.ref a1), (.int p2)] 2 = mkF m 0 #[.val (.ref a1), .val (.int p2)] [] := by first | (simp [entryFrame, argsToLocals, Value.category, Array.replicate]; done) | rfl
theorem pd_62 : parseMethodDescriptor "([BI)C" = some ⟨[(.array .byte), .int], some .char⟩ := by decide +kernel
def Q62 (Z : State) (a1 : Addr) (p2 : Int32) (n : Nat) (f : Nat → Int32) (i : Nat) (h0 : Heap) (n0 : Nat) (v : Option Value) (h : Heap) (L : List Loc) : Prop := v = some (.int (GC (f (2 * i)) (f (2 * i + 1)))) ∧ Fr n0 L ∧ h0 = h
theorem rm62 (l : Launch) (Z : State) (a0 : Array Value) (hw : ∀ d ∈ tables_1, d.before a0 Z = true) (ws : List Jvm.Cond) (a1 : Addr) (p2 : Int32) (n : Nat) (f : Nat → Int32) (i : Nat) (h0 : Heap) (n0 : Nat) (Z0 : n0 ≤ h0.size) (cs : Int32) (dA pr eL eE : Addr) (TT : STT Z cs dA pr eL eE) (OL : Old Z n0 h0) (A : PA Z h0 a1 .byte n f) (hp : p2.toInt = (i : Int)) (hi : 2 * i + 1 < n) (hi2 : i < 100) :
    MetFree l (⟨"java/lang/StringUTF16", "getChar", "([BI)C"⟩ : MethodName) (head1 (Jvm.Cond.code (⟨"java/lang/StringUTF16", "getChar", "([BI)C"⟩ : MethodName) jdk_52_method_5_code 2 (some .char) :: ws) ({ frames := 0, cells := 0, slots := 0, locals := 0 } : Room)) (fun a U => a = #[(.ref a1), (.int p2)] ∧ Z.Warmed39 U.vm ∧ U.heap = h0) (fun _ _ _ _ _ => True) (fun _ U o U' => ∃ v L, o = .returned v ∧ (Q62 Z a1 p2 n f i h0 n0) v U'.heap L ∧ FrameEnd U o U' L ({ frames := 0, cells := 0, slots := 0, locals := 0 } : Room).cells ({ frames := 0, cells := 0, slots := 0, locals := 0 } : Room).slots) := by
  refine MetFree.of_bodySF pn_62 hisR ?_
  intro p e s m args below meth c s₁ Bd hml0 hP hK
  obtain ⟨rfl, hZ, hh⟩ := hP
  have hx := Bd.exec
  have hby := Bd.bytes
  have hml : c.maxLocals = 2 := hml0
  have hown : s.vm.findClass "java/lang/StringUTF16" = some m.cls := findClass_of_methodNamed Bd.named
  have hnm := (name_of_methodNamed Bd.named Bd.method).1
  have X0 : Stand p l e ({ frames := 0, cells := 0, slots := 0, locals := 0 } : Room) s m #[(.ref a1), (.int p2)] below meth c s₁ [] 0 0 := Stand.of_body Bd
  have e0 : s₁.heap = h0 := by rw [← hh, Bd.state]; rfl
  have N0 := Fr.nil n0
  have lk : meth.locks = false := BodyLoose.notSynchronized Bd
  have hret := Bd.returns
  show Ends p e below (EF s ({ frames := 0, cells := 0, slots := 0, locals := 0 } : Room).cells ({ frames := 0, cells := 0, slots := 0, locals := 0 } : Room).slots) (Q62 Z a1 p2 n f i h0 n0) (s₁.setTop (entryFrame m #[(.ref a1), (.int p2)] 2))
  refine Ends.cast (ef_62 m a1 p2) ?_
  refine own_getS (n := 3) X0 hx hZ hown (hw _ (List.mem_of_getElem? (i := 400) rfl)) e0 (TT.2.2.2.1.ext OL.2) (hb hby d62_0) rfl ?_
  intro T1 X1 e1
  refine own_ifYes (n := 28) X1 hx (hb hby d62_3) (Jvm.Free.XT.i0_ne_t (by decide)) (by decide) (by decide) ?_
  refine own_iloadN (n := 29) X1 hx (hb hby d62_28) rfl rfl ?_
  refine own_iconst (n := 30) X1 hx (1 : Int32) (hb hby d62_29) rfl rfl ?_
  refine own_ishl (n := 31) X1 hx (hb hby d62_30) rfl ?_
  refine own_istoreN (n := 32) X1 hx (hb hby d62_31) (l' := #[.val (.ref a1), .val (.int (p2 <<< ((1 : Int32) &&& 31)))]) rfl rfl ?_
  refine own_aloadN (n := 33) X1 hx (hb hby d62_32) rfl rfl rfl ?_
  refine own_iloadN (n := 34) X1 hx (hb hby d62_33) rfl rfl ?_
  refine own_iinc (n := 37) X1 hx (hb hby d62_34) rfl (v := (1 : Int32)) rfl (l' := #[.val (.ref a1), .val (.int ((p2 <<< ((1 : Int32) &&& 31)) + (1 : Int32)))]) rfl rfl ?_
  refine own_baload (n := 38) X1 hx hZ e1 A (i := (2 * i)) (own_sh1 hp (by omega)) (by omega) (hb hby d62_37) rfl ?_
  refine own_sipush (n := 41) X1 hx (255 : Int32) (hb hby d62_38) rfl rfl ?_
  refine own_iand (n := 42) X1 hx (hb hby d62_41) rfl ?_
  refine own_getS (n := 45) X1 hx hZ hown (hw _ (List.mem_of_getElem? (i := 401) rfl)) e1 (TT.2.2.2.2.1.ext OL.2) (hb hby d62_42) rfl ?_
  intro T2 X2 e2
  refine own_ishl (n := 46) X2 hx (hb hby d62_45) rfl ?_
  refine own_aloadN (n := 47) X2 hx (hb hby d62_46) rfl rfl rfl ?_
  refine own_iloadN (n := 48) X2 hx (hb hby d62_47) rfl rfl ?_
  refine own_baload (n := 49) X2 hx hZ e2 A (i := (2 * i + 1)) (own_sh2 hp (by omega)) hi (hb hby d62_48) rfl ?_
  refine own_sipush (n := 52) X2 hx (255 : Int32) (hb hby d62_49) rfl rfl ?_
  refine own_iand (n := 53) X2 hx (hb hby d62_52) rfl ?_
  refine own_getS (n := 56) X2 hx hZ hown (hw _ (List.mem_of_getElem? (i := 402) rfl)) e2 (TT.2.2.2.2.2.1.ext OL.2) (hb hby d62_53) rfl ?_
  intro T3 X3 e3
  refine own_ishl (n := 57) X3 hx (hb hby d62_56) rfl ?_
  refine own_ior (n := 58) X3 hx (hb hby d62_57) rfl ?_
  refine own_i2c (n := 59) X3 hx (hb hby d62_58) rfl ?_
  refine own_retN X3 hx lk hret (by simp) (hb hby d62_59) (by decide) (by decide) ?_
  rw [e3]
  exact ⟨rfl, N0, rfl⟩
theorem d60_0 : decode jdk_52_method_4_code 0 = .ok (.getstatic 44, 3) := by decide +kernel
theorem d60_3 : decode jdk_52_method_4_code 3 = .ok (.ifCond .ne 25, 3) := by decide +kernel
theorem d60_6 : decode jdk_52_method_4_code 6 = .ok (.iload_n 1, 1) := by decide +kernel
theorem d60_7 : decode jdk_52_method_4_code 7 = .ok (.ifCond .lt 11, 3) := by decide +kernel
theorem d60_10 : decode jdk_52_method_4_code 10 = .ok (.iload_n 1, 1) := by decide +kernel
theorem d60_11 : decode jdk_52_method_4_code 11 = .ok (.aload_n 0, 1) := by decide +kernel
theorem d60_12 : decode jdk_52_method_4_code 12 = .ok (.invokestatic 48, 3) := by decide +kernel
theorem d60_15 : decode jdk_52_method_4_code 15 = .ok (.if_icmp .lt 13, 3) := by decide +kernel
theorem d60_18 : decode jdk_52_method_4_code 18 = .ok (.new 52, 3) := by decide +kernel
theorem d60_21 : decode jdk_52_method_4_code 21 = .ok (.dup, 1) := by decide +kernel
theorem d60_22 : decode jdk_52_method_4_code 22 = .ok (.ldc 54, 2) := by decide +kernel
theorem d60_24 : decode jdk_52_method_4_code 24 = .ok (.invokespecial 56, 3) := by decide +kernel
theorem d60_27 : decode jdk_52_method_4_code 27 = .ok (.athrow, 1) := by decide +kernel
theorem d60_28 : decode jdk_52_method_4_code 28 = .ok (.iload_n 1, 1) := by decide +kernel
theorem d60_29 : decode jdk_52_method_4_code 29 = .ok (.iconst 1, 1) := by decide +kernel
theorem d60_30 : decode jdk_52_method_4_code 30 = .ok (.ishl, 1) := by decide +kernel
theorem d60_31 : decode jdk_52_method_4_code 31 = .ok (.istore_n 1, 1) := by decide +kernel
theorem d60_32 : decode jdk_52_method_4_code 32 = .ok (.aload_n 0, 1) := by decide +kernel
theorem d60_33 : decode jdk_52_method_4_code 33 = .ok (.iload_n 1, 1) := by decide +kernel
theorem d60_34 : decode jdk_52_method_4_code 34 = .ok (.iinc 1 1, 3) := by decide +kernel
theorem d60_37 : decode jdk_52_method_4_code 37 = .ok (.iload_n 2, 1) := by decide +kernel
theorem d60_38 : decode jdk_52_method_4_code 38 = .ok (.getstatic 59, 3) := by decide +kernel
theorem d60_41 : decode jdk_52_method_4_code 41 = .ok (.ishr, 1) := by decide +kernel
theorem d60_42 : decode jdk_52_method_4_code 42 = .ok (.i2b, 1) := by decide +kernel
theorem d60_43 : decode jdk_52_method_4_code 43 = .ok (.bastore, 1) := by decide +kernel
theorem d60_44 : decode jdk_52_method_4_code 44 = .ok (.aload_n 0, 1) := by decide +kernel
theorem d60_45 : decode jdk_52_method_4_code 45 = .ok (.iload_n 1, 1) := by decide +kernel
theorem d60_46 : decode jdk_52_method_4_code 46 = .ok (.iload_n 2, 1) := by decide +kernel
theorem d60_47 : decode jdk_52_method_4_code 47 = .ok (.getstatic 63, 3) := by decide +kernel
theorem d60_50 : decode jdk_52_method_4_code 50 = .ok (.ishr, 1) := by decide +kernel
theorem d60_51 : decode jdk_52_method_4_code 51 = .ok (.i2b, 1) := by decide +kernel
theorem d60_52 : decode jdk_52_method_4_code 52 = .ok (.bastore, 1) := by decide +kernel
theorem d60_53 : decode jdk_52_method_4_code 53 = .ok (.return_, 1) := by decide +kernel
theorem pn_60 : plainFor (⟨"java/lang/StringUTF16", "putChar", "([BII)V"⟩ : MethodName) = true := by first | exact plainFor_of_name (by first | (simp [plainName, overriddenIn]; done) | decide +kernel) | decide +kernel
theorem ef_60 (m : MethodId) (a1 : Addr) (p2 : Int32) (p3 : Int32) : entryFrame m #[(.ref a1), (.int p2), (.int p3)] 3 = mkF m 0 #[.val (.ref a1), .val (.int p2), .val (.int p3)] [] := by first | (simp [entryFrame, argsToLocals, Value.category, Array.replicate]; done) | rfl
theorem pd_60 : parseMethodDescriptor "([BII)V" = some ⟨[(.array .byte), .int, .int], none⟩ := by decide +kernel
def Q60 (Z : State) (a1 : Addr) (p2 : Int32) (p3 : Int32) (n : Nat) (f : Nat → Int32) (i : Nat) (h0 : Heap) (n0 : Nat) (v : Option Value) (h : Heap) (L : List Loc) : Prop := v = none ∧ Fr n0 L ∧ Keep h0 h [a1] ∧ PA Z h a1 .byte n (fun y => if y = 2 * i + 1 then HIB p3 else (fun y => if y = 2 * i then LOB p3 else f y) y)
theorem rm60 (l : Launch) (Z : State) (a0 : Array Value) (hw : ∀ d ∈ tables_1, d.before a0 Z = true) (ws : List Jvm.Cond) (a1 : Addr) (p2 : Int32) (p3 : Int32) (n : Nat) (f : Nat → Int32) (i : Nat) (h0 : Heap) (n0 : Nat) (Z0 : n0 ≤ h0.size) (cs : Int32) (dA pr eL eE : Addr) (TT : STT Z cs dA pr eL eE) (OL : Old Z n0 h0) (A : PA Z h0 a1 .byte n f) (hp : p2.toInt = (i : Int)) (hi : 2 * i + 1 < n) (hi2 : i < 100) (nb : n0 ≤ a1) :
    MetFree l (⟨"java/lang/StringUTF16", "putChar", "([BII)V"⟩ : MethodName) (head1 (Jvm.Cond.code (⟨"java/lang/StringUTF16", "putChar", "([BII)V"⟩ : MethodName) jdk_52_method_4_code 3 (none) :: ws) ({ frames := 0, cells := 0, slots := 0, locals := 0 } : Room)) (fun a U => a = #[(.ref a1), (.int p2), (.int p3)] ∧ Z.Warmed39 U.vm ∧ U.heap = h0) (fun _ _ _ _ _ => True) (fun _ U o U' => ∃ v L, o = .returned v ∧ (Q60 Z a1 p2 p3 n f i h0 n0) v U'.heap L ∧ FrameEnd U o U' L ({ frames := 0, cells := 0, slots := 0, locals := 0 } : Room).cells ({ frames := 0, cells := 0, slots := 0, locals := 0 } : Room).slots) := by
  refine MetFree.of_bodySF pn_60 hisR ?_
  intro p e s m args below meth c s₁ Bd hml0 hP hK
  obtain ⟨rfl, hZ, hh⟩ := hP
  have hx := Bd.exec
  have hby := Bd.bytes
  have hml : c.maxLocals = 3 := hml0
  have hown : s.vm.findClass "java/lang/StringUTF16" = some m.cls := findClass_of_methodNamed Bd.named
  have hnm := (name_of_methodNamed Bd.named Bd.method).1
  have X0 : Stand p l e ({ frames := 0, cells := 0, slots := 0, locals := 0 } : Room) s m #[(.ref a1), (.int p2), (.int p3)] below meth c s₁ [] 0 0 := Stand.of_body Bd
  have e0 : s₁.heap = h0 := by rw [← hh, Bd.state]; rfl
  have N0 := Fr.nil n0
  have lk : meth.locks = false := BodyLoose.notSynchronized Bd
  have hret := Bd.returns
  show Ends p e below (EF s ({ frames := 0, cells := 0, slots := 0, locals := 0 } : Room).cells ({ frames := 0, cells := 0, slots := 0, locals := 0 } : Room).slots) (Q60 Z a1 p2 p3 n f i h0 n0) (s₁.setTop (entryFrame m #[(.ref a1), (.int p2), (.int p3)] 3))
  refine Ends.cast (ef_60 m a1 p2 p3) ?_
  refine own_getS (n := 3) X0 hx hZ hown (hw _ (List.mem_of_getElem? (i := 400) rfl)) e0 (TT.2.2.2.1.ext OL.2) (hb hby d60_0) rfl ?_
  intro T1 X1 e1
  refine own_ifYes (n := 28) X1 hx (hb hby d60_3) (Jvm.Free.XT.i0_ne_t (by decide)) (by decide) (by decide) ?_
  refine own_iloadN (n := 29) X1 hx (hb hby d60_28) rfl rfl ?_
  refine own_iconst (n := 30) X1 hx (1 : Int32) (hb hby d60_29) rfl rfl ?_
  refine own_ishl (n := 31) X1 hx (hb hby d60_30) rfl ?_
  refine own_istoreN (n := 32) X1 hx (hb hby d60_31) (l' := #[.val (.ref a1), .val (.int (p2 <<< ((1 : Int32) &&& 31))), .val (.int p3)]) rfl rfl ?_
  refine own_aloadN (n := 33) X1 hx (hb hby d60_32) rfl rfl rfl ?_
  refine own_iloadN (n := 34) X1 hx (hb hby d60_33) rfl rfl ?_
  refine own_iinc (n := 37) X1 hx (hb hby d60_34) rfl (v := (1 : Int32)) rfl (l' := #[.val (.ref a1), .val (.int ((p2 <<< ((1 : Int32) &&& 31)) + (1 : Int32))), .val (.int p3)]) rfl rfl ?_
  refine own_iloadN (n := 38) X1 hx (hb hby d60_37) rfl rfl ?_
  refine own_getS (n := 41) X1 hx hZ hown (hw _ (List.mem_of_getElem? (i := 401) rfl)) e1 (TT.2.2.2.2.1.ext OL.2) (hb hby d60_38) rfl ?_
  intro T2 X2 e2
  refine own_ishr (n := 42) X2 hx (hb hby d60_41) rfl ?_
  refine own_i2b (n := 43) X2 hx (hb hby d60_42) rfl ?_
  refine own_bastore (n := 44) X2 hx hZ e2 A (i := (2 * i)) (own_sh1 hp (by omega)) (by omega) (hb hby d60_43) rfl ?_
  intro T3 h3 X3 e3 W3 A3
  have N3 := Fr.snoc X3 N0 nb
  have Z3 : n0 ≤ h3.size := Nat.le_trans Z0 (Keep.of_wr W3).1
  have OL3 := OL.wr W3 nb
  have K3 : Keep h0 h3 [a1] := (Keep.refl h0 [a1]).wr W3 (Or.inl (List.mem_of_getElem? (i := 0) rfl))
  refine own_aloadN (n := 45) X3 hx (hb hby d60_44) rfl rfl rfl ?_
  refine own_iloadN (n := 46) X3 hx (hb hby d60_45) rfl rfl ?_
  refine own_iloadN (n := 47) X3 hx (hb hby d60_46) rfl rfl ?_
  refine own_getS (n := 50) X3 hx hZ hown (hw _ (List.mem_of_getElem? (i := 402) rfl)) e3 (TT.2.2.2.2.2.1.ext OL3.2) (hb hby d60_47) rfl ?_
  intro T4 X4 e4
  refine own_ishr (n := 51) X4 hx (hb hby d60_50) rfl ?_
  refine own_i2b (n := 52) X4 hx (hb hby d60_51) rfl ?_
  refine own_bastore (n := 53) X4 hx hZ e4 A3 (i := (2 * i + 1)) (own_sh2 hp (by omega)) hi (hb hby d60_52) rfl ?_
  intro T5 h5 X5 e5 W5 A5
  have N5 := Fr.snoc X5 N3 nb
  have Z5 : n0 ≤ h5.size := Nat.le_trans Z3 (Keep.of_wr W5).1
  have OL5 := OL3.wr W5 nb
  have K5 : Keep h0 h5 [a1] := K3.wr W5 (Or.inl (List.mem_of_getElem? (i := 0) rfl))
  refine own_retV X5 hx lk hret (hb hby d60_53) (by decide) (by decide) ?_
  rw [e5]
  exact ⟨rfl, N5, K5, A5⟩
theorem d59_0 : decode jdk_52_method_24_code 0 = .ok (.iconst 2, 1) := by decide +kernel
theorem d59_1 : decode jdk_52_method_24_code 1 = .ok (.newarray .byte, 2) := by decide +kernel
theorem d59_3 : decode jdk_52_method_24_code 3 = .ok (.astore_n 1, 1) := by decide +kernel
theorem d59_4 : decode jdk_52_method_24_code 4 = .ok (.aload_n 1, 1) := by decide +kernel
theorem d59_5 : decode jdk_52_method_24_code 5 = .ok (.iconst 0, 1) := by decide +kernel
theorem d59_6 : decode jdk_52_method_24_code 6 = .ok (.iload_n 0, 1) := by decide +kernel
theorem d59_7 : decode jdk_52_method_24_code 7 = .ok (.invokestatic 111, 3) := by decide +kernel
theorem d59_10 : decode jdk_52_method_24_code 10 = .ok (.aload_n 1, 1) := by decide +kernel
theorem d59_11 : decode jdk_52_method_24_code 11 = .ok (.areturn, 1) := by decide +kernel
theorem pn_59 : plainFor (⟨"java/lang/StringUTF16", "toBytes", "(C)[B"⟩ : MethodName) = true := by first | exact plainFor_of_name (by first | (simp [plainName, overriddenIn]; done) | decide +kernel) | decide +kernel
theorem ef_59 (m : MethodId) (p1 : Int32) : entryFrame m #[(.int p1)] 2 = mkF m 0 #[.val (.int p1), .unset] [] := by first | (simp [entryFrame, argsToLocals, Value.category, Array.replicate]; done) | rfl
theorem pd_59 : parseMethodDescriptor "(C)[B" = some ⟨[.char], some (.array .byte)⟩ := by decide +kernel
def Q59 (Z : State) (p1 : Int32)  (h0 : Heap) (n0 : Nat) (v : Option Value) (h : Heap) (L : List Loc) : Prop := ∃ a f, v = some (.ref a) ∧ Fr n0 L ∧ Keep h0 h [] ∧ PA Z h a .byte 2 f ∧ h0.size ≤ a ∧ f 0 = LOB p1 ∧ f 1 = HIB p1
theorem rm59 (l : Launch) (Z : State) (a0 : Array Value) (hw : ∀ d ∈ tables_1, d.before a0 Z = true) (ws : List Jvm.Cond) (p1 : Int32)  (h0 : Heap) (n0 : Nat) (Z0 : n0 ≤ h0.size) (cs : Int32) (dA pr eL eE : Addr) (TT : STT Z cs dA pr eL eE) (OL : Old Z n0 h0) :
    MetFree l (⟨"java/lang/StringUTF16", "toBytes", "(C)[B"⟩ : MethodName) (head1 (Jvm.Cond.code (⟨"java/lang/StringUTF16", "toBytes", "(C)[B"⟩ : MethodName) jdk_52_method_24_code 2 (some (.array .byte)) :: ws) ({ frames := 1, cells := 1, slots := 2, locals := 14 } : Room)) (fun a U => a = #[(.int p1)] ∧ Z.Warmed39 U.vm ∧ U.heap = h0) (fun _ _ _ _ _ => True) (fun _ U o U' => ∃ v L, o = .returned v ∧ (Q59 Z p1  h0 n0) v U'.heap L ∧ FrameEnd U o U' L ({ frames := 1, cells := 1, slots := 2, locals := 14 } : Room).cells ({ frames := 1, cells := 1, slots := 2, locals := 14 } : Room).slots) := by
  refine MetFree.of_bodySF pn_59 hisR ?_
  intro p e s m args below meth c s₁ Bd hml0 hP hK
  obtain ⟨rfl, hZ, hh⟩ := hP
  have hx := Bd.exec
  have hby := Bd.bytes
  have hml : c.maxLocals = 2 := hml0
  have hown : s.vm.findClass "java/lang/StringUTF16" = some m.cls := findClass_of_methodNamed Bd.named
  have hnm := (name_of_methodNamed Bd.named Bd.method).1
  have X0 : Stand p l e ({ frames := 1, cells := 1, slots := 2, locals := 14 } : Room) s m #[(.int p1)] below meth c s₁ [] 0 0 := Stand.of_body Bd
  have e0 : s₁.heap = h0 := by rw [← hh, Bd.state]; rfl
  have N0 := Fr.nil n0
  have lk : meth.locks = false := BodyLoose.notSynchronized Bd
  have hret := Bd.returns
  show Ends p e below (EF s ({ frames := 1, cells := 1, slots := 2, locals := 14 } : Room).cells ({ frames := 1, cells := 1, slots := 2, locals := 14 } : Room).slots) (Q59 Z p1  h0 n0) (s₁.setTop (entryFrame m #[(.int p1)] 2))
  refine Ends.cast (ef_59 m p1) ?_
  refine own_iconst (n := 1) X0 hx (2 : Int32) (hb hby d59_0) rfl rfl ?_
  refine own_newarr (n := 3) X0 hx hZ (ty := .byte) rfl rfl (hw _ (List.mem_of_getElem? (i := 74) rfl)) e0 (i := 2) (cap := 2) rfl (by decide) (by decide) (by decide) (by decide) (hb hby d59_1) rfl ?_
  intro T1 h1 b1 X1 e1 g1 E1 A1
  have Z1 : n0 ≤ h1.size := Nat.le_trans Z0 E1.1
  have nb_b1 : n0 ≤ b1 := Nat.le_trans Z0 (Nat.le_of_eq g1.symm)
  have OL1 := OL.ext E1
  have K1 : Keep h0 h1 [] := (Keep.refl h0 []).ext E1
  have big_b1 : h0.size ≤ b1 := Nat.le_trans (Keep.refl h0 []).1 (Nat.le_of_eq g1.symm)
  refine own_astoreN (n := 4) X1 hx (hb hby d59_3) rfl (l' := #[.val (.int p1), .val (.ref b1)]) rfl rfl ?_
  refine own_aloadN (n := 5) X1 hx (hb hby d59_4) rfl rfl rfl ?_
  refine own_iconst (n := 6) X1 hx (0 : Int32) (hb hby d59_5) rfl rfl ?_
  refine own_iloadN (n := 7) X1 hx (hb hby d59_6) rfl rfl ?_
  refine own_callS (n := 10) X1 hx hZ hown (hw _ (List.mem_of_getElem? (i := 397) rfl)) (hw _ (List.mem_of_getElem? (i := 398) rfl)) (hw _ (List.mem_of_getElem? (i := 395) rfl)) (hw _ (List.mem_of_getElem? (i := 399) rfl)) (by decide) e1 (rm60 l Z a0 hw [] b1 0 p1 2 (fun _ => 0) 0 h1 n0 Z1 cs dA pr eL eE TT OL1 A1 rfl (by decide) (by decide) nb_b1) (W := 0) (by decide) (by decide) (by decide) (by decide) (by rw [hml]; rfl) (argsL := [(.ref b1), (.int (0 : Int32)), (.int p1)]) (rest := []) pd_60 rfl (by rfl) (Nat.le_of_eq rfl) (hb hby d59_7) rfl rfl ?_
  intro v2 T2 h2 L2 X2 e2 q2
  obtain ⟨rfl, M2, K2, F2⟩ := q2
  have N2 := Fr.app N0 M2
  have Z2 : n0 ≤ h2.size := Nat.le_trans Z1 K2.1
  have OL2 := OL1.keep K2 (allS nb_b1 all0)
  have KK2 := K1.trans K2 (fun z hz => by cases List.mem_singleton.mp hz; exact Or.inr big_b1)
  refine own_aloadN (n := 11) X2 hx (hb hby d59_10) rfl rfl rfl ?_
  refine own_retA X2 hx lk hret rfl rfl (hb hby d59_11) (by decide) (by decide) ?_
  rw [e2]
  exact ⟨_, _, rfl, N2, KK2, F2, big_b1, rfl, rfl⟩
theorem d9_0 : decode jdk_42_method_139_code 0 = .ok (.getstatic 38, 3) := by decide +kernel
theorem d9_3 : decode jdk_42_method_139_code 3 = .ok (.ifCond .eq 23, 3) := by decide +kernel
theorem d9_6 : decode jdk_42_method_139_code 6 = .ok (.iload_n 0, 1) := by decide +kernel
theorem d9_7 : decode jdk_42_method_139_code 7 = .ok (.invokestatic 1015, 3) := by decide +kernel
theorem d9_10 : decode jdk_42_method_139_code 10 = .ok (.ifCond .eq 16, 3) := by decide +kernel
theorem d9_13 : decode jdk_42_method_139_code 13 = .ok (.new 10, 3) := by decide +kernel
theorem d9_16 : decode jdk_42_method_139_code 16 = .ok (.dup, 1) := by decide +kernel
theorem d9_17 : decode jdk_42_method_139_code 17 = .ok (.iload_n 0, 1) := by decide +kernel
theorem d9_18 : decode jdk_42_method_139_code 18 = .ok (.invokestatic 1018, 3) := by decide +kernel
theorem d9_21 : decode jdk_42_method_139_code 21 = .ok (.iconst 0, 1) := by decide +kernel
theorem d9_22 : decode jdk_42_method_139_code 22 = .ok (.invokespecial 209, 3) := by decide +kernel
theorem d9_25 : decode jdk_42_method_139_code 25 = .ok (.areturn, 1) := by decide +kernel
theorem d9_26 : decode jdk_42_method_139_code 26 = .ok (.new 10, 3) := by decide +kernel
theorem d9_29 : decode jdk_42_method_139_code 29 = .ok (.dup, 1) := by decide +kernel
theorem d9_30 : decode jdk_42_method_139_code 30 = .ok (.iload_n 0, 1) := by decide +kernel
theorem d9_31 : decode jdk_42_method_139_code 31 = .ok (.invokestatic 1021, 3) := by decide +kernel
theorem d9_34 : decode jdk_42_method_139_code 34 = .ok (.iconst 1, 1) := by decide +kernel
theorem d9_35 : decode jdk_42_method_139_code 35 = .ok (.invokespecial 209, 3) := by decide +kernel
theorem d9_38 : decode jdk_42_method_139_code 38 = .ok (.areturn, 1) := by decide +kernel
theorem pn_9 : plainFor (⟨"java/lang/String", "valueOf", "(C)Ljava/lang/String;"⟩ : MethodName) = true := by first | exact plainFor_of_name (by first | (simp [plainName, overriddenIn]; done) | decide +kernel) | decide +kernel
theorem ef_9 (m : MethodId) (p1 : Int32) : entryFrame m #[(.int p1)] 1 = mkF m 0 #[.val (.int p1)] [] := by first | (simp [entryFrame, argsToLocals, Value.category, Array.replicate]; done) | rfl
theorem pd_9 : parseMethodDescriptor "(C)Ljava/lang/String;" = some ⟨[.char], some (.object "java/lang/String")⟩ := by decide +kernel
def Q9 (Z : State) (p1 : Int32)  (h0 : Heap) (n0 : Nat) (v : Option Value) (h : Heap) (L : List Loc) : Prop := ∃ a, v = some (.ref a) ∧ Fr n0 L ∧ Keep h0 h [] ∧ STRK Z h a p1 ∧ h0.size ≤ a
theorem rm9 (l : Launch) (Z : State) (a0 : Array Value) (hw : ∀ d ∈ tables_1, d.before a0 Z = true) (ws : List Jvm.Cond) (p1 : Int32)  (h0 : Heap) (n0 : Nat) (Z0 : n0 ≤ h0.size) (cs : Int32) (dA pr eL eE : Addr) (TT : STT Z cs dA pr eL eE) (OL : Old Z n0 h0) (g0 : 0 ≤ p1.toInt) (g1 : p1.toInt ≤ 65535) :
    MetFree l (⟨"java/lang/String", "valueOf", "(C)Ljava/lang/String;"⟩ : MethodName) (head1 (Jvm.Cond.code (⟨"java/lang/String", "valueOf", "(C)Ljava/lang/String;"⟩ : MethodName) jdk_42_method_139_code 1 (some (.object "java/lang/String")) :: ws) ({ frames := 2, cells := 2, slots := 6, locals := 29 } : Room)) (fun a U => a = #[(.int p1)] ∧ Z.Warmed39 U.vm ∧ U.heap = h0) (fun _ _ _ _ _ => True) (fun _ U o U' => ∃ v L, o = .returned v ∧ (Q9 Z p1  h0 n0) v U'.heap L ∧ FrameEnd U o U' L ({ frames := 2, cells := 2, slots := 6, locals := 29 } : Room).cells ({ frames := 2, cells := 2, slots := 6, locals := 29 } : Room).slots) := by
  refine MetFree.of_bodySF pn_9 hisR ?_
  intro p e s m args below meth c s₁ Bd hml0 hP hK
  obtain ⟨rfl, hZ, hh⟩ := hP
  have hx := Bd.exec
  have hby := Bd.bytes
  have hml : c.maxLocals = 1 := hml0
  have hown : s.vm.findClass "java/lang/String" = some m.cls := findClass_of_methodNamed Bd.named
  have hnm := (name_of_methodNamed Bd.named Bd.method).1
  have X0 : Stand p l e ({ frames := 2, cells := 2, slots := 6, locals := 29 } : Room) s m #[(.int p1)] below meth c s₁ [] 0 0 := Stand.of_body Bd
  have e0 : s₁.heap = h0 := by rw [← hh, Bd.state]; rfl
  have N0 := Fr.nil n0
  have lk : meth.locks = false := BodyLoose.notSynchronized Bd
  have hret := Bd.returns
  show Ends p e below (EF s ({ frames := 2, cells := 2, slots := 6, locals := 29 } : Room).cells ({ frames := 2, cells := 2, slots := 6, locals := 29 } : Room).slots) (Q9 Z p1  h0 n0) (s₁.setTop (entryFrame m #[(.int p1)] 1))
  refine Ends.cast (ef_9 m p1) ?_
  refine own_getS (n := 3) X0 hx hZ hown (hw _ (List.mem_of_getElem? (i := 64) rfl)) e0 (TT.2.2.1.ext OL.2) (hb hby d9_0) rfl ?_
  intro T1 X1 e1
  refine own_ifNo (n := 6) X1 hx (hb hby d9_3) (Jvm.Free.XT.i0_eq_f TT.1) rfl ?_
  refine own_iloadN (n := 7) X1 hx (hb hby d9_6) rfl rfl ?_
  refine own_callS (n := 10) X1 hx hZ hown (hw _ (List.mem_of_getElem? (i := 65) rfl)) (hw _ (List.mem_of_getElem? (i := 66) rfl)) (hw _ (List.mem_of_getElem? (i := 67) rfl)) (hw _ (List.mem_of_getElem? (i := 68) rfl)) (by decide) e1 (rm10 l Z a0 hw [] p1 h0 n0 Z0 ) (W := 0) (by decide) (by decide) (by decide) (by decide) (by rw [hml]; rfl) (argsL := [(.int p1)]) (rest := []) pd_10 rfl (by rfl) (Nat.le_of_eq rfl) (hb hby d9_7) rfl rfl ?_
  intro v2 T2 h2 L2 X2 e2 q2
  obtain ⟨r2, rfl, ra2, rb2, M2, rfl⟩ := q2
  have N2 := Fr.app N0 M2
  by_cases c10 : r2 = 0
  · refine own_ifYes (n := 26) X2 hx (hb hby d9_10) (Jvm.Free.XT.i0_eq_t c10) (by decide) (by decide) ?_
    refine own_newO (n := 29) X2 hx hZ hown (hw _ (List.mem_of_getElem? (i := 69) rfl)) (hw _ (List.mem_of_getElem? (i := 70) rfl)) (hw _ (List.mem_of_getElem? (i := 62) rfl)) e2 (by decide) (by decide) (hb hby d9_26) rfl ?_
    intro T3 h3 b3 X3 e3 g3 E3 A3 D3
    have Z3 : n0 ≤ h3.size := Nat.le_trans Z0 E3.1
    have nb_b3 : n0 ≤ b3 := Nat.le_trans Z0 (Nat.le_of_eq g3.symm)
    have OL3 := OL.ext E3
    have K3 : Keep h0 h3 [] := (Keep.refl h0 []).ext E3
    have big_b3 : h0.size ≤ b3 := Nat.le_trans (Keep.refl h0 []).1 (Nat.le_of_eq g3.symm)
    have N3_b3 : SP Z h3 b3 (.null) (0) (0) (0) := ⟨A3, D3 (Or.inr (hw _ (List.mem_of_getElem? (i := 81) rfl))) (ty := (.array .byte)) (by decide), D3 (Or.inr (hw _ (List.mem_of_getElem? (i := 83) rfl))) (ty := .byte) (by decide), D3 (Or.inl (hw _ (List.mem_of_getElem? (i := 105) rfl))) (ty := .int) (by decide), D3 (Or.inl (hw _ (List.mem_of_getElem? (i := 107) rfl))) (ty := .boolean) (by decide)⟩
    refine own_dup (n := 30) X3 hx (hb hby d9_29) rfl rfl ?_
    refine own_iloadN (n := 31) X3 hx (hb hby d9_30) rfl rfl ?_
    refine own_callS (n := 34) X3 hx hZ hown (hw _ (List.mem_of_getElem? (i := 393) rfl)) (hw _ (List.mem_of_getElem? (i := 394) rfl)) (hw _ (List.mem_of_getElem? (i := 395) rfl)) (hw _ (List.mem_of_getElem? (i := 396) rfl)) (by decide) e3 (rm59 l Z a0 hw [] p1 h3 n0 Z3 cs dA pr eL eE TT OL3) (W := 2) (by decide) (by decide) (by decide) (by decide) (by rw [hml]; rfl) (argsL := [(.int p1)]) (rest := [(.ref b3), (.ref b3)]) pd_59 rfl (by rfl) (Nat.le_of_eq rfl) (hb hby d9_31) rfl rfl ?_
    intro v4 T4 h4 L4 X4 e4 q4
    obtain ⟨y4, f4, rfl, M4, K4, A4, big4, fa4, fb4⟩ := q4
    have N4 := Fr.app N2 M4
    have Z4 : n0 ≤ h4.size := Nat.le_trans Z3 K4.1
    have OL4 := OL3.keep K4 all0
    have F4_b3 := N3_b3.keep K4 nin0
    have KK4 := K3.trans K4 (fun z hz => nomatch hz)
    have ne_b3_y4 : b3 ≠ y4 := Nat.ne_of_lt (Nat.lt_of_lt_of_le N3_b3.lt big4)
    refine own_iconst (n := 35) X4 hx (1 : Int32) (hb hby d9_34) rfl rfl ?_
    refine own_callN (n := 38) X4 hx hZ rfl hown (hw _ (List.mem_of_getElem? (i := 75) rfl)) (hw _ (List.mem_of_getElem? (i := 76) rfl)) (hw _ (List.mem_of_getElem? (i := 62) rfl)) (hw _ (List.mem_of_getElem? (i := 78) rfl)) (by decide) e4 (rm12 l Z a0 hw [] b3 y4 (1 : Int32) h4 n0 Z4 F4_b3 nb_b3 (by decide)) (W := 1) (by decide) (by decide) (by decide) (by decide) (by rw [hml]; rfl) (argsL := [(.ref y4), (.int (1 : Int32))]) (rest := [(.ref b3)]) pd_12 rfl (a := b3) (by rfl) (Nat.le_of_eq rfl) (hb hby d9_35) rfl rfl ?_
    intro v5 T5 h5 L5 X5 e5 q5
    obtain ⟨rfl, M5, K5, F5⟩ := q5
    have N5 := Fr.app N4 M5
    have Z5 : n0 ≤ h5.size := Nat.le_trans Z4 K5.1
    have OL5 := OL4.keep K5 (allS nb_b3 all0)
    have F5_y4 := A4.keep K5 (ninS (Ne.symm ne_b3_y4) nin0)
    have KK5 := KK4.trans K5 (fun z hz => by cases List.mem_singleton.mp hz; exact Or.inr big_b3)
    refine own_retA X5 hx lk hret rfl rfl (hb hby d9_38) (by decide) (by decide) ?_
    rw [e5]
    exact ⟨_, rfl, N5, KK5, ⟨_, _, _, _, _, _, F5, F5_y4, Or.inr ⟨rfl, rfl, by rw [fa4, fb4]; exact own_gc p1 g0 g1⟩, Or.inl ⟨rfl, rfl⟩⟩, big_b3⟩
  · refine own_ifNo (n := 13) X2 hx (hb hby d9_10) (Jvm.Free.XT.i0_eq_f c10) rfl ?_
    refine own_newO (n := 16) X2 hx hZ hown (hw _ (List.mem_of_getElem? (i := 69) rfl)) (hw _ (List.mem_of_getElem? (i := 70) rfl)) (hw _ (List.mem_of_getElem? (i := 62) rfl)) e2 (by decide) (by decide) (hb hby d9_13) rfl ?_
    intro T6 h6 b6 X6 e6 g6 E6 A6 D6
    have Z6 : n0 ≤ h6.size := Nat.le_trans Z0 E6.1
    have nb_b6 : n0 ≤ b6 := Nat.le_trans Z0 (Nat.le_of_eq g6.symm)
    have OL6 := OL.ext E6
    have K6 : Keep h0 h6 [] := (Keep.refl h0 []).ext E6
    have big_b6 : h0.size ≤ b6 := Nat.le_trans (Keep.refl h0 []).1 (Nat.le_of_eq g6.symm)
    have N6_b6 : SP Z h6 b6 (.null) (0) (0) (0) := ⟨A6, D6 (Or.inr (hw _ (List.mem_of_getElem? (i := 81) rfl))) (ty := (.array .byte)) (by decide), D6 (Or.inr (hw _ (List.mem_of_getElem? (i := 83) rfl))) (ty := .byte) (by decide), D6 (Or.inl (hw _ (List.mem_of_getElem? (i := 105) rfl))) (ty := .int) (by decide), D6 (Or.inl (hw _ (List.mem_of_getElem? (i := 107) rfl))) (ty := .boolean) (by decide)⟩
    refine own_dup (n := 17) X6 hx (hb hby d9_16) rfl rfl ?_
    refine own_iloadN (n := 18) X6 hx (hb hby d9_17) rfl rfl ?_
    refine own_callS (n := 21) X6 hx hZ hown (hw _ (List.mem_of_getElem? (i := 71) rfl)) (hw _ (List.mem_of_getElem? (i := 72) rfl)) (hw _ (List.mem_of_getElem? (i := 67) rfl)) (hw _ (List.mem_of_getElem? (i := 73) rfl)) (by decide) e6 (rm11 l Z a0 hw [] p1 h6 n0 Z6 ) (W := 2) (by decide) (by decide) (by decide) (by decide) (by rw [hml]; rfl) (argsL := [(.int p1)]) (rest := [(.ref b6), (.ref b6)]) pd_11 rfl (by rfl) (Nat.le_of_eq rfl) (hb hby d9_18) rfl rfl ?_
    intro v7 T7 h7 L7 X7 e7 q7
    obtain ⟨y7, f7, rfl, M7, K7, A7, big7, fa7⟩ := q7
    have N7 := Fr.app N2 M7
    have Z7 : n0 ≤ h7.size := Nat.le_trans Z6 K7.1
    have OL7 := OL6.keep K7 all0
    have F7_b6 := N6_b6.keep K7 nin0
    have KK7 := K6.trans K7 (fun z hz => nomatch hz)
    have ne_b6_y7 : b6 ≠ y7 := Nat.ne_of_lt (Nat.lt_of_lt_of_le N6_b6.lt big7)
    refine own_iconst (n := 22) X7 hx (0 : Int32) (hb hby d9_21) rfl rfl ?_
    refine own_callN (n := 25) X7 hx hZ rfl hown (hw _ (List.mem_of_getElem? (i := 75) rfl)) (hw _ (List.mem_of_getElem? (i := 76) rfl)) (hw _ (List.mem_of_getElem? (i := 62) rfl)) (hw _ (List.mem_of_getElem? (i := 78) rfl)) (by decide) e7 (rm12 l Z a0 hw [] b6 y7 (0 : Int32) h7 n0 Z7 F7_b6 nb_b6 (by decide)) (W := 1) (by decide) (by decide) (by decide) (by decide) (by rw [hml]; rfl) (argsL := [(.ref y7), (.int (0 : Int32))]) (rest := [(.ref b6)]) pd_12 rfl (a := b6) (by rfl) (Nat.le_of_eq rfl) (hb hby d9_22) rfl rfl ?_
    intro v8 T8 h8 L8 X8 e8 q8
    obtain ⟨rfl, M8, K8, F8⟩ := q8
    have N8 := Fr.app N7 M8
    have Z8 : n0 ≤ h8.size := Nat.le_trans Z7 K8.1
    have OL8 := OL7.keep K8 (allS nb_b6 all0)
    have F8_y7 := A7.keep K8 (ninS (Ne.symm ne_b6_y7) nin0)
    have KK8 := KK7.trans K8 (fun z hz => by cases List.mem_singleton.mp hz; exact Or.inr big_b6)
    refine own_retA X8 hx lk hret rfl rfl (hb hby d9_25) (by decide) (by decide) ?_
    rw [e8]
    exact ⟨_, rfl, N8, KK8, ⟨_, _, _, _, _, _, F8, F8_y7, Or.inl ⟨rfl, rfl, by rw [fa7]; exact own_lat g0 (fun z => c10 (rb2 z))⟩, Or.inl ⟨rfl, rfl⟩⟩, big_b6⟩
theorem d17_0 : decode jdk_42_method_154_code 0 = .ok (.getstatic 38, 3) := by decide +kernel
theorem d17_3 : decode jdk_42_method_154_code 3 = .ok (.ifCond .eq 14, 3) := by decide +kernel
theorem d17_6 : decode jdk_42_method_154_code 6 = .ok (.aload_n 0, 1) := by decide +kernel
theorem d17_7 : decode jdk_42_method_154_code 7 = .ok (.getfield 15, 3) := by decide +kernel
theorem d17_10 : decode jdk_42_method_154_code 10 = .ok (.ifCond .ne 7, 3) := by decide +kernel
theorem d17_13 : decode jdk_42_method_154_code 13 = .ok (.iconst 1, 1) := by decide +kernel
theorem d17_14 : decode jdk_42_method_154_code 14 = .ok (.goto 4, 3) := by decide +kernel
theorem d17_17 : decode jdk_42_method_154_code 17 = .ok (.iconst 0, 1) := by decide +kernel
theorem d17_18 : decode jdk_42_method_154_code 18 = .ok (.ireturn, 1) := by decide +kernel
theorem pn_17 : plainFor (⟨"java/lang/String", "isLatin1", "()Z"⟩ : MethodName) = true := by first | exact plainFor_of_name (by first | (simp [plainName, overriddenIn]; done) | decide +kernel) | decide +kernel
theorem ef_17 (m : MethodId) (a1 : Addr) : entryFrame m #[(.ref a1)] 1 = mkF m 0 #[.val (.ref a1)] [] := by first | (simp [entryFrame, argsToLocals, Value.category, Array.replicate]; done) | rfl
theorem pd_17 : parseMethodDescriptor "()Z" = some ⟨[], some .boolean⟩ := by decide +kernel
def Q17 (Z : State) (a1 : Addr) (vv : Value) (cd : Int32) (hs : Int32) (hz : Int32) (h0 : Heap) (n0 : Nat) (v : Option Value) (h : Heap) (L : List Loc) : Prop := ∃ q, v = some (.int q) ∧ (cd = 0 → ¬ q = 0) ∧ (¬ cd = 0 → q = 0) ∧ Fr n0 L ∧ h0 = h
theorem rm17 (l : Launch) (Z : State) (a0 : Array Value) (hw : ∀ d ∈ tables_1, d.before a0 Z = true) (ws : List Jvm.Cond) (a1 : Addr) (vv : Value) (cd : Int32) (hs : Int32) (hz : Int32) (h0 : Heap) (n0 : Nat) (Z0 : n0 ≤ h0.size) (cs : Int32) (dA pr eL eE : Addr) (TT : STT Z cs dA pr eL eE) (OL : Old Z n0 h0) (F0 : SP Z h0 a1 vv cd hs hz) :
    MetFree l (⟨"java/lang/String", "isLatin1", "()Z"⟩ : MethodName) (head1 (Jvm.Cond.code (⟨"java/lang/String", "isLatin1", "()Z"⟩ : MethodName) jdk_42_method_154_code 1 (some .boolean) :: ws) ({ frames := 0, cells := 0, slots := 0, locals := 0 } : Room)) (fun a U => a = #[(.ref a1)] ∧ Z.Warmed39 U.vm ∧ U.heap = h0) (fun _ _ _ _ _ => True) (fun _ U o U' => ∃ v L, o = .returned v ∧ (Q17 Z a1 vv cd hs hz h0 n0) v U'.heap L ∧ FrameEnd U o U' L ({ frames := 0, cells := 0, slots := 0, locals := 0 } : Room).cells ({ frames := 0, cells := 0, slots := 0, locals := 0 } : Room).slots) := by
  refine MetFree.of_bodySF pn_17 hisR ?_
  intro p e s m args below meth c s₁ Bd hml0 hP hK
  obtain ⟨rfl, hZ, hh⟩ := hP
  have hx := Bd.exec
  have hby := Bd.bytes
  have hml : c.maxLocals = 1 := hml0
  have hown : s.vm.findClass "java/lang/String" = some m.cls := findClass_of_methodNamed Bd.named
  have hnm := (name_of_methodNamed Bd.named Bd.method).1
  have X0 : Stand p l e ({ frames := 0, cells := 0, slots := 0, locals := 0 } : Room) s m #[(.ref a1)] below meth c s₁ [] 0 0 := Stand.of_body Bd
  have e0 : s₁.heap = h0 := by rw [← hh, Bd.state]; rfl
  have N0 := Fr.nil n0
  have lk : meth.locks = false := BodyLoose.notSynchronized Bd
  have hret := Bd.returns
  show Ends p e below (EF s ({ frames := 0, cells := 0, slots := 0, locals := 0 } : Room).cells ({ frames := 0, cells := 0, slots := 0, locals := 0 } : Room).slots) (Q17 Z a1 vv cd hs hz h0 n0) (s₁.setTop (entryFrame m #[(.ref a1)] 1))
  refine Ends.cast (ef_17 m a1) ?_
  refine own_getS (n := 3) X0 hx hZ hown (hw _ (List.mem_of_getElem? (i := 64) rfl)) e0 (TT.2.2.1.ext OL.2) (hb hby d17_0) rfl ?_
  intro T1 X1 e1
  refine own_ifNo (n := 6) X1 hx (hb hby d17_3) (Jvm.Free.XT.i0_eq_f TT.1) rfl ?_
  refine own_aloadN (n := 7) X1 hx (hb hby d17_6) rfl rfl rfl ?_
  refine own_getF (n := 10) X1 hx hZ hown (hw _ (List.mem_of_getElem? (i := 82) rfl)) e1 F0.2.2.1 (hb hby d17_7) rfl ?_
  intro T2 X2 e2
  by_cases c10 : cd = 0
  · refine own_ifNo (n := 13) X2 hx (hb hby d17_10) (Jvm.Free.XT.i0_ne_f c10) rfl ?_
    refine own_iconst (n := 14) X2 hx (1 : Int32) (hb hby d17_13) rfl rfl ?_
    refine own_goto (n := 18) X2 hx (hb hby d17_14) (by decide) (by decide) ?_
    refine own_retN X2 hx lk hret (by simp) (hb hby d17_18) (by decide) (by decide) ?_
    rw [e2]
    exact ⟨_, rfl, fun _ => by decide, fun z => absurd c10 z, N0, rfl⟩
  · refine own_ifYes (n := 17) X2 hx (hb hby d17_10) (Jvm.Free.XT.i0_ne_t c10) (by decide) (by decide) ?_
    refine own_iconst (n := 18) X2 hx (0 : Int32) (hb hby d17_17) rfl rfl ?_
    refine own_retN X2 hx lk hret (by simp) (hb hby d17_18) (by decide) (by decide) ?_
    rw [e2]
    exact ⟨_, rfl, fun z => absurd z c10, fun _ => rfl, N0, rfl⟩
theorem d18_0 : decode jdk_43_method_21_code 0 = .ok (.aload_n 0, 1) := by decide +kernel
theorem d18_1 : decode jdk_43_method_21_code 1 = .ok (.arraylength, 1) := by decide +kernel
theorem d18_2 : decode jdk_43_method_21_code 2 = .ok (.lookupswitch 40 #[(0, 26), (1, 30)], 26) := by decide +kernel
theorem d18_28 : decode jdk_43_method_21_code 28 = .ok (.iconst 0, 1) := by decide +kernel
theorem d18_29 : decode jdk_43_method_21_code 29 = .ok (.goto 22, 3) := by decide +kernel
theorem d18_32 : decode jdk_43_method_21_code 32 = .ok (.aload_n 0, 1) := by decide +kernel
theorem d18_33 : decode jdk_43_method_21_code 33 = .ok (.iconst 0, 1) := by decide +kernel
theorem d18_34 : decode jdk_43_method_21_code 34 = .ok (.baload, 1) := by decide +kernel
theorem d18_35 : decode jdk_43_method_21_code 35 = .ok (.sipush 255, 3) := by decide +kernel
theorem d18_38 : decode jdk_43_method_21_code 38 = .ok (.iand, 1) := by decide +kernel
theorem d18_39 : decode jdk_43_method_21_code 39 = .ok (.goto 12, 3) := by decide +kernel
theorem d18_42 : decode jdk_43_method_21_code 42 = .ok (.aload_n 0, 1) := by decide +kernel
theorem d18_43 : decode jdk_43_method_21_code 43 = .ok (.iconst 0, 1) := by decide +kernel
theorem d18_44 : decode jdk_43_method_21_code 44 = .ok (.aload_n 0, 1) := by decide +kernel
theorem d18_45 : decode jdk_43_method_21_code 45 = .ok (.arraylength, 1) := by decide +kernel
theorem d18_46 : decode jdk_43_method_21_code 46 = .ok (.iconst 0, 1) := by decide +kernel
theorem d18_47 : decode jdk_43_method_21_code 47 = .ok (.iconst 4, 1) := by decide +kernel
theorem d18_48 : decode jdk_43_method_21_code 48 = .ok (.invokestatic 84, 3) := by decide +kernel
theorem d18_51 : decode jdk_43_method_21_code 51 = .ok (.ireturn, 1) := by decide +kernel
theorem pn_18 : plainFor (⟨"java/lang/StringLatin1", "hashCode", "([B)I"⟩ : MethodName) = true := by first | exact plainFor_of_name (by first | (simp [plainName, overriddenIn]; done) | decide +kernel) | decide +kernel
theorem ef_18 (m : MethodId) (a1 : Addr) : entryFrame m #[(.ref a1)] 1 = mkF m 0 #[.val (.ref a1)] [] := by first | (simp [entryFrame, argsToLocals, Value.category, Array.replicate]; done) | rfl
theorem pd_18 : parseMethodDescriptor "([B)I" = some ⟨[(.array .byte)], some .int⟩ := by decide +kernel
def Q18 (Z : State) (a1 : Addr) (f : Nat → Int32) (h0 : Heap) (n0 : Nat) (v : Option Value) (h : Heap) (L : List Loc) : Prop := v = some (.int (f 0 &&& 255)) ∧ Fr n0 L ∧ h0 = h
theorem rm18 (l : Launch) (Z : State) (a0 : Array Value) (hw : ∀ d ∈ tables_1, d.before a0 Z = true) (ws : List Jvm.Cond) (a1 : Addr) (f : Nat → Int32) (h0 : Heap) (n0 : Nat) (Z0 : n0 ≤ h0.size) (A : PA Z h0 a1 .byte 1 f) :
    MetFree l (⟨"java/lang/StringLatin1", "hashCode", "([B)I"⟩ : MethodName) (head1 (Jvm.Cond.code (⟨"java/lang/StringLatin1", "hashCode", "([B)I"⟩ : MethodName) jdk_43_method_21_code 1 (some .int) :: ws) ({ frames := 0, cells := 0, slots := 0, locals := 0 } : Room)) (fun a U => a = #[(.ref a1)] ∧ Z.Warmed39 U.vm ∧ U.heap = h0) (fun _ _ _ _ _ => True) (fun _ U o U' => ∃ v L, o = .returned v ∧ (Q18 Z a1 f h0 n0) v U'.heap L ∧ FrameEnd U o U' L ({ frames := 0, cells := 0, slots := 0, locals := 0 } : Room).cells ({ frames := 0, cells := 0, slots := 0, locals := 0 } : Room).slots) := by
  refine MetFree.of_bodySF pn_18 hisR ?_
  intro p e s m args below meth c s₁ Bd hml0 hP hK
  obtain ⟨rfl, hZ, hh⟩ := hP
  have hx := Bd.exec
  have hby := Bd.bytes
  have hml : c.maxLocals = 1 := hml0
  have hown : s.vm.findClass "java/lang/StringLatin1" = some m.cls := findClass_of_methodNamed Bd.named
  have hnm := (name_of_methodNamed Bd.named Bd.method).1
  have X0 : Stand p l e ({ frames := 0, cells := 0, slots := 0, locals := 0 } : Room) s m #[(.ref a1)] below meth c s₁ [] 0 0 := Stand.of_body Bd
  have e0 : s₁.heap = h0 := by rw [← hh, Bd.state]; rfl
  have N0 := Fr.nil n0
  have lk : meth.locks = false := BodyLoose.notSynchronized Bd
  have hret := Bd.returns
  show Ends p e below (EF s ({ frames := 0, cells := 0, slots := 0, locals := 0 } : Room).cells ({ frames := 0, cells := 0, slots := 0, locals := 0 } : Room).slots) (Q18 Z a1 f h0 n0) (s₁.setTop (entryFrame m #[(.ref a1)] 1))
  refine Ends.cast (ef_18 m a1) ?_
  refine own_aloadN (n := 1) X0 hx (hb hby d18_0) rfl rfl rfl ?_
  refine own_arraylength (n := 2) X0 hx hZ e0 A (v := (1 : Int32)) rfl (hb hby d18_1) rfl ?_
  refine own_lswHit (n := 32) X0 hx (a := 1) (off := 30) (hb hby d18_2) (by decide) (by decide) (by decide) (by decide) ?_
  refine own_aloadN (n := 33) X0 hx (hb hby d18_32) rfl rfl rfl ?_
  refine own_iconst (n := 34) X0 hx (0 : Int32) (hb hby d18_33) rfl rfl ?_
  refine own_baload (n := 35) X0 hx hZ e0 A (i := 0) rfl (by decide) (hb hby d18_34) rfl ?_
  refine own_sipush (n := 38) X0 hx (255 : Int32) (hb hby d18_35) rfl rfl ?_
  refine own_iand (n := 39) X0 hx (hb hby d18_38) rfl ?_
  refine own_goto (n := 51) X0 hx (hb hby d18_39) (by decide) (by decide) ?_
  refine own_retI X0 hx lk hret (hb hby d18_51) (by decide) (by decide) ?_
  rw [e0]
  exact ⟨rfl, N0, rfl⟩
theorem d61_0 : decode jdk_52_method_39_code 0 = .ok (.aload_n 0, 1) := by decide +kernel
theorem d61_1 : decode jdk_52_method_39_code 1 = .ok (.arraylength, 1) := by decide +kernel
theorem d61_2 : decode jdk_52_method_39_code 2 = .ok (.lookupswitch 38 #[(0, 26), (2, 30)], 26) := by decide +kernel
theorem d61_28 : decode jdk_52_method_39_code 28 = .ok (.iconst 0, 1) := by decide +kernel
theorem d61_29 : decode jdk_52_method_39_code 29 = .ok (.goto 22, 3) := by decide +kernel
theorem d61_32 : decode jdk_52_method_39_code 32 = .ok (.aload_n 0, 1) := by decide +kernel
theorem d61_33 : decode jdk_52_method_39_code 33 = .ok (.iconst 0, 1) := by decide +kernel
theorem d61_34 : decode jdk_52_method_39_code 34 = .ok (.invokestatic 71, 3) := by decide +kernel
theorem d61_37 : decode jdk_52_method_39_code 37 = .ok (.goto 14, 3) := by decide +kernel
theorem d61_40 : decode jdk_52_method_39_code 40 = .ok (.aload_n 0, 1) := by decide +kernel
theorem d61_41 : decode jdk_52_method_39_code 41 = .ok (.iconst 0, 1) := by decide +kernel
theorem d61_42 : decode jdk_52_method_39_code 42 = .ok (.aload_n 0, 1) := by decide +kernel
theorem d61_43 : decode jdk_52_method_39_code 43 = .ok (.arraylength, 1) := by decide +kernel
theorem d61_44 : decode jdk_52_method_39_code 44 = .ok (.iconst 1, 1) := by decide +kernel
theorem d61_45 : decode jdk_52_method_39_code 45 = .ok (.ishr, 1) := by decide +kernel
theorem d61_46 : decode jdk_52_method_39_code 46 = .ok (.iconst 0, 1) := by decide +kernel
theorem d61_47 : decode jdk_52_method_39_code 47 = .ok (.iconst 5, 1) := by decide +kernel
theorem d61_48 : decode jdk_52_method_39_code 48 = .ok (.invokestatic 220, 3) := by decide +kernel
theorem d61_51 : decode jdk_52_method_39_code 51 = .ok (.ireturn, 1) := by decide +kernel
theorem pn_61 : plainFor (⟨"java/lang/StringUTF16", "hashCode", "([B)I"⟩ : MethodName) = true := by first | exact plainFor_of_name (by first | (simp [plainName, overriddenIn]; done) | decide +kernel) | decide +kernel
theorem ef_61 (m : MethodId) (a1 : Addr) : entryFrame m #[(.ref a1)] 1 = mkF m 0 #[.val (.ref a1)] [] := by first | (simp [entryFrame, argsToLocals, Value.category, Array.replicate]; done) | rfl
theorem pd_61 : parseMethodDescriptor "([B)I" = some ⟨[(.array .byte)], some .int⟩ := by decide +kernel
def Q61 (Z : State) (a1 : Addr) (f : Nat → Int32) (h0 : Heap) (n0 : Nat) (v : Option Value) (h : Heap) (L : List Loc) : Prop := v = some (.int (GC (f 0) (f 1))) ∧ Fr n0 L ∧ h0 = h
theorem rm61 (l : Launch) (Z : State) (a0 : Array Value) (hw : ∀ d ∈ tables_1, d.before a0 Z = true) (ws : List Jvm.Cond) (a1 : Addr) (f : Nat → Int32) (h0 : Heap) (n0 : Nat) (Z0 : n0 ≤ h0.size) (cs : Int32) (dA pr eL eE : Addr) (TT : STT Z cs dA pr eL eE) (OL : Old Z n0 h0) (A : PA Z h0 a1 .byte 2 f) :
    MetFree l (⟨"java/lang/StringUTF16", "hashCode", "([B)I"⟩ : MethodName) (head1 (Jvm.Cond.code (⟨"java/lang/StringUTF16", "hashCode", "([B)I"⟩ : MethodName) jdk_52_method_39_code 1 (some .int) :: ws) ({ frames := 1, cells := 0, slots := 0, locals := 13 } : Room)) (fun a U => a = #[(.ref a1)] ∧ Z.Warmed39 U.vm ∧ U.heap = h0) (fun _ _ _ _ _ => True) (fun _ U o U' => ∃ v L, o = .returned v ∧ (Q61 Z a1 f h0 n0) v U'.heap L ∧ FrameEnd U o U' L ({ frames := 1, cells := 0, slots := 0, locals := 13 } : Room).cells ({ frames := 1, cells := 0, slots := 0, locals := 13 } : Room).slots) := by
  refine MetFree.of_bodySF pn_61 hisR ?_
  intro p e s m args below meth c s₁ Bd hml0 hP hK
  obtain ⟨rfl, hZ, hh⟩ := hP
  have hx := Bd.exec
  have hby := Bd.bytes
  have hml : c.maxLocals = 1 := hml0
  have hown : s.vm.findClass "java/lang/StringUTF16" = some m.cls := findClass_of_methodNamed Bd.named
  have hnm := (name_of_methodNamed Bd.named Bd.method).1
  have X0 : Stand p l e ({ frames := 1, cells := 0, slots := 0, locals := 13 } : Room) s m #[(.ref a1)] below meth c s₁ [] 0 0 := Stand.of_body Bd
  have e0 : s₁.heap = h0 := by rw [← hh, Bd.state]; rfl
  have N0 := Fr.nil n0
  have lk : meth.locks = false := BodyLoose.notSynchronized Bd
  have hret := Bd.returns
  show Ends p e below (EF s ({ frames := 1, cells := 0, slots := 0, locals := 13 } : Room).cells ({ frames := 1, cells := 0, slots := 0, locals := 13 } : Room).slots) (Q61 Z a1 f h0 n0) (s₁.setTop (entryFrame m #[(.ref a1)] 1))
  refine Ends.cast (ef_61 m a1) ?_
  refine own_aloadN (n := 1) X0 hx (hb hby d61_0) rfl rfl rfl ?_
  refine own_arraylength (n := 2) X0 hx hZ e0 A (v := (2 : Int32)) rfl (hb hby d61_1) rfl ?_
  refine own_lswHit (n := 32) X0 hx (a := 2) (off := 30) (hb hby d61_2) (by decide) (by decide) (by decide) (by decide) ?_
  refine own_aloadN (n := 33) X0 hx (hb hby d61_32) rfl rfl rfl ?_
  refine own_iconst (n := 34) X0 hx (0 : Int32) (hb hby d61_33) rfl rfl ?_
  refine own_callS (n := 37) X0 hx hZ hown (hw _ (List.mem_of_getElem? (i := 406) rfl)) (hw _ (List.mem_of_getElem? (i := 407) rfl)) (hw _ (List.mem_of_getElem? (i := 395) rfl)) (hw _ (List.mem_of_getElem? (i := 408) rfl)) (by decide) e0 (rm62 l Z a0 hw [] a1 0 2 f 0 h0 n0 Z0 cs dA pr eL eE TT OL A rfl (by decide) (by decide)) (W := 0) (by decide) (by decide) (by decide) (by decide) (by rw [hml]; rfl) (argsL := [(.ref a1), (.int (0 : Int32))]) (rest := []) pd_62 rfl (by rfl) (Nat.le_of_eq rfl) (hb hby d61_34) rfl rfl ?_
  intro v1 T1 h1 L1 X1 e1 q1
  obtain ⟨rfl, M1, rfl⟩ := q1
  have N1 := Fr.app N0 M1
  refine own_goto (n := 51) X1 hx (hb hby d61_37) (by decide) (by decide) ?_
  refine own_retI X1 hx lk hret (hb hby d61_51) (by decide) (by decide) ?_
  rw [e1]
  exact ⟨rfl, N1, rfl⟩
theorem d16_0 : decode jdk_42_method_78_code 0 = .ok (.aload_n 0, 1) := by decide +kernel
theorem d16_1 : decode jdk_42_method_78_code 1 = .ok (.getfield 19, 3) := by decide +kernel
theorem d16_4 : decode jdk_42_method_78_code 4 = .ok (.istore_n 1, 1) := by decide +kernel
theorem d16_5 : decode jdk_42_method_78_code 5 = .ok (.iload_n 1, 1) := by decide +kernel
theorem d16_6 : decode jdk_42_method_78_code 6 = .ok (.ifCond .ne 52, 3) := by decide +kernel
theorem d16_9 : decode jdk_42_method_78_code 9 = .ok (.aload_n 0, 1) := by decide +kernel
theorem d16_10 : decode jdk_42_method_78_code 10 = .ok (.getfield 23, 3) := by decide +kernel
theorem d16_13 : decode jdk_42_method_78_code 13 = .ok (.ifCond .ne 45, 3) := by decide +kernel
theorem d16_16 : decode jdk_42_method_78_code 16 = .ok (.aload_n 0, 1) := by decide +kernel
theorem d16_17 : decode jdk_42_method_78_code 17 = .ok (.invokevirtual 492, 3) := by decide +kernel
theorem d16_20 : decode jdk_42_method_78_code 20 = .ok (.ifCond .eq 13, 3) := by decide +kernel
theorem d16_23 : decode jdk_42_method_78_code 23 = .ok (.aload_n 0, 1) := by decide +kernel
theorem d16_24 : decode jdk_42_method_78_code 24 = .ok (.getfield 9, 3) := by decide +kernel
theorem d16_27 : decode jdk_42_method_78_code 27 = .ok (.invokestatic 628, 3) := by decide +kernel
theorem d16_30 : decode jdk_42_method_78_code 30 = .ok (.goto 10, 3) := by decide +kernel
theorem d16_33 : decode jdk_42_method_78_code 33 = .ok (.aload_n 0, 1) := by decide +kernel
theorem d16_34 : decode jdk_42_method_78_code 34 = .ok (.getfield 9, 3) := by decide +kernel
theorem d16_37 : decode jdk_42_method_78_code 37 = .ok (.invokestatic 632, 3) := by decide +kernel
theorem d16_40 : decode jdk_42_method_78_code 40 = .ok (.istore_n 1, 1) := by decide +kernel
theorem d16_41 : decode jdk_42_method_78_code 41 = .ok (.iload_n 1, 1) := by decide +kernel
theorem d16_42 : decode jdk_42_method_78_code 42 = .ok (.ifCond .ne 11, 3) := by decide +kernel
theorem d16_45 : decode jdk_42_method_78_code 45 = .ok (.aload_n 0, 1) := by decide +kernel
theorem d16_46 : decode jdk_42_method_78_code 46 = .ok (.iconst 1, 1) := by decide +kernel
theorem d16_47 : decode jdk_42_method_78_code 47 = .ok (.putfield 23, 3) := by decide +kernel
theorem d16_50 : decode jdk_42_method_78_code 50 = .ok (.goto 8, 3) := by decide +kernel
theorem d16_53 : decode jdk_42_method_78_code 53 = .ok (.aload_n 0, 1) := by decide +kernel
theorem d16_54 : decode jdk_42_method_78_code 54 = .ok (.iload_n 1, 1) := by decide +kernel
theorem d16_55 : decode jdk_42_method_78_code 55 = .ok (.putfield 19, 3) := by decide +kernel
theorem d16_58 : decode jdk_42_method_78_code 58 = .ok (.iload_n 1, 1) := by decide +kernel
theorem d16_59 : decode jdk_42_method_78_code 59 = .ok (.ireturn, 1) := by decide +kernel
theorem pn_16 : plainFor (⟨"java/lang/String", "hashCode", "()I"⟩ : MethodName) = true := by first | exact plainFor_of_name (by first | (simp [plainName, overriddenIn]; done) | decide +kernel) | decide +kernel
theorem ef_16 (m : MethodId) (a1 : Addr) : entryFrame m #[(.ref a1)] 2 = mkF m 0 #[.val (.ref a1), .unset] [] := by first | (simp [entryFrame, argsToLocals, Value.category, Array.replicate]; done) | rfl
theorem pd_16 : parseMethodDescriptor "()I" = some ⟨[], some .int⟩ := by decide +kernel
def Q16 (Z : State) (a1 : Addr) (ch : Int32) (h0 : Heap) (n0 : Nat) (v : Option Value) (h : Heap) (L : List Loc) : Prop := v = some (.int ch) ∧ Fr n0 L ∧ Keep h0 h [a1] ∧ STRK Z h a1 ch
theorem rm16 (l : Launch) (Z : State) (a0 : Array Value) (hw : ∀ d ∈ tables_1, d.before a0 Z = true) (ws : List Jvm.Cond) (a1 : Addr) (ch : Int32) (h0 : Heap) (n0 : Nat) (Z0 : n0 ≤ h0.size) (cs : Int32) (dA pr eL eE : Addr) (TT : STT Z cs dA pr eL eE) (OL : Old Z n0 h0) (S0 : STRK Z h0 a1 ch) (nb : n0 ≤ a1) :
    MetFree l (⟨"java/lang/String", "hashCode", "()I"⟩ : MethodName) (head1 (Jvm.Cond.code (⟨"java/lang/String", "hashCode", "()I"⟩ : MethodName) jdk_42_method_78_code 2 (some .int) :: ws) ({ frames := 2, cells := 0, slots := 0, locals := 25 } : Room)) (fun a U => a = #[(.ref a1)] ∧ Z.Warmed39 U.vm ∧ U.heap = h0) (fun _ _ _ _ _ => True) (fun _ U o U' => ∃ v L, o = .returned v ∧ (Q16 Z a1 ch h0 n0) v U'.heap L ∧ FrameEnd U o U' L ({ frames := 2, cells := 0, slots := 0, locals := 25 } : Room).cells ({ frames := 2, cells := 0, slots := 0, locals := 25 } : Room).slots) := by
  refine MetFree.of_bodySF pn_16 hisR ?_
  intro p e s m args below meth c s₁ Bd hml0 hP hK
  obtain ⟨rfl, hZ, hh⟩ := hP
  have hx := Bd.exec
  have hby := Bd.bytes
  have hml : c.maxLocals = 2 := hml0
  have hown : s.vm.findClass "java/lang/String" = some m.cls := findClass_of_methodNamed Bd.named
  have hnm := (name_of_methodNamed Bd.named Bd.method).1
  have X0 : Stand p l e ({ frames := 2, cells := 0, slots := 0, locals := 25 } : Room) s m #[(.ref a1)] below meth c s₁ [] 0 0 := Stand.of_body Bd
  have e0 : s₁.heap = h0 := by rw [← hh, Bd.state]; rfl
  have N0 := Fr.nil n0
  have lk : meth.locks = false := BodyLoose.notSynchronized Bd
  have hret := Bd.returns
  show Ends p e below (EF s ({ frames := 2, cells := 0, slots := 0, locals := 25 } : Room).cells ({ frames := 2, cells := 0, slots := 0, locals := 25 } : Room).slots) (Q16 Z a1 ch h0 n0) (s₁.setTop (entryFrame m #[(.ref a1)] 2))
  refine Ends.cast (ef_16 m a1) ?_
  obtain ⟨b2, cd, hs, hz, n, f, F0, A, D, H⟩ := S0
  refine own_aloadN (n := 1) X0 hx (hb hby d16_0) rfl rfl rfl ?_
  refine own_getF (n := 4) X0 hx hZ hown (hw _ (List.mem_of_getElem? (i := 104) rfl)) e0 F0.2.2.2.1 (hb hby d16_1) rfl ?_
  intro T1 X1 e1
  refine own_istoreN (n := 5) X1 hx (hb hby d16_4) (l' := #[.val (.ref a1), .val (.int hs)]) rfl rfl ?_
  refine own_iloadN (n := 6) X1 hx (hb hby d16_5) rfl rfl ?_
  by_cases c6 : hs = 0
  · refine own_ifNo (n := 9) X1 hx (hb hby d16_6) (Jvm.Free.XT.i0_ne_f c6) rfl ?_
    refine own_aloadN (n := 10) X1 hx (hb hby d16_9) rfl rfl rfl ?_
    refine own_getF (n := 13) X1 hx hZ hown (hw _ (List.mem_of_getElem? (i := 106) rfl)) e1 F0.2.2.2.2 (hb hby d16_10) rfl ?_
    intro T2 X2 e2
    by_cases c13 : hz = 0
    · refine own_ifNo (n := 16) X2 hx (hb hby d16_13) (Jvm.Free.XT.i0_ne_f c13) rfl ?_
      refine own_aloadN (n := 17) X2 hx (hb hby d16_16) rfl rfl rfl ?_
      refine own_callV (n := 20) X2 hx hZ hown (hw _ (List.mem_of_getElem? (i := 108) rfl)) (hw _ (List.mem_of_getElem? (i := 109) rfl)) (hw _ (List.mem_of_getElem? (i := 111) rfl)) (hw _ (List.mem_of_getElem? (i := 110) rfl)) (hw _ (List.mem_of_getElem? (i := 62) rfl)) (hw _ (List.mem_of_getElem? (i := 112) rfl)) (by decide) e2 F0.1 (rm17 l Z a0 hw [] a1 (.ref b2) cd hs hz h0 n0 Z0 cs dA pr eL eE TT OL F0) (W := 0) (by decide) (by decide) (by decide) (by decide) (by rw [hml]; rfl) (argsL := []) (rest := []) pd_17 rfl (by rfl) (Nat.le_of_eq rfl) (hb hby d16_17) rfl rfl ?_
      intro v3 T3 h3 L3 X3 e3 q3
      obtain ⟨q3, rfl, ra3, rb3, M3, rfl⟩ := q3
      have N3 := Fr.app N0 M3
      by_cases c20 : q3 = 0
      · refine own_ifYes (n := 33) X3 hx (hb hby d16_20) (Jvm.Free.XT.i0_eq_t c20) (by decide) (by decide) ?_
        refine own_aloadN (n := 34) X3 hx (hb hby d16_33) rfl rfl rfl ?_
        refine own_getF (n := 37) X3 hx hZ hown (hw _ (List.mem_of_getElem? (i := 80) rfl)) e3 F0.2.1 (hb hby d16_34) rfl ?_
        intro T4 X4 e4
        obtain ⟨hcd, en, ec⟩ := D.resolve_left (fun z => ra3 z.1 c20)
        have A' : PA Z h0 b2 .byte 2 f := en ▸ A
        refine own_callS (n := 40) X4 hx hZ hown (hw _ (List.mem_of_getElem? (i := 403) rfl)) (hw _ (List.mem_of_getElem? (i := 404) rfl)) (hw _ (List.mem_of_getElem? (i := 395) rfl)) (hw _ (List.mem_of_getElem? (i := 405) rfl)) (by decide) e4 (rm61 l Z a0 hw [] b2 f h0 n0 Z0 cs dA pr eL eE TT OL A') (W := 0) (by decide) (by decide) (by decide) (by decide) (by rw [hml]; rfl) (argsL := [(.ref b2)]) (rest := []) pd_61 rfl (by rfl) (Nat.le_of_eq rfl) (hb hby d16_37) rfl rfl ?_
        intro v5 T5 h5 L5 X5 e5 q5
        obtain ⟨rfl, M5, rfl⟩ := q5
        have N5 := Fr.app N3 M5
        refine own_istoreN (n := 41) X5 hx (hb hby d16_40) (l' := #[.val (.ref a1), .val (.int (GC (f 0) (f 1)))]) rfl rfl ?_
        show Ends p e below (EF s ({ frames := 2, cells := 0, slots := 0, locals := 25 } : Room).cells ({ frames := 2, cells := 0, slots := 0, locals := 25 } : Room).slots) (Q16 Z a1 ch h0 n0) (T5.setTop (mkF m 41 #[.val (.ref a1), .val (.int (GC (f 0) (f 1)))] []))
        generalize g_hv : (GC (f 0) (f 1)) = hv
        refine own_iloadN (n := 42) X5 hx (hb hby d16_41) rfl rfl ?_
        by_cases c42 : hv = 0
        · refine own_ifNo (n := 45) X5 hx (hb hby d16_42) (Jvm.Free.XT.i0_ne_f c42) rfl ?_
          refine own_aloadN (n := 46) X5 hx (hb hby d16_45) rfl rfl rfl ?_
          refine own_iconst (n := 47) X5 hx (1 : Int32) (hb hby d16_46) rfl rfl ?_
          refine own_putF (n := 50) X5 hx hZ hown (hw _ (List.mem_of_getElem? (i := 106) rfl)) e5 F0.2.2.2.2 F0.1 (Or.inl (hw _ (List.mem_of_getElem? (i := 107) rfl))) (hw _ (List.mem_of_getElem? (i := 70) rfl)) (ty := .boolean) (by decide) rfl rfl (hb hby d16_47) rfl ?_
          intro T6 h6 X6 e6 W6
          have N6 := Fr.snoc X6 N5 nb
          have Z6 : n0 ≤ h6.size := Nat.le_trans Z0 (Keep.of_wr W6).1
          have OL6 := OL.wr W6 nb
          have F6_a1 := F0.set_hashIsZero hw W6
          have F6_b2 := A.wrO W6 (Ne.symm (own_neOA F0.1 (hw _ (List.mem_of_getElem? (i := 70) rfl)) A))
          have K6 : Keep h0 h6 [a1] := (Keep.refl h0 [a1]).wr W6 (Or.inl (List.mem_of_getElem? (i := 0) rfl))
          refine own_goto (n := 58) X6 hx (hb hby d16_50) (by decide) (by decide) ?_
          refine own_iloadN (n := 59) X6 hx (hb hby d16_58) rfl rfl ?_
          refine own_retI X6 hx lk hret (hb hby d16_59) (by decide) (by decide) ?_
          rw [e6]
          have e : hv = ch := g_hv.symm.trans ec
          exact ⟨by rw [e], N6, K6, ⟨_, _, _, _, _, _, F6_a1, F6_b2, D, Or.inr (Or.inr ⟨c6, by decide, e.symm.trans c42⟩)⟩⟩
        · refine own_ifYes (n := 53) X5 hx (hb hby d16_42) (Jvm.Free.XT.i0_ne_t c42) (by decide) (by decide) ?_
          refine own_aloadN (n := 54) X5 hx (hb hby d16_53) rfl rfl rfl ?_
          refine own_iloadN (n := 55) X5 hx (hb hby d16_54) rfl rfl ?_
          refine own_putF (n := 58) X5 hx hZ hown (hw _ (List.mem_of_getElem? (i := 104) rfl)) e5 F0.2.2.2.1 F0.1 (Or.inl (hw _ (List.mem_of_getElem? (i := 105) rfl))) (hw _ (List.mem_of_getElem? (i := 70) rfl)) (ty := .int) (by decide) rfl rfl (hb hby d16_55) rfl ?_
          intro T7 h7 X7 e7 W7
          have N7 := Fr.snoc X7 N5 nb
          have Z7 : n0 ≤ h7.size := Nat.le_trans Z0 (Keep.of_wr W7).1
          have OL7 := OL.wr W7 nb
          have F7_a1 := F0.set_hash hw W7
          have F7_b2 := A.wrO W7 (Ne.symm (own_neOA F0.1 (hw _ (List.mem_of_getElem? (i := 70) rfl)) A))
          have K7 : Keep h0 h7 [a1] := (Keep.refl h0 [a1]).wr W7 (Or.inl (List.mem_of_getElem? (i := 0) rfl))
          refine own_iloadN (n := 59) X7 hx (hb hby d16_58) rfl rfl ?_
          refine own_retI X7 hx lk hret (hb hby d16_59) (by decide) (by decide) ?_
          rw [e7]
          have e : hv = ch := g_hv.symm.trans ec
          exact ⟨by rw [e], N7, K7, ⟨_, _, _, _, _, _, F7_a1, F7_b2, D, Or.inr (Or.inl ⟨c42, e⟩)⟩⟩
      · refine own_ifNo (n := 23) X3 hx (hb hby d16_20) (Jvm.Free.XT.i0_eq_f c20) rfl ?_
        refine own_aloadN (n := 24) X3 hx (hb hby d16_23) rfl rfl rfl ?_
        refine own_getF (n := 27) X3 hx hZ hown (hw _ (List.mem_of_getElem? (i := 80) rfl)) e3 F0.2.1 (hb hby d16_24) rfl ?_
        intro T8 X8 e8
        obtain ⟨hcd, en, ec⟩ := D.resolve_right (fun z => c20 (rb3 (fun y => absurd (y.symm.trans z.1) (by decide))))
        have A' : PA Z h0 b2 .byte 1 f := en ▸ A
        refine own_callS (n := 30) X8 hx hZ hown (hw _ (List.mem_of_getElem? (i := 113) rfl)) (hw _ (List.mem_of_getElem? (i := 114) rfl)) (hw _ (List.mem_of_getElem? (i := 67) rfl)) (hw _ (List.mem_of_getElem? (i := 115) rfl)) (by decide) e8 (rm18 l Z a0 hw [] b2 f h0 n0 Z0 A') (W := 0) (by decide) (by decide) (by decide) (by decide) (by rw [hml]; rfl) (argsL := [(.ref b2)]) (rest := []) pd_18 rfl (by rfl) (Nat.le_of_eq rfl) (hb hby d16_27) rfl rfl ?_
        intro v9 T9 h9 L9 X9 e9 q9
        obtain ⟨rfl, M9, rfl⟩ := q9
        have N9 := Fr.app N3 M9
        refine own_goto (n := 40) X9 hx (hb hby d16_30) (by decide) (by decide) ?_
        refine own_istoreN (n := 41) X9 hx (hb hby d16_40) (l' := #[.val (.ref a1), .val (.int (f 0 &&& 255))]) rfl rfl ?_
        show Ends p e below (EF s ({ frames := 2, cells := 0, slots := 0, locals := 25 } : Room).cells ({ frames := 2, cells := 0, slots := 0, locals := 25 } : Room).slots) (Q16 Z a1 ch h0 n0) (T9.setTop (mkF m 41 #[.val (.ref a1), .val (.int (f 0 &&& 255))] []))
        generalize g_hv : (f 0 &&& 255) = hv
        refine own_iloadN (n := 42) X9 hx (hb hby d16_41) rfl rfl ?_
        by_cases c42 : hv = 0
        · refine own_ifNo (n := 45) X9 hx (hb hby d16_42) (Jvm.Free.XT.i0_ne_f c42) rfl ?_
          refine own_aloadN (n := 46) X9 hx (hb hby d16_45) rfl rfl rfl ?_
          refine own_iconst (n := 47) X9 hx (1 : Int32) (hb hby d16_46) rfl rfl ?_
          refine own_putF (n := 50) X9 hx hZ hown (hw _ (List.mem_of_getElem? (i := 106) rfl)) e9 F0.2.2.2.2 F0.1 (Or.inl (hw _ (List.mem_of_getElem? (i := 107) rfl))) (hw _ (List.mem_of_getElem? (i := 70) rfl)) (ty := .boolean) (by decide) rfl rfl (hb hby d16_47) rfl ?_
          intro T10 h10 X10 e10 W10
          have N10 := Fr.snoc X10 N9 nb
          have Z10 : n0 ≤ h10.size := Nat.le_trans Z0 (Keep.of_wr W10).1
          have OL10 := OL.wr W10 nb
          have F10_a1 := F0.set_hashIsZero hw W10
          have F10_b2 := A.wrO W10 (Ne.symm (own_neOA F0.1 (hw _ (List.mem_of_getElem? (i := 70) rfl)) A))
          have K10 : Keep h0 h10 [a1] := (Keep.refl h0 [a1]).wr W10 (Or.inl (List.mem_of_getElem? (i := 0) rfl))
          refine own_goto (n := 58) X10 hx (hb hby d16_50) (by decide) (by decide) ?_
          refine own_iloadN (n := 59) X10 hx (hb hby d16_58) rfl rfl ?_
          refine own_retI X10 hx lk hret (hb hby d16_59) (by decide) (by decide) ?_
          rw [e10]
          have e : hv = ch := g_hv.symm.trans ec
          exact ⟨by rw [e], N10, K10, ⟨_, _, _, _, _, _, F10_a1, F10_b2, D, Or.inr (Or.inr ⟨c6, by decide, e.symm.trans c42⟩)⟩⟩
        · refine own_ifYes (n := 53) X9 hx (hb hby d16_42) (Jvm.Free.XT.i0_ne_t c42) (by decide) (by decide) ?_
          refine own_aloadN (n := 54) X9 hx (hb hby d16_53) rfl rfl rfl ?_
          refine own_iloadN (n := 55) X9 hx (hb hby d16_54) rfl rfl ?_
          refine own_putF (n := 58) X9 hx hZ hown (hw _ (List.mem_of_getElem? (i := 104) rfl)) e9 F0.2.2.2.1 F0.1 (Or.inl (hw _ (List.mem_of_getElem? (i := 105) rfl))) (hw _ (List.mem_of_getElem? (i := 70) rfl)) (ty := .int) (by decide) rfl rfl (hb hby d16_55) rfl ?_
          intro T11 h11 X11 e11 W11
          have N11 := Fr.snoc X11 N9 nb
          have Z11 : n0 ≤ h11.size := Nat.le_trans Z0 (Keep.of_wr W11).1
          have OL11 := OL.wr W11 nb
          have F11_a1 := F0.set_hash hw W11
          have F11_b2 := A.wrO W11 (Ne.symm (own_neOA F0.1 (hw _ (List.mem_of_getElem? (i := 70) rfl)) A))
          have K11 : Keep h0 h11 [a1] := (Keep.refl h0 [a1]).wr W11 (Or.inl (List.mem_of_getElem? (i := 0) rfl))
          refine own_iloadN (n := 59) X11 hx (hb hby d16_58) rfl rfl ?_
          refine own_retI X11 hx lk hret (hb hby d16_59) (by decide) (by decide) ?_
          rw [e11]
          have e : hv = ch := g_hv.symm.trans ec
          exact ⟨by rw [e], N11, K11, ⟨_, _, _, _, _, _, F11_a1, F11_b2, D, Or.inr (Or.inl ⟨c42, e⟩)⟩⟩
    · refine own_ifYes (n := 58) X2 hx (hb hby d16_13) (Jvm.Free.XT.i0_ne_t c13) (by decide) (by decide) ?_
      refine own_iloadN (n := 59) X2 hx (hb hby d16_58) rfl rfl ?_
      refine own_retI X2 hx lk hret (hb hby d16_59) (by decide) (by decide) ?_
      rw [e2]
      have e : ch = 0 := H.elim (fun z => absurd z.2 c13) (fun z => z.elim (fun y => absurd c6 y.1) (fun y => y.2.2))
      exact ⟨by rw [e, c6], N0, (Keep.refl h0 [a1]), ⟨_, _, _, _, _, _, F0, A, D, H⟩⟩
  · refine own_ifYes (n := 58) X1 hx (hb hby d16_6) (Jvm.Free.XT.i0_ne_t c6) (by decide) (by decide) ?_
    refine own_iloadN (n := 59) X1 hx (hb hby d16_58) rfl rfl ?_
    refine own_retI X1 hx lk hret (hb hby d16_59) (by decide) (by decide) ?_
    rw [e1]
    have e : hs = ch := H.elim (fun z => absurd z.1 c6) (fun z => z.elim (fun y => y.2) (fun y => absurd y.1 c6))
    exact ⟨by rw [e], N0, (Keep.refl h0 [a1]), ⟨_, _, _, _, _, _, F0, A, D, H⟩⟩
theorem d15_0 : decode jdk_69_method_1_code 0 = .ok (.aload_n 0, 1) := by decide +kernel
theorem d15_1 : decode jdk_69_method_1_code 1 = .ok (.ifnonnull 7, 3) := by decide +kernel
theorem d15_4 : decode jdk_69_method_1_code 4 = .ok (.iconst 0, 1) := by decide +kernel
theorem d15_5 : decode jdk_69_method_1_code 5 = .ok (.goto 14, 3) := by decide +kernel
theorem d15_8 : decode jdk_69_method_1_code 8 = .ok (.aload_n 0, 1) := by decide +kernel
theorem d15_9 : decode jdk_69_method_1_code 9 = .ok (.invokevirtual 1, 3) := by decide +kernel
theorem d15_12 : decode jdk_69_method_1_code 12 = .ok (.dup, 1) := by decide +kernel
theorem d15_13 : decode jdk_69_method_1_code 13 = .ok (.istore_n 1, 1) := by decide +kernel
theorem d15_14 : decode jdk_69_method_1_code 14 = .ok (.iload_n 1, 1) := by decide +kernel
theorem d15_15 : decode jdk_69_method_1_code 15 = .ok (.bipush 16, 2) := by decide +kernel
theorem d15_17 : decode jdk_69_method_1_code 17 = .ok (.iushr, 1) := by decide +kernel
theorem d15_18 : decode jdk_69_method_1_code 18 = .ok (.ixor, 1) := by decide +kernel
theorem d15_19 : decode jdk_69_method_1_code 19 = .ok (.ireturn, 1) := by decide +kernel
theorem pn_15 : plainFor (⟨"java/util/HashMap", "hash", "(Ljava/lang/Object;)I"⟩ : MethodName) = true := by first | exact plainFor_of_name (by first | (simp [plainName, overriddenIn]; done) | decide +kernel) | decide +kernel
theorem ef_15 (m : MethodId) (a1 : Addr) : entryFrame m #[(.ref a1)] 2 = mkF m 0 #[.val (.ref a1), .unset] [] := by first | (simp [entryFrame, argsToLocals, Value.category, Array.replicate]; done) | rfl
theorem pd_15 : parseMethodDescriptor "(Ljava/lang/Object;)I" = some ⟨[(.object "java/lang/Object")], some .int⟩ := by decide +kernel
def Q15 (Z : State) (a1 : Addr) (ch : Int32) (h0 : Heap) (n0 : Nat) (v : Option Value) (h : Heap) (L : List Loc) : Prop := v = some (.int ch) ∧ Fr n0 L ∧ Keep h0 h [a1] ∧ STRK Z h a1 ch
theorem rm15 (l : Launch) (Z : State) (a0 : Array Value) (hw : ∀ d ∈ tables_1, d.before a0 Z = true) (ws : List Jvm.Cond) (a1 : Addr) (ch : Int32) (h0 : Heap) (n0 : Nat) (Z0 : n0 ≤ h0.size) (cs : Int32) (dA pr eL eE : Addr) (TT : STT Z cs dA pr eL eE) (OL : Old Z n0 h0) (S0 : STRK Z h0 a1 ch) (nb : n0 ≤ a1) (g0 : 0 ≤ ch.toInt) (g1 : ch.toInt ≤ 65535) :
    MetFree l (⟨"java/util/HashMap", "hash", "(Ljava/lang/Object;)I"⟩ : MethodName) (head1 (Jvm.Cond.code (⟨"java/util/HashMap", "hash", "(Ljava/lang/Object;)I"⟩ : MethodName) jdk_69_method_1_code 2 (some .int) :: ws) ({ frames := 3, cells := 0, slots := 0, locals := 38 } : Room)) (fun a U => a = #[(.ref a1)] ∧ Z.Warmed39 U.vm ∧ U.heap = h0) (fun _ _ _ _ _ => True) (fun _ U o U' => ∃ v L, o = .returned v ∧ (Q15 Z a1 ch h0 n0) v U'.heap L ∧ FrameEnd U o U' L ({ frames := 3, cells := 0, slots := 0, locals := 38 } : Room).cells ({ frames := 3, cells := 0, slots := 0, locals := 38 } : Room).slots) := by
  refine MetFree.of_bodySF pn_15 hisR ?_
  intro p e s m args below meth c s₁ Bd hml0 hP hK
  obtain ⟨rfl, hZ, hh⟩ := hP
  have hx := Bd.exec
  have hby := Bd.bytes
  have hml : c.maxLocals = 2 := hml0
  have hown : s.vm.findClass "java/util/HashMap" = some m.cls := findClass_of_methodNamed Bd.named
  have hnm := (name_of_methodNamed Bd.named Bd.method).1
  have X0 : Stand p l e ({ frames := 3, cells := 0, slots := 0, locals := 38 } : Room) s m #[(.ref a1)] below meth c s₁ [] 0 0 := Stand.of_body Bd
  have e0 : s₁.heap = h0 := by rw [← hh, Bd.state]; rfl
  have N0 := Fr.nil n0
  have lk : meth.locks = false := BodyLoose.notSynchronized Bd
  have hret := Bd.returns
  show Ends p e below (EF s ({ frames := 3, cells := 0, slots := 0, locals := 38 } : Room).cells ({ frames := 3, cells := 0, slots := 0, locals := 38 } : Room).slots) (Q15 Z a1 ch h0 n0) (s₁.setTop (entryFrame m #[(.ref a1)] 2))
  refine Ends.cast (ef_15 m a1) ?_
  refine own_aloadN (n := 1) X0 hx (hb hby d15_0) rfl rfl rfl ?_
  refine own_ifnonnullYes (n := 8) X0 hx (hb hby d15_1) rfl (fun z => by cases z) (by decide) (by decide) ?_
  refine own_aloadN (n := 9) X0 hx (hb hby d15_8) rfl rfl rfl ?_
  refine own_callV2 (n := 12) X0 hx hZ hown (hw _ (List.mem_of_getElem? (i := 98) rfl)) (hw _ (List.mem_of_getElem? (i := 99) rfl)) (hw _ (List.mem_of_getElem? (i := 180) rfl)) (hw _ (List.mem_of_getElem? (i := 101) rfl)) (hw _ (List.mem_of_getElem? (i := 102) rfl)) (hw _ (List.mem_of_getElem? (i := 62) rfl)) (hw _ (List.mem_of_getElem? (i := 103) rfl)) (by decide) e0 S0.exa (rm16 l Z a0 hw [] a1 ch h0 n0 Z0 cs dA pr eL eE TT OL S0 nb) (W := 0) (by decide) (by decide) (by decide) (by decide) (by rw [hml]; rfl) (argsL := []) (rest := []) pd_16 rfl (by rfl) (Nat.le_of_eq rfl) (hb hby d15_9) rfl rfl ?_
  intro v1 T1 h1 L1 X1 e1 q1
  obtain ⟨rfl, M1, K1, S1⟩ := q1
  have N1 := Fr.app N0 M1
  refine own_dup (n := 13) X1 hx (hb hby d15_12) rfl rfl ?_
  refine own_istoreN (n := 14) X1 hx (hb hby d15_13) (l' := #[.val (.ref a1), .val (.int ch)]) rfl rfl ?_
  refine own_iloadN (n := 15) X1 hx (hb hby d15_14) rfl rfl ?_
  refine own_bipush (n := 17) X1 hx (16 : Int32) (hb hby d15_15) rfl rfl ?_
  refine own_iushr (n := 18) X1 hx (hb hby d15_17) rfl ?_
  refine own_ixor (n := 19) X1 hx (hb hby d15_18) rfl ?_
  refine own_retI X1 hx lk hret (hb hby d15_19) (by decide) (by decide) ?_
  rw [e1]
  exact ⟨by rw [own_hash g0 g1], N1, K1, S1⟩
def LSTD (Z : State) (h : Heap) (n0 : Nat) (dA ed : Addr) (k : Nat) (key : Nat → Addr) : Prop := (k = 0 ∧ ed = dA) ∨ (1 ≤ k ∧ n0 ≤ ed ∧ ∃ t, RA Z h ed "java/lang/Object" 10 t ∧ (∀ j, j < k → t j = .ref (key j)) ∧ (∀ j, j < 10 → (t j).isRef = true) ∧ Exa Z h ed "[Ljava/lang/Object;")
theorem LSTD.ext {Z : State} {h h' : Heap} {n0 : Nat} {dA ed : Addr} {k : Nat} {key : Nat → Addr} (F : LSTD Z h n0 dA ed k key) (E : Ext h h') : LSTD Z h' n0 dA ed k key := F.elim Or.inl fun ⟨q, r, t, a, b, c, x⟩ => Or.inr ⟨q, r, t, a.ext E, b, c, x.ext E⟩
theorem LSTD.kc {Z : State} {h h' : Heap} {n0 : Nat} {dA ed : Addr} {k : Nat} {key : Nat → Addr} {L : List (String ⊕ FieldType)} (F : LSTD Z h n0 dA ed k key) (K : Kc Z h h' L) (q1 : NoS Z (.inr (.object "java/lang/Object")) L) : LSTD Z h' n0 dA ed k key := F.elim Or.inl fun ⟨q, r, t, a, b, c, x⟩ => Or.inr ⟨q, r, t, a.kc K q1, b, c, exaKc x K⟩
def LST (Z : State) (h : Heap) (n0 : Nat) (dA a : Addr) (k : Nat) (key : Nat → Addr) : Prop := ∃ ed mc, AL Z h a (.ref ed) (Nat.toInt32 k) mc ∧ LSTD Z h n0 dA ed k key
theorem LST.exa {Z : State} {h : Heap} {n0 : Nat} {dA a : Addr} {k : Nat} {key : Nat → Addr} (F : LST Z h n0 dA a k key) : Exa Z h a "java/util/ArrayList" := by
  obtain ⟨ed, mc, q, -⟩ := F
  exact q.1
theorem LST.ext {Z : State} {h h' : Heap} {n0 : Nat} {dA a : Addr} {k : Nat} {key : Nat → Addr} (F : LST Z h n0 dA a k key) (E : Ext h h') : LST Z h' n0 dA a k key := by
  obtain ⟨ed, mc, q, r⟩ := F
  exact ⟨ed, mc, q.ext E, r.ext E⟩
theorem LST.kc {Z : State} {h h' : Heap} {n0 : Nat} {dA a : Addr} {k : Nat} {key : Nat → Addr} {L : List (String ⊕ FieldType)} (F : LST Z h n0 dA a k key) (K : Kc Z h h' L) (q0 : NoS Z (.inl "java/util/ArrayList") L) (q1 : NoS Z (.inr (.object "java/lang/Object")) L) : LST Z h' n0 dA a k key := by
  obtain ⟨ed, mc, q, r⟩ := F
  exact ⟨ed, mc, q.kc K q0, r.kc K q1⟩
theorem own_succ {k : Nat} (h : k < 1000) : Nat.toInt32 k + 1 = Nat.toInt32 (k + 1) := own_inj (by rw [own_add1 (len_toInt (by omega)) (by omega), len_toInt (by omega)])
theorem d38_0 : decode jdk_29_method_65_code 0 = .ok (.iload_n 0, 1) := by decide +kernel
theorem d38_1 : decode jdk_29_method_65_code 1 = .ok (.iload_n 1, 1) := by decide +kernel
theorem d38_2 : decode jdk_29_method_65_code 2 = .ok (.if_icmp .lt 7, 3) := by decide +kernel
theorem d38_5 : decode jdk_29_method_65_code 5 = .ok (.iload_n 0, 1) := by decide +kernel
theorem d38_6 : decode jdk_29_method_65_code 6 = .ok (.goto 4, 3) := by decide +kernel
theorem d38_9 : decode jdk_29_method_65_code 9 = .ok (.iload_n 1, 1) := by decide +kernel
theorem d38_10 : decode jdk_29_method_65_code 10 = .ok (.ireturn, 1) := by decide +kernel
theorem pn_38 : plainFor (⟨"java/lang/Math", "max", "(II)I"⟩ : MethodName) = true := by first | exact plainFor_of_name (by first | (simp [plainName, overriddenIn]; done) | decide +kernel) | decide +kernel
theorem ef_38 (m : MethodId) (p1 : Int32) (p2 : Int32) : entryFrame m #[(.int p1), (.int p2)] 2 = mkF m 0 #[.val (.int p1), .val (.int p2)] [] := by first | (simp [entryFrame, argsToLocals, Value.category, Array.replicate]; done) | rfl
theorem pd_38 : parseMethodDescriptor "(II)I" = some ⟨[.int, .int], some .int⟩ := by decide +kernel
def Q38 (Z : State) (p1 : Int32) (p2 : Int32)  (h0 : Heap) (n0 : Nat) (v : Option Value) (h : Heap) (L : List Loc) : Prop := v = some (.int p1) ∧ Fr n0 L ∧ h0 = h
theorem rm38 (l : Launch) (Z : State) (a0 : Array Value) (hw : ∀ d ∈ tables_1, d.before a0 Z = true) (ws : List Jvm.Cond) (p1 : Int32) (p2 : Int32)  (h0 : Heap) (n0 : Nat) (Z0 : n0 ≤ h0.size) (q1 : ¬ p1 < p2) :
    MetFree l (⟨"java/lang/Math", "max", "(II)I"⟩ : MethodName) (head1 (Jvm.Cond.code (⟨"java/lang/Math", "max", "(II)I"⟩ : MethodName) jdk_29_method_65_code 2 (some .int) :: ws) ({ frames := 0, cells := 0, slots := 0, locals := 0 } : Room)) (fun a U => a = #[(.int p1), (.int p2)] ∧ Z.Warmed39 U.vm ∧ U.heap = h0) (fun _ _ _ _ _ => True) (fun _ U o U' => ∃ v L, o = .returned v ∧ (Q38 Z p1 p2  h0 n0) v U'.heap L ∧ FrameEnd U o U' L ({ frames := 0, cells := 0, slots := 0, locals := 0 } : Room).cells ({ frames := 0, cells := 0, slots := 0, locals := 0 } : Room).slots) := by
  refine MetFree.of_bodySF pn_38 hisR ?_
  intro p e s m args below meth c s₁ Bd hml0 hP hK
  obtain ⟨rfl, hZ, hh⟩ := hP
  have hx := Bd.exec
  have hby := Bd.bytes
  have hml : c.maxLocals = 2 := hml0
  have hown : s.vm.findClass "java/lang/Math" = some m.cls := findClass_of_methodNamed Bd.named
  have hnm := (name_of_methodNamed Bd.named Bd.method).1
  have X0 : Stand p l e ({ frames := 0, cells := 0, slots := 0, locals := 0 } : Room) s m #[(.int p1), (.int p2)] below meth c s₁ [] 0 0 := Stand.of_body Bd
  have e0 : s₁.heap = h0 := by rw [← hh, Bd.state]; rfl
  have N0 := Fr.nil n0
  have lk : meth.locks = false := BodyLoose.notSynchronized Bd
  have hret := Bd.returns
  show Ends p e below (EF s ({ frames := 0, cells := 0, slots := 0, locals := 0 } : Room).cells ({ frames := 0, cells := 0, slots := 0, locals := 0 } : Room).slots) (Q38 Z p1 p2  h0 n0) (s₁.setTop (entryFrame m #[(.int p1), (.int p2)] 2))
  refine Ends.cast (ef_38 m p1 p2) ?_
  refine own_iloadN (n := 1) X0 hx (hb hby d38_0) rfl rfl ?_
  refine own_iloadN (n := 2) X0 hx (hb hby d38_1) rfl rfl ?_
  refine own_icmpNo (n := 5) X0 hx (hb hby d38_2) (Jvm.Free.XT.ii_lt_f q1) rfl ?_
  refine own_iloadN (n := 6) X0 hx (hb hby d38_5) rfl rfl ?_
  refine own_goto (n := 10) X0 hx (hb hby d38_6) (by decide) (by decide) ?_
  refine own_retI X0 hx lk hret (hb hby d38_10) (by decide) (by decide) ?_
  rw [e0]
  exact ⟨rfl, N0, rfl⟩
theorem d42_0 : decode jdk_29_method_69_code 0 = .ok (.iload_n 0, 1) := by decide +kernel
theorem d42_1 : decode jdk_29_method_69_code 1 = .ok (.iload_n 1, 1) := by decide +kernel
theorem d42_2 : decode jdk_29_method_69_code 2 = .ok (.if_icmp .gt 7, 3) := by decide +kernel
theorem d42_5 : decode jdk_29_method_69_code 5 = .ok (.iload_n 0, 1) := by decide +kernel
theorem d42_6 : decode jdk_29_method_69_code 6 = .ok (.goto 4, 3) := by decide +kernel
theorem d42_9 : decode jdk_29_method_69_code 9 = .ok (.iload_n 1, 1) := by decide +kernel
theorem d42_10 : decode jdk_29_method_69_code 10 = .ok (.ireturn, 1) := by decide +kernel
theorem pn_42 : plainFor (⟨"java/lang/Math", "min", "(II)I"⟩ : MethodName) = true := by first | exact plainFor_of_name (by first | (simp [plainName, overriddenIn]; done) | decide +kernel) | decide +kernel
theorem ef_42 (m : MethodId) (p1 : Int32) (p2 : Int32) : entryFrame m #[(.int p1), (.int p2)] 2 = mkF m 0 #[.val (.int p1), .val (.int p2)] [] := by first | (simp [entryFrame, argsToLocals, Value.category, Array.replicate]; done) | rfl
theorem pd_42 : parseMethodDescriptor "(II)I" = some ⟨[.int, .int], some .int⟩ := by decide +kernel
def Q42 (Z : State) (p1 : Int32) (p2 : Int32)  (h0 : Heap) (n0 : Nat) (v : Option Value) (h : Heap) (L : List Loc) : Prop := v = some (.int (if p2 < p1 then p2 else p1)) ∧ Fr n0 L ∧ h0 = h
theorem rm42 (l : Launch) (Z : State) (a0 : Array Value) (hw : ∀ d ∈ tables_1, d.before a0 Z = true) (ws : List Jvm.Cond) (p1 : Int32) (p2 : Int32)  (h0 : Heap) (n0 : Nat) (Z0 : n0 ≤ h0.size)  :
    MetFree l (⟨"java/lang/Math", "min", "(II)I"⟩ : MethodName) (head1 (Jvm.Cond.code (⟨"java/lang/Math", "min", "(II)I"⟩ : MethodName) jdk_29_method_69_code 2 (some .int) :: ws) ({ frames := 0, cells := 0, slots := 0, locals := 0 } : Room)) (fun a U => a = #[(.int p1), (.int p2)] ∧ Z.Warmed39 U.vm ∧ U.heap = h0) (fun _ _ _ _ _ => True) (fun _ U o U' => ∃ v L, o = .returned v ∧ (Q42 Z p1 p2  h0 n0) v U'.heap L ∧ FrameEnd U o U' L ({ frames := 0, cells := 0, slots := 0, locals := 0 } : Room).cells ({ frames := 0, cells := 0, slots := 0, locals := 0 } : Room).slots) := by
  refine MetFree.of_bodySF pn_42 hisR ?_
  intro p e s m args below meth c s₁ Bd hml0 hP hK
  obtain ⟨rfl, hZ, hh⟩ := hP
  have hx := Bd.exec
  have hby := Bd.bytes
  have hml : c.maxLocals = 2 := hml0
  have hown : s.vm.findClass "java/lang/Math" = some m.cls := findClass_of_methodNamed Bd.named
  have hnm := (name_of_methodNamed Bd.named Bd.method).1
  have X0 : Stand p l e ({ frames := 0, cells := 0, slots := 0, locals := 0 } : Room) s m #[(.int p1), (.int p2)] below meth c s₁ [] 0 0 := Stand.of_body Bd
  have e0 : s₁.heap = h0 := by rw [← hh, Bd.state]; rfl
  have N0 := Fr.nil n0
  have lk : meth.locks = false := BodyLoose.notSynchronized Bd
  have hret := Bd.returns
  show Ends p e below (EF s ({ frames := 0, cells := 0, slots := 0, locals := 0 } : Room).cells ({ frames := 0, cells := 0, slots := 0, locals := 0 } : Room).slots) (Q42 Z p1 p2  h0 n0) (s₁.setTop (entryFrame m #[(.int p1), (.int p2)] 2))
  refine Ends.cast (ef_42 m p1 p2) ?_
  refine own_iloadN (n := 1) X0 hx (hb hby d42_0) rfl rfl ?_
  refine own_iloadN (n := 2) X0 hx (hb hby d42_1) rfl rfl ?_
  by_cases c2 : p2 < p1
  · refine own_icmpYes (n := 9) X0 hx (hb hby d42_2) (Jvm.Free.XT.ii_gt_t c2) (by decide) (by decide) ?_
    refine own_iloadN (n := 10) X0 hx (hb hby d42_9) rfl rfl ?_
    refine own_retI X0 hx lk hret (hb hby d42_10) (by decide) (by decide) ?_
    rw [e0]
    exact ⟨by rw [if_pos c2], N0, rfl⟩
  · refine own_icmpNo (n := 5) X0 hx (hb hby d42_2) (Jvm.Free.XT.ii_gt_f c2) rfl ?_
    refine own_iloadN (n := 6) X0 hx (hb hby d42_5) rfl rfl ?_
    refine own_goto (n := 10) X0 hx (hb hby d42_6) (by decide) (by decide) ?_
    refine own_retI X0 hx lk hret (hb hby d42_10) (by decide) (by decide) ?_
    rw [e0]
    exact ⟨by rw [if_neg c2], N0, rfl⟩
theorem d37_0 : decode jdk_38_method_6_code 0 = .ok (.aload_n 0, 1) := by decide +kernel
theorem d37_1 : decode jdk_38_method_6_code 1 = .ok (.getfield 9, 3) := by decide +kernel
theorem d37_4 : decode jdk_38_method_6_code 4 = .ok (.arraylength, 1) := by decide +kernel
theorem d37_5 : decode jdk_38_method_6_code 5 = .ok (.istore_n 2, 1) := by decide +kernel
theorem d37_6 : decode jdk_38_method_6_code 6 = .ok (.iload_n 2, 1) := by decide +kernel
theorem d37_7 : decode jdk_38_method_6_code 7 = .ok (.ifCond .gt 13, 3) := by decide +kernel
theorem d37_10 : decode jdk_38_method_6_code 10 = .ok (.aload_n 0, 1) := by decide +kernel
theorem d37_11 : decode jdk_38_method_6_code 11 = .ok (.getfield 9, 3) := by decide +kernel
theorem d37_14 : decode jdk_38_method_6_code 14 = .ok (.getstatic 39, 3) := by decide +kernel
theorem d37_17 : decode jdk_38_method_6_code 17 = .ok (.if_acmp .eq 28, 3) := by decide +kernel
theorem d37_20 : decode jdk_38_method_6_code 20 = .ok (.iload_n 2, 1) := by decide +kernel
theorem d37_21 : decode jdk_38_method_6_code 21 = .ok (.iload_n 1, 1) := by decide +kernel
theorem d37_22 : decode jdk_38_method_6_code 22 = .ok (.iload_n 2, 1) := by decide +kernel
theorem d37_23 : decode jdk_38_method_6_code 23 = .ok (.isub, 1) := by decide +kernel
theorem d37_24 : decode jdk_38_method_6_code 24 = .ok (.iload_n 2, 1) := by decide +kernel
theorem d37_25 : decode jdk_38_method_6_code 25 = .ok (.iconst 1, 1) := by decide +kernel
theorem d37_26 : decode jdk_38_method_6_code 26 = .ok (.ishr, 1) := by decide +kernel
theorem d37_27 : decode jdk_38_method_6_code 27 = .ok (.invokestatic 73, 3) := by decide +kernel
theorem d37_30 : decode jdk_38_method_6_code 30 = .ok (.istore_n 3, 1) := by decide +kernel
theorem d37_31 : decode jdk_38_method_6_code 31 = .ok (.aload_n 0, 1) := by decide +kernel
theorem d37_32 : decode jdk_38_method_6_code 32 = .ok (.aload_n 0, 1) := by decide +kernel
theorem d37_33 : decode jdk_38_method_6_code 33 = .ok (.getfield 9, 3) := by decide +kernel
theorem d37_36 : decode jdk_38_method_6_code 36 = .ok (.iload_n 3, 1) := by decide +kernel
theorem d37_37 : decode jdk_38_method_6_code 37 = .ok (.invokestatic 66, 3) := by decide +kernel
theorem d37_40 : decode jdk_38_method_6_code 40 = .ok (.dup_x1, 1) := by decide +kernel
theorem d37_41 : decode jdk_38_method_6_code 41 = .ok (.putfield 9, 3) := by decide +kernel
theorem d37_44 : decode jdk_38_method_6_code 44 = .ok (.areturn, 1) := by decide +kernel
theorem d37_45 : decode jdk_38_method_6_code 45 = .ok (.aload_n 0, 1) := by decide +kernel
theorem d37_46 : decode jdk_38_method_6_code 46 = .ok (.bipush 10, 2) := by decide +kernel
theorem d37_48 : decode jdk_38_method_6_code 48 = .ok (.iload_n 1, 1) := by decide +kernel
theorem d37_49 : decode jdk_38_method_6_code 49 = .ok (.invokestatic 79, 3) := by decide +kernel
theorem d37_52 : decode jdk_38_method_6_code 52 = .ok (.anewarray 7, 3) := by decide +kernel
theorem d37_55 : decode jdk_38_method_6_code 55 = .ok (.dup_x1, 1) := by decide +kernel
theorem d37_56 : decode jdk_38_method_6_code 56 = .ok (.putfield 9, 3) := by decide +kernel
theorem d37_59 : decode jdk_38_method_6_code 59 = .ok (.areturn, 1) := by decide +kernel
theorem pn_37 : plainFor (⟨"java/util/ArrayList", "grow", "(I)[Ljava/lang/Object;"⟩ : MethodName) = true := by first | exact plainFor_of_name (by first | (simp [plainName, overriddenIn]; done) | decide +kernel) | decide +kernel
theorem ef_37 (m : MethodId) (a1 : Addr) (p2 : Int32) : entryFrame m #[(.ref a1), (.int p2)] 4 = mkF m 0 #[.val (.ref a1), .val (.int p2), .unset, .unset] [] := by first | (simp [entryFrame, argsToLocals, Value.category, Array.replicate]; done) | rfl
theorem pd_37 : parseMethodDescriptor "(I)[Ljava/lang/Object;" = some ⟨[.int], some (.array (.object "java/lang/Object"))⟩ := by decide +kernel
def Q37 (Z : State) (a1 : Addr) (p2 : Int32) (dA : Addr) (sz : Int32) (mc : Int32) (h0 : Heap) (n0 : Nat) (v : Option Value) (h : Heap) (L : List Loc) : Prop := ∃ ed, v = some (.ref ed) ∧ Fr n0 L ∧ Keep h0 h [a1] ∧ AL Z h a1 (.ref ed) sz mc ∧ RA Z h ed "java/lang/Object" 10 (fun _ => .null) ∧ h0.size ≤ ed ∧ Exa Z h ed "[Ljava/lang/Object;"
theorem rm37 (l : Launch) (Z : State) (a0 : Array Value) (hw : ∀ d ∈ tables_1, d.before a0 Z = true) (ws : List Jvm.Cond) (a1 : Addr) (p2 : Int32) (dA : Addr) (sz : Int32) (mc : Int32) (h0 : Heap) (n0 : Nat) (Z0 : n0 ≤ h0.size) (cs : Int32) (pr eL eE : Addr) (TT : STT Z cs dA pr eL eE) (OL : Old Z n0 h0) (F0 : AL Z h0 a1 (.ref dA) sz mc) (nb : n0 ≤ a1) (hp : ¬ (10 : Int32) < p2) :
    MetFree l (⟨"java/util/ArrayList", "grow", "(I)[Ljava/lang/Object;"⟩ : MethodName) (head1 (Jvm.Cond.code (⟨"java/util/ArrayList", "grow", "(I)[Ljava/lang/Object;"⟩ : MethodName) jdk_38_method_6_code 4 (some (.array (.object "java/lang/Object"))) :: ws) ({ frames := 1, cells := 1, slots := 10, locals := 14 } : Room)) (fun a U => a = #[(.ref a1), (.int p2)] ∧ Z.Warmed39 U.vm ∧ U.heap = h0) (fun _ _ _ _ _ => True) (fun _ U o U' => ∃ v L, o = .returned v ∧ (Q37 Z a1 p2 dA sz mc h0 n0) v U'.heap L ∧ FrameEnd U o U' L ({ frames := 1, cells := 1, slots := 10, locals := 14 } : Room).cells ({ frames := 1, cells := 1, slots := 10, locals := 14 } : Room).slots) := by
  refine MetFree.of_bodySF pn_37 hisR ?_
  intro p e s m args below meth c s₁ Bd hml0 hP hK
  obtain ⟨rfl, hZ, hh⟩ := hP
  have hx := Bd.exec
  have hby := Bd.bytes
  have hml : c.maxLocals = 4 := hml0
  have hown : s.vm.findClass "java/util/ArrayList" = some m.cls := findClass_of_methodNamed Bd.named
  have hnm := (name_of_methodNamed Bd.named Bd.method).1
  have X0 : Stand p l e ({ frames := 1, cells := 1, slots := 10, locals := 14 } : Room) s m #[(.ref a1), (.int p2)] below meth c s₁ [] 0 0 := Stand.of_body Bd
  have e0 : s₁.heap = h0 := by rw [← hh, Bd.state]; rfl
  have N0 := Fr.nil n0
  have lk : meth.locks = false := BodyLoose.notSynchronized Bd
  have hret := Bd.returns
  show Ends p e below (EF s ({ frames := 1, cells := 1, slots := 10, locals := 14 } : Room).cells ({ frames := 1, cells := 1, slots := 10, locals := 14 } : Room).slots) (Q37 Z a1 p2 dA sz mc h0 n0) (s₁.setTop (entryFrame m #[(.ref a1), (.int p2)] 4))
  refine Ends.cast (ef_37 m a1 p2) ?_
  have VD := TT.2.1.ext OL.2
  refine own_aloadN (n := 1) X0 hx (hb hby d37_0) rfl rfl rfl ?_
  refine own_getF (n := 4) X0 hx hZ hown (hw _ (List.mem_of_getElem? (i := 25) rfl)) e0 F0.2.1 (hb hby d37_1) rfl ?_
  intro T1 X1 e1
  refine own_arraylength (n := 5) X1 hx hZ e1 VD (v := (0 : Int32)) rfl (hb hby d37_4) rfl ?_
  refine own_istoreN (n := 6) X1 hx (hb hby d37_5) (l' := #[.val (.ref a1), .val (.int p2), .val (.int (0 : Int32)), .unset]) rfl rfl ?_
  refine own_iloadN (n := 7) X1 hx (hb hby d37_6) rfl rfl ?_
  refine own_ifNo (n := 10) X1 hx (hb hby d37_7) (Jvm.Free.XT.i0_gt_f (by decide)) rfl ?_
  refine own_aloadN (n := 11) X1 hx (hb hby d37_10) rfl rfl rfl ?_
  refine own_getF (n := 14) X1 hx hZ hown (hw _ (List.mem_of_getElem? (i := 25) rfl)) e1 F0.2.1 (hb hby d37_11) rfl ?_
  intro T2 X2 e2
  refine own_getS (n := 17) X2 hx hZ hown (hw _ (List.mem_of_getElem? (i := 24) rfl)) e2 (TT.2.2.2.2.2.2.1.ext OL.2) (hb hby d37_14) rfl ?_
  intro T3 X3 e3
  refine own_acmpYes (n := 45) X3 hx (hb hby d37_17) rfl rfl (Jvm.Free.XT.aa_eq_t rfl) (by decide) (by decide) ?_
  refine own_aloadN (n := 46) X3 hx (hb hby d37_45) rfl rfl rfl ?_
  refine own_bipush (n := 48) X3 hx (10 : Int32) (hb hby d37_46) rfl rfl ?_
  refine own_iloadN (n := 49) X3 hx (hb hby d37_48) rfl rfl ?_
  refine own_callS (n := 52) X3 hx hZ hown (hw _ (List.mem_of_getElem? (i := 256) rfl)) (hw _ (List.mem_of_getElem? (i := 257) rfl)) (hw _ (List.mem_of_getElem? (i := 258) rfl)) (hw _ (List.mem_of_getElem? (i := 259) rfl)) (by decide) e3 (rm38 l Z a0 hw [] (10 : Int32) p2 h0 n0 Z0 hp) (W := 1) (by decide) (by decide) (by decide) (by decide) (by rw [hml]; rfl) (argsL := [(.int (10 : Int32)), (.int p2)]) (rest := [(.ref a1)]) pd_38 rfl (by rfl) (Nat.le_of_eq rfl) (hb hby d37_49) rfl rfl ?_
  intro v4 T4 h4 L4 X4 e4 q4
  obtain ⟨rfl, M4, rfl⟩ := q4
  have N4 := Fr.app N0 M4
  refine own_newRE (n := 55) X4 hx hZ hown (hw _ (List.mem_of_getElem? (i := 260) rfl)) (hw _ (List.mem_of_getElem? (i := 261) rfl)) (ad := "[Ljava/lang/Object;") (by decide) e4 (i := 10) (cap := 10) rfl (by decide) (by decide) (by decide) (by decide) (hb hby d37_52) rfl ?_
  intro T5 h5 b5 X5 e5 g5 E5 A5 XA5
  have Z5 : n0 ≤ h5.size := Nat.le_trans Z0 E5.1
  have nb_b5 : n0 ≤ b5 := Nat.le_trans Z0 (Nat.le_of_eq g5.symm)
  have OL5 := OL.ext E5
  have ne_a1_b5 : a1 ≠ b5 := Nat.ne_of_lt (Nat.lt_of_lt_of_le F0.lt (Nat.le_of_eq g5.symm))
  have F5_a1 := F0.ext E5
  have ne_dA_b5 : dA ≠ b5 := Nat.ne_of_lt (Nat.lt_of_lt_of_le VD.lt (Nat.le_of_eq g5.symm))
  have F5_dA := VD.ext E5
  have K5 : Keep h0 h5 [a1] := (Keep.refl h0 [a1]).ext E5
  have big_b5 : h0.size ≤ b5 := Nat.le_trans (Keep.refl h0 [a1]).1 (Nat.le_of_eq g5.symm)
  refine own_dup_x1 (n := 56) X5 hx (hb hby d37_55) rfl rfl rfl ?_
  refine own_putF (n := 59) X5 hx hZ hown (hw _ (List.mem_of_getElem? (i := 25) rfl)) e5 F5_a1.2.1 F5_a1.1 (Or.inl (hw _ (List.mem_of_getElem? (i := 26) rfl))) (hw _ (List.mem_of_getElem? (i := 2) rfl)) (ty := (.array (.object "java/lang/Object"))) (by decide) rfl rfl (hb hby d37_56) rfl ?_
  intro T6 h6 X6 e6 W6
  have N6 := Fr.snoc X6 N4 nb
  have Z6 : n0 ≤ h6.size := Nat.le_trans Z5 (Keep.of_wr W6).1
  have OL6 := OL5.wr W6 nb
  have F6_a1 := F5_a1.set_elementData hw W6
  have F6_dA := F5_dA.wrO W6 (Ne.symm (own_neOA F5_a1.1 (hw _ (List.mem_of_getElem? (i := 2) rfl)) F5_dA))
  have F6_b5 := A5.wrO W6 (Ne.symm ne_a1_b5)
  have G6_xa := XA5.wr W6
  have K6 : Keep h0 h6 [a1] := K5.wr W6 (Or.inl (List.mem_of_getElem? (i := 0) rfl))
  refine own_retA X6 hx lk hret rfl rfl (hb hby d37_59) (by decide) (by decide) ?_
  rw [e6]
  exact ⟨_, rfl, N6, K6, F6_a1, F6_b5, big_b5, G6_xa⟩
theorem d36_0 : decode jdk_38_method_7_code 0 = .ok (.aload_n 0, 1) := by decide +kernel
theorem d36_1 : decode jdk_38_method_7_code 1 = .ok (.aload_n 0, 1) := by decide +kernel
theorem d36_2 : decode jdk_38_method_7_code 2 = .ok (.getfield 48, 3) := by decide +kernel
theorem d36_5 : decode jdk_38_method_7_code 5 = .ok (.iconst 1, 1) := by decide +kernel
theorem d36_6 : decode jdk_38_method_7_code 6 = .ok (.iadd, 1) := by decide +kernel
theorem d36_7 : decode jdk_38_method_7_code 7 = .ok (.invokevirtual 69, 3) := by decide +kernel
theorem d36_10 : decode jdk_38_method_7_code 10 = .ok (.areturn, 1) := by decide +kernel
theorem pn_36 : plainFor (⟨"java/util/ArrayList", "grow", "()[Ljava/lang/Object;"⟩ : MethodName) = true := by first | exact plainFor_of_name (by first | (simp [plainName, overriddenIn]; done) | decide +kernel) | decide +kernel
theorem ef_36 (m : MethodId) (a1 : Addr) : entryFrame m #[(.ref a1)] 1 = mkF m 0 #[.val (.ref a1)] [] := by first | (simp [entryFrame, argsToLocals, Value.category, Array.replicate]; done) | rfl
theorem pd_36 : parseMethodDescriptor "()[Ljava/lang/Object;" = some ⟨[], some (.array (.object "java/lang/Object"))⟩ := by decide +kernel
def Q36 (Z : State) (a1 : Addr) (dA : Addr) (sz : Int32) (mc : Int32) (h0 : Heap) (n0 : Nat) (v : Option Value) (h : Heap) (L : List Loc) : Prop := ∃ ed, v = some (.ref ed) ∧ Fr n0 L ∧ Keep h0 h [a1] ∧ AL Z h a1 (.ref ed) sz mc ∧ RA Z h ed "java/lang/Object" 10 (fun _ => .null) ∧ h0.size ≤ ed ∧ Exa Z h ed "[Ljava/lang/Object;"
theorem rm36 (l : Launch) (Z : State) (a0 : Array Value) (hw : ∀ d ∈ tables_1, d.before a0 Z = true) (ws : List Jvm.Cond) (a1 : Addr) (dA : Addr) (sz : Int32) (mc : Int32) (h0 : Heap) (n0 : Nat) (Z0 : n0 ≤ h0.size) (cs : Int32) (pr eL eE : Addr) (TT : STT Z cs dA pr eL eE) (OL : Old Z n0 h0) (F0 : AL Z h0 a1 (.ref dA) sz mc) (nb : n0 ≤ a1) (hp : ¬ (10 : Int32) < sz + 1) :
    MetFree l (⟨"java/util/ArrayList", "grow", "()[Ljava/lang/Object;"⟩ : MethodName) (head1 (Jvm.Cond.code (⟨"java/util/ArrayList", "grow", "()[Ljava/lang/Object;"⟩ : MethodName) jdk_38_method_7_code 1 (some (.array (.object "java/lang/Object"))) :: ws) ({ frames := 2, cells := 1, slots := 10, locals := 29 } : Room)) (fun a U => a = #[(.ref a1)] ∧ Z.Warmed39 U.vm ∧ U.heap = h0) (fun _ _ _ _ _ => True) (fun _ U o U' => ∃ v L, o = .returned v ∧ (Q36 Z a1 dA sz mc h0 n0) v U'.heap L ∧ FrameEnd U o U' L ({ frames := 2, cells := 1, slots := 10, locals := 29 } : Room).cells ({ frames := 2, cells := 1, slots := 10, locals := 29 } : Room).slots) := by
  refine MetFree.of_bodySF pn_36 hisR ?_
  intro p e s m args below meth c s₁ Bd hml0 hP hK
  obtain ⟨rfl, hZ, hh⟩ := hP
  have hx := Bd.exec
  have hby := Bd.bytes
  have hml : c.maxLocals = 1 := hml0
  have hown : s.vm.findClass "java/util/ArrayList" = some m.cls := findClass_of_methodNamed Bd.named
  have hnm := (name_of_methodNamed Bd.named Bd.method).1
  have X0 : Stand p l e ({ frames := 2, cells := 1, slots := 10, locals := 29 } : Room) s m #[(.ref a1)] below meth c s₁ [] 0 0 := Stand.of_body Bd
  have e0 : s₁.heap = h0 := by rw [← hh, Bd.state]; rfl
  have N0 := Fr.nil n0
  have lk : meth.locks = false := BodyLoose.notSynchronized Bd
  have hret := Bd.returns
  show Ends p e below (EF s ({ frames := 2, cells := 1, slots := 10, locals := 29 } : Room).cells ({ frames := 2, cells := 1, slots := 10, locals := 29 } : Room).slots) (Q36 Z a1 dA sz mc h0 n0) (s₁.setTop (entryFrame m #[(.ref a1)] 1))
  refine Ends.cast (ef_36 m a1) ?_
  refine own_aloadN (n := 1) X0 hx (hb hby d36_0) rfl rfl rfl ?_
  refine own_aloadN (n := 2) X0 hx (hb hby d36_1) rfl rfl rfl ?_
  refine own_getF (n := 5) X0 hx hZ hown (hw _ (List.mem_of_getElem? (i := 191) rfl)) e0 F0.2.2.1 (hb hby d36_2) rfl ?_
  intro T1 X1 e1
  refine own_iconst (n := 6) X1 hx (1 : Int32) (hb hby d36_5) rfl rfl ?_
  refine own_iadd (n := 7) X1 hx (hb hby d36_6) rfl ?_
  refine own_callP (n := 10) X1 hx hZ hown (hw _ (List.mem_of_getElem? (i := 251) rfl)) (hw _ (List.mem_of_getElem? (i := 252) rfl)) (hw _ (List.mem_of_getElem? (i := 253) rfl)) (hw _ (List.mem_of_getElem? (i := 237) rfl)) rfl (hw _ (List.mem_of_getElem? (i := 3) rfl)) (hw _ (List.mem_of_getElem? (i := 255) rfl)) (by decide) e1 F0.1 (rm37 l Z a0 hw [] a1 (sz + (1 : Int32)) dA sz mc h0 n0 Z0 cs pr eL eE TT OL F0 nb hp) (W := 0) (by decide) (by decide) (by decide) (by decide) (by rw [hml]; rfl) (argsL := [(.int (sz + (1 : Int32)))]) (rest := []) pd_37 rfl (by rfl) (Nat.le_of_eq rfl) (hb hby d36_7) rfl rfl ?_
  intro v2 T2 h2 L2 X2 e2 q2
  obtain ⟨ed2, rfl, M2, K2, F2, A2, bg2, XE2⟩ := q2
  have N2 := Fr.app N0 M2
  refine own_retA X2 hx lk hret rfl rfl (hb hby d36_10) (by decide) (by decide) ?_
  rw [e2]
  exact ⟨_, rfl, N2, K2, F2, A2, bg2, XE2⟩
theorem d35_0 : decode jdk_38_method_24_code 0 = .ok (.iload_n 3, 1) := by decide +kernel
theorem d35_1 : decode jdk_38_method_24_code 1 = .ok (.aload_n 2, 1) := by decide +kernel
theorem d35_2 : decode jdk_38_method_24_code 2 = .ok (.arraylength, 1) := by decide +kernel
theorem d35_3 : decode jdk_38_method_24_code 3 = .ok (.if_icmp .ne 8, 3) := by decide +kernel
theorem d35_6 : decode jdk_38_method_24_code 6 = .ok (.aload_n 0, 1) := by decide +kernel
theorem d35_7 : decode jdk_38_method_24_code 7 = .ok (.invokevirtual 129, 3) := by decide +kernel
theorem d35_10 : decode jdk_38_method_24_code 10 = .ok (.astore_n 2, 1) := by decide +kernel
theorem d35_11 : decode jdk_38_method_24_code 11 = .ok (.aload_n 2, 1) := by decide +kernel
theorem d35_12 : decode jdk_38_method_24_code 12 = .ok (.iload_n 3, 1) := by decide +kernel
theorem d35_13 : decode jdk_38_method_24_code 13 = .ok (.aload_n 1, 1) := by decide +kernel
theorem d35_14 : decode jdk_38_method_24_code 14 = .ok (.aastore, 1) := by decide +kernel
theorem d35_15 : decode jdk_38_method_24_code 15 = .ok (.aload_n 0, 1) := by decide +kernel
theorem d35_16 : decode jdk_38_method_24_code 16 = .ok (.iload_n 3, 1) := by decide +kernel
theorem d35_17 : decode jdk_38_method_24_code 17 = .ok (.iconst 1, 1) := by decide +kernel
theorem d35_18 : decode jdk_38_method_24_code 18 = .ok (.iadd, 1) := by decide +kernel
theorem d35_19 : decode jdk_38_method_24_code 19 = .ok (.putfield 48, 3) := by decide +kernel
theorem d35_22 : decode jdk_38_method_24_code 22 = .ok (.return_, 1) := by decide +kernel
theorem pn_35 : plainFor (⟨"java/util/ArrayList", "add", "(Ljava/lang/Object;[Ljava/lang/Object;I)V"⟩ : MethodName) = true := by first | exact plainFor_of_name (by first | (simp [plainName, overriddenIn]; done) | decide +kernel) | decide +kernel
theorem ef_35 (m : MethodId) (a1 : Addr) (a2 : Addr) (a3 : Addr) (p4 : Int32) : entryFrame m #[(.ref a1), (.ref a2), (.ref a3), (.int p4)] 4 = mkF m 0 #[.val (.ref a1), .val (.ref a2), .val (.ref a3), .val (.int p4)] [] := by first | (simp [entryFrame, argsToLocals, Value.category, Array.replicate]; done) | rfl
theorem pd_35 : parseMethodDescriptor "(Ljava/lang/Object;[Ljava/lang/Object;I)V" = some ⟨[(.object "java/lang/Object"), (.array (.object "java/lang/Object")), .int], none⟩ := by decide +kernel
def Q35 (Z : State) (a1 : Addr) (a2 : Addr) (a3 : Addr) (p4 : Int32) (dA : Addr) (k : Nat) (key : Nat → Addr) (ch : Int32) (mc : Int32) (h0 : Heap) (n0 : Nat) (v : Option Value) (h : Heap) (L : List Loc) : Prop := v = none ∧ Fr n0 L ∧ Old Z n0 h ∧ Kc Z h0 h [(.inl "java/util/ArrayList"), (.inr (.object "java/lang/Object"))] ∧ LST Z h n0 dA a1 (k + 1) (fun j => if j = k then a2 else key j)
theorem rm35 (l : Launch) (Z : State) (a0 : Array Value) (hw : ∀ d ∈ tables_1, d.before a0 Z = true) (ws : List Jvm.Cond) (a1 : Addr) (a2 : Addr) (a3 : Addr) (p4 : Int32) (dA : Addr) (k : Nat) (key : Nat → Addr) (ch : Int32) (mc : Int32) (h0 : Heap) (n0 : Nat) (Z0 : n0 ≤ h0.size) (cs : Int32) (pr eL eE : Addr) (TT : STT Z cs dA pr eL eE) (OL : Old Z n0 h0) (F0 : AL Z h0 a1 (.ref a3) (Nat.toInt32 k) mc) (D0 : LSTD Z h0 n0 dA a3 k key) (nb : n0 ≤ a1) (S0 : STRK Z h0 a2 ch) (hk : k < 5) (zp4 : p4 = Nat.toInt32 k) :
    MetFree l (⟨"java/util/ArrayList", "add", "(Ljava/lang/Object;[Ljava/lang/Object;I)V"⟩ : MethodName) (head1 (Jvm.Cond.code (⟨"java/util/ArrayList", "add", "(Ljava/lang/Object;[Ljava/lang/Object;I)V"⟩ : MethodName) jdk_38_method_24_code 4 (none) :: ws) ({ frames := 3, cells := 1, slots := 10, locals := 41 } : Room)) (fun a U => a = #[(.ref a1), (.ref a2), (.ref a3), (.int p4)] ∧ Z.Warmed39 U.vm ∧ U.heap = h0) (fun _ _ _ _ _ => True) (fun _ U o U' => ∃ v L, o = .returned v ∧ (Q35 Z a1 a2 a3 p4 dA k key ch mc h0 n0) v U'.heap L ∧ FrameEnd U o U' L ({ frames := 3, cells := 1, slots := 10, locals := 41 } : Room).cells ({ frames := 3, cells := 1, slots := 10, locals := 41 } : Room).slots) := by
  refine MetFree.of_bodySF pn_35 hisR ?_
  intro p e s m args below meth c s₁ Bd hml0 hP hK
  obtain ⟨rfl, hZ, hh⟩ := hP
  have hx := Bd.exec
  have hby := Bd.bytes
  have hml : c.maxLocals = 4 := hml0
  have hown : s.vm.findClass "java/util/ArrayList" = some m.cls := findClass_of_methodNamed Bd.named
  have hnm := (name_of_methodNamed Bd.named Bd.method).1
  have X0 : Stand p l e ({ frames := 3, cells := 1, slots := 10, locals := 41 } : Room) s m #[(.ref a1), (.ref a2), (.ref a3), (.int p4)] below meth c s₁ [] 0 0 := Stand.of_body Bd
  have e0 : s₁.heap = h0 := by rw [← hh, Bd.state]; rfl
  have N0 := Fr.nil n0
  have lk : meth.locks = false := BodyLoose.notSynchronized Bd
  have hret := Bd.returns
  show Ends p e below (EF s ({ frames := 3, cells := 1, slots := 10, locals := 41 } : Room).cells ({ frames := 3, cells := 1, slots := 10, locals := 41 } : Room).slots) (Q35 Z a1 a2 a3 p4 dA k key ch mc h0 n0) (s₁.setTop (entryFrame m #[(.ref a1), (.ref a2), (.ref a3), (.int p4)] 4))
  refine Ends.cast (ef_35 m a1 a2 a3 p4) ?_
  have hp4 : p4.toInt = (k : Int) := by rw [zp4]; exact len_toInt (by omega)
  have hE : p4 + 1 = Nat.toInt32 (k + 1) := by rw [zp4]; exact own_succ (by omega)
  rcases D0 with ⟨hk0, ea⟩ | ⟨hk1, na, t, RT, t1, t2, XE0⟩
  · skip
    have V3 : VA Z h0 a3 (.object "java/lang/Object") 0 (fun _ => .null) := by rw [ea]; exact TT.2.1.ext OL.2
    have F1' : AL Z h0 a1 (.ref dA) (Nat.toInt32 k) mc := by rw [← ea]; exact F0
    refine own_iloadN (n := 1) X0 hx (hb hby d35_0) rfl rfl ?_
    refine own_aloadN (n := 2) X0 hx (hb hby d35_1) rfl rfl rfl ?_
    refine own_arraylength (n := 3) X0 hx hZ e0 V3 (v := (0 : Int32)) rfl (hb hby d35_2) rfl ?_
    refine own_icmpNo (n := 6) X0 hx (hb hby d35_3) (Jvm.Free.XT.ii_ne_f (by rw [zp4, hk0]; rfl)) rfl ?_
    refine own_aloadN (n := 7) X0 hx (hb hby d35_6) rfl rfl rfl ?_
    refine own_callP (n := 10) X0 hx hZ hown (hw _ (List.mem_of_getElem? (i := 246) rfl)) (hw _ (List.mem_of_getElem? (i := 247) rfl)) (hw _ (List.mem_of_getElem? (i := 248) rfl)) (hw _ (List.mem_of_getElem? (i := 237) rfl)) rfl (hw _ (List.mem_of_getElem? (i := 3) rfl)) (hw _ (List.mem_of_getElem? (i := 250) rfl)) (by decide) e0 F1'.1 (rm36 l Z a0 hw [] a1 dA (Nat.toInt32 k) mc h0 n0 Z0 cs pr eL eE TT OL F1' nb (by rw [hk0]; decide)) (W := 0) (by decide) (by decide) (by decide) (by decide) (by rw [hml]; rfl) (argsL := []) (rest := []) pd_36 rfl (by rfl) (Nat.le_of_eq rfl) (hb hby d35_7) rfl rfl ?_
    intro v1 T1 h1 L1 X1 e1 q1
    obtain ⟨ed1, rfl, M1, K1, F1, A1, bg1, XE1⟩ := q1
    have N1 := Fr.app N0 M1
    have Z1 : n0 ≤ h1.size := Nat.le_trans Z0 K1.1
    have OL1 := OL.keep K1 (allS nb all0)
    have KW1 : Kc Z h0 h1 [(.inl "java/util/ArrayList")] := Kc.ofKeep K1 (kinS (List.mem_of_getElem? (i := 0) rfl) (fun c e => exaSort F1'.1 c e) kin0)
    have Y1_a2 := S0.kc KW1 (noS (noCC (by decide)) no0) (noS (noAC (hw _ (List.mem_of_getElem? (i := 2) rfl))) no0)
    have nb_ed1 : n0 ≤ ed1 := Nat.le_trans Z0 bg1
    refine own_astoreN (n := 11) X1 hx (hb hby d35_10) rfl (l' := #[.val (.ref a1), .val (.ref a2), .val (.ref ed1), .val (.int p4)]) rfl rfl ?_
    refine own_aloadN (n := 12) X1 hx (hb hby d35_11) rfl rfl rfl ?_
    refine own_iloadN (n := 13) X1 hx (hb hby d35_12) rfl rfl ?_
    refine own_aloadN (n := 14) X1 hx (hb hby d35_13) rfl rfl rfl ?_
    refine own_aastore (n := 15) X1 hx hZ e1 A1 (Ins.of_exa Y1_a2.exa (hw _ (List.mem_of_getElem? (i := 262) rfl))) (i := k) hp4 (by omega) (hb hby d35_14) rfl ?_
    intro T2 h2 X2 e2 W2 A2
    have N2 := Fr.snoc X2 N1 nb_ed1
    have Z2 : n0 ≤ h2.size := Nat.le_trans Z1 (Keep.of_wr W2).1
    have KW2 : Kc Z h1 h2 [(.inr (.object "java/lang/Object"))] := Kc.ofKeep (Keep.of_wr W2) (kinS (List.mem_singleton.mpr rfl) (fun c e => VA.sort A1.va c e) kin0)
    have Y2_a2 := Y1_a2.kc KW2 (noS (noCA (hw _ (List.mem_of_getElem? (i := 70) rfl))) no0) (noS (noAA (by decide)) no0)
    have OL2 := OL1.wr W2 nb_ed1
    have F2_a1 := F1.wrO W2 (own_neOA F1.1 (hw _ (List.mem_of_getElem? (i := 2) rfl)) A1.va)
    have G2_xe := XE1.wr W2
    have K2 : Keep h0 h2 [a1] := K1.wr W2 (Or.inr bg1)
    refine own_aloadN (n := 16) X2 hx (hb hby d35_15) rfl rfl rfl ?_
    refine own_iloadN (n := 17) X2 hx (hb hby d35_16) rfl rfl ?_
    refine own_iconst (n := 18) X2 hx (1 : Int32) (hb hby d35_17) rfl rfl ?_
    refine own_iadd (n := 19) X2 hx (hb hby d35_18) rfl ?_
    refine own_putF (n := 22) X2 hx hZ hown (hw _ (List.mem_of_getElem? (i := 191) rfl)) e2 F2_a1.2.2.1 F2_a1.1 (Or.inl (hw _ (List.mem_of_getElem? (i := 192) rfl))) (hw _ (List.mem_of_getElem? (i := 2) rfl)) (ty := .int) (by decide) rfl rfl (hb hby d35_19) rfl ?_
    intro T3 h3 X3 e3 W3
    have N3 := Fr.snoc X3 N2 nb
    have Z3 : n0 ≤ h3.size := Nat.le_trans Z2 (Keep.of_wr W3).1
    have OL3 := OL2.wr W3 nb
    have F3_a1 := F2_a1.set_size hw W3
    have F3_ed1 := A2.wrO W3 (Ne.symm (own_neOA F2_a1.1 (hw _ (List.mem_of_getElem? (i := 2) rfl)) A2.va))
    have G3_xe := G2_xe.wr W3
    have K3 : Keep h0 h3 [a1] := K2.wr W3 (Or.inl (List.mem_of_getElem? (i := 0) rfl))
    have KW3 : Kc Z h2 h3 [(.inl "java/util/ArrayList")] := Kc.ofKeep (Keep.of_wr W3) (kinS (List.mem_singleton.mpr rfl) (fun c e => exaSort F2_a1.1 c e) kin0)
    have Y3_a2 := Y2_a2.kc KW3 (noS (noCC (by decide)) no0) (noS (noAC (hw _ (List.mem_of_getElem? (i := 2) rfl))) no0)
    refine own_retV X3 hx lk hret (hb hby d35_22) (by decide) (by decide) ?_
    rw [e3]
    rw [hE] at F3_a1
    exact ⟨rfl, N3, OL3, Kc.ofKeep K3 (kinS (List.mem_of_getElem? (i := 0) rfl) (fun c e => exaSort F0.1 c e) kin0), _, _, F3_a1, Or.inr ⟨by omega, nb_ed1, _, F3_ed1, fun j hj => by
      obtain rfl : j = k := by omega
      simp, fun j hj => by
      by_cases e : j = k
      · simp [e, Value.isRef]
      · simp [e, Value.isRef], G3_xe⟩⟩
  · skip
    refine own_iloadN (n := 1) X0 hx (hb hby d35_0) rfl rfl ?_
    refine own_aloadN (n := 2) X0 hx (hb hby d35_1) rfl rfl rfl ?_
    refine own_arraylength (n := 3) X0 hx hZ e0 RT.va (v := (10 : Int32)) rfl (hb hby d35_2) rfl ?_
    refine own_icmpYes (n := 11) X0 hx (hb hby d35_3) (Jvm.Free.XT.ii_ne_t (fun z => absurd (congrArg Int32.toInt z) (by rw [hp4]; show ¬ ((k : Int) = 10); omega))) (by decide) (by decide) ?_
    refine own_aloadN (n := 12) X0 hx (hb hby d35_11) rfl rfl rfl ?_
    refine own_iloadN (n := 13) X0 hx (hb hby d35_12) rfl rfl ?_
    refine own_aloadN (n := 14) X0 hx (hb hby d35_13) rfl rfl rfl ?_
    refine own_aastore (n := 15) X0 hx hZ e0 RT (Ins.of_exa S0.exa (hw _ (List.mem_of_getElem? (i := 262) rfl))) (i := k) hp4 (by omega) (hb hby d35_14) rfl ?_
    intro T4 h4 X4 e4 W4 A4
    have N4 := Fr.snoc X4 N0 na
    have Z4 : n0 ≤ h4.size := Nat.le_trans Z0 (Keep.of_wr W4).1
    have KW4 : Kc Z h0 h4 [(.inr (.object "java/lang/Object"))] := Kc.ofKeep (Keep.of_wr W4) (kinS (List.mem_singleton.mpr rfl) (fun c e => VA.sort RT.va c e) kin0)
    have Y4_a2 := S0.kc KW4 (noS (noCA (hw _ (List.mem_of_getElem? (i := 70) rfl))) no0) (noS (noAA (by decide)) no0)
    have OL4 := OL.wr W4 na
    have F4_a1 := F0.wrO W4 (own_neOA F0.1 (hw _ (List.mem_of_getElem? (i := 2) rfl)) RT.va)
    have G4_xe := XE0.wr W4
    have K4 : Keep h0 h4 [a1, a3] := (Keep.refl h0 [a1, a3]).wr W4 (Or.inl (List.mem_of_getElem? (i := 1) rfl))
    refine own_aloadN (n := 16) X4 hx (hb hby d35_15) rfl rfl rfl ?_
    refine own_iloadN (n := 17) X4 hx (hb hby d35_16) rfl rfl ?_
    refine own_iconst (n := 18) X4 hx (1 : Int32) (hb hby d35_17) rfl rfl ?_
    refine own_iadd (n := 19) X4 hx (hb hby d35_18) rfl ?_
    refine own_putF (n := 22) X4 hx hZ hown (hw _ (List.mem_of_getElem? (i := 191) rfl)) e4 F4_a1.2.2.1 F4_a1.1 (Or.inl (hw _ (List.mem_of_getElem? (i := 192) rfl))) (hw _ (List.mem_of_getElem? (i := 2) rfl)) (ty := .int) (by decide) rfl rfl (hb hby d35_19) rfl ?_
    intro T5 h5 X5 e5 W5
    have N5 := Fr.snoc X5 N4 nb
    have Z5 : n0 ≤ h5.size := Nat.le_trans Z4 (Keep.of_wr W5).1
    have OL5 := OL4.wr W5 nb
    have F5_a1 := F4_a1.set_size hw W5
    have F5_a3 := A4.wrO W5 (Ne.symm (own_neOA F4_a1.1 (hw _ (List.mem_of_getElem? (i := 2) rfl)) A4.va))
    have G5_xe := G4_xe.wr W5
    have K5 : Keep h0 h5 [a1, a3] := K4.wr W5 (Or.inl (List.mem_of_getElem? (i := 0) rfl))
    have KW5 : Kc Z h4 h5 [(.inl "java/util/ArrayList")] := Kc.ofKeep (Keep.of_wr W5) (kinS (List.mem_singleton.mpr rfl) (fun c e => exaSort F4_a1.1 c e) kin0)
    have Y5_a2 := Y4_a2.kc KW5 (noS (noCC (by decide)) no0) (noS (noAC (hw _ (List.mem_of_getElem? (i := 2) rfl))) no0)
    refine own_retV X5 hx lk hret (hb hby d35_22) (by decide) (by decide) ?_
    rw [e5]
    rw [hE] at F5_a1
    exact ⟨rfl, N5, OL5, Kc.ofKeep K5 (kinS (List.mem_of_getElem? (i := 0) rfl) (fun c e => exaSort F0.1 c e) (kinS (List.mem_of_getElem? (i := 1) rfl) (fun c e => VA.sort RT.va c e) kin0)), _, _, F5_a1, Or.inr ⟨by omega, na, _, F5_a3, fun j hj => by
      by_cases e : j = k
      · simp [e]
      · simp [e, t1 j (by omega)], fun j hj => by
      by_cases e : j = k
      · simp [e, Value.isRef]
      · simp [e, t2 j hj], G5_xe⟩⟩
theorem d34_0 : decode jdk_38_method_25_code 0 = .ok (.aload_n 0, 1) := by decide +kernel
theorem d34_1 : decode jdk_38_method_25_code 1 = .ok (.dup, 1) := by decide +kernel
theorem d34_2 : decode jdk_38_method_25_code 2 = .ok (.getfield 63, 3) := by decide +kernel
theorem d34_5 : decode jdk_38_method_25_code 5 = .ok (.iconst 1, 1) := by decide +kernel
theorem d34_6 : decode jdk_38_method_25_code 6 = .ok (.iadd, 1) := by decide +kernel
theorem d34_7 : decode jdk_38_method_25_code 7 = .ok (.putfield 63, 3) := by decide +kernel
theorem d34_10 : decode jdk_38_method_25_code 10 = .ok (.aload_n 0, 1) := by decide +kernel
theorem d34_11 : decode jdk_38_method_25_code 11 = .ok (.aload_n 1, 1) := by decide +kernel
theorem d34_12 : decode jdk_38_method_25_code 12 = .ok (.aload_n 0, 1) := by decide +kernel
theorem d34_13 : decode jdk_38_method_25_code 13 = .ok (.getfield 9, 3) := by decide +kernel
theorem d34_16 : decode jdk_38_method_25_code 16 = .ok (.aload_n 0, 1) := by decide +kernel
theorem d34_17 : decode jdk_38_method_25_code 17 = .ok (.getfield 48, 3) := by decide +kernel
theorem d34_20 : decode jdk_38_method_25_code 20 = .ok (.invokevirtual 131, 3) := by decide +kernel
theorem d34_23 : decode jdk_38_method_25_code 23 = .ok (.iconst 1, 1) := by decide +kernel
theorem d34_24 : decode jdk_38_method_25_code 24 = .ok (.ireturn, 1) := by decide +kernel
theorem pn_34 : plainFor (⟨"java/util/ArrayList", "add", "(Ljava/lang/Object;)Z"⟩ : MethodName) = true := by first | exact plainFor_of_name (by first | (simp [plainName, overriddenIn]; done) | decide +kernel) | decide +kernel
theorem ef_34 (m : MethodId) (a1 : Addr) (a2 : Addr) : entryFrame m #[(.ref a1), (.ref a2)] 2 = mkF m 0 #[.val (.ref a1), .val (.ref a2)] [] := by first | (simp [entryFrame, argsToLocals, Value.category, Array.replicate]; done) | rfl
theorem pd_34 : parseMethodDescriptor "(Ljava/lang/Object;)Z" = some ⟨[(.object "java/lang/Object")], some .boolean⟩ := by decide +kernel
def Q34 (Z : State) (a1 : Addr) (a2 : Addr) (dA : Addr) (k : Nat) (key : Nat → Addr) (ch : Int32) (h0 : Heap) (n0 : Nat) (v : Option Value) (h : Heap) (L : List Loc) : Prop := v = some (.int 1) ∧ Fr n0 L ∧ Old Z n0 h ∧ Kc Z h0 h [(.inl "java/util/ArrayList"), (.inr (.object "java/lang/Object"))] ∧ LST Z h n0 dA a1 (k + 1) (fun j => if j = k then a2 else key j)
theorem rm34 (l : Launch) (Z : State) (a0 : Array Value) (hw : ∀ d ∈ tables_1, d.before a0 Z = true) (ws : List Jvm.Cond) (a1 : Addr) (a2 : Addr) (dA : Addr) (k : Nat) (key : Nat → Addr) (ch : Int32) (h0 : Heap) (n0 : Nat) (Z0 : n0 ≤ h0.size) (cs : Int32) (pr eL eE : Addr) (TT : STT Z cs dA pr eL eE) (OL : Old Z n0 h0) (L0 : LST Z h0 n0 dA a1 k key) (nb : n0 ≤ a1) (S0 : STRK Z h0 a2 ch) (hk : k < 5) :
    MetFree l (⟨"java/util/ArrayList", "add", "(Ljava/lang/Object;)Z"⟩ : MethodName) (head1 (Jvm.Cond.code (⟨"java/util/ArrayList", "add", "(Ljava/lang/Object;)Z"⟩ : MethodName) jdk_38_method_25_code 2 (some .boolean) :: ws) ({ frames := 4, cells := 1, slots := 10, locals := 57 } : Room)) (fun a U => a = #[(.ref a1), (.ref a2)] ∧ Z.Warmed39 U.vm ∧ U.heap = h0) (fun _ _ _ _ _ => True) (fun _ U o U' => ∃ v L, o = .returned v ∧ (Q34 Z a1 a2 dA k key ch h0 n0) v U'.heap L ∧ FrameEnd U o U' L ({ frames := 4, cells := 1, slots := 10, locals := 57 } : Room).cells ({ frames := 4, cells := 1, slots := 10, locals := 57 } : Room).slots) := by
  refine MetFree.of_bodySF pn_34 hisR ?_
  intro p e s m args below meth c s₁ Bd hml0 hP hK
  obtain ⟨rfl, hZ, hh⟩ := hP
  have hx := Bd.exec
  have hby := Bd.bytes
  have hml : c.maxLocals = 2 := hml0
  have hown : s.vm.findClass "java/util/ArrayList" = some m.cls := findClass_of_methodNamed Bd.named
  have hnm := (name_of_methodNamed Bd.named Bd.method).1
  have X0 : Stand p l e ({ frames := 4, cells := 1, slots := 10, locals := 57 } : Room) s m #[(.ref a1), (.ref a2)] below meth c s₁ [] 0 0 := Stand.of_body Bd
  have e0 : s₁.heap = h0 := by rw [← hh, Bd.state]; rfl
  have N0 := Fr.nil n0
  have lk : meth.locks = false := BodyLoose.notSynchronized Bd
  have hret := Bd.returns
  show Ends p e below (EF s ({ frames := 4, cells := 1, slots := 10, locals := 57 } : Room).cells ({ frames := 4, cells := 1, slots := 10, locals := 57 } : Room).slots) (Q34 Z a1 a2 dA k key ch h0 n0) (s₁.setTop (entryFrame m #[(.ref a1), (.ref a2)] 2))
  refine Ends.cast (ef_34 m a1 a2) ?_
  obtain ⟨ed, mc, F0, D0⟩ := L0
  refine own_aloadN (n := 1) X0 hx (hb hby d34_0) rfl rfl rfl ?_
  refine own_dup (n := 2) X0 hx (hb hby d34_1) rfl rfl ?_
  refine own_getFV (n := 5) X0 hx hZ hown (hw _ (List.mem_of_getElem? (i := 239) rfl)) (Via.of (hw _ (List.mem_of_getElem? (i := 240) rfl))) e0 F0.2.2.2 (hb hby d34_2) rfl ?_
  intro T1 X1 e1
  refine own_iconst (n := 6) X1 hx (1 : Int32) (hb hby d34_5) rfl rfl ?_
  refine own_iadd (n := 7) X1 hx (hb hby d34_6) rfl ?_
  refine own_putFV (n := 10) X1 hx hZ hown (hw _ (List.mem_of_getElem? (i := 239) rfl)) (Via.of (hw _ (List.mem_of_getElem? (i := 240) rfl))) e1 F0.2.2.2 F0.1 (Or.inl (hw _ (List.mem_of_getElem? (i := 23) rfl))) (hw _ (List.mem_of_getElem? (i := 2) rfl)) (ty := .int) (by decide) rfl rfl (hb hby d34_7) rfl ?_
  intro T2 h2 X2 e2 W2
  have N2 := Fr.snoc X2 N0 nb
  have Z2 : n0 ≤ h2.size := Nat.le_trans Z0 (Keep.of_wr W2).1
  have OL2 := OL.wr W2 nb
  have F2_a1 := F0.set_modCount hw W2
  have K2 : Keep h0 h2 [a1] := (Keep.refl h0 [a1]).wr W2 (Or.inl (List.mem_of_getElem? (i := 0) rfl))
  have KW2 : Kc Z h0 h2 [(.inl "java/util/ArrayList")] := Kc.ofKeep (Keep.of_wr W2) (kinS (List.mem_singleton.mpr rfl) (fun c e => exaSort F0.1 c e) kin0)
  have Y2_a2 := S0.kc KW2 (noS (noCC (by decide)) no0) (noS (noAC (hw _ (List.mem_of_getElem? (i := 2) rfl))) no0)
  have Y2_D := D0.kc KW2 (noS (noAC (hw _ (List.mem_of_getElem? (i := 2) rfl))) no0)
  refine own_aloadN (n := 11) X2 hx (hb hby d34_10) rfl rfl rfl ?_
  refine own_aloadN (n := 12) X2 hx (hb hby d34_11) rfl rfl rfl ?_
  refine own_aloadN (n := 13) X2 hx (hb hby d34_12) rfl rfl rfl ?_
  refine own_getF (n := 16) X2 hx hZ hown (hw _ (List.mem_of_getElem? (i := 25) rfl)) e2 F2_a1.2.1 (hb hby d34_13) rfl ?_
  intro T3 X3 e3
  refine own_aloadN (n := 17) X3 hx (hb hby d34_16) rfl rfl rfl ?_
  refine own_getF (n := 20) X3 hx hZ hown (hw _ (List.mem_of_getElem? (i := 191) rfl)) e3 F2_a1.2.2.1 (hb hby d34_17) rfl ?_
  intro T4 X4 e4
  refine own_callP (n := 23) X4 hx hZ hown (hw _ (List.mem_of_getElem? (i := 241) rfl)) (hw _ (List.mem_of_getElem? (i := 242) rfl)) (hw _ (List.mem_of_getElem? (i := 243) rfl)) (hw _ (List.mem_of_getElem? (i := 237) rfl)) rfl (hw _ (List.mem_of_getElem? (i := 3) rfl)) (hw _ (List.mem_of_getElem? (i := 245) rfl)) (by decide) e4 F2_a1.1 (rm35 l Z a0 hw [] a1 a2 ed (Nat.toInt32 k) dA k key ch (mc + (1 : Int32)) h2 n0 Z2 cs pr eL eE TT OL2 F2_a1 Y2_D nb Y2_a2 hk rfl) (W := 0) (by decide) (by decide) (by decide) (by decide) (by rw [hml]; rfl) (argsL := [(.ref a2), (.ref ed), (.int (Nat.toInt32 k))]) (rest := []) pd_35 rfl (by rfl) (Nat.le_of_eq rfl) (hb hby d34_20) rfl rfl ?_
  intro v5 T5 h5 L5 X5 e5 q5
  obtain ⟨rfl, M5, OL5, KC5, LL5⟩ := q5
  have N5 := Fr.app N2 M5
  refine own_iconst (n := 24) X5 hx (1 : Int32) (hb hby d34_23) rfl rfl ?_
  refine own_retN X5 hx lk hret (by simp) (hb hby d34_24) (by decide) (by decide) ?_
  rw [e5]
  exact ⟨rfl, N5, OL5, (Kc.ofKeep (L := [(.inl "java/util/ArrayList"), (.inr (.object "java/lang/Object"))]) K2 (kinS (List.mem_of_getElem? (i := 0) rfl) (fun c e => exaSort F0.1 c e) kin0)).trans KC5 (fun _ q => q), LL5⟩
theorem d29_0 : decode jdk_38_method_8_code 0 = .ok (.aload_n 0, 1) := by decide +kernel
theorem d29_1 : decode jdk_38_method_8_code 1 = .ok (.getfield 48, 3) := by decide +kernel
theorem d29_4 : decode jdk_38_method_8_code 4 = .ok (.ireturn, 1) := by decide +kernel
theorem pn_29 : plainFor (⟨"java/util/ArrayList", "size", "()I"⟩ : MethodName) = true := by first | exact plainFor_of_name (by first | (simp [plainName, overriddenIn]; done) | decide +kernel) | decide +kernel
theorem ef_29 (m : MethodId) (a1 : Addr) : entryFrame m #[(.ref a1)] 1 = mkF m 0 #[.val (.ref a1)] [] := by first | (simp [entryFrame, argsToLocals, Value.category, Array.replicate]; done) | rfl
theorem pd_29 : parseMethodDescriptor "()I" = some ⟨[], some .int⟩ := by decide +kernel
def Q29 (Z : State) (a1 : Addr) (dA : Addr) (k : Nat) (key : Nat → Addr) (h0 : Heap) (n0 : Nat) (v : Option Value) (h : Heap) (L : List Loc) : Prop := v = some (.int (Nat.toInt32 k)) ∧ Fr n0 L ∧ h0 = h
theorem rm29 (l : Launch) (Z : State) (a0 : Array Value) (hw : ∀ d ∈ tables_1, d.before a0 Z = true) (ws : List Jvm.Cond) (a1 : Addr) (dA : Addr) (k : Nat) (key : Nat → Addr) (h0 : Heap) (n0 : Nat) (Z0 : n0 ≤ h0.size) (L0 : LST Z h0 n0 dA a1 k key) :
    MetFree l (⟨"java/util/ArrayList", "size", "()I"⟩ : MethodName) (head1 (Jvm.Cond.code (⟨"java/util/ArrayList", "size", "()I"⟩ : MethodName) jdk_38_method_8_code 1 (some .int) :: ws) ({ frames := 0, cells := 0, slots := 0, locals := 0 } : Room)) (fun a U => a = #[(.ref a1)] ∧ Z.Warmed39 U.vm ∧ U.heap = h0) (fun _ _ _ _ _ => True) (fun _ U o U' => ∃ v L, o = .returned v ∧ (Q29 Z a1 dA k key h0 n0) v U'.heap L ∧ FrameEnd U o U' L ({ frames := 0, cells := 0, slots := 0, locals := 0 } : Room).cells ({ frames := 0, cells := 0, slots := 0, locals := 0 } : Room).slots) := by
  refine MetFree.of_bodySF pn_29 hisR ?_
  intro p e s m args below meth c s₁ Bd hml0 hP hK
  obtain ⟨rfl, hZ, hh⟩ := hP
  have hx := Bd.exec
  have hby := Bd.bytes
  have hml : c.maxLocals = 1 := hml0
  have hown : s.vm.findClass "java/util/ArrayList" = some m.cls := findClass_of_methodNamed Bd.named
  have hnm := (name_of_methodNamed Bd.named Bd.method).1
  have X0 : Stand p l e ({ frames := 0, cells := 0, slots := 0, locals := 0 } : Room) s m #[(.ref a1)] below meth c s₁ [] 0 0 := Stand.of_body Bd
  have e0 : s₁.heap = h0 := by rw [← hh, Bd.state]; rfl
  have N0 := Fr.nil n0
  have lk : meth.locks = false := BodyLoose.notSynchronized Bd
  have hret := Bd.returns
  show Ends p e below (EF s ({ frames := 0, cells := 0, slots := 0, locals := 0 } : Room).cells ({ frames := 0, cells := 0, slots := 0, locals := 0 } : Room).slots) (Q29 Z a1 dA k key h0 n0) (s₁.setTop (entryFrame m #[(.ref a1)] 1))
  refine Ends.cast (ef_29 m a1) ?_
  obtain ⟨ed, mc, F0, D0⟩ := L0
  refine own_aloadN (n := 1) X0 hx (hb hby d29_0) rfl rfl rfl ?_
  refine own_getF (n := 4) X0 hx hZ hown (hw _ (List.mem_of_getElem? (i := 191) rfl)) e0 F0.2.2.1 (hb hby d29_1) rfl ?_
  intro T1 X1 e1
  refine own_retI X1 hx lk hret (hb hby d29_4) (by decide) (by decide) ?_
  rw [e1]
  exact ⟨rfl, N0, rfl⟩
theorem d27_0 : decode jdk_38_method_9_code 0 = .ok (.aload_n 0, 1) := by decide +kernel
theorem d27_1 : decode jdk_38_method_9_code 1 = .ok (.getfield 48, 3) := by decide +kernel
theorem d27_4 : decode jdk_38_method_9_code 4 = .ok (.ifCond .ne 7, 3) := by decide +kernel
theorem d27_7 : decode jdk_38_method_9_code 7 = .ok (.iconst 1, 1) := by decide +kernel
theorem d27_8 : decode jdk_38_method_9_code 8 = .ok (.goto 4, 3) := by decide +kernel
theorem d27_11 : decode jdk_38_method_9_code 11 = .ok (.iconst 0, 1) := by decide +kernel
theorem d27_12 : decode jdk_38_method_9_code 12 = .ok (.ireturn, 1) := by decide +kernel
theorem pn_27 : plainFor (⟨"java/util/ArrayList", "isEmpty", "()Z"⟩ : MethodName) = true := by first | exact plainFor_of_name (by first | (simp [plainName, overriddenIn]; done) | decide +kernel) | decide +kernel
theorem ef_27 (m : MethodId) (a1 : Addr) : entryFrame m #[(.ref a1)] 1 = mkF m 0 #[.val (.ref a1)] [] := by first | (simp [entryFrame, argsToLocals, Value.category, Array.replicate]; done) | rfl
theorem pd_27 : parseMethodDescriptor "()Z" = some ⟨[], some .boolean⟩ := by decide +kernel
def Q27 (Z : State) (a1 : Addr) (dA : Addr) (k : Nat) (key : Nat → Addr) (h0 : Heap) (n0 : Nat) (v : Option Value) (h : Heap) (L : List Loc) : Prop := ∃ r, v = some (.int r) ∧ (k = 0 → ¬ r = 0) ∧ (¬ k = 0 → r = 0) ∧ Fr n0 L ∧ h0 = h
theorem rm27 (l : Launch) (Z : State) (a0 : Array Value) (hw : ∀ d ∈ tables_1, d.before a0 Z = true) (ws : List Jvm.Cond) (a1 : Addr) (dA : Addr) (k : Nat) (key : Nat → Addr) (h0 : Heap) (n0 : Nat) (Z0 : n0 ≤ h0.size) (L0 : LST Z h0 n0 dA a1 k key) (hk : k < 5) :
    MetFree l (⟨"java/util/ArrayList", "isEmpty", "()Z"⟩ : MethodName) (head1 (Jvm.Cond.code (⟨"java/util/ArrayList", "isEmpty", "()Z"⟩ : MethodName) jdk_38_method_9_code 1 (some .boolean) :: ws) ({ frames := 0, cells := 0, slots := 0, locals := 0 } : Room)) (fun a U => a = #[(.ref a1)] ∧ Z.Warmed39 U.vm ∧ U.heap = h0) (fun _ _ _ _ _ => True) (fun _ U o U' => ∃ v L, o = .returned v ∧ (Q27 Z a1 dA k key h0 n0) v U'.heap L ∧ FrameEnd U o U' L ({ frames := 0, cells := 0, slots := 0, locals := 0 } : Room).cells ({ frames := 0, cells := 0, slots := 0, locals := 0 } : Room).slots) := by
  refine MetFree.of_bodySF pn_27 hisR ?_
  intro p e s m args below meth c s₁ Bd hml0 hP hK
  obtain ⟨rfl, hZ, hh⟩ := hP
  have hx := Bd.exec
  have hby := Bd.bytes
  have hml : c.maxLocals = 1 := hml0
  have hown : s.vm.findClass "java/util/ArrayList" = some m.cls := findClass_of_methodNamed Bd.named
  have hnm := (name_of_methodNamed Bd.named Bd.method).1
  have X0 : Stand p l e ({ frames := 0, cells := 0, slots := 0, locals := 0 } : Room) s m #[(.ref a1)] below meth c s₁ [] 0 0 := Stand.of_body Bd
  have e0 : s₁.heap = h0 := by rw [← hh, Bd.state]; rfl
  have N0 := Fr.nil n0
  have lk : meth.locks = false := BodyLoose.notSynchronized Bd
  have hret := Bd.returns
  show Ends p e below (EF s ({ frames := 0, cells := 0, slots := 0, locals := 0 } : Room).cells ({ frames := 0, cells := 0, slots := 0, locals := 0 } : Room).slots) (Q27 Z a1 dA k key h0 n0) (s₁.setTop (entryFrame m #[(.ref a1)] 1))
  refine Ends.cast (ef_27 m a1) ?_
  obtain ⟨ed, mc, F0, D0⟩ := L0
  refine own_aloadN (n := 1) X0 hx (hb hby d27_0) rfl rfl rfl ?_
  refine own_getF (n := 4) X0 hx hZ hown (hw _ (List.mem_of_getElem? (i := 191) rfl)) e0 F0.2.2.1 (hb hby d27_1) rfl ?_
  intro T1 X1 e1
  by_cases c4 : (Nat.toInt32 k) = 0
  · refine own_ifNo (n := 7) X1 hx (hb hby d27_4) (Jvm.Free.XT.i0_ne_f c4) rfl ?_
    refine own_iconst (n := 8) X1 hx (1 : Int32) (hb hby d27_7) rfl rfl ?_
    refine own_goto (n := 12) X1 hx (hb hby d27_8) (by decide) (by decide) ?_
    refine own_retN X1 hx lk hret (by simp) (hb hby d27_12) (by decide) (by decide) ?_
    rw [e1]
    exact ⟨_, rfl, fun _ => by decide, fun z => absurd (by have z1 := congrArg Int32.toInt c4; rw [len_toInt (by omega)] at z1; have o0 : (0 : Int32).toInt = 0 := rfl; omega) z, N0, rfl⟩
  · refine own_ifYes (n := 11) X1 hx (hb hby d27_4) (Jvm.Free.XT.i0_ne_t c4) (by decide) (by decide) ?_
    refine own_iconst (n := 12) X1 hx (0 : Int32) (hb hby d27_11) rfl rfl ?_
    refine own_retN X1 hx lk hret (by simp) (hb hby d27_12) (by decide) (by decide) ?_
    rw [e1]
    exact ⟨_, rfl, fun z => absurd (by rw [z]; rfl) c4, fun _ => rfl, N0, rfl⟩
theorem d50_0 : decode jdk_41_method_11_code 0 = .ok (.iload_n 0, 1) := by decide +kernel
theorem d50_1 : decode jdk_41_method_11_code 1 = .ok (.ifCond .lt 8, 3) := by decide +kernel
theorem d50_4 : decode jdk_41_method_11_code 4 = .ok (.iload_n 0, 1) := by decide +kernel
theorem d50_5 : decode jdk_41_method_11_code 5 = .ok (.iload_n 1, 1) := by decide +kernel
theorem d50_6 : decode jdk_41_method_11_code 6 = .ok (.if_icmp .lt 10, 3) := by decide +kernel
theorem d50_9 : decode jdk_41_method_11_code 9 = .ok (.aload_n 2, 1) := by decide +kernel
theorem d50_10 : decode jdk_41_method_11_code 10 = .ok (.iload_n 0, 1) := by decide +kernel
theorem d50_11 : decode jdk_41_method_11_code 11 = .ok (.iload_n 1, 1) := by decide +kernel
theorem d50_12 : decode jdk_41_method_11_code 12 = .ok (.invokestatic 95, 3) := by decide +kernel
theorem d50_15 : decode jdk_41_method_11_code 15 = .ok (.athrow, 1) := by decide +kernel
theorem d50_16 : decode jdk_41_method_11_code 16 = .ok (.iload_n 0, 1) := by decide +kernel
theorem d50_17 : decode jdk_41_method_11_code 17 = .ok (.ireturn, 1) := by decide +kernel
theorem pn_50 : plainFor (⟨"jdk/internal/util/Preconditions", "checkIndex", "(IILjava/util/function/BiFunction;)I"⟩ : MethodName) = true := by first | exact plainFor_of_name (by first | (simp [plainName, overriddenIn]; done) | decide +kernel) | decide +kernel
theorem ef_50 (m : MethodId) (p1 : Int32) (p2 : Int32) : entryFrame m #[(.int p1), (.int p2), .null] 3 = mkF m 0 #[.val (.int p1), .val (.int p2), .val .null] [] := by first | (simp [entryFrame, argsToLocals, Value.category, Array.replicate]; done) | rfl
theorem pd_50 : parseMethodDescriptor "(IILjava/util/function/BiFunction;)I" = some ⟨[.int, .int, (.object "java/util/function/BiFunction")], some .int⟩ := by decide +kernel
def Q50 (Z : State) (p1 : Int32) (p2 : Int32)  (h0 : Heap) (n0 : Nat) (v : Option Value) (h : Heap) (L : List Loc) : Prop := v = some (.int p1) ∧ Fr n0 L ∧ h0 = h
theorem rm50 (l : Launch) (Z : State) (a0 : Array Value) (hw : ∀ d ∈ tables_1, d.before a0 Z = true) (ws : List Jvm.Cond) (p1 : Int32) (p2 : Int32)  (h0 : Heap) (n0 : Nat) (Z0 : n0 ≤ h0.size) (q0 : ¬ p1 < 0) (q1 : p1 < p2) :
    MetFree l (⟨"jdk/internal/util/Preconditions", "checkIndex", "(IILjava/util/function/BiFunction;)I"⟩ : MethodName) (head1 (Jvm.Cond.code (⟨"jdk/internal/util/Preconditions", "checkIndex", "(IILjava/util/function/BiFunction;)I"⟩ : MethodName) jdk_41_method_11_code 3 (some .int) :: ws) ({ frames := 0, cells := 0, slots := 0, locals := 0 } : Room)) (fun a U => a = #[(.int p1), (.int p2), .null] ∧ Z.Warmed39 U.vm ∧ U.heap = h0) (fun _ _ _ _ _ => True) (fun _ U o U' => ∃ v L, o = .returned v ∧ (Q50 Z p1 p2  h0 n0) v U'.heap L ∧ FrameEnd U o U' L ({ frames := 0, cells := 0, slots := 0, locals := 0 } : Room).cells ({ frames := 0, cells := 0, slots := 0, locals := 0 } : Room).slots) := by
  refine MetFree.of_bodySF pn_50 hisR ?_
  intro p e s m args below meth c s₁ Bd hml0 hP hK
  obtain ⟨rfl, hZ, hh⟩ := hP
  have hx := Bd.exec
  have hby := Bd.bytes
  have hml : c.maxLocals = 3 := hml0
  have hown : s.vm.findClass "jdk/internal/util/Preconditions" = some m.cls := findClass_of_methodNamed Bd.named
  have hnm := (name_of_methodNamed Bd.named Bd.method).1
  have X0 : Stand p l e ({ frames := 0, cells := 0, slots := 0, locals := 0 } : Room) s m #[(.int p1), (.int p2), .null] below meth c s₁ [] 0 0 := Stand.of_body Bd
  have e0 : s₁.heap = h0 := by rw [← hh, Bd.state]; rfl
  have N0 := Fr.nil n0
  have lk : meth.locks = false := BodyLoose.notSynchronized Bd
  have hret := Bd.returns
  show Ends p e below (EF s ({ frames := 0, cells := 0, slots := 0, locals := 0 } : Room).cells ({ frames := 0, cells := 0, slots := 0, locals := 0 } : Room).slots) (Q50 Z p1 p2  h0 n0) (s₁.setTop (entryFrame m #[(.int p1), (.int p2), .null] 3))
  refine Ends.cast (ef_50 m p1 p2) ?_
  refine own_iloadN (n := 1) X0 hx (hb hby d50_0) rfl rfl ?_
  refine own_ifNo (n := 4) X0 hx (hb hby d50_1) (Jvm.Free.XT.i0_lt_f q0) rfl ?_
  refine own_iloadN (n := 5) X0 hx (hb hby d50_4) rfl rfl ?_
  refine own_iloadN (n := 6) X0 hx (hb hby d50_5) rfl rfl ?_
  refine own_icmpYes (n := 16) X0 hx (hb hby d50_6) (Jvm.Free.XT.ii_lt_t q1) (by decide) (by decide) ?_
  refine own_iloadN (n := 17) X0 hx (hb hby d50_16) rfl rfl ?_
  refine own_retI X0 hx lk hret (hb hby d50_17) (by decide) (by decide) ?_
  rw [e0]
  exact ⟨rfl, N0, rfl⟩
theorem d49_0 : decode jdk_31_method_17_code 0 = .ok (.iload_n 0, 1) := by decide +kernel
theorem d49_1 : decode jdk_31_method_17_code 1 = .ok (.iload_n 1, 1) := by decide +kernel
theorem d49_2 : decode jdk_31_method_17_code 2 = .ok (.aconst_null, 1) := by decide +kernel
theorem d49_3 : decode jdk_31_method_17_code 3 = .ok (.invokestatic 105, 3) := by decide +kernel
theorem d49_6 : decode jdk_31_method_17_code 6 = .ok (.ireturn, 1) := by decide +kernel
theorem pn_49 : plainFor (⟨"java/util/Objects", "checkIndex", "(II)I"⟩ : MethodName) = true := by first | exact plainFor_of_name (by first | (simp [plainName, overriddenIn]; done) | decide +kernel) | decide +kernel
theorem ef_49 (m : MethodId) (p1 : Int32) (p2 : Int32) : entryFrame m #[(.int p1), (.int p2)] 2 = mkF m 0 #[.val (.int p1), .val (.int p2)] [] := by first | (simp [entryFrame, argsToLocals, Value.category, Array.replicate]; done) | rfl
theorem pd_49 : parseMethodDescriptor "(II)I" = some ⟨[.int, .int], some .int⟩ := by decide +kernel
def Q49 (Z : State) (p1 : Int32) (p2 : Int32)  (h0 : Heap) (n0 : Nat) (v : Option Value) (h : Heap) (L : List Loc) : Prop := v = some (.int p1) ∧ Fr n0 L ∧ h0 = h
theorem rm49 (l : Launch) (Z : State) (a0 : Array Value) (hw : ∀ d ∈ tables_1, d.before a0 Z = true) (ws : List Jvm.Cond) (p1 : Int32) (p2 : Int32)  (h0 : Heap) (n0 : Nat) (Z0 : n0 ≤ h0.size) (q0 : ¬ p1 < 0) (q1 : p1 < p2) :
    MetFree l (⟨"java/util/Objects", "checkIndex", "(II)I"⟩ : MethodName) (head1 (Jvm.Cond.code (⟨"java/util/Objects", "checkIndex", "(II)I"⟩ : MethodName) jdk_31_method_17_code 2 (some .int) :: ws) ({ frames := 1, cells := 0, slots := 0, locals := 14 } : Room)) (fun a U => a = #[(.int p1), (.int p2)] ∧ Z.Warmed39 U.vm ∧ U.heap = h0) (fun _ _ _ _ _ => True) (fun _ U o U' => ∃ v L, o = .returned v ∧ (Q49 Z p1 p2  h0 n0) v U'.heap L ∧ FrameEnd U o U' L ({ frames := 1, cells := 0, slots := 0, locals := 14 } : Room).cells ({ frames := 1, cells := 0, slots := 0, locals := 14 } : Room).slots) := by
  refine MetFree.of_bodySF pn_49 hisR ?_
  intro p e s m args below meth c s₁ Bd hml0 hP hK
  obtain ⟨rfl, hZ, hh⟩ := hP
  have hx := Bd.exec
  have hby := Bd.bytes
  have hml : c.maxLocals = 2 := hml0
  have hown : s.vm.findClass "java/util/Objects" = some m.cls := findClass_of_methodNamed Bd.named
  have hnm := (name_of_methodNamed Bd.named Bd.method).1
  have X0 : Stand p l e ({ frames := 1, cells := 0, slots := 0, locals := 14 } : Room) s m #[(.int p1), (.int p2)] below meth c s₁ [] 0 0 := Stand.of_body Bd
  have e0 : s₁.heap = h0 := by rw [← hh, Bd.state]; rfl
  have N0 := Fr.nil n0
  have lk : meth.locks = false := BodyLoose.notSynchronized Bd
  have hret := Bd.returns
  show Ends p e below (EF s ({ frames := 1, cells := 0, slots := 0, locals := 14 } : Room).cells ({ frames := 1, cells := 0, slots := 0, locals := 14 } : Room).slots) (Q49 Z p1 p2  h0 n0) (s₁.setTop (entryFrame m #[(.int p1), (.int p2)] 2))
  refine Ends.cast (ef_49 m p1 p2) ?_
  refine own_iloadN (n := 1) X0 hx (hb hby d49_0) rfl rfl ?_
  refine own_iloadN (n := 2) X0 hx (hb hby d49_1) rfl rfl ?_
  refine own_aconst_null (n := 3) X0 hx (hb hby d49_2) rfl ?_
  refine own_callS (n := 6) X0 hx hZ hown (hw _ (List.mem_of_getElem? (i := 336) rfl)) (hw _ (List.mem_of_getElem? (i := 337) rfl)) (hw _ (List.mem_of_getElem? (i := 338) rfl)) (hw _ (List.mem_of_getElem? (i := 339) rfl)) (by decide) e0 (rm50 l Z a0 hw [] p1 p2 h0 n0 Z0 q0 q1) (W := 0) (by decide) (by decide) (by decide) (by decide) (by rw [hml]; rfl) (argsL := [(.int p1), (.int p2), .null]) (rest := []) pd_50 rfl (by rfl) (Nat.le_of_eq rfl) (hb hby d49_3) rfl rfl ?_
  intro v1 T1 h1 L1 X1 e1 q1
  obtain ⟨rfl, M1, rfl⟩ := q1
  have N1 := Fr.app N0 M1
  refine own_retI X1 hx lk hret (hb hby d49_6) (by decide) (by decide) ?_
  rw [e1]
  exact ⟨rfl, N1, rfl⟩
theorem d51_0 : decode jdk_38_method_18_code 0 = .ok (.aload_n 0, 1) := by decide +kernel
theorem d51_1 : decode jdk_38_method_18_code 1 = .ok (.getfield 9, 3) := by decide +kernel
theorem d51_4 : decode jdk_38_method_18_code 4 = .ok (.iload_n 1, 1) := by decide +kernel
theorem d51_5 : decode jdk_38_method_18_code 5 = .ok (.aaload, 1) := by decide +kernel
theorem d51_6 : decode jdk_38_method_18_code 6 = .ok (.areturn, 1) := by decide +kernel
theorem pn_51 : plainFor (⟨"java/util/ArrayList", "elementData", "(I)Ljava/lang/Object;"⟩ : MethodName) = true := by first | exact plainFor_of_name (by first | (simp [plainName, overriddenIn]; done) | decide +kernel) | decide +kernel
theorem ef_51 (m : MethodId) (a1 : Addr) (p2 : Int32) : entryFrame m #[(.ref a1), (.int p2)] 2 = mkF m 0 #[.val (.ref a1), .val (.int p2)] [] := by first | (simp [entryFrame, argsToLocals, Value.category, Array.replicate]; done) | rfl
theorem pd_51 : parseMethodDescriptor "(I)Ljava/lang/Object;" = some ⟨[.int], some (.object "java/lang/Object")⟩ := by decide +kernel
def Q51 (Z : State) (a1 : Addr) (p2 : Int32) (dA : Addr) (k : Nat) (key : Nat → Addr) (i : Nat) (h0 : Heap) (n0 : Nat) (v : Option Value) (h : Heap) (L : List Loc) : Prop := v = some (.ref (key i)) ∧ Fr n0 L ∧ h0 = h
theorem rm51 (l : Launch) (Z : State) (a0 : Array Value) (hw : ∀ d ∈ tables_1, d.before a0 Z = true) (ws : List Jvm.Cond) (a1 : Addr) (p2 : Int32) (dA : Addr) (k : Nat) (key : Nat → Addr) (i : Nat) (h0 : Heap) (n0 : Nat) (Z0 : n0 ≤ h0.size) (L0 : LST Z h0 n0 dA a1 k key) (hi : i < k) (hp : p2.toInt = (i : Int)) (hk : k < 5) :
    MetFree l (⟨"java/util/ArrayList", "elementData", "(I)Ljava/lang/Object;"⟩ : MethodName) (head1 (Jvm.Cond.code (⟨"java/util/ArrayList", "elementData", "(I)Ljava/lang/Object;"⟩ : MethodName) jdk_38_method_18_code 2 (some (.object "java/lang/Object")) :: ws) ({ frames := 0, cells := 0, slots := 0, locals := 0 } : Room)) (fun a U => a = #[(.ref a1), (.int p2)] ∧ Z.Warmed39 U.vm ∧ U.heap = h0) (fun _ _ _ _ _ => True) (fun _ U o U' => ∃ v L, o = .returned v ∧ (Q51 Z a1 p2 dA k key i h0 n0) v U'.heap L ∧ FrameEnd U o U' L ({ frames := 0, cells := 0, slots := 0, locals := 0 } : Room).cells ({ frames := 0, cells := 0, slots := 0, locals := 0 } : Room).slots) := by
  refine MetFree.of_bodySF pn_51 hisR ?_
  intro p e s m args below meth c s₁ Bd hml0 hP hK
  obtain ⟨rfl, hZ, hh⟩ := hP
  have hx := Bd.exec
  have hby := Bd.bytes
  have hml : c.maxLocals = 2 := hml0
  have hown : s.vm.findClass "java/util/ArrayList" = some m.cls := findClass_of_methodNamed Bd.named
  have hnm := (name_of_methodNamed Bd.named Bd.method).1
  have X0 : Stand p l e ({ frames := 0, cells := 0, slots := 0, locals := 0 } : Room) s m #[(.ref a1), (.int p2)] below meth c s₁ [] 0 0 := Stand.of_body Bd
  have e0 : s₁.heap = h0 := by rw [← hh, Bd.state]; rfl
  have N0 := Fr.nil n0
  have lk : meth.locks = false := BodyLoose.notSynchronized Bd
  have hret := Bd.returns
  show Ends p e below (EF s ({ frames := 0, cells := 0, slots := 0, locals := 0 } : Room).cells ({ frames := 0, cells := 0, slots := 0, locals := 0 } : Room).slots) (Q51 Z a1 p2 dA k key i h0 n0) (s₁.setTop (entryFrame m #[(.ref a1), (.int p2)] 2))
  refine Ends.cast (ef_51 m a1 p2) ?_
  obtain ⟨ed, mc, F0, D0⟩ := L0
  obtain ⟨hk1, na, t, RT, t1, t2, XE0⟩ := D0.resolve_left (fun z => by omega)
  refine own_aloadN (n := 1) X0 hx (hb hby d51_0) rfl rfl rfl ?_
  refine own_getF (n := 4) X0 hx hZ hown (hw _ (List.mem_of_getElem? (i := 25) rfl)) e0 F0.2.1 (hb hby d51_1) rfl ?_
  intro T1 X1 e1
  refine own_iloadN (n := 5) X1 hx (hb hby d51_4) rfl rfl ?_
  refine own_aaload (n := 6) X1 hx hZ e1 RT (i := i) hp (by omega) (v := (.ref (key i))) (t1 i hi) (hb hby d51_5) rfl ?_
  refine own_retA X1 hx lk hret rfl rfl (hb hby d51_6) (by decide) (by decide) ?_
  rw [e1]
  exact ⟨rfl, N0, rfl⟩
theorem d48_0 : decode jdk_38_method_20_code 0 = .ok (.iload_n 1, 1) := by decide +kernel
theorem d48_1 : decode jdk_38_method_20_code 1 = .ok (.aload_n 0, 1) := by decide +kernel
theorem d48_2 : decode jdk_38_method_20_code 2 = .ok (.getfield 48, 3) := by decide +kernel
theorem d48_5 : decode jdk_38_method_20_code 5 = .ok (.invokestatic 118, 3) := by decide +kernel
theorem d48_8 : decode jdk_38_method_20_code 8 = .ok (.pop, 1) := by decide +kernel
theorem d48_9 : decode jdk_38_method_20_code 9 = .ok (.aload_n 0, 1) := by decide +kernel
theorem d48_10 : decode jdk_38_method_20_code 10 = .ok (.iload_n 1, 1) := by decide +kernel
theorem d48_11 : decode jdk_38_method_20_code 11 = .ok (.invokevirtual 123, 3) := by decide +kernel
theorem d48_14 : decode jdk_38_method_20_code 14 = .ok (.areturn, 1) := by decide +kernel
theorem pn_48 : plainFor (⟨"java/util/ArrayList", "get", "(I)Ljava/lang/Object;"⟩ : MethodName) = true := by first | exact plainFor_of_name (by first | (simp [plainName, overriddenIn]; done) | decide +kernel) | decide +kernel
theorem ef_48 (m : MethodId) (a1 : Addr) (p2 : Int32) : entryFrame m #[(.ref a1), (.int p2)] 2 = mkF m 0 #[.val (.ref a1), .val (.int p2)] [] := by first | (simp [entryFrame, argsToLocals, Value.category, Array.replicate]; done) | rfl
theorem pd_48 : parseMethodDescriptor "(I)Ljava/lang/Object;" = some ⟨[.int], some (.object "java/lang/Object")⟩ := by decide +kernel
def Q48 (Z : State) (a1 : Addr) (p2 : Int32) (dA : Addr) (k : Nat) (key : Nat → Addr) (i : Nat) (h0 : Heap) (n0 : Nat) (v : Option Value) (h : Heap) (L : List Loc) : Prop := v = some (.ref (key i)) ∧ Fr n0 L ∧ h0 = h
theorem rm48 (l : Launch) (Z : State) (a0 : Array Value) (hw : ∀ d ∈ tables_1, d.before a0 Z = true) (ws : List Jvm.Cond) (a1 : Addr) (p2 : Int32) (dA : Addr) (k : Nat) (key : Nat → Addr) (i : Nat) (h0 : Heap) (n0 : Nat) (Z0 : n0 ≤ h0.size) (L0 : LST Z h0 n0 dA a1 k key) (hi : i < k) (hp : p2.toInt = (i : Int)) (hk : k < 5) :
    MetFree l (⟨"java/util/ArrayList", "get", "(I)Ljava/lang/Object;"⟩ : MethodName) (head1 (Jvm.Cond.code (⟨"java/util/ArrayList", "get", "(I)Ljava/lang/Object;"⟩ : MethodName) jdk_38_method_20_code 2 (some (.object "java/lang/Object")) :: ws) ({ frames := 2, cells := 0, slots := 0, locals := 27 } : Room)) (fun a U => a = #[(.ref a1), (.int p2)] ∧ Z.Warmed39 U.vm ∧ U.heap = h0) (fun _ _ _ _ _ => True) (fun _ U o U' => ∃ v L, o = .returned v ∧ (Q48 Z a1 p2 dA k key i h0 n0) v U'.heap L ∧ FrameEnd U o U' L ({ frames := 2, cells := 0, slots := 0, locals := 27 } : Room).cells ({ frames := 2, cells := 0, slots := 0, locals := 27 } : Room).slots) := by
  refine MetFree.of_bodySF pn_48 hisR ?_
  intro p e s m args below meth c s₁ Bd hml0 hP hK
  obtain ⟨rfl, hZ, hh⟩ := hP
  have hx := Bd.exec
  have hby := Bd.bytes
  have hml : c.maxLocals = 2 := hml0
  have hown : s.vm.findClass "java/util/ArrayList" = some m.cls := findClass_of_methodNamed Bd.named
  have hnm := (name_of_methodNamed Bd.named Bd.method).1
  have X0 : Stand p l e ({ frames := 2, cells := 0, slots := 0, locals := 27 } : Room) s m #[(.ref a1), (.int p2)] below meth c s₁ [] 0 0 := Stand.of_body Bd
  have e0 : s₁.heap = h0 := by rw [← hh, Bd.state]; rfl
  have N0 := Fr.nil n0
  have lk : meth.locks = false := BodyLoose.notSynchronized Bd
  have hret := Bd.returns
  show Ends p e below (EF s ({ frames := 2, cells := 0, slots := 0, locals := 27 } : Room).cells ({ frames := 2, cells := 0, slots := 0, locals := 27 } : Room).slots) (Q48 Z a1 p2 dA k key i h0 n0) (s₁.setTop (entryFrame m #[(.ref a1), (.int p2)] 2))
  refine Ends.cast (ef_48 m a1 p2) ?_
  obtain ⟨ed, mc, F0, D0⟩ := L0
  refine own_iloadN (n := 1) X0 hx (hb hby d48_0) rfl rfl ?_
  refine own_aloadN (n := 2) X0 hx (hb hby d48_1) rfl rfl rfl ?_
  refine own_getF (n := 5) X0 hx hZ hown (hw _ (List.mem_of_getElem? (i := 191) rfl)) e0 F0.2.2.1 (hb hby d48_2) rfl ?_
  intro T1 X1 e1
  refine own_callS (n := 8) X1 hx hZ hown (hw _ (List.mem_of_getElem? (i := 333) rfl)) (hw _ (List.mem_of_getElem? (i := 334) rfl)) (hw _ (List.mem_of_getElem? (i := 319) rfl)) (hw _ (List.mem_of_getElem? (i := 335) rfl)) (by decide) e1 (rm49 l Z a0 hw [] p2 (Nat.toInt32 k) h0 n0 Z0 (by have o0 : (0 : Int32).toInt = 0 := rfl; rw [Int32.lt_iff_toInt_lt]; omega) (by rw [Int32.lt_iff_toInt_lt, len_toInt (by omega)]; omega)) (W := 0) (by decide) (by decide) (by decide) (by decide) (by rw [hml]; rfl) (argsL := [(.int p2), (.int (Nat.toInt32 k))]) (rest := []) pd_49 rfl (by rfl) (Nat.le_of_eq rfl) (hb hby d48_5) rfl rfl ?_
  intro v2 T2 h2 L2 X2 e2 q2
  obtain ⟨rfl, M2, rfl⟩ := q2
  have N2 := Fr.app N0 M2
  refine own_pop (n := 9) X2 hx (hb hby d48_8) rfl rfl ?_
  refine own_aloadN (n := 10) X2 hx (hb hby d48_9) rfl rfl rfl ?_
  refine own_iloadN (n := 11) X2 hx (hb hby d48_10) rfl rfl ?_
  refine own_callV (n := 14) X2 hx hZ hown (hw _ (List.mem_of_getElem? (i := 340) rfl)) (hw _ (List.mem_of_getElem? (i := 341) rfl)) (hw _ (List.mem_of_getElem? (i := 343) rfl)) (hw _ (List.mem_of_getElem? (i := 342) rfl)) (hw _ (List.mem_of_getElem? (i := 3) rfl)) (hw _ (List.mem_of_getElem? (i := 344) rfl)) (by decide) e2 F0.1 (rm51 l Z a0 hw [] a1 p2 dA k key i h0 n0 Z0 ⟨ed, mc, F0, D0⟩ hi hp hk) (W := 0) (by decide) (by decide) (by decide) (by decide) (by rw [hml]; rfl) (argsL := [(.int p2)]) (rest := []) pd_51 rfl (by rfl) (Nat.le_of_eq rfl) (hb hby d48_11) rfl rfl ?_
  intro v3 T3 h3 L3 X3 e3 q3
  obtain ⟨rfl, M3, rfl⟩ := q3
  have N3 := Fr.app N2 M3
  refine own_retA X3 hx lk hret rfl rfl (hb hby d48_14) (by decide) (by decide) ?_
  rw [e3]
  exact ⟨rfl, N3, rfl⟩
def NODES (Z : State) (h : Heap) (c : Nat) (key : Nat → Addr) (inS : Nat → Bool) (t : Nat → Value) : Prop := ∀ i, i < 5 → (inS i = true → ∃ nd vv, t ((c + i) % 16) = .ref nd ∧ ND Z h nd (Nat.toInt32 (c + i)) (.ref (key i)) vv .null) ∧ (inS i = false → t ((c + i) % 16) = .null)
theorem NODES.ext {Z : State} {h h' : Heap} {c : Nat} {key : Nat → Addr} {inS : Nat → Bool} {t : Nat → Value} (F : NODES Z h c key inS t) (E : Ext h h') : NODES Z h' c key inS t := fun i hi => ⟨fun q => by obtain ⟨nd, vv, a, b⟩ := (F i hi).1 q; exact ⟨nd, vv, a, b.ext E⟩, (F i hi).2⟩
theorem NODES.kc {Z : State} {h h' : Heap} {c : Nat} {key : Nat → Addr} {inS : Nat → Bool} {t : Nat → Value} {L : List (String ⊕ FieldType)} (F : NODES Z h c key inS t) (K : Kc Z h h' L) (q1 : NoS Z (.inl "java/util/HashMap$Node") L) : NODES Z h' c key inS t := fun i hi => ⟨fun q => by obtain ⟨nd, vv, a, b⟩ := (F i hi).1 q; exact ⟨nd, vv, a, b.kc K q1⟩, (F i hi).2⟩
theorem own_nodes0 {Z : State} {h : Heap} {c : Nat} {key : Nat → Addr} {inS : Nat → Bool} (hno : ∀ i, i < 5 → inS i = false) : NODES Z h c key inS (fun _ => .null) := fun i hi => ⟨fun q => absurd ((hno i hi).symm.trans q) (by decide), fun _ => rfl⟩
theorem own_nodes {Z : State} {h : Heap} {c i : Nat} {key : Nat → Addr} {inS : Nat → Bool} {t : Nat → Value} {nd : Addr} {vv : Value} (NO : NODES Z h c key inS t) (F : ND Z h nd (Nat.toInt32 (c + i)) (.ref (key i)) vv .null) (hi : i < 5) : NODES Z h c key (fun j => if j = i then true else inS j) (fun z => if z = (c + i) % 16 then .ref nd else t z) := fun j hj => by
  by_cases e : j = i
  · subst e
    exact ⟨fun _ => ⟨nd, vv, if_pos rfl, F⟩, fun q => by simp at q⟩
  · have ne : ¬ (c + j) % 16 = (c + i) % 16 := by omega
    refine ⟨fun q => ?_, fun q => ?_⟩
    · have q : inS j = true := by simpa [e] using q
      obtain ⟨n', v', a, b⟩ := (NO j hj).1 q
      exact ⟨n', v', (if_neg ne).trans a, b⟩
    · have q : inS j = false := by simpa [e] using q
      exact (if_neg ne).trans ((NO j hj).2 q)
def MAPD (Z : State) (h : Heap) (n0 : Nat) (tv : Value) (thr : Int32) (c : Nat) (key : Nat → Addr) (inS : Nat → Bool) : Prop := (tv = .null ∧ thr = 0 ∧ ∀ i, i < 5 → inS i = false) ∨ (∃ tb t, tv = .ref tb ∧ thr = 12 ∧ n0 ≤ tb ∧ RA Z h tb "java/util/HashMap$Node" 16 t ∧ NODES Z h c key inS t)
theorem MAPD.ext {Z : State} {h h' : Heap} {n0 : Nat} {tv : Value} {thr : Int32} {c : Nat} {key : Nat → Addr} {inS : Nat → Bool} (F : MAPD Z h n0 tv thr c key inS) (E : Ext h h') : MAPD Z h' n0 tv thr c key inS := F.elim Or.inl fun ⟨tb, t, a, b, d, r, s⟩ => Or.inr ⟨tb, t, a, b, d, r.ext E, s.ext E⟩
theorem MAPD.kc {Z : State} {h h' : Heap} {n0 : Nat} {tv : Value} {thr : Int32} {c : Nat} {key : Nat → Addr} {inS : Nat → Bool} {L : List (String ⊕ FieldType)} (F : MAPD Z h n0 tv thr c key inS) (K : Kc Z h h' L) (q1 : NoS Z (.inl "java/util/HashMap$Node") L) (q2 : NoS Z (.inr (.object "java/util/HashMap$Node")) L) : MAPD Z h' n0 tv thr c key inS := F.elim Or.inl fun ⟨tb, t, a, b, d, r, s⟩ => Or.inr ⟨tb, t, a, b, d, r.kc K q2, s.kc K q1⟩
def MAP (Z : State) (h : Heap) (n0 : Nat) (a : Addr) (c : Nat) (key : Nat → Addr) (inS : Nat → Bool) (k : Nat) : Prop := ∃ tv thr mc lf, HM Z h a tv (Nat.toInt32 k) thr mc lf ∧ MAPD Z h n0 tv thr c key inS
theorem MAP.exa {Z : State} {h : Heap} {n0 : Nat} {a : Addr} {c : Nat} {key : Nat → Addr} {inS : Nat → Bool} {k : Nat} (F : MAP Z h n0 a c key inS k) : Exa Z h a "java/util/HashMap" := by
  obtain ⟨tv, thr, mc, lf, q, -⟩ := F
  exact q.1
theorem MAP.ext {Z : State} {h h' : Heap} {n0 : Nat} {a : Addr} {c : Nat} {key : Nat → Addr} {inS : Nat → Bool} {k : Nat} (F : MAP Z h n0 a c key inS k) (E : Ext h h') : MAP Z h' n0 a c key inS k := by
  obtain ⟨tv, thr, mc, lf, q, r⟩ := F
  exact ⟨tv, thr, mc, lf, q.ext E, r.ext E⟩
theorem MAP.kc {Z : State} {h h' : Heap} {n0 : Nat} {a : Addr} {c : Nat} {key : Nat → Addr} {inS : Nat → Bool} {k : Nat} {L : List (String ⊕ FieldType)} (F : MAP Z h n0 a c key inS k) (K : Kc Z h h' L) (q0 : NoS Z (.inl "java/util/HashMap") L) (q1 : NoS Z (.inl "java/util/HashMap$Node") L) (q2 : NoS Z (.inr (.object "java/util/HashMap$Node")) L) : MAP Z h' n0 a c key inS k := by
  obtain ⟨tv, thr, mc, lf, q, r⟩ := F
  exact ⟨tv, thr, mc, lf, q.kc K q0, r.kc K q1 q2⟩
theorem own_bk {p2 ix : Int32} {c i : Nat} (h : p2 = Nat.toInt32 (c + i)) (hc : c < 256) (hi : i < 5) (g : ((16 : Int32) - (1 : Int32)) &&& p2 = ix) : ix.toInt = (((c + i) % 16 : Nat) : Int) := by
  have q := c_mask p2 (16 - 1) 4 (by decide) (by decide)
  rw [Int32.and_comm] at g
  rw [g, h, len_toInt (by omega)] at q
  rw [q]
  omega
theorem own_bk' {p2 ix : Int32} {c i : Nat} (h : p2 = Nat.toInt32 (c + i)) (hc : c < 256) (hi : i < 5) : (((16 : Int32) - (1 : Int32)) &&& p2).toInt = (((c + i) % 16 : Nat) : Int) := own_bk h hc hi rfl
theorem own_le12 {k : Nat} (h : k < 5) : ¬ (12 : Int32) < Nat.toInt32 k + 1 := by
  rw [own_succ (by omega), Int32.lt_iff_toInt_lt, len_toInt (by omega)]
  have o : (12 : Int32).toInt = 12 := rfl
  omega
theorem d20_0 : decode jdk_69_method_17_code 0 = .ok (.aload_n 0, 1) := by decide +kernel
theorem d20_1 : decode jdk_69_method_17_code 1 = .ok (.getfield 105, 3) := by decide +kernel
theorem d20_4 : decode jdk_69_method_17_code 4 = .ok (.astore_n 1, 1) := by decide +kernel
theorem d20_5 : decode jdk_69_method_17_code 5 = .ok (.aload_n 1, 1) := by decide +kernel
theorem d20_6 : decode jdk_69_method_17_code 6 = .ok (.ifnonnull 7, 3) := by decide +kernel
theorem d20_9 : decode jdk_69_method_17_code 9 = .ok (.iconst 0, 1) := by decide +kernel
theorem d20_10 : decode jdk_69_method_17_code 10 = .ok (.goto 5, 3) := by decide +kernel
theorem d20_13 : decode jdk_69_method_17_code 13 = .ok (.aload_n 1, 1) := by decide +kernel
theorem d20_14 : decode jdk_69_method_17_code 14 = .ok (.arraylength, 1) := by decide +kernel
theorem d20_15 : decode jdk_69_method_17_code 15 = .ok (.istore_n 2, 1) := by decide +kernel
theorem d20_16 : decode jdk_69_method_17_code 16 = .ok (.aload_n 0, 1) := by decide +kernel
theorem d20_17 : decode jdk_69_method_17_code 17 = .ok (.getfield 88, 3) := by decide +kernel
theorem d20_20 : decode jdk_69_method_17_code 20 = .ok (.istore_n 3, 1) := by decide +kernel
theorem d20_21 : decode jdk_69_method_17_code 21 = .ok (.iconst 0, 1) := by decide +kernel
theorem d20_22 : decode jdk_69_method_17_code 22 = .ok (.istore 5, 2) := by decide +kernel
theorem d20_24 : decode jdk_69_method_17_code 24 = .ok (.iload_n 2, 1) := by decide +kernel
theorem d20_25 : decode jdk_69_method_17_code 25 = .ok (.ifCond .le 42, 3) := by decide +kernel
theorem d20_28 : decode jdk_69_method_17_code 28 = .ok (.iload_n 2, 1) := by decide +kernel
theorem d20_29 : decode jdk_69_method_17_code 29 = .ok (.ldc 42, 2) := by decide +kernel
theorem d20_31 : decode jdk_69_method_17_code 31 = .ok (.if_icmp .lt 11, 3) := by decide +kernel
theorem d20_34 : decode jdk_69_method_17_code 34 = .ok (.aload_n 0, 1) := by decide +kernel
theorem d20_35 : decode jdk_69_method_17_code 35 = .ok (.ldc 209, 2) := by decide +kernel
theorem d20_37 : decode jdk_69_method_17_code 37 = .ok (.putfield 88, 3) := by decide +kernel
theorem d20_40 : decode jdk_69_method_17_code 40 = .ok (.aload_n 1, 1) := by decide +kernel
theorem d20_41 : decode jdk_69_method_17_code 41 = .ok (.areturn, 1) := by decide +kernel
theorem d20_42 : decode jdk_69_method_17_code 42 = .ok (.iload_n 2, 1) := by decide +kernel
theorem d20_43 : decode jdk_69_method_17_code 43 = .ok (.iconst 1, 1) := by decide +kernel
theorem d20_44 : decode jdk_69_method_17_code 44 = .ok (.ishl, 1) := by decide +kernel
theorem d20_45 : decode jdk_69_method_17_code 45 = .ok (.dup, 1) := by decide +kernel
theorem d20_46 : decode jdk_69_method_17_code 46 = .ok (.istore 4, 2) := by decide +kernel
theorem d20_48 : decode jdk_69_method_17_code 48 = .ok (.ldc 42, 2) := by decide +kernel
theorem d20_50 : decode jdk_69_method_17_code 50 = .ok (.if_icmp .ge 35, 3) := by decide +kernel
theorem d20_53 : decode jdk_69_method_17_code 53 = .ok (.iload_n 2, 1) := by decide +kernel
theorem d20_54 : decode jdk_69_method_17_code 54 = .ok (.bipush 16, 2) := by decide +kernel
theorem d20_56 : decode jdk_69_method_17_code 56 = .ok (.if_icmp .lt 29, 3) := by decide +kernel
theorem d20_59 : decode jdk_69_method_17_code 59 = .ok (.iload_n 3, 1) := by decide +kernel
theorem d20_60 : decode jdk_69_method_17_code 60 = .ok (.iconst 1, 1) := by decide +kernel
theorem d20_61 : decode jdk_69_method_17_code 61 = .ok (.ishl, 1) := by decide +kernel
theorem d20_62 : decode jdk_69_method_17_code 62 = .ok (.istore 5, 2) := by decide +kernel
theorem d20_64 : decode jdk_69_method_17_code 64 = .ok (.goto 21, 3) := by decide +kernel
theorem d20_67 : decode jdk_69_method_17_code 67 = .ok (.iload_n 3, 1) := by decide +kernel
theorem d20_68 : decode jdk_69_method_17_code 68 = .ok (.ifCond .le 9, 3) := by decide +kernel
theorem d20_71 : decode jdk_69_method_17_code 71 = .ok (.iload_n 3, 1) := by decide +kernel
theorem d20_72 : decode jdk_69_method_17_code 72 = .ok (.istore 4, 2) := by decide +kernel
theorem d20_74 : decode jdk_69_method_17_code 74 = .ok (.goto 11, 3) := by decide +kernel
theorem d20_77 : decode jdk_69_method_17_code 77 = .ok (.bipush 16, 2) := by decide +kernel
theorem d20_79 : decode jdk_69_method_17_code 79 = .ok (.istore 4, 2) := by decide +kernel
theorem d20_81 : decode jdk_69_method_17_code 81 = .ok (.bipush 12, 2) := by decide +kernel
theorem d20_83 : decode jdk_69_method_17_code 83 = .ok (.istore 5, 2) := by decide +kernel
theorem d20_85 : decode jdk_69_method_17_code 85 = .ok (.iload 5, 2) := by decide +kernel
theorem d20_87 : decode jdk_69_method_17_code 87 = .ok (.ifCond .ne 38, 3) := by decide +kernel
theorem d20_90 : decode jdk_69_method_17_code 90 = .ok (.iload 4, 2) := by decide +kernel
theorem d20_92 : decode jdk_69_method_17_code 92 = .ok (.i2f, 1) := by decide +kernel
theorem d20_93 : decode jdk_69_method_17_code 93 = .ok (.aload_n 0, 1) := by decide +kernel
theorem d20_94 : decode jdk_69_method_17_code 94 = .ok (.getfield 81, 3) := by decide +kernel
theorem d20_97 : decode jdk_69_method_17_code 97 = .ok (.fmul, 1) := by decide +kernel
theorem d20_98 : decode jdk_69_method_17_code 98 = .ok (.fstore 6, 2) := by decide +kernel
theorem d20_100 : decode jdk_69_method_17_code 100 = .ok (.iload 4, 2) := by decide +kernel
theorem d20_102 : decode jdk_69_method_17_code 102 = .ok (.ldc 42, 2) := by decide +kernel
theorem d20_104 : decode jdk_69_method_17_code 104 = .ok (.if_icmp .ge 17, 3) := by decide +kernel
theorem d20_107 : decode jdk_69_method_17_code 107 = .ok (.fload 6, 2) := by decide +kernel
theorem d20_109 : decode jdk_69_method_17_code 109 = .ok (.ldc 210, 2) := by decide +kernel
theorem d20_111 : decode jdk_69_method_17_code 111 = .ok (.fcmp .g, 1) := by decide +kernel
theorem d20_112 : decode jdk_69_method_17_code 112 = .ok (.ifCond .ge 9, 3) := by decide +kernel
theorem d20_115 : decode jdk_69_method_17_code 115 = .ok (.fload 6, 2) := by decide +kernel
theorem d20_117 : decode jdk_69_method_17_code 117 = .ok (.f2i, 1) := by decide +kernel
theorem d20_118 : decode jdk_69_method_17_code 118 = .ok (.goto 5, 3) := by decide +kernel
theorem d20_121 : decode jdk_69_method_17_code 121 = .ok (.ldc 209, 2) := by decide +kernel
theorem d20_123 : decode jdk_69_method_17_code 123 = .ok (.istore 5, 2) := by decide +kernel
theorem d20_125 : decode jdk_69_method_17_code 125 = .ok (.aload_n 0, 1) := by decide +kernel
theorem d20_126 : decode jdk_69_method_17_code 126 = .ok (.iload 5, 2) := by decide +kernel
theorem d20_128 : decode jdk_69_method_17_code 128 = .ok (.putfield 88, 3) := by decide +kernel
theorem d20_131 : decode jdk_69_method_17_code 131 = .ok (.iload 4, 2) := by decide +kernel
theorem d20_133 : decode jdk_69_method_17_code 133 = .ok (.anewarray 163, 3) := by decide +kernel
theorem d20_136 : decode jdk_69_method_17_code 136 = .ok (.astore 6, 2) := by decide +kernel
theorem d20_138 : decode jdk_69_method_17_code 138 = .ok (.aload_n 0, 1) := by decide +kernel
theorem d20_139 : decode jdk_69_method_17_code 139 = .ok (.aload 6, 2) := by decide +kernel
theorem d20_141 : decode jdk_69_method_17_code 141 = .ok (.putfield 105, 3) := by decide +kernel
theorem d20_144 : decode jdk_69_method_17_code 144 = .ok (.aload_n 1, 1) := by decide +kernel
theorem d20_145 : decode jdk_69_method_17_code 145 = .ok (.ifnull 208, 3) := by decide +kernel
theorem d20_148 : decode jdk_69_method_17_code 148 = .ok (.iconst 0, 1) := by decide +kernel
theorem d20_149 : decode jdk_69_method_17_code 149 = .ok (.istore 7, 2) := by decide +kernel
theorem d20_151 : decode jdk_69_method_17_code 151 = .ok (.iload 7, 2) := by decide +kernel
theorem d20_153 : decode jdk_69_method_17_code 153 = .ok (.iload_n 2, 1) := by decide +kernel
theorem d20_154 : decode jdk_69_method_17_code 154 = .ok (.if_icmp .ge 199, 3) := by decide +kernel
theorem d20_157 : decode jdk_69_method_17_code 157 = .ok (.aload_n 1, 1) := by decide +kernel
theorem d20_158 : decode jdk_69_method_17_code 158 = .ok (.iload 7, 2) := by decide +kernel
theorem d20_160 : decode jdk_69_method_17_code 160 = .ok (.aaload, 1) := by decide +kernel
theorem d20_161 : decode jdk_69_method_17_code 161 = .ok (.dup, 1) := by decide +kernel
theorem d20_162 : decode jdk_69_method_17_code 162 = .ok (.astore 8, 2) := by decide +kernel
theorem d20_164 : decode jdk_69_method_17_code 164 = .ok (.ifnull 183, 3) := by decide +kernel
theorem d20_167 : decode jdk_69_method_17_code 167 = .ok (.aload_n 1, 1) := by decide +kernel
theorem d20_168 : decode jdk_69_method_17_code 168 = .ok (.iload 7, 2) := by decide +kernel
theorem d20_170 : decode jdk_69_method_17_code 170 = .ok (.aconst_null, 1) := by decide +kernel
theorem d20_171 : decode jdk_69_method_17_code 171 = .ok (.aastore, 1) := by decide +kernel
theorem d20_172 : decode jdk_69_method_17_code 172 = .ok (.aload 8, 2) := by decide +kernel
theorem d20_174 : decode jdk_69_method_17_code 174 = .ok (.getfield 177, 3) := by decide +kernel
theorem d20_177 : decode jdk_69_method_17_code 177 = .ok (.ifnonnull 21, 3) := by decide +kernel
theorem d20_180 : decode jdk_69_method_17_code 180 = .ok (.aload 6, 2) := by decide +kernel
theorem d20_182 : decode jdk_69_method_17_code 182 = .ok (.aload 8, 2) := by decide +kernel
theorem d20_184 : decode jdk_69_method_17_code 184 = .ok (.getfield 168, 3) := by decide +kernel
theorem d20_187 : decode jdk_69_method_17_code 187 = .ok (.iload 4, 2) := by decide +kernel
theorem d20_189 : decode jdk_69_method_17_code 189 = .ok (.iconst 1, 1) := by decide +kernel
theorem d20_190 : decode jdk_69_method_17_code 190 = .ok (.isub, 1) := by decide +kernel
theorem d20_191 : decode jdk_69_method_17_code 191 = .ok (.iand, 1) := by decide +kernel
theorem d20_192 : decode jdk_69_method_17_code 192 = .ok (.aload 8, 2) := by decide +kernel
theorem d20_194 : decode jdk_69_method_17_code 194 = .ok (.aastore, 1) := by decide +kernel
theorem d20_195 : decode jdk_69_method_17_code 195 = .ok (.goto 152, 3) := by decide +kernel
theorem d20_198 : decode jdk_69_method_17_code 198 = .ok (.aload 8, 2) := by decide +kernel
theorem d20_200 : decode jdk_69_method_17_code 200 = .ok (.instanceof 180, 3) := by decide +kernel
theorem d20_203 : decode jdk_69_method_17_code 203 = .ok (.ifCond .eq 20, 3) := by decide +kernel
theorem d20_206 : decode jdk_69_method_17_code 206 = .ok (.aload 8, 2) := by decide +kernel
theorem d20_208 : decode jdk_69_method_17_code 208 = .ok (.checkcast 180, 3) := by decide +kernel
theorem d20_211 : decode jdk_69_method_17_code 211 = .ok (.aload_n 0, 1) := by decide +kernel
theorem d20_212 : decode jdk_69_method_17_code 212 = .ok (.aload 6, 2) := by decide +kernel
theorem d20_214 : decode jdk_69_method_17_code 214 = .ok (.iload 7, 2) := by decide +kernel
theorem d20_216 : decode jdk_69_method_17_code 216 = .ok (.iload_n 2, 1) := by decide +kernel
theorem d20_217 : decode jdk_69_method_17_code 217 = .ok (.invokevirtual 211, 3) := by decide +kernel
theorem d20_220 : decode jdk_69_method_17_code 220 = .ok (.goto 127, 3) := by decide +kernel
theorem d20_223 : decode jdk_69_method_17_code 223 = .ok (.aconst_null, 1) := by decide +kernel
theorem d20_224 : decode jdk_69_method_17_code 224 = .ok (.astore 9, 2) := by decide +kernel
theorem d20_226 : decode jdk_69_method_17_code 226 = .ok (.aconst_null, 1) := by decide +kernel
theorem d20_227 : decode jdk_69_method_17_code 227 = .ok (.astore 10, 2) := by decide +kernel
theorem d20_229 : decode jdk_69_method_17_code 229 = .ok (.aconst_null, 1) := by decide +kernel
theorem d20_230 : decode jdk_69_method_17_code 230 = .ok (.astore 11, 2) := by decide +kernel
theorem d20_232 : decode jdk_69_method_17_code 232 = .ok (.aconst_null, 1) := by decide +kernel
theorem d20_233 : decode jdk_69_method_17_code 233 = .ok (.astore 12, 2) := by decide +kernel
theorem d20_235 : decode jdk_69_method_17_code 235 = .ok (.aload 8, 2) := by decide +kernel
theorem d20_237 : decode jdk_69_method_17_code 237 = .ok (.getfield 177, 3) := by decide +kernel
theorem d20_240 : decode jdk_69_method_17_code 240 = .ok (.astore 13, 2) := by decide +kernel
theorem d20_242 : decode jdk_69_method_17_code 242 = .ok (.aload 8, 2) := by decide +kernel
theorem d20_244 : decode jdk_69_method_17_code 244 = .ok (.getfield 168, 3) := by decide +kernel
theorem d20_247 : decode jdk_69_method_17_code 247 = .ok (.iload_n 2, 1) := by decide +kernel
theorem d20_248 : decode jdk_69_method_17_code 248 = .ok (.iand, 1) := by decide +kernel
theorem d20_249 : decode jdk_69_method_17_code 249 = .ok (.ifCond .ne 29, 3) := by decide +kernel
theorem d20_252 : decode jdk_69_method_17_code 252 = .ok (.aload 10, 2) := by decide +kernel
theorem d20_254 : decode jdk_69_method_17_code 254 = .ok (.ifnonnull 10, 3) := by decide +kernel
theorem d20_257 : decode jdk_69_method_17_code 257 = .ok (.aload 8, 2) := by decide +kernel
theorem d20_259 : decode jdk_69_method_17_code 259 = .ok (.astore 9, 2) := by decide +kernel
theorem d20_261 : decode jdk_69_method_17_code 261 = .ok (.goto 10, 3) := by decide +kernel
theorem d20_264 : decode jdk_69_method_17_code 264 = .ok (.aload 10, 2) := by decide +kernel
theorem d20_266 : decode jdk_69_method_17_code 266 = .ok (.aload 8, 2) := by decide +kernel
theorem d20_268 : decode jdk_69_method_17_code 268 = .ok (.putfield 177, 3) := by decide +kernel
theorem d20_271 : decode jdk_69_method_17_code 271 = .ok (.aload 8, 2) := by decide +kernel
theorem d20_273 : decode jdk_69_method_17_code 273 = .ok (.astore 10, 2) := by decide +kernel
theorem d20_275 : decode jdk_69_method_17_code 275 = .ok (.goto 26, 3) := by decide +kernel
theorem d20_278 : decode jdk_69_method_17_code 278 = .ok (.aload 12, 2) := by decide +kernel
theorem d20_280 : decode jdk_69_method_17_code 280 = .ok (.ifnonnull 10, 3) := by decide +kernel
theorem d20_283 : decode jdk_69_method_17_code 283 = .ok (.aload 8, 2) := by decide +kernel
theorem d20_285 : decode jdk_69_method_17_code 285 = .ok (.astore 11, 2) := by decide +kernel
theorem d20_287 : decode jdk_69_method_17_code 287 = .ok (.goto 10, 3) := by decide +kernel
theorem d20_290 : decode jdk_69_method_17_code 290 = .ok (.aload 12, 2) := by decide +kernel
theorem d20_292 : decode jdk_69_method_17_code 292 = .ok (.aload 8, 2) := by decide +kernel
theorem d20_294 : decode jdk_69_method_17_code 294 = .ok (.putfield 177, 3) := by decide +kernel
theorem d20_297 : decode jdk_69_method_17_code 297 = .ok (.aload 8, 2) := by decide +kernel
theorem d20_299 : decode jdk_69_method_17_code 299 = .ok (.astore 12, 2) := by decide +kernel
theorem d20_301 : decode jdk_69_method_17_code 301 = .ok (.aload 13, 2) := by decide +kernel
theorem d20_303 : decode jdk_69_method_17_code 303 = .ok (.dup, 1) := by decide +kernel
theorem d20_304 : decode jdk_69_method_17_code 304 = .ok (.astore 8, 2) := by decide +kernel
theorem d20_306 : decode jdk_69_method_17_code 306 = .ok (.ifnonnull (-71), 3) := by decide +kernel
theorem d20_309 : decode jdk_69_method_17_code 309 = .ok (.aload 10, 2) := by decide +kernel
theorem d20_311 : decode jdk_69_method_17_code 311 = .ok (.ifnull 16, 3) := by decide +kernel
theorem d20_314 : decode jdk_69_method_17_code 314 = .ok (.aload 10, 2) := by decide +kernel
theorem d20_316 : decode jdk_69_method_17_code 316 = .ok (.aconst_null, 1) := by decide +kernel
theorem d20_317 : decode jdk_69_method_17_code 317 = .ok (.putfield 177, 3) := by decide +kernel
theorem d20_320 : decode jdk_69_method_17_code 320 = .ok (.aload 6, 2) := by decide +kernel
theorem d20_322 : decode jdk_69_method_17_code 322 = .ok (.iload 7, 2) := by decide +kernel
theorem d20_324 : decode jdk_69_method_17_code 324 = .ok (.aload 9, 2) := by decide +kernel
theorem d20_326 : decode jdk_69_method_17_code 326 = .ok (.aastore, 1) := by decide +kernel
theorem d20_327 : decode jdk_69_method_17_code 327 = .ok (.aload 12, 2) := by decide +kernel
theorem d20_329 : decode jdk_69_method_17_code 329 = .ok (.ifnull 18, 3) := by decide +kernel
theorem d20_332 : decode jdk_69_method_17_code 332 = .ok (.aload 12, 2) := by decide +kernel
theorem d20_334 : decode jdk_69_method_17_code 334 = .ok (.aconst_null, 1) := by decide +kernel
theorem d20_335 : decode jdk_69_method_17_code 335 = .ok (.putfield 177, 3) := by decide +kernel
theorem d20_338 : decode jdk_69_method_17_code 338 = .ok (.aload 6, 2) := by decide +kernel
theorem d20_340 : decode jdk_69_method_17_code 340 = .ok (.iload 7, 2) := by decide +kernel
theorem d20_342 : decode jdk_69_method_17_code 342 = .ok (.iload_n 2, 1) := by decide +kernel
theorem d20_343 : decode jdk_69_method_17_code 343 = .ok (.iadd, 1) := by decide +kernel
theorem d20_344 : decode jdk_69_method_17_code 344 = .ok (.aload 11, 2) := by decide +kernel
theorem d20_346 : decode jdk_69_method_17_code 346 = .ok (.aastore, 1) := by decide +kernel
theorem d20_347 : decode jdk_69_method_17_code 347 = .ok (.iinc 7 1, 3) := by decide +kernel
theorem d20_350 : decode jdk_69_method_17_code 350 = .ok (.goto (-199), 3) := by decide +kernel
theorem d20_353 : decode jdk_69_method_17_code 353 = .ok (.aload 6, 2) := by decide +kernel
theorem d20_355 : decode jdk_69_method_17_code 355 = .ok (.areturn, 1) := by decide +kernel
theorem pn_20 : plainFor (⟨"java/util/HashMap", "resize", "()[Ljava/util/HashMap$Node;"⟩ : MethodName) = true := by first | exact plainFor_of_name (by first | (simp [plainName, overriddenIn]; done) | decide +kernel) | decide +kernel
theorem ef_20 (m : MethodId) (a1 : Addr) : entryFrame m #[(.ref a1)] 14 = mkF m 0 #[.val (.ref a1), .unset, .unset, .unset, .unset, .unset, .unset, .unset, .unset, .unset, .unset, .unset, .unset, .unset] [] := by first | (simp [entryFrame, argsToLocals, Value.category, Array.replicate]; done) | rfl
theorem pd_20 : parseMethodDescriptor "()[Ljava/util/HashMap$Node;" = some ⟨[], some (.array (.object "java/util/HashMap$Node"))⟩ := by decide +kernel
def Q20 (Z : State) (a1 : Addr) (sz : Int32) (mc : Int32) (lf : Value) (h0 : Heap) (n0 : Nat) (v : Option Value) (h : Heap) (L : List Loc) : Prop := ∃ tb, v = some (.ref tb) ∧ Fr n0 L ∧ Keep h0 h [a1] ∧ HM Z h a1 (.ref tb) sz 12 mc lf ∧ RA Z h tb "java/util/HashMap$Node" 16 (fun _ => .null) ∧ h0.size ≤ tb
theorem rm20 (l : Launch) (Z : State) (a0 : Array Value) (hw : ∀ d ∈ tables_1, d.before a0 Z = true) (ws : List Jvm.Cond) (a1 : Addr) (sz : Int32) (mc : Int32) (lf : Value) (h0 : Heap) (n0 : Nat) (Z0 : n0 ≤ h0.size) (F0 : HM Z h0 a1 .null sz 0 mc lf) (nb : n0 ≤ a1) :
    MetFree l (⟨"java/util/HashMap", "resize", "()[Ljava/util/HashMap$Node;"⟩ : MethodName) (head1 (Jvm.Cond.code (⟨"java/util/HashMap", "resize", "()[Ljava/util/HashMap$Node;"⟩ : MethodName) jdk_69_method_17_code 14 (some (.array (.object "java/util/HashMap$Node"))) :: ws) ({ frames := 0, cells := 1, slots := 16, locals := 0 } : Room)) (fun a U => a = #[(.ref a1)] ∧ Z.Warmed39 U.vm ∧ U.heap = h0) (fun _ _ _ _ _ => True) (fun _ U o U' => ∃ v L, o = .returned v ∧ (Q20 Z a1 sz mc lf h0 n0) v U'.heap L ∧ FrameEnd U o U' L ({ frames := 0, cells := 1, slots := 16, locals := 0 } : Room).cells ({ frames := 0, cells := 1, slots := 16, locals := 0 } : Room).slots) := by
  refine MetFree.of_bodySF pn_20 hisR ?_
  intro p e s m args below meth c s₁ Bd hml0 hP hK
  obtain ⟨rfl, hZ, hh⟩ := hP
  have hx := Bd.exec
  have hby := Bd.bytes
  have hml : c.maxLocals = 14 := hml0
  have hown : s.vm.findClass "java/util/HashMap" = some m.cls := findClass_of_methodNamed Bd.named
  have hnm := (name_of_methodNamed Bd.named Bd.method).1
  have X0 : Stand p l e ({ frames := 0, cells := 1, slots := 16, locals := 0 } : Room) s m #[(.ref a1)] below meth c s₁ [] 0 0 := Stand.of_body Bd
  have e0 : s₁.heap = h0 := by rw [← hh, Bd.state]; rfl
  have N0 := Fr.nil n0
  have lk : meth.locks = false := BodyLoose.notSynchronized Bd
  have hret := Bd.returns
  show Ends p e below (EF s ({ frames := 0, cells := 1, slots := 16, locals := 0 } : Room).cells ({ frames := 0, cells := 1, slots := 16, locals := 0 } : Room).slots) (Q20 Z a1 sz mc lf h0 n0) (s₁.setTop (entryFrame m #[(.ref a1)] 14))
  refine Ends.cast (ef_20 m a1) ?_
  refine own_aloadN (n := 1) X0 hx (hb hby d20_0) rfl rfl rfl ?_
  refine own_getF (n := 4) X0 hx hZ hown (hw _ (List.mem_of_getElem? (i := 121) rfl)) e0 F0.2.1 (hb hby d20_1) rfl ?_
  intro T1 X1 e1
  refine own_astoreN (n := 5) X1 hx (hb hby d20_4) rfl (l' := #[.val (.ref a1), .val .null, .unset, .unset, .unset, .unset, .unset, .unset, .unset, .unset, .unset, .unset, .unset, .unset]) rfl rfl ?_
  refine own_aloadN (n := 6) X1 hx (hb hby d20_5) rfl rfl rfl ?_
  refine own_ifnonnullNo (n := 9) X1 hx (hb hby d20_6) rfl rfl ?_
  refine own_iconst (n := 10) X1 hx (0 : Int32) (hb hby d20_9) rfl rfl ?_
  refine own_goto (n := 15) X1 hx (hb hby d20_10) (by decide) (by decide) ?_
  refine own_istoreN (n := 16) X1 hx (hb hby d20_15) (l' := #[.val (.ref a1), .val .null, .val (.int (0 : Int32)), .unset, .unset, .unset, .unset, .unset, .unset, .unset, .unset, .unset, .unset, .unset]) rfl rfl ?_
  refine own_aloadN (n := 17) X1 hx (hb hby d20_16) rfl rfl rfl ?_
  refine own_getF (n := 20) X1 hx hZ hown (hw _ (List.mem_of_getElem? (i := 128) rfl)) e1 F0.2.2.2.1 (hb hby d20_17) rfl ?_
  intro T2 X2 e2
  refine own_istoreN (n := 21) X2 hx (hb hby d20_20) (l' := #[.val (.ref a1), .val .null, .val (.int (0 : Int32)), .val (.int (0 : Int32)), .unset, .unset, .unset, .unset, .unset, .unset, .unset, .unset, .unset, .unset]) rfl rfl ?_
  refine own_iconst (n := 22) X2 hx (0 : Int32) (hb hby d20_21) rfl rfl ?_
  refine own_istore (n := 24) X2 hx (hb hby d20_22) (l' := #[.val (.ref a1), .val .null, .val (.int (0 : Int32)), .val (.int (0 : Int32)), .unset, .val (.int (0 : Int32)), .unset, .unset, .unset, .unset, .unset, .unset, .unset, .unset]) rfl rfl ?_
  refine own_iloadN (n := 25) X2 hx (hb hby d20_24) rfl rfl ?_
  refine own_ifYes (n := 67) X2 hx (hb hby d20_25) (Jvm.Free.XT.i0_le_t (by decide)) (by decide) (by decide) ?_
  refine own_iloadN (n := 68) X2 hx (hb hby d20_67) rfl rfl ?_
  refine own_ifYes (n := 77) X2 hx (hb hby d20_68) (Jvm.Free.XT.i0_le_t (by decide)) (by decide) (by decide) ?_
  refine own_bipush (n := 79) X2 hx (16 : Int32) (hb hby d20_77) rfl rfl ?_
  refine own_istore (n := 81) X2 hx (hb hby d20_79) (l' := #[.val (.ref a1), .val .null, .val (.int (0 : Int32)), .val (.int (0 : Int32)), .val (.int (16 : Int32)), .val (.int (0 : Int32)), .unset, .unset, .unset, .unset, .unset, .unset, .unset, .unset]) rfl rfl ?_
  refine own_bipush (n := 83) X2 hx (12 : Int32) (hb hby d20_81) rfl rfl ?_
  refine own_istore (n := 85) X2 hx (hb hby d20_83) (l' := #[.val (.ref a1), .val .null, .val (.int (0 : Int32)), .val (.int (0 : Int32)), .val (.int (16 : Int32)), .val (.int (12 : Int32)), .unset, .unset, .unset, .unset, .unset, .unset, .unset, .unset]) rfl rfl ?_
  refine own_iload (n := 87) X2 hx (hb hby d20_85) rfl rfl ?_
  refine own_ifYes (n := 125) X2 hx (hb hby d20_87) (Jvm.Free.XT.i0_ne_t (by decide)) (by decide) (by decide) ?_
  refine own_aloadN (n := 126) X2 hx (hb hby d20_125) rfl rfl rfl ?_
  refine own_iload (n := 128) X2 hx (hb hby d20_126) rfl rfl ?_
  refine own_putF (n := 131) X2 hx hZ hown (hw _ (List.mem_of_getElem? (i := 128) rfl)) e2 F0.2.2.2.1 F0.1 (Or.inl (hw _ (List.mem_of_getElem? (i := 129) rfl))) (hw _ (List.mem_of_getElem? (i := 42) rfl)) (ty := .int) (by decide) rfl rfl (hb hby d20_128) rfl ?_
  intro T3 h3 X3 e3 W3
  have N3 := Fr.snoc X3 N0 nb
  have Z3 : n0 ≤ h3.size := Nat.le_trans Z0 (Keep.of_wr W3).1
  have F3_a1 := F0.set_threshold hw W3
  have K3 : Keep h0 h3 [a1] := (Keep.refl h0 [a1]).wr W3 (Or.inl (List.mem_of_getElem? (i := 0) rfl))
  refine own_iload (n := 133) X3 hx (hb hby d20_131) rfl rfl ?_
  refine own_newR (n := 136) X3 hx hZ hown (hw _ (List.mem_of_getElem? (i := 130) rfl)) (hw _ (List.mem_of_getElem? (i := 131) rfl)) e3 (i := 16) (cap := 16) rfl (by decide) (by decide) (by decide) (by decide) (hb hby d20_133) rfl ?_
  intro T4 h4 b4 X4 e4 g4 E4 A4
  have Z4 : n0 ≤ h4.size := Nat.le_trans Z3 E4.1
  have nb_b4 : n0 ≤ b4 := Nat.le_trans Z3 (Nat.le_of_eq g4.symm)
  have ne_a1_b4 : a1 ≠ b4 := Nat.ne_of_lt (Nat.lt_of_lt_of_le F3_a1.lt (Nat.le_of_eq g4.symm))
  have F4_a1 := F3_a1.ext E4
  have K4 : Keep h0 h4 [a1] := K3.ext E4
  have big_b4 : h0.size ≤ b4 := Nat.le_trans K3.1 (Nat.le_of_eq g4.symm)
  refine own_astore (n := 138) X4 hx (hb hby d20_136) rfl (l' := #[.val (.ref a1), .val .null, .val (.int (0 : Int32)), .val (.int (0 : Int32)), .val (.int (16 : Int32)), .val (.int (12 : Int32)), .val (.ref b4), .unset, .unset, .unset, .unset, .unset, .unset, .unset]) rfl rfl ?_
  refine own_aloadN (n := 139) X4 hx (hb hby d20_138) rfl rfl rfl ?_
  refine own_aload (n := 141) X4 hx (hb hby d20_139) rfl rfl rfl ?_
  refine own_putF (n := 144) X4 hx hZ hown (hw _ (List.mem_of_getElem? (i := 121) rfl)) e4 F4_a1.2.1 F4_a1.1 (Or.inl (hw _ (List.mem_of_getElem? (i := 122) rfl))) (hw _ (List.mem_of_getElem? (i := 42) rfl)) (ty := (.array (.object "java/util/HashMap$Node"))) (by decide) rfl rfl (hb hby d20_141) rfl ?_
  intro T5 h5 X5 e5 W5
  have N5 := Fr.snoc X5 N3 nb
  have Z5 : n0 ≤ h5.size := Nat.le_trans Z4 (Keep.of_wr W5).1
  have F5_a1 := F4_a1.set_table hw W5
  have F5_b4 := A4.wrO W5 (Ne.symm ne_a1_b4)
  have K5 : Keep h0 h5 [a1] := K4.wr W5 (Or.inl (List.mem_of_getElem? (i := 0) rfl))
  refine own_aloadN (n := 145) X5 hx (hb hby d20_144) rfl rfl rfl ?_
  refine own_ifnullYes (n := 353) X5 hx (hb hby d20_145) rfl (by decide) (by decide) ?_
  refine own_aload (n := 355) X5 hx (hb hby d20_353) rfl rfl rfl ?_
  refine own_retA X5 hx lk hret rfl rfl (hb hby d20_355) (by decide) (by decide) ?_
  rw [e5]
  exact ⟨_, rfl, N5, K5, F5_a1, F5_b4, big_b4⟩
theorem d22_0 : decode jdk_70_method_1_code 0 = .ok (.aload_n 0, 1) := by decide +kernel
theorem d22_1 : decode jdk_70_method_1_code 1 = .ok (.invokespecial 1, 3) := by decide +kernel
theorem d22_4 : decode jdk_70_method_1_code 4 = .ok (.aload_n 0, 1) := by decide +kernel
theorem d22_5 : decode jdk_70_method_1_code 5 = .ok (.iload_n 1, 1) := by decide +kernel
theorem d22_6 : decode jdk_70_method_1_code 6 = .ok (.putfield 7, 3) := by decide +kernel
theorem d22_9 : decode jdk_70_method_1_code 9 = .ok (.aload_n 0, 1) := by decide +kernel
theorem d22_10 : decode jdk_70_method_1_code 10 = .ok (.aload_n 2, 1) := by decide +kernel
theorem d22_11 : decode jdk_70_method_1_code 11 = .ok (.putfield 13, 3) := by decide +kernel
theorem d22_14 : decode jdk_70_method_1_code 14 = .ok (.aload_n 0, 1) := by decide +kernel
theorem d22_15 : decode jdk_70_method_1_code 15 = .ok (.aload_n 3, 1) := by decide +kernel
theorem d22_16 : decode jdk_70_method_1_code 16 = .ok (.putfield 17, 3) := by decide +kernel
theorem d22_19 : decode jdk_70_method_1_code 19 = .ok (.aload_n 0, 1) := by decide +kernel
theorem d22_20 : decode jdk_70_method_1_code 20 = .ok (.aload 4, 2) := by decide +kernel
theorem d22_22 : decode jdk_70_method_1_code 22 = .ok (.putfield 20, 3) := by decide +kernel
theorem d22_25 : decode jdk_70_method_1_code 25 = .ok (.return_, 1) := by decide +kernel
theorem pn_22 : plainFor (⟨"java/util/HashMap$Node", "<init>", "(ILjava/lang/Object;Ljava/lang/Object;Ljava/util/HashMap$Node;)V"⟩ : MethodName) = true := by first | exact plainFor_of_name (by first | (simp [plainName, overriddenIn]; done) | decide +kernel) | decide +kernel
theorem ef_22 (m : MethodId) (a1 : Addr) (p2 : Int32) (a3 : Addr) (a4 : Addr) : entryFrame m #[(.ref a1), (.int p2), (.ref a3), (.ref a4), .null] 5 = mkF m 0 #[.val (.ref a1), .val (.int p2), .val (.ref a3), .val (.ref a4), .val .null] [] := by first | (simp [entryFrame, argsToLocals, Value.category, Array.replicate]; done) | rfl
theorem pd_22 : parseMethodDescriptor "(ILjava/lang/Object;Ljava/lang/Object;Ljava/util/HashMap$Node;)V" = some ⟨[.int, (.object "java/lang/Object"), (.object "java/lang/Object"), (.object "java/util/HashMap$Node")], none⟩ := by decide +kernel
def Q22 (Z : State) (a1 : Addr) (p2 : Int32) (a3 : Addr) (a4 : Addr)  (h0 : Heap) (n0 : Nat) (v : Option Value) (h : Heap) (L : List Loc) : Prop := v = none ∧ Fr n0 L ∧ Keep h0 h [a1] ∧ ND Z h a1 p2 (.ref a3) (.ref a4) .null
theorem rm22 (l : Launch) (Z : State) (a0 : Array Value) (hw : ∀ d ∈ tables_1, d.before a0 Z = true) (ws : List Jvm.Cond) (a1 : Addr) (p2 : Int32) (a3 : Addr) (a4 : Addr)  (h0 : Heap) (n0 : Nat) (Z0 : n0 ≤ h0.size) (F0 : ND Z h0 a1 0 .null .null .null) (nb : n0 ≤ a1) :
    MetFree l (⟨"java/util/HashMap$Node", "<init>", "(ILjava/lang/Object;Ljava/lang/Object;Ljava/util/HashMap$Node;)V"⟩ : MethodName) (head1 (Jvm.Cond.code (⟨"java/util/HashMap$Node", "<init>", "(ILjava/lang/Object;Ljava/lang/Object;Ljava/util/HashMap$Node;)V"⟩ : MethodName) jdk_70_method_1_code 5 (none) :: ws) ({ frames := 1, cells := 0, slots := 0, locals := 12 } : Room)) (fun a U => a = #[(.ref a1), (.int p2), (.ref a3), (.ref a4), .null] ∧ Z.Warmed39 U.vm ∧ U.heap = h0) (fun _ _ _ _ _ => True) (fun _ U o U' => ∃ v L, o = .returned v ∧ (Q22 Z a1 p2 a3 a4  h0 n0) v U'.heap L ∧ FrameEnd U o U' L ({ frames := 1, cells := 0, slots := 0, locals := 12 } : Room).cells ({ frames := 1, cells := 0, slots := 0, locals := 12 } : Room).slots) := by
  refine MetFree.of_bodySF pn_22 hisR ?_
  intro p e s m args below meth c s₁ Bd hml0 hP hK
  obtain ⟨rfl, hZ, hh⟩ := hP
  have hx := Bd.exec
  have hby := Bd.bytes
  have hml : c.maxLocals = 5 := hml0
  have hown : s.vm.findClass "java/util/HashMap$Node" = some m.cls := findClass_of_methodNamed Bd.named
  have hnm := (name_of_methodNamed Bd.named Bd.method).1
  have X0 : Stand p l e ({ frames := 1, cells := 0, slots := 0, locals := 12 } : Room) s m #[(.ref a1), (.int p2), (.ref a3), (.ref a4), .null] below meth c s₁ [] 0 0 := Stand.of_body Bd
  have e0 : s₁.heap = h0 := by rw [← hh, Bd.state]; rfl
  have N0 := Fr.nil n0
  have lk : meth.locks = false := BodyLoose.notSynchronized Bd
  have hret := Bd.returns
  show Ends p e below (EF s ({ frames := 1, cells := 0, slots := 0, locals := 12 } : Room).cells ({ frames := 1, cells := 0, slots := 0, locals := 12 } : Room).slots) (Q22 Z a1 p2 a3 a4  h0 n0) (s₁.setTop (entryFrame m #[(.ref a1), (.int p2), (.ref a3), (.ref a4), .null] 5))
  refine Ends.cast (ef_22 m a1 p2 a3 a4) ?_
  refine own_aloadN (n := 1) X0 hx (hb hby d22_0) rfl rfl rfl ?_
  refine own_initO (n := 4) X0 hx hZ hown (hw _ (List.mem_of_getElem? (i := 143) rfl)) (hw _ (List.mem_of_getElem? (i := 20) rfl)) (hw _ (List.mem_of_getElem? (i := 21) rfl)) e0 (by rw [hml]; rfl) (hb hby d22_1) rfl (by decide) (W := 0) (Nat.le_of_eq rfl) (by decide) ?_
  intro T1 X1 e1
  refine own_aloadN (n := 5) X1 hx (hb hby d22_4) rfl rfl rfl ?_
  refine own_iloadN (n := 6) X1 hx (hb hby d22_5) rfl rfl ?_
  refine own_putF (n := 9) X1 hx hZ hown (hw _ (List.mem_of_getElem? (i := 144) rfl)) e1 F0.2.1 F0.1 (Or.inr ⟨(hw _ (List.mem_of_getElem? (i := 145) rfl)), rfl, hnm⟩) (hw _ (List.mem_of_getElem? (i := 137) rfl)) (ty := .int) (by decide) rfl rfl (hb hby d22_6) rfl ?_
  intro T2 h2 X2 e2 W2
  have N2 := Fr.snoc X2 N0 nb
  have Z2 : n0 ≤ h2.size := Nat.le_trans Z0 (Keep.of_wr W2).1
  have F2_a1 := F0.set_hash hw W2
  have K2 : Keep h0 h2 [a1] := (Keep.refl h0 [a1]).wr W2 (Or.inl (List.mem_of_getElem? (i := 0) rfl))
  refine own_aloadN (n := 10) X2 hx (hb hby d22_9) rfl rfl rfl ?_
  refine own_aloadN (n := 11) X2 hx (hb hby d22_10) rfl rfl rfl ?_
  refine own_putF (n := 14) X2 hx hZ hown (hw _ (List.mem_of_getElem? (i := 146) rfl)) e2 F2_a1.2.2.1 F2_a1.1 (Or.inr ⟨(hw _ (List.mem_of_getElem? (i := 147) rfl)), rfl, hnm⟩) (hw _ (List.mem_of_getElem? (i := 137) rfl)) (ty := (.object "java/lang/Object")) (by decide) rfl rfl (hb hby d22_11) rfl ?_
  intro T3 h3 X3 e3 W3
  have N3 := Fr.snoc X3 N2 nb
  have Z3 : n0 ≤ h3.size := Nat.le_trans Z2 (Keep.of_wr W3).1
  have F3_a1 := F2_a1.set_key hw W3
  have K3 : Keep h0 h3 [a1] := K2.wr W3 (Or.inl (List.mem_of_getElem? (i := 0) rfl))
  refine own_aloadN (n := 15) X3 hx (hb hby d22_14) rfl rfl rfl ?_
  refine own_aloadN (n := 16) X3 hx (hb hby d22_15) rfl rfl rfl ?_
  refine own_putF (n := 19) X3 hx hZ hown (hw _ (List.mem_of_getElem? (i := 148) rfl)) e3 F3_a1.2.2.2.1 F3_a1.1 (Or.inl (hw _ (List.mem_of_getElem? (i := 149) rfl))) (hw _ (List.mem_of_getElem? (i := 137) rfl)) (ty := (.object "java/lang/Object")) (by decide) rfl rfl (hb hby d22_16) rfl ?_
  intro T4 h4 X4 e4 W4
  have N4 := Fr.snoc X4 N3 nb
  have Z4 : n0 ≤ h4.size := Nat.le_trans Z3 (Keep.of_wr W4).1
  have F4_a1 := F3_a1.set_value hw W4
  have K4 : Keep h0 h4 [a1] := K3.wr W4 (Or.inl (List.mem_of_getElem? (i := 0) rfl))
  refine own_aloadN (n := 20) X4 hx (hb hby d22_19) rfl rfl rfl ?_
  refine own_aload (n := 22) X4 hx (hb hby d22_20) rfl rfl rfl ?_
  refine own_putF (n := 25) X4 hx hZ hown (hw _ (List.mem_of_getElem? (i := 150) rfl)) e4 F4_a1.2.2.2.2 F4_a1.1 (Or.inl (hw _ (List.mem_of_getElem? (i := 151) rfl))) (hw _ (List.mem_of_getElem? (i := 137) rfl)) (ty := (.object "java/util/HashMap$Node")) (by decide) rfl rfl (hb hby d22_22) rfl ?_
  intro T5 h5 X5 e5 W5
  have N5 := Fr.snoc X5 N4 nb
  have Z5 : n0 ≤ h5.size := Nat.le_trans Z4 (Keep.of_wr W5).1
  have F5_a1 := F4_a1.set_next hw W5
  have K5 : Keep h0 h5 [a1] := K4.wr W5 (Or.inl (List.mem_of_getElem? (i := 0) rfl))
  refine own_retV X5 hx lk hret (hb hby d22_25) (by decide) (by decide) ?_
  rw [e5]
  exact ⟨rfl, N5, K5, F5_a1⟩
theorem d21_0 : decode jdk_69_method_46_code 0 = .ok (.new 163, 3) := by decide +kernel
theorem d21_3 : decode jdk_69_method_46_code 3 = .ok (.dup, 1) := by decide +kernel
theorem d21_4 : decode jdk_69_method_46_code 4 = .ok (.iload_n 1, 1) := by decide +kernel
theorem d21_5 : decode jdk_69_method_46_code 5 = .ok (.aload_n 2, 1) := by decide +kernel
theorem d21_6 : decode jdk_69_method_46_code 6 = .ok (.aload_n 3, 1) := by decide +kernel
theorem d21_7 : decode jdk_69_method_46_code 7 = .ok (.aload 4, 2) := by decide +kernel
theorem d21_9 : decode jdk_69_method_46_code 9 = .ok (.invokespecial 375, 3) := by decide +kernel
theorem d21_12 : decode jdk_69_method_46_code 12 = .ok (.areturn, 1) := by decide +kernel
theorem pn_21 : plainFor (⟨"java/util/HashMap", "newNode", "(ILjava/lang/Object;Ljava/lang/Object;Ljava/util/HashMap$Node;)Ljava/util/HashMap$Node;"⟩ : MethodName) = true := by first | exact plainFor_of_name (by first | (simp [plainName, overriddenIn]; done) | decide +kernel) | decide +kernel
theorem ef_21 (m : MethodId) (a1 : Addr) (p2 : Int32) (a3 : Addr) (a4 : Addr) : entryFrame m #[(.ref a1), (.int p2), (.ref a3), (.ref a4), .null] 5 = mkF m 0 #[.val (.ref a1), .val (.int p2), .val (.ref a3), .val (.ref a4), .val .null] [] := by first | (simp [entryFrame, argsToLocals, Value.category, Array.replicate]; done) | rfl
theorem pd_21 : parseMethodDescriptor "(ILjava/lang/Object;Ljava/lang/Object;Ljava/util/HashMap$Node;)Ljava/util/HashMap$Node;" = some ⟨[.int, (.object "java/lang/Object"), (.object "java/lang/Object"), (.object "java/util/HashMap$Node")], some (.object "java/util/HashMap$Node")⟩ := by decide +kernel
def Q21 (Z : State) (a1 : Addr) (p2 : Int32) (a3 : Addr) (a4 : Addr)  (h0 : Heap) (n0 : Nat) (v : Option Value) (h : Heap) (L : List Loc) : Prop := ∃ nd, v = some (.ref nd) ∧ Fr n0 L ∧ Keep h0 h [] ∧ ND Z h nd p2 (.ref a3) (.ref a4) .null ∧ h0.size ≤ nd
theorem rm21 (l : Launch) (Z : State) (a0 : Array Value) (hw : ∀ d ∈ tables_1, d.before a0 Z = true) (ws : List Jvm.Cond) (a1 : Addr) (p2 : Int32) (a3 : Addr) (a4 : Addr)  (h0 : Heap) (n0 : Nat) (Z0 : n0 ≤ h0.size)  :
    MetFree l (⟨"java/util/HashMap", "newNode", "(ILjava/lang/Object;Ljava/lang/Object;Ljava/util/HashMap$Node;)Ljava/util/HashMap$Node;"⟩ : MethodName) (head1 (Jvm.Cond.code (⟨"java/util/HashMap", "newNode", "(ILjava/lang/Object;Ljava/lang/Object;Ljava/util/HashMap$Node;)Ljava/util/HashMap$Node;"⟩ : MethodName) jdk_69_method_46_code 5 (some (.object "java/util/HashMap$Node")) :: ws) ({ frames := 2, cells := 1, slots := 4, locals := 29 } : Room)) (fun a U => a = #[(.ref a1), (.int p2), (.ref a3), (.ref a4), .null] ∧ Z.Warmed39 U.vm ∧ U.heap = h0) (fun _ _ _ _ _ => True) (fun _ U o U' => ∃ v L, o = .returned v ∧ (Q21 Z a1 p2 a3 a4  h0 n0) v U'.heap L ∧ FrameEnd U o U' L ({ frames := 2, cells := 1, slots := 4, locals := 29 } : Room).cells ({ frames := 2, cells := 1, slots := 4, locals := 29 } : Room).slots) := by
  refine MetFree.of_bodySF pn_21 hisR ?_
  intro p e s m args below meth c s₁ Bd hml0 hP hK
  obtain ⟨rfl, hZ, hh⟩ := hP
  have hx := Bd.exec
  have hby := Bd.bytes
  have hml : c.maxLocals = 5 := hml0
  have hown : s.vm.findClass "java/util/HashMap" = some m.cls := findClass_of_methodNamed Bd.named
  have hnm := (name_of_methodNamed Bd.named Bd.method).1
  have X0 : Stand p l e ({ frames := 2, cells := 1, slots := 4, locals := 29 } : Room) s m #[(.ref a1), (.int p2), (.ref a3), (.ref a4), .null] below meth c s₁ [] 0 0 := Stand.of_body Bd
  have e0 : s₁.heap = h0 := by rw [← hh, Bd.state]; rfl
  have N0 := Fr.nil n0
  have lk : meth.locks = false := BodyLoose.notSynchronized Bd
  have hret := Bd.returns
  show Ends p e below (EF s ({ frames := 2, cells := 1, slots := 4, locals := 29 } : Room).cells ({ frames := 2, cells := 1, slots := 4, locals := 29 } : Room).slots) (Q21 Z a1 p2 a3 a4  h0 n0) (s₁.setTop (entryFrame m #[(.ref a1), (.int p2), (.ref a3), (.ref a4), .null] 5))
  refine Ends.cast (ef_21 m a1 p2 a3 a4) ?_
  refine own_newO (n := 3) X0 hx hZ hown (hw _ (List.mem_of_getElem? (i := 130) rfl)) (hw _ (List.mem_of_getElem? (i := 137) rfl)) (hw _ (List.mem_of_getElem? (i := 138) rfl)) e0 (by decide) (by decide) (hb hby d21_0) rfl ?_
  intro T1 h1 b1 X1 e1 g1 E1 A1 D1
  have Z1 : n0 ≤ h1.size := Nat.le_trans Z0 E1.1
  have nb_b1 : n0 ≤ b1 := Nat.le_trans Z0 (Nat.le_of_eq g1.symm)
  have K1 : Keep h0 h1 [] := (Keep.refl h0 []).ext E1
  have big_b1 : h0.size ≤ b1 := Nat.le_trans (Keep.refl h0 []).1 (Nat.le_of_eq g1.symm)
  have N1_b1 : ND Z h1 b1 (0) (.null) (.null) (.null) := ⟨A1, D1 (Or.inr (hw _ (List.mem_of_getElem? (i := 145) rfl))) (ty := .int) (by decide), D1 (Or.inr (hw _ (List.mem_of_getElem? (i := 147) rfl))) (ty := (.object "java/lang/Object")) (by decide), D1 (Or.inl (hw _ (List.mem_of_getElem? (i := 149) rfl))) (ty := (.object "java/lang/Object")) (by decide), D1 (Or.inl (hw _ (List.mem_of_getElem? (i := 151) rfl))) (ty := (.object "java/util/HashMap$Node")) (by decide)⟩
  refine own_dup (n := 4) X1 hx (hb hby d21_3) rfl rfl ?_
  refine own_iloadN (n := 5) X1 hx (hb hby d21_4) rfl rfl ?_
  refine own_aloadN (n := 6) X1 hx (hb hby d21_5) rfl rfl rfl ?_
  refine own_aloadN (n := 7) X1 hx (hb hby d21_6) rfl rfl rfl ?_
  refine own_aload (n := 9) X1 hx (hb hby d21_7) rfl rfl rfl ?_
  refine own_callN (n := 12) X1 hx hZ rfl hown (hw _ (List.mem_of_getElem? (i := 139) rfl)) (hw _ (List.mem_of_getElem? (i := 140) rfl)) (hw _ (List.mem_of_getElem? (i := 138) rfl)) (hw _ (List.mem_of_getElem? (i := 142) rfl)) (by decide) e1 (rm22 l Z a0 hw [] b1 p2 a3 a4 h1 n0 Z1 N1_b1 nb_b1) (W := 1) (by decide) (by decide) (by decide) (by decide) (by rw [hml]; rfl) (argsL := [(.int p2), (.ref a3), (.ref a4), .null]) (rest := [(.ref b1)]) pd_22 rfl (a := b1) (by rfl) (Nat.le_of_eq rfl) (hb hby d21_9) rfl rfl ?_
  intro v2 T2 h2 L2 X2 e2 q2
  obtain ⟨rfl, M2, K2, F2⟩ := q2
  have N2 := Fr.app N0 M2
  have Z2 : n0 ≤ h2.size := Nat.le_trans Z1 K2.1
  have KK2 := K1.trans K2 (fun z hz => by cases List.mem_singleton.mp hz; exact Or.inr big_b1)
  refine own_retA X2 hx lk hret rfl rfl (hb hby d21_12) (by decide) (by decide) ?_
  rw [e2]
  exact ⟨_, rfl, N2, KK2, F2, big_b1⟩
theorem d23_0 : decode jdk_69_method_52_code 0 = .ok (.return_, 1) := by decide +kernel
theorem pn_23 : plainFor (⟨"java/util/HashMap", "afterNodeInsertion", "(Z)V"⟩ : MethodName) = true := by first | exact plainFor_of_name (by first | (simp [plainName, overriddenIn]; done) | decide +kernel) | decide +kernel
theorem ef_23 (m : MethodId) (a1 : Addr) (p2 : Int32) : entryFrame m #[(.ref a1), (.int p2)] 2 = mkF m 0 #[.val (.ref a1), .val (.int p2)] [] := by first | (simp [entryFrame, argsToLocals, Value.category, Array.replicate]; done) | rfl
theorem pd_23 : parseMethodDescriptor "(Z)V" = some ⟨[.boolean], none⟩ := by decide +kernel
def Q23 (Z : State) (a1 : Addr) (p2 : Int32)  (h0 : Heap) (n0 : Nat) (v : Option Value) (h : Heap) (L : List Loc) : Prop := v = none ∧ Fr n0 L ∧ h0 = h
theorem rm23 (l : Launch) (Z : State) (a0 : Array Value) (hw : ∀ d ∈ tables_1, d.before a0 Z = true) (ws : List Jvm.Cond) (a1 : Addr) (p2 : Int32)  (h0 : Heap) (n0 : Nat) (Z0 : n0 ≤ h0.size)  :
    MetFree l (⟨"java/util/HashMap", "afterNodeInsertion", "(Z)V"⟩ : MethodName) (head1 (Jvm.Cond.code (⟨"java/util/HashMap", "afterNodeInsertion", "(Z)V"⟩ : MethodName) jdk_69_method_52_code 2 (none) :: ws) ({ frames := 0, cells := 0, slots := 0, locals := 0 } : Room)) (fun a U => a = #[(.ref a1), (.int p2)] ∧ Z.Warmed39 U.vm ∧ U.heap = h0) (fun _ _ _ _ _ => True) (fun _ U o U' => ∃ v L, o = .returned v ∧ (Q23 Z a1 p2  h0 n0) v U'.heap L ∧ FrameEnd U o U' L ({ frames := 0, cells := 0, slots := 0, locals := 0 } : Room).cells ({ frames := 0, cells := 0, slots := 0, locals := 0 } : Room).slots) := by
  refine MetFree.of_bodySF pn_23 hisR ?_
  intro p e s m args below meth c s₁ Bd hml0 hP hK
  obtain ⟨rfl, hZ, hh⟩ := hP
  have hx := Bd.exec
  have hby := Bd.bytes
  have hml : c.maxLocals = 2 := hml0
  have hown : s.vm.findClass "java/util/HashMap" = some m.cls := findClass_of_methodNamed Bd.named
  have hnm := (name_of_methodNamed Bd.named Bd.method).1
  have X0 : Stand p l e ({ frames := 0, cells := 0, slots := 0, locals := 0 } : Room) s m #[(.ref a1), (.int p2)] below meth c s₁ [] 0 0 := Stand.of_body Bd
  have e0 : s₁.heap = h0 := by rw [← hh, Bd.state]; rfl
  have N0 := Fr.nil n0
  have lk : meth.locks = false := BodyLoose.notSynchronized Bd
  have hret := Bd.returns
  show Ends p e below (EF s ({ frames := 0, cells := 0, slots := 0, locals := 0 } : Room).cells ({ frames := 0, cells := 0, slots := 0, locals := 0 } : Room).slots) (Q23 Z a1 p2  h0 n0) (s₁.setTop (entryFrame m #[(.ref a1), (.int p2)] 2))
  refine Ends.cast (ef_23 m a1 p2) ?_
  refine own_retV X0 hx lk hret (hb hby d23_0) (by decide) (by decide) ?_
  rw [e0]
  exact ⟨rfl, N0, rfl⟩
theorem d19_0 : decode jdk_69_method_16_code 0 = .ok (.aload_n 0, 1) := by decide +kernel
theorem d19_1 : decode jdk_69_method_16_code 1 = .ok (.getfield 105, 3) := by decide +kernel
theorem d19_4 : decode jdk_69_method_16_code 4 = .ok (.dup, 1) := by decide +kernel
theorem d19_5 : decode jdk_69_method_16_code 5 = .ok (.astore 6, 2) := by decide +kernel
theorem d19_7 : decode jdk_69_method_16_code 7 = .ok (.ifnull 12, 3) := by decide +kernel
theorem d19_10 : decode jdk_69_method_16_code 10 = .ok (.aload 6, 2) := by decide +kernel
theorem d19_12 : decode jdk_69_method_16_code 12 = .ok (.arraylength, 1) := by decide +kernel
theorem d19_13 : decode jdk_69_method_16_code 13 = .ok (.dup, 1) := by decide +kernel
theorem d19_14 : decode jdk_69_method_16_code 14 = .ok (.istore 8, 2) := by decide +kernel
theorem d19_16 : decode jdk_69_method_16_code 16 = .ok (.ifCond .ne 13, 3) := by decide +kernel
theorem d19_19 : decode jdk_69_method_16_code 19 = .ok (.aload_n 0, 1) := by decide +kernel
theorem d19_20 : decode jdk_69_method_16_code 20 = .ok (.invokevirtual 117, 3) := by decide +kernel
theorem d19_23 : decode jdk_69_method_16_code 23 = .ok (.dup, 1) := by decide +kernel
theorem d19_24 : decode jdk_69_method_16_code 24 = .ok (.astore 6, 2) := by decide +kernel
theorem d19_26 : decode jdk_69_method_16_code 26 = .ok (.arraylength, 1) := by decide +kernel
theorem d19_27 : decode jdk_69_method_16_code 27 = .ok (.istore 8, 2) := by decide +kernel
theorem d19_29 : decode jdk_69_method_16_code 29 = .ok (.aload 6, 2) := by decide +kernel
theorem d19_31 : decode jdk_69_method_16_code 31 = .ok (.iload 8, 2) := by decide +kernel
theorem d19_33 : decode jdk_69_method_16_code 33 = .ok (.iconst 1, 1) := by decide +kernel
theorem d19_34 : decode jdk_69_method_16_code 34 = .ok (.isub, 1) := by decide +kernel
theorem d19_35 : decode jdk_69_method_16_code 35 = .ok (.iload_n 1, 1) := by decide +kernel
theorem d19_36 : decode jdk_69_method_16_code 36 = .ok (.iand, 1) := by decide +kernel
theorem d19_37 : decode jdk_69_method_16_code 37 = .ok (.dup, 1) := by decide +kernel
theorem d19_38 : decode jdk_69_method_16_code 38 = .ok (.istore 9, 2) := by decide +kernel
theorem d19_40 : decode jdk_69_method_16_code 40 = .ok (.aaload, 1) := by decide +kernel
theorem d19_41 : decode jdk_69_method_16_code 41 = .ok (.dup, 1) := by decide +kernel
theorem d19_42 : decode jdk_69_method_16_code 42 = .ok (.astore 7, 2) := by decide +kernel
theorem d19_44 : decode jdk_69_method_16_code 44 = .ok (.ifnonnull 19, 3) := by decide +kernel
theorem d19_47 : decode jdk_69_method_16_code 47 = .ok (.aload 6, 2) := by decide +kernel
theorem d19_49 : decode jdk_69_method_16_code 49 = .ok (.iload 9, 2) := by decide +kernel
theorem d19_51 : decode jdk_69_method_16_code 51 = .ok (.aload_n 0, 1) := by decide +kernel
theorem d19_52 : decode jdk_69_method_16_code 52 = .ok (.iload_n 1, 1) := by decide +kernel
theorem d19_53 : decode jdk_69_method_16_code 53 = .ok (.aload_n 2, 1) := by decide +kernel
theorem d19_54 : decode jdk_69_method_16_code 54 = .ok (.aload_n 3, 1) := by decide +kernel
theorem d19_55 : decode jdk_69_method_16_code 55 = .ok (.aconst_null, 1) := by decide +kernel
theorem d19_56 : decode jdk_69_method_16_code 56 = .ok (.invokevirtual 186, 3) := by decide +kernel
theorem d19_59 : decode jdk_69_method_16_code 59 = .ok (.aastore, 1) := by decide +kernel
theorem d19_60 : decode jdk_69_method_16_code 60 = .ok (.goto 199, 3) := by decide +kernel
theorem d19_63 : decode jdk_69_method_16_code 63 = .ok (.aload 7, 2) := by decide +kernel
theorem d19_65 : decode jdk_69_method_16_code 65 = .ok (.getfield 168, 3) := by decide +kernel
theorem d19_68 : decode jdk_69_method_16_code 68 = .ok (.iload_n 1, 1) := by decide +kernel
theorem d19_69 : decode jdk_69_method_16_code 69 = .ok (.if_icmp .ne 35, 3) := by decide +kernel
theorem d19_72 : decode jdk_69_method_16_code 72 = .ok (.aload 7, 2) := by decide +kernel
theorem d19_74 : decode jdk_69_method_16_code 74 = .ok (.getfield 170, 3) := by decide +kernel
theorem d19_77 : decode jdk_69_method_16_code 77 = .ok (.dup, 1) := by decide +kernel
theorem d19_78 : decode jdk_69_method_16_code 78 = .ok (.astore 11, 2) := by decide +kernel
theorem d19_80 : decode jdk_69_method_16_code 80 = .ok (.aload_n 2, 1) := by decide +kernel
theorem d19_81 : decode jdk_69_method_16_code 81 = .ok (.if_acmp .eq 16, 3) := by decide +kernel
theorem d19_84 : decode jdk_69_method_16_code 84 = .ok (.aload_n 2, 1) := by decide +kernel
theorem d19_85 : decode jdk_69_method_16_code 85 = .ok (.ifnull 19, 3) := by decide +kernel
theorem d19_88 : decode jdk_69_method_16_code 88 = .ok (.aload_n 2, 1) := by decide +kernel
theorem d19_89 : decode jdk_69_method_16_code 89 = .ok (.aload 11, 2) := by decide +kernel
theorem d19_91 : decode jdk_69_method_16_code 91 = .ok (.invokevirtual 173, 3) := by decide +kernel
theorem d19_94 : decode jdk_69_method_16_code 94 = .ok (.ifCond .eq 10, 3) := by decide +kernel
theorem d19_97 : decode jdk_69_method_16_code 97 = .ok (.aload 7, 2) := by decide +kernel
theorem d19_99 : decode jdk_69_method_16_code 99 = .ok (.astore 10, 2) := by decide +kernel
theorem d19_101 : decode jdk_69_method_16_code 101 = .ok (.goto 121, 3) := by decide +kernel
theorem d19_104 : decode jdk_69_method_16_code 104 = .ok (.aload 7, 2) := by decide +kernel
theorem d19_106 : decode jdk_69_method_16_code 106 = .ok (.instanceof 180, 3) := by decide +kernel
theorem d19_109 : decode jdk_69_method_16_code 109 = .ok (.ifCond .eq 22, 3) := by decide +kernel
theorem d19_112 : decode jdk_69_method_16_code 112 = .ok (.aload 7, 2) := by decide +kernel
theorem d19_114 : decode jdk_69_method_16_code 114 = .ok (.checkcast 180, 3) := by decide +kernel
theorem d19_117 : decode jdk_69_method_16_code 117 = .ok (.aload_n 0, 1) := by decide +kernel
theorem d19_118 : decode jdk_69_method_16_code 118 = .ok (.aload 6, 2) := by decide +kernel
theorem d19_120 : decode jdk_69_method_16_code 120 = .ok (.iload_n 1, 1) := by decide +kernel
theorem d19_121 : decode jdk_69_method_16_code 121 = .ok (.aload_n 2, 1) := by decide +kernel
theorem d19_122 : decode jdk_69_method_16_code 122 = .ok (.aload_n 3, 1) := by decide +kernel
theorem d19_123 : decode jdk_69_method_16_code 123 = .ok (.invokevirtual 190, 3) := by decide +kernel
theorem d19_126 : decode jdk_69_method_16_code 126 = .ok (.astore 10, 2) := by decide +kernel
theorem d19_128 : decode jdk_69_method_16_code 128 = .ok (.goto 94, 3) := by decide +kernel
theorem d19_131 : decode jdk_69_method_16_code 131 = .ok (.iconst 0, 1) := by decide +kernel
theorem d19_132 : decode jdk_69_method_16_code 132 = .ok (.istore 12, 2) := by decide +kernel
theorem d19_134 : decode jdk_69_method_16_code 134 = .ok (.aload 7, 2) := by decide +kernel
theorem d19_136 : decode jdk_69_method_16_code 136 = .ok (.getfield 177, 3) := by decide +kernel
theorem d19_139 : decode jdk_69_method_16_code 139 = .ok (.dup, 1) := by decide +kernel
theorem d19_140 : decode jdk_69_method_16_code 140 = .ok (.astore 10, 2) := by decide +kernel
theorem d19_142 : decode jdk_69_method_16_code 142 = .ok (.ifnonnull 33, 3) := by decide +kernel
theorem d19_145 : decode jdk_69_method_16_code 145 = .ok (.aload 7, 2) := by decide +kernel
theorem d19_147 : decode jdk_69_method_16_code 147 = .ok (.aload_n 0, 1) := by decide +kernel
theorem d19_148 : decode jdk_69_method_16_code 148 = .ok (.iload_n 1, 1) := by decide +kernel
theorem d19_149 : decode jdk_69_method_16_code 149 = .ok (.aload_n 2, 1) := by decide +kernel
theorem d19_150 : decode jdk_69_method_16_code 150 = .ok (.aload_n 3, 1) := by decide +kernel
theorem d19_151 : decode jdk_69_method_16_code 151 = .ok (.aconst_null, 1) := by decide +kernel
theorem d19_152 : decode jdk_69_method_16_code 152 = .ok (.invokevirtual 186, 3) := by decide +kernel
theorem d19_155 : decode jdk_69_method_16_code 155 = .ok (.putfield 177, 3) := by decide +kernel
theorem d19_158 : decode jdk_69_method_16_code 158 = .ok (.iload 12, 2) := by decide +kernel
theorem d19_160 : decode jdk_69_method_16_code 160 = .ok (.bipush 7, 2) := by decide +kernel
theorem d19_162 : decode jdk_69_method_16_code 162 = .ok (.if_icmp .lt 60, 3) := by decide +kernel
theorem d19_165 : decode jdk_69_method_16_code 165 = .ok (.aload_n 0, 1) := by decide +kernel
theorem d19_166 : decode jdk_69_method_16_code 166 = .ok (.aload 6, 2) := by decide +kernel
theorem d19_168 : decode jdk_69_method_16_code 168 = .ok (.iload_n 1, 1) := by decide +kernel
theorem d19_169 : decode jdk_69_method_16_code 169 = .ok (.invokevirtual 194, 3) := by decide +kernel
theorem d19_172 : decode jdk_69_method_16_code 172 = .ok (.goto 50, 3) := by decide +kernel
theorem d19_175 : decode jdk_69_method_16_code 175 = .ok (.aload 10, 2) := by decide +kernel
theorem d19_177 : decode jdk_69_method_16_code 177 = .ok (.getfield 168, 3) := by decide +kernel
theorem d19_180 : decode jdk_69_method_16_code 180 = .ok (.iload_n 1, 1) := by decide +kernel
theorem d19_181 : decode jdk_69_method_16_code 181 = .ok (.if_icmp .ne 31, 3) := by decide +kernel
theorem d19_184 : decode jdk_69_method_16_code 184 = .ok (.aload 10, 2) := by decide +kernel
theorem d19_186 : decode jdk_69_method_16_code 186 = .ok (.getfield 170, 3) := by decide +kernel
theorem d19_189 : decode jdk_69_method_16_code 189 = .ok (.dup, 1) := by decide +kernel
theorem d19_190 : decode jdk_69_method_16_code 190 = .ok (.astore 11, 2) := by decide +kernel
theorem d19_192 : decode jdk_69_method_16_code 192 = .ok (.aload_n 2, 1) := by decide +kernel
theorem d19_193 : decode jdk_69_method_16_code 193 = .ok (.if_acmp .eq 29, 3) := by decide +kernel
theorem d19_196 : decode jdk_69_method_16_code 196 = .ok (.aload_n 2, 1) := by decide +kernel
theorem d19_197 : decode jdk_69_method_16_code 197 = .ok (.ifnull 15, 3) := by decide +kernel
theorem d19_200 : decode jdk_69_method_16_code 200 = .ok (.aload_n 2, 1) := by decide +kernel
theorem d19_201 : decode jdk_69_method_16_code 201 = .ok (.aload 11, 2) := by decide +kernel
theorem d19_203 : decode jdk_69_method_16_code 203 = .ok (.invokevirtual 173, 3) := by decide +kernel
theorem d19_206 : decode jdk_69_method_16_code 206 = .ok (.ifCond .eq 6, 3) := by decide +kernel
theorem d19_209 : decode jdk_69_method_16_code 209 = .ok (.goto 13, 3) := by decide +kernel
theorem d19_212 : decode jdk_69_method_16_code 212 = .ok (.aload 10, 2) := by decide +kernel
theorem d19_214 : decode jdk_69_method_16_code 214 = .ok (.astore 7, 2) := by decide +kernel
theorem d19_216 : decode jdk_69_method_16_code 216 = .ok (.iinc 12 1, 3) := by decide +kernel
theorem d19_219 : decode jdk_69_method_16_code 219 = .ok (.goto (-85), 3) := by decide +kernel
theorem d19_222 : decode jdk_69_method_16_code 222 = .ok (.aload 10, 2) := by decide +kernel
theorem d19_224 : decode jdk_69_method_16_code 224 = .ok (.ifnull 35, 3) := by decide +kernel
theorem d19_227 : decode jdk_69_method_16_code 227 = .ok (.aload 10, 2) := by decide +kernel
theorem d19_229 : decode jdk_69_method_16_code 229 = .ok (.getfield 162, 3) := by decide +kernel
theorem d19_232 : decode jdk_69_method_16_code 232 = .ok (.astore 12, 2) := by decide +kernel
theorem d19_234 : decode jdk_69_method_16_code 234 = .ok (.iload 4, 2) := by decide +kernel
theorem d19_236 : decode jdk_69_method_16_code 236 = .ok (.ifCond .eq 8, 3) := by decide +kernel
theorem d19_239 : decode jdk_69_method_16_code 239 = .ok (.aload 12, 2) := by decide +kernel
theorem d19_241 : decode jdk_69_method_16_code 241 = .ok (.ifnonnull 9, 3) := by decide +kernel
theorem d19_244 : decode jdk_69_method_16_code 244 = .ok (.aload 10, 2) := by decide +kernel
theorem d19_246 : decode jdk_69_method_16_code 246 = .ok (.aload_n 3, 1) := by decide +kernel
theorem d19_247 : decode jdk_69_method_16_code 247 = .ok (.putfield 162, 3) := by decide +kernel
theorem d19_250 : decode jdk_69_method_16_code 250 = .ok (.aload_n 0, 1) := by decide +kernel
theorem d19_251 : decode jdk_69_method_16_code 251 = .ok (.aload 10, 2) := by decide +kernel
theorem d19_253 : decode jdk_69_method_16_code 253 = .ok (.invokevirtual 198, 3) := by decide +kernel
theorem d19_256 : decode jdk_69_method_16_code 256 = .ok (.aload 12, 2) := by decide +kernel
theorem d19_258 : decode jdk_69_method_16_code 258 = .ok (.areturn, 1) := by decide +kernel
theorem d19_259 : decode jdk_69_method_16_code 259 = .ok (.aload_n 0, 1) := by decide +kernel
theorem d19_260 : decode jdk_69_method_16_code 260 = .ok (.dup, 1) := by decide +kernel
theorem d19_261 : decode jdk_69_method_16_code 261 = .ok (.getfield 202, 3) := by decide +kernel
theorem d19_264 : decode jdk_69_method_16_code 264 = .ok (.iconst 1, 1) := by decide +kernel
theorem d19_265 : decode jdk_69_method_16_code 265 = .ok (.iadd, 1) := by decide +kernel
theorem d19_266 : decode jdk_69_method_16_code 266 = .ok (.putfield 202, 3) := by decide +kernel
theorem d19_269 : decode jdk_69_method_16_code 269 = .ok (.aload_n 0, 1) := by decide +kernel
theorem d19_270 : decode jdk_69_method_16_code 270 = .ok (.dup, 1) := by decide +kernel
theorem d19_271 : decode jdk_69_method_16_code 271 = .ok (.getfield 156, 3) := by decide +kernel
theorem d19_274 : decode jdk_69_method_16_code 274 = .ok (.iconst 1, 1) := by decide +kernel
theorem d19_275 : decode jdk_69_method_16_code 275 = .ok (.iadd, 1) := by decide +kernel
theorem d19_276 : decode jdk_69_method_16_code 276 = .ok (.dup_x1, 1) := by decide +kernel
theorem d19_277 : decode jdk_69_method_16_code 277 = .ok (.putfield 156, 3) := by decide +kernel
theorem d19_280 : decode jdk_69_method_16_code 280 = .ok (.aload_n 0, 1) := by decide +kernel
theorem d19_281 : decode jdk_69_method_16_code 281 = .ok (.getfield 88, 3) := by decide +kernel
theorem d19_284 : decode jdk_69_method_16_code 284 = .ok (.if_icmp .le 8, 3) := by decide +kernel
theorem d19_287 : decode jdk_69_method_16_code 287 = .ok (.aload_n 0, 1) := by decide +kernel
theorem d19_288 : decode jdk_69_method_16_code 288 = .ok (.invokevirtual 117, 3) := by decide +kernel
theorem d19_291 : decode jdk_69_method_16_code 291 = .ok (.pop, 1) := by decide +kernel
theorem d19_292 : decode jdk_69_method_16_code 292 = .ok (.aload_n 0, 1) := by decide +kernel
theorem d19_293 : decode jdk_69_method_16_code 293 = .ok (.iload 5, 2) := by decide +kernel
theorem d19_295 : decode jdk_69_method_16_code 295 = .ok (.invokevirtual 205, 3) := by decide +kernel
theorem d19_298 : decode jdk_69_method_16_code 298 = .ok (.aconst_null, 1) := by decide +kernel
theorem d19_299 : decode jdk_69_method_16_code 299 = .ok (.areturn, 1) := by decide +kernel
theorem pn_19 : plainFor (⟨"java/util/HashMap", "putVal", "(ILjava/lang/Object;Ljava/lang/Object;ZZ)Ljava/lang/Object;"⟩ : MethodName) = true := by first | exact plainFor_of_name (by first | (simp [plainName, overriddenIn]; done) | decide +kernel) | decide +kernel
theorem ef_19 (m : MethodId) (a1 : Addr) (p2 : Int32) (a3 : Addr) (a4 : Addr) (p5 : Int32) (p6 : Int32) : entryFrame m #[(.ref a1), (.int p2), (.ref a3), (.ref a4), (.int p5), (.int p6)] 13 = mkF m 0 #[.val (.ref a1), .val (.int p2), .val (.ref a3), .val (.ref a4), .val (.int p5), .val (.int p6), .unset, .unset, .unset, .unset, .unset, .unset, .unset] [] := by first | (simp [entryFrame, argsToLocals, Value.category, Array.replicate]; done) | rfl
theorem pd_19 : parseMethodDescriptor "(ILjava/lang/Object;Ljava/lang/Object;ZZ)Ljava/lang/Object;" = some ⟨[.int, (.object "java/lang/Object"), (.object "java/lang/Object"), .boolean, .boolean], some (.object "java/lang/Object")⟩ := by decide +kernel
def Q19 (Z : State) (a1 : Addr) (p2 : Int32) (a3 : Addr) (a4 : Addr) (p5 : Int32) (p6 : Int32) (cb : Nat) (key : Nat → Addr) (inS : Nat → Bool) (k : Nat) (i : Nat) (h0 : Heap) (n0 : Nat) (v : Option Value) (h : Heap) (L : List Loc) : Prop := v = some .null ∧ Fr n0 L ∧ Old Z n0 h ∧ Kc Z h0 h [(.inl "java/util/HashMap"), (.inr (.object "java/util/HashMap$Node"))] ∧ MAP Z h n0 a1 cb key (fun j => if j = i then true else inS j) (k + 1)
theorem rm19 (l : Launch) (Z : State) (a0 : Array Value) (hw : ∀ d ∈ tables_1, d.before a0 Z = true) (ws : List Jvm.Cond) (a1 : Addr) (p2 : Int32) (a3 : Addr) (a4 : Addr) (p5 : Int32) (p6 : Int32) (cb : Nat) (key : Nat → Addr) (inS : Nat → Bool) (k : Nat) (i : Nat) (h0 : Heap) (n0 : Nat) (Z0 : n0 ≤ h0.size) (OL : Old Z n0 h0) (tv : Value) (thr : Int32) (mc : Int32) (lf : Value) (F0 : HM Z h0 a1 tv (Nat.toInt32 k) thr mc lf) (D0 : MAPD Z h0 n0 tv thr cb key inS) (nb : n0 ≤ a1) (hc : cb < 256) (hi : i < 5) (hk : k < 5) (zp2 : p2 = Nat.toInt32 (cb + i)) (hin : inS i = false) (ek : key i = a3) :
    MetFree l (⟨"java/util/HashMap", "putVal", "(ILjava/lang/Object;Ljava/lang/Object;ZZ)Ljava/lang/Object;"⟩ : MethodName) (head1 (Jvm.Cond.code (⟨"java/util/HashMap", "putVal", "(ILjava/lang/Object;Ljava/lang/Object;ZZ)Ljava/lang/Object;"⟩ : MethodName) jdk_69_method_16_code 13 (some (.object "java/lang/Object")) :: ws) ({ frames := 3, cells := 2, slots := 20, locals := 47 } : Room)) (fun a U => a = #[(.ref a1), (.int p2), (.ref a3), (.ref a4), (.int p5), (.int p6)] ∧ Z.Warmed39 U.vm ∧ U.heap = h0) (fun _ _ _ _ _ => True) (fun _ U o U' => ∃ v L, o = .returned v ∧ (Q19 Z a1 p2 a3 a4 p5 p6 cb key inS k i h0 n0) v U'.heap L ∧ FrameEnd U o U' L ({ frames := 3, cells := 2, slots := 20, locals := 47 } : Room).cells ({ frames := 3, cells := 2, slots := 20, locals := 47 } : Room).slots) := by
  refine MetFree.of_bodySF pn_19 hisR ?_
  intro p e s m args below meth c s₁ Bd hml0 hP hK
  obtain ⟨rfl, hZ, hh⟩ := hP
  have hx := Bd.exec
  have hby := Bd.bytes
  have hml : c.maxLocals = 13 := hml0
  have hown : s.vm.findClass "java/util/HashMap" = some m.cls := findClass_of_methodNamed Bd.named
  have hnm := (name_of_methodNamed Bd.named Bd.method).1
  have X0 : Stand p l e ({ frames := 3, cells := 2, slots := 20, locals := 47 } : Room) s m #[(.ref a1), (.int p2), (.ref a3), (.ref a4), (.int p5), (.int p6)] below meth c s₁ [] 0 0 := Stand.of_body Bd
  have e0 : s₁.heap = h0 := by rw [← hh, Bd.state]; rfl
  have N0 := Fr.nil n0
  have lk : meth.locks = false := BodyLoose.notSynchronized Bd
  have hret := Bd.returns
  show Ends p e below (EF s ({ frames := 3, cells := 2, slots := 20, locals := 47 } : Room).cells ({ frames := 3, cells := 2, slots := 20, locals := 47 } : Room).slots) (Q19 Z a1 p2 a3 a4 p5 p6 cb key inS k i h0 n0) (s₁.setTop (entryFrame m #[(.ref a1), (.int p2), (.ref a3), (.ref a4), (.int p5), (.int p6)] 13))
  refine Ends.cast (ef_19 m a1 p2 a3 a4 p5 p6) ?_
  have hE : Nat.toInt32 k + 1 = Nat.toInt32 (k + 1) := own_succ (by omega)
  rcases D0 with ⟨rfl, rfl, hno⟩ | ⟨tb, t, rfl, rfl, ntb, RT, NO⟩
  · skip
    refine own_aloadN (n := 1) X0 hx (hb hby d19_0) rfl rfl rfl ?_
    refine own_getF (n := 4) X0 hx hZ hown (hw _ (List.mem_of_getElem? (i := 121) rfl)) e0 F0.2.1 (hb hby d19_1) rfl ?_
    intro T1 X1 e1
    refine own_dup (n := 5) X1 hx (hb hby d19_4) rfl rfl ?_
    refine own_astore (n := 7) X1 hx (hb hby d19_5) rfl (l' := #[.val (.ref a1), .val (.int p2), .val (.ref a3), .val (.ref a4), .val (.int p5), .val (.int p6), .val .null, .unset, .unset, .unset, .unset, .unset, .unset]) rfl rfl ?_
    refine own_ifnullYes (n := 19) X1 hx (hb hby d19_7) rfl (by decide) (by decide) ?_
    refine own_aloadN (n := 20) X1 hx (hb hby d19_19) rfl rfl rfl ?_
    refine own_callV (n := 23) X1 hx hZ hown (hw _ (List.mem_of_getElem? (i := 123) rfl)) (hw _ (List.mem_of_getElem? (i := 124) rfl)) (hw _ (List.mem_of_getElem? (i := 126) rfl)) (hw _ (List.mem_of_getElem? (i := 125) rfl)) (hw _ (List.mem_of_getElem? (i := 43) rfl)) (hw _ (List.mem_of_getElem? (i := 127) rfl)) (by decide) e1 F0.1 (rm20 l Z a0 hw [] a1 (Nat.toInt32 k) mc lf h0 n0 Z0 F0 nb) (W := 0) (by decide) (by decide) (by decide) (by decide) (by rw [hml]; rfl) (argsL := []) (rest := []) pd_20 rfl (by rfl) (Nat.le_of_eq rfl) (hb hby d19_20) rfl rfl ?_
    intro v2 T2 h2 L2 X2 e2 q2
    obtain ⟨tb2, rfl, M2, K2, F2, A2, bg2⟩ := q2
    have N2 := Fr.app N0 M2
    have Z2 : n0 ≤ h2.size := Nat.le_trans Z0 K2.1
    have OL2 := OL.keep K2 (allS nb all0)
    have nb_tb2 : n0 ≤ tb2 := Nat.le_trans Z0 bg2
    refine own_dup (n := 24) X2 hx (hb hby d19_23) rfl rfl ?_
    refine own_astore (n := 26) X2 hx (hb hby d19_24) rfl (l' := #[.val (.ref a1), .val (.int p2), .val (.ref a3), .val (.ref a4), .val (.int p5), .val (.int p6), .val (.ref tb2), .unset, .unset, .unset, .unset, .unset, .unset]) rfl rfl ?_
    refine own_arraylength (n := 27) X2 hx hZ e2 A2.va (v := (16 : Int32)) rfl (hb hby d19_26) rfl ?_
    refine own_istore (n := 29) X2 hx (hb hby d19_27) (l' := #[.val (.ref a1), .val (.int p2), .val (.ref a3), .val (.ref a4), .val (.int p5), .val (.int p6), .val (.ref tb2), .unset, .val (.int (16 : Int32)), .unset, .unset, .unset, .unset]) rfl rfl ?_
    refine own_aload (n := 31) X2 hx (hb hby d19_29) rfl rfl rfl ?_
    refine own_iload (n := 33) X2 hx (hb hby d19_31) rfl rfl ?_
    refine own_iconst (n := 34) X2 hx (1 : Int32) (hb hby d19_33) rfl rfl ?_
    refine own_isub (n := 35) X2 hx (hb hby d19_34) rfl ?_
    refine own_iloadN (n := 36) X2 hx (hb hby d19_35) rfl rfl ?_
    refine own_iand (n := 37) X2 hx (hb hby d19_36) rfl ?_
    refine own_dup (n := 38) X2 hx (hb hby d19_37) rfl rfl ?_
    refine own_istore (n := 40) X2 hx (hb hby d19_38) (l' := #[.val (.ref a1), .val (.int p2), .val (.ref a3), .val (.ref a4), .val (.int p5), .val (.int p6), .val (.ref tb2), .unset, .val (.int (16 : Int32)), .val (.int (((16 : Int32) - (1 : Int32)) &&& p2)), .unset, .unset, .unset]) rfl rfl ?_
    show Ends p e below (EF s ({ frames := 3, cells := 2, slots := 20, locals := 47 } : Room).cells ({ frames := 3, cells := 2, slots := 20, locals := 47 } : Room).slots) (Q19 Z a1 p2 a3 a4 p5 p6 cb key inS k i h0 n0) (T2.setTop (mkF m 40 #[.val (.ref a1), .val (.int p2), .val (.ref a3), .val (.ref a4), .val (.int p5), .val (.int p6), .val (.ref tb2), .unset, .val (.int (16 : Int32)), .val (.int (((16 : Int32) - (1 : Int32)) &&& p2)), .unset, .unset, .unset] [(.int (((16 : Int32) - (1 : Int32)) &&& p2)), (.ref tb2)]))
    generalize g_ix : (((16 : Int32) - (1 : Int32)) &&& p2) = ix
    refine own_aaload (n := 41) X2 hx hZ e2 A2 (i := ((cb + i) % 16)) (own_bk zp2 hc hi g_ix) (Nat.mod_lt _ (by decide)) (v := .null) rfl (hb hby d19_40) rfl ?_
    refine own_dup (n := 42) X2 hx (hb hby d19_41) rfl rfl ?_
    refine own_astore (n := 44) X2 hx (hb hby d19_42) rfl (l' := #[.val (.ref a1), .val (.int p2), .val (.ref a3), .val (.ref a4), .val (.int p5), .val (.int p6), .val (.ref tb2), .val .null, .val (.int (16 : Int32)), .val (.int ix), .unset, .unset, .unset]) rfl rfl ?_
    refine own_ifnonnullNo (n := 47) X2 hx (hb hby d19_44) rfl rfl ?_
    refine own_aload (n := 49) X2 hx (hb hby d19_47) rfl rfl rfl ?_
    refine own_iload (n := 51) X2 hx (hb hby d19_49) rfl rfl ?_
    refine own_aloadN (n := 52) X2 hx (hb hby d19_51) rfl rfl rfl ?_
    refine own_iloadN (n := 53) X2 hx (hb hby d19_52) rfl rfl ?_
    refine own_aloadN (n := 54) X2 hx (hb hby d19_53) rfl rfl rfl ?_
    refine own_aloadN (n := 55) X2 hx (hb hby d19_54) rfl rfl rfl ?_
    refine own_aconst_null (n := 56) X2 hx (hb hby d19_55) rfl ?_
    refine own_callV (n := 59) X2 hx hZ hown (hw _ (List.mem_of_getElem? (i := 132) rfl)) (hw _ (List.mem_of_getElem? (i := 133) rfl)) (hw _ (List.mem_of_getElem? (i := 135) rfl)) (hw _ (List.mem_of_getElem? (i := 134) rfl)) (hw _ (List.mem_of_getElem? (i := 43) rfl)) (hw _ (List.mem_of_getElem? (i := 136) rfl)) (by decide) e2 F2.1 (rm21 l Z a0 hw [] a1 p2 a3 a4 h2 n0 Z2 ) (W := 2) (by decide) (by decide) (by decide) (by decide) (by rw [hml]; rfl) (argsL := [(.int p2), (.ref a3), (.ref a4), .null]) (rest := [(.int ix), (.ref tb2)]) pd_21 rfl (by rfl) (Nat.le_of_eq rfl) (hb hby d19_56) rfl rfl ?_
    intro v3 T3 h3 L3 X3 e3 q3
    obtain ⟨nd3, rfl, M3, K3, F3, bg3⟩ := q3
    have N3 := Fr.app N2 M3
    have Z3 : n0 ≤ h3.size := Nat.le_trans Z2 K3.1
    have OL3 := OL2.keep K3 all0
    have F3_a1 := F2.keep K3 nin0
    have F3_tb2 := A2.keep K3 nin0
    have KK3 := K2.trans K3 (fun z hz => nomatch hz)
    refine own_aastore (n := 60) X3 hx hZ e3 F3_tb2 (Ins.of_exa F3.1 (hw _ (List.mem_of_getElem? (i := 141) rfl))) (i := ((cb + i) % 16)) (own_bk zp2 hc hi g_ix) (Nat.mod_lt _ (by decide)) (hb hby d19_59) rfl ?_
    intro T4 h4 X4 e4 W4 A4
    have N4 := Fr.snoc X4 N3 nb_tb2
    have Z4 : n0 ≤ h4.size := Nat.le_trans Z3 (Keep.of_wr W4).1
    have OL4 := OL3.wr W4 nb_tb2
    have F4_a1 := F3_a1.wrO W4 (own_neOA F3_a1.1 (hw _ (List.mem_of_getElem? (i := 42) rfl)) F3_tb2.va)
    have F4_nd3 := F3.wrO W4 (own_neOA F3.1 (hw _ (List.mem_of_getElem? (i := 137) rfl)) F3_tb2.va)
    have K4 : Keep h0 h4 [a1] := KK3.wr W4 (Or.inr bg2)
    refine own_goto (n := 259) X4 hx (hb hby d19_60) (by decide) (by decide) ?_
    refine own_aloadN (n := 260) X4 hx (hb hby d19_259) rfl rfl rfl ?_
    refine own_dup (n := 261) X4 hx (hb hby d19_260) rfl rfl ?_
    refine own_getF (n := 264) X4 hx hZ hown (hw _ (List.mem_of_getElem? (i := 152) rfl)) e4 F4_a1.2.2.2.2.1 (hb hby d19_261) rfl ?_
    intro T5 X5 e5
    refine own_iconst (n := 265) X5 hx (1 : Int32) (hb hby d19_264) rfl rfl ?_
    refine own_iadd (n := 266) X5 hx (hb hby d19_265) rfl ?_
    refine own_putF (n := 269) X5 hx hZ hown (hw _ (List.mem_of_getElem? (i := 152) rfl)) e5 F4_a1.2.2.2.2.1 F4_a1.1 (Or.inl (hw _ (List.mem_of_getElem? (i := 153) rfl))) (hw _ (List.mem_of_getElem? (i := 42) rfl)) (ty := .int) (by decide) rfl rfl (hb hby d19_266) rfl ?_
    intro T6 h6 X6 e6 W6
    have N6 := Fr.snoc X6 N4 nb
    have Z6 : n0 ≤ h6.size := Nat.le_trans Z4 (Keep.of_wr W6).1
    have OL6 := OL4.wr W6 nb
    have F6_a1 := F4_a1.set_modCount hw W6
    have F6_tb2 := A4.wrO W6 (Ne.symm (own_neOA F4_a1.1 (hw _ (List.mem_of_getElem? (i := 42) rfl)) A4.va))
    have F6_nd3 := F4_nd3.wrO W6 (ne_exa F4_nd3.1 F4_a1.1 (by decide))
    have K6 : Keep h0 h6 [a1] := K4.wr W6 (Or.inl (List.mem_of_getElem? (i := 0) rfl))
    refine own_aloadN (n := 270) X6 hx (hb hby d19_269) rfl rfl rfl ?_
    refine own_dup (n := 271) X6 hx (hb hby d19_270) rfl rfl ?_
    refine own_getF (n := 274) X6 hx hZ hown (hw _ (List.mem_of_getElem? (i := 154) rfl)) e6 F6_a1.2.2.1 (hb hby d19_271) rfl ?_
    intro T7 X7 e7
    refine own_iconst (n := 275) X7 hx (1 : Int32) (hb hby d19_274) rfl rfl ?_
    refine own_iadd (n := 276) X7 hx (hb hby d19_275) rfl ?_
    refine own_dup_x1 (n := 277) X7 hx (hb hby d19_276) rfl rfl rfl ?_
    refine own_putF (n := 280) X7 hx hZ hown (hw _ (List.mem_of_getElem? (i := 154) rfl)) e7 F6_a1.2.2.1 F6_a1.1 (Or.inl (hw _ (List.mem_of_getElem? (i := 155) rfl))) (hw _ (List.mem_of_getElem? (i := 42) rfl)) (ty := .int) (by decide) rfl rfl (hb hby d19_277) rfl ?_
    intro T8 h8 X8 e8 W8
    have N8 := Fr.snoc X8 N6 nb
    have Z8 : n0 ≤ h8.size := Nat.le_trans Z6 (Keep.of_wr W8).1
    have OL8 := OL6.wr W8 nb
    have F8_a1 := F6_a1.set_size hw W8
    have F8_tb2 := F6_tb2.wrO W8 (Ne.symm (own_neOA F6_a1.1 (hw _ (List.mem_of_getElem? (i := 42) rfl)) F6_tb2.va))
    have F8_nd3 := F6_nd3.wrO W8 (ne_exa F6_nd3.1 F6_a1.1 (by decide))
    have K8 : Keep h0 h8 [a1] := K6.wr W8 (Or.inl (List.mem_of_getElem? (i := 0) rfl))
    refine own_aloadN (n := 281) X8 hx (hb hby d19_280) rfl rfl rfl ?_
    refine own_getF (n := 284) X8 hx hZ hown (hw _ (List.mem_of_getElem? (i := 128) rfl)) e8 F8_a1.2.2.2.1 (hb hby d19_281) rfl ?_
    intro T9 X9 e9
    refine own_icmpYes (n := 292) X9 hx (hb hby d19_284) (Jvm.Free.XT.ii_le_t (own_le12 hk)) (by decide) (by decide) ?_
    refine own_aloadN (n := 293) X9 hx (hb hby d19_292) rfl rfl rfl ?_
    refine own_iload (n := 295) X9 hx (hb hby d19_293) rfl rfl ?_
    refine own_callV (n := 298) X9 hx hZ hown (hw _ (List.mem_of_getElem? (i := 156) rfl)) (hw _ (List.mem_of_getElem? (i := 157) rfl)) (hw _ (List.mem_of_getElem? (i := 159) rfl)) (hw _ (List.mem_of_getElem? (i := 158) rfl)) (hw _ (List.mem_of_getElem? (i := 43) rfl)) (hw _ (List.mem_of_getElem? (i := 160) rfl)) (by decide) e9 F8_a1.1 (rm23 l Z a0 hw [] a1 p6 h8 n0 Z8 ) (W := 0) (by decide) (by decide) (by decide) (by decide) (by rw [hml]; rfl) (argsL := [(.int p6)]) (rest := []) pd_23 rfl (by rfl) (Nat.le_of_eq rfl) (hb hby d19_295) rfl rfl ?_
    intro v10 T10 h10 L10 X10 e10 q10
    obtain ⟨rfl, M10, rfl⟩ := q10
    have N10 := Fr.app N8 M10
    refine own_aconst_null (n := 299) X10 hx (hb hby d19_298) rfl ?_
    refine own_retA X10 hx lk hret rfl rfl (hb hby d19_299) (by decide) (by decide) ?_
    rw [e10]
    rw [hE] at F8_a1
    rw [zp2, ← ek] at F8_nd3
    exact ⟨rfl, N10, OL8, Kc.ofKeep K8 (kinS (List.mem_of_getElem? (i := 0) rfl) (fun c e => exaSort F0.1 c e) kin0), _, _, _, _, F8_a1, Or.inr ⟨_, _, rfl, rfl, nb_tb2, F8_tb2, own_nodes (own_nodes0 hno) F8_nd3 hi⟩⟩
  · skip
    refine own_aloadN (n := 1) X0 hx (hb hby d19_0) rfl rfl rfl ?_
    refine own_getF (n := 4) X0 hx hZ hown (hw _ (List.mem_of_getElem? (i := 121) rfl)) e0 F0.2.1 (hb hby d19_1) rfl ?_
    intro T11 X11 e11
    refine own_dup (n := 5) X11 hx (hb hby d19_4) rfl rfl ?_
    refine own_astore (n := 7) X11 hx (hb hby d19_5) rfl (l' := #[.val (.ref a1), .val (.int p2), .val (.ref a3), .val (.ref a4), .val (.int p5), .val (.int p6), .val (.ref tb), .unset, .unset, .unset, .unset, .unset, .unset]) rfl rfl ?_
    refine own_ifnullNo (n := 10) X11 hx (hb hby d19_7) rfl (fun z => by cases z) rfl ?_
    refine own_aload (n := 12) X11 hx (hb hby d19_10) rfl rfl rfl ?_
    refine own_arraylength (n := 13) X11 hx hZ e11 RT.va (v := (16 : Int32)) rfl (hb hby d19_12) rfl ?_
    refine own_dup (n := 14) X11 hx (hb hby d19_13) rfl rfl ?_
    refine own_istore (n := 16) X11 hx (hb hby d19_14) (l' := #[.val (.ref a1), .val (.int p2), .val (.ref a3), .val (.ref a4), .val (.int p5), .val (.int p6), .val (.ref tb), .unset, .val (.int (16 : Int32)), .unset, .unset, .unset, .unset]) rfl rfl ?_
    refine own_ifYes (n := 29) X11 hx (hb hby d19_16) (Jvm.Free.XT.i0_ne_t (by decide)) (by decide) (by decide) ?_
    refine own_aload (n := 31) X11 hx (hb hby d19_29) rfl rfl rfl ?_
    refine own_iload (n := 33) X11 hx (hb hby d19_31) rfl rfl ?_
    refine own_iconst (n := 34) X11 hx (1 : Int32) (hb hby d19_33) rfl rfl ?_
    refine own_isub (n := 35) X11 hx (hb hby d19_34) rfl ?_
    refine own_iloadN (n := 36) X11 hx (hb hby d19_35) rfl rfl ?_
    refine own_iand (n := 37) X11 hx (hb hby d19_36) rfl ?_
    refine own_dup (n := 38) X11 hx (hb hby d19_37) rfl rfl ?_
    refine own_istore (n := 40) X11 hx (hb hby d19_38) (l' := #[.val (.ref a1), .val (.int p2), .val (.ref a3), .val (.ref a4), .val (.int p5), .val (.int p6), .val (.ref tb), .unset, .val (.int (16 : Int32)), .val (.int (((16 : Int32) - (1 : Int32)) &&& p2)), .unset, .unset, .unset]) rfl rfl ?_
    show Ends p e below (EF s ({ frames := 3, cells := 2, slots := 20, locals := 47 } : Room).cells ({ frames := 3, cells := 2, slots := 20, locals := 47 } : Room).slots) (Q19 Z a1 p2 a3 a4 p5 p6 cb key inS k i h0 n0) (T11.setTop (mkF m 40 #[.val (.ref a1), .val (.int p2), .val (.ref a3), .val (.ref a4), .val (.int p5), .val (.int p6), .val (.ref tb), .unset, .val (.int (16 : Int32)), .val (.int (((16 : Int32) - (1 : Int32)) &&& p2)), .unset, .unset, .unset] [(.int (((16 : Int32) - (1 : Int32)) &&& p2)), (.ref tb)]))
    generalize g_ix : (((16 : Int32) - (1 : Int32)) &&& p2) = ix
    refine own_aaload (n := 41) X11 hx hZ e11 RT (i := ((cb + i) % 16)) (own_bk zp2 hc hi g_ix) (Nat.mod_lt _ (by decide)) (v := .null) ((NO i hi).2 hin) (hb hby d19_40) rfl ?_
    refine own_dup (n := 42) X11 hx (hb hby d19_41) rfl rfl ?_
    refine own_astore (n := 44) X11 hx (hb hby d19_42) rfl (l' := #[.val (.ref a1), .val (.int p2), .val (.ref a3), .val (.ref a4), .val (.int p5), .val (.int p6), .val (.ref tb), .val .null, .val (.int (16 : Int32)), .val (.int ix), .unset, .unset, .unset]) rfl rfl ?_
    refine own_ifnonnullNo (n := 47) X11 hx (hb hby d19_44) rfl rfl ?_
    refine own_aload (n := 49) X11 hx (hb hby d19_47) rfl rfl rfl ?_
    refine own_iload (n := 51) X11 hx (hb hby d19_49) rfl rfl ?_
    refine own_aloadN (n := 52) X11 hx (hb hby d19_51) rfl rfl rfl ?_
    refine own_iloadN (n := 53) X11 hx (hb hby d19_52) rfl rfl ?_
    refine own_aloadN (n := 54) X11 hx (hb hby d19_53) rfl rfl rfl ?_
    refine own_aloadN (n := 55) X11 hx (hb hby d19_54) rfl rfl rfl ?_
    refine own_aconst_null (n := 56) X11 hx (hb hby d19_55) rfl ?_
    refine own_callV (n := 59) X11 hx hZ hown (hw _ (List.mem_of_getElem? (i := 132) rfl)) (hw _ (List.mem_of_getElem? (i := 133) rfl)) (hw _ (List.mem_of_getElem? (i := 135) rfl)) (hw _ (List.mem_of_getElem? (i := 134) rfl)) (hw _ (List.mem_of_getElem? (i := 43) rfl)) (hw _ (List.mem_of_getElem? (i := 136) rfl)) (by decide) e11 F0.1 (rm21 l Z a0 hw [] a1 p2 a3 a4 h0 n0 Z0 ) (W := 2) (by decide) (by decide) (by decide) (by decide) (by rw [hml]; rfl) (argsL := [(.int p2), (.ref a3), (.ref a4), .null]) (rest := [(.int ix), (.ref tb)]) pd_21 rfl (by rfl) (Nat.le_of_eq rfl) (hb hby d19_56) rfl rfl ?_
    intro v12 T12 h12 L12 X12 e12 q12
    obtain ⟨nd12, rfl, M12, K12, F12, bg12⟩ := q12
    have N12 := Fr.app N0 M12
    have Z12 : n0 ≤ h12.size := Nat.le_trans Z0 K12.1
    have OL12 := OL.keep K12 all0
    have F12_a1 := F0.keep K12 nin0
    have F12_tb := RT.keep K12 nin0
    have KW12 : Kc Z h0 h12 [] := Kc.ofKeep K12 kin0
    have Y12_NO := NO.kc KW12 no0
    have KK12 := (Keep.refl h0 [a1, tb]).trans K12 (fun z hz => nomatch hz)
    refine own_aastore (n := 60) X12 hx hZ e12 F12_tb (Ins.of_exa F12.1 (hw _ (List.mem_of_getElem? (i := 141) rfl))) (i := ((cb + i) % 16)) (own_bk zp2 hc hi g_ix) (Nat.mod_lt _ (by decide)) (hb hby d19_59) rfl ?_
    intro T13 h13 X13 e13 W13 A13
    have N13 := Fr.snoc X13 N12 ntb
    have Z13 : n0 ≤ h13.size := Nat.le_trans Z12 (Keep.of_wr W13).1
    have KW13 : Kc Z h12 h13 [(.inr (.object "java/util/HashMap$Node"))] := Kc.ofKeep (Keep.of_wr W13) (kinS (List.mem_singleton.mpr rfl) (fun c e => VA.sort F12_tb.va c e) kin0)
    have Y13_NO := Y12_NO.kc KW13 (noS (noCA (hw _ (List.mem_of_getElem? (i := 137) rfl))) no0)
    have OL13 := OL12.wr W13 ntb
    have F13_a1 := F12_a1.wrO W13 (own_neOA F12_a1.1 (hw _ (List.mem_of_getElem? (i := 42) rfl)) F12_tb.va)
    have F13_nd12 := F12.wrO W13 (own_neOA F12.1 (hw _ (List.mem_of_getElem? (i := 137) rfl)) F12_tb.va)
    have K13 : Keep h0 h13 [a1, tb] := KK12.wr W13 (Or.inl (List.mem_of_getElem? (i := 1) rfl))
    refine own_goto (n := 259) X13 hx (hb hby d19_60) (by decide) (by decide) ?_
    refine own_aloadN (n := 260) X13 hx (hb hby d19_259) rfl rfl rfl ?_
    refine own_dup (n := 261) X13 hx (hb hby d19_260) rfl rfl ?_
    refine own_getF (n := 264) X13 hx hZ hown (hw _ (List.mem_of_getElem? (i := 152) rfl)) e13 F13_a1.2.2.2.2.1 (hb hby d19_261) rfl ?_
    intro T14 X14 e14
    refine own_iconst (n := 265) X14 hx (1 : Int32) (hb hby d19_264) rfl rfl ?_
    refine own_iadd (n := 266) X14 hx (hb hby d19_265) rfl ?_
    refine own_putF (n := 269) X14 hx hZ hown (hw _ (List.mem_of_getElem? (i := 152) rfl)) e14 F13_a1.2.2.2.2.1 F13_a1.1 (Or.inl (hw _ (List.mem_of_getElem? (i := 153) rfl))) (hw _ (List.mem_of_getElem? (i := 42) rfl)) (ty := .int) (by decide) rfl rfl (hb hby d19_266) rfl ?_
    intro T15 h15 X15 e15 W15
    have N15 := Fr.snoc X15 N13 nb
    have Z15 : n0 ≤ h15.size := Nat.le_trans Z13 (Keep.of_wr W15).1
    have OL15 := OL13.wr W15 nb
    have F15_a1 := F13_a1.set_modCount hw W15
    have F15_tb := A13.wrO W15 (Ne.symm (own_neOA F13_a1.1 (hw _ (List.mem_of_getElem? (i := 42) rfl)) A13.va))
    have F15_nd12 := F13_nd12.wrO W15 (ne_exa F13_nd12.1 F13_a1.1 (by decide))
    have K15 : Keep h0 h15 [a1, tb] := K13.wr W15 (Or.inl (List.mem_of_getElem? (i := 0) rfl))
    have KW15 : Kc Z h13 h15 [(.inl "java/util/HashMap")] := Kc.ofKeep (Keep.of_wr W15) (kinS (List.mem_singleton.mpr rfl) (fun c e => exaSort F13_a1.1 c e) kin0)
    have Y15_NO := Y13_NO.kc KW15 (noS (noCC (by decide)) no0)
    refine own_aloadN (n := 270) X15 hx (hb hby d19_269) rfl rfl rfl ?_
    refine own_dup (n := 271) X15 hx (hb hby d19_270) rfl rfl ?_
    refine own_getF (n := 274) X15 hx hZ hown (hw _ (List.mem_of_getElem? (i := 154) rfl)) e15 F15_a1.2.2.1 (hb hby d19_271) rfl ?_
    intro T16 X16 e16
    refine own_iconst (n := 275) X16 hx (1 : Int32) (hb hby d19_274) rfl rfl ?_
    refine own_iadd (n := 276) X16 hx (hb hby d19_275) rfl ?_
    refine own_dup_x1 (n := 277) X16 hx (hb hby d19_276) rfl rfl rfl ?_
    refine own_putF (n := 280) X16 hx hZ hown (hw _ (List.mem_of_getElem? (i := 154) rfl)) e16 F15_a1.2.2.1 F15_a1.1 (Or.inl (hw _ (List.mem_of_getElem? (i := 155) rfl))) (hw _ (List.mem_of_getElem? (i := 42) rfl)) (ty := .int) (by decide) rfl rfl (hb hby d19_277) rfl ?_
    intro T17 h17 X17 e17 W17
    have N17 := Fr.snoc X17 N15 nb
    have Z17 : n0 ≤ h17.size := Nat.le_trans Z15 (Keep.of_wr W17).1
    have OL17 := OL15.wr W17 nb
    have F17_a1 := F15_a1.set_size hw W17
    have F17_tb := F15_tb.wrO W17 (Ne.symm (own_neOA F15_a1.1 (hw _ (List.mem_of_getElem? (i := 42) rfl)) F15_tb.va))
    have F17_nd12 := F15_nd12.wrO W17 (ne_exa F15_nd12.1 F15_a1.1 (by decide))
    have K17 : Keep h0 h17 [a1, tb] := K15.wr W17 (Or.inl (List.mem_of_getElem? (i := 0) rfl))
    have KW17 : Kc Z h15 h17 [(.inl "java/util/HashMap")] := Kc.ofKeep (Keep.of_wr W17) (kinS (List.mem_singleton.mpr rfl) (fun c e => exaSort F15_a1.1 c e) kin0)
    have Y17_NO := Y15_NO.kc KW17 (noS (noCC (by decide)) no0)
    refine own_aloadN (n := 281) X17 hx (hb hby d19_280) rfl rfl rfl ?_
    refine own_getF (n := 284) X17 hx hZ hown (hw _ (List.mem_of_getElem? (i := 128) rfl)) e17 F17_a1.2.2.2.1 (hb hby d19_281) rfl ?_
    intro T18 X18 e18
    refine own_icmpYes (n := 292) X18 hx (hb hby d19_284) (Jvm.Free.XT.ii_le_t (own_le12 hk)) (by decide) (by decide) ?_
    refine own_aloadN (n := 293) X18 hx (hb hby d19_292) rfl rfl rfl ?_
    refine own_iload (n := 295) X18 hx (hb hby d19_293) rfl rfl ?_
    refine own_callV (n := 298) X18 hx hZ hown (hw _ (List.mem_of_getElem? (i := 156) rfl)) (hw _ (List.mem_of_getElem? (i := 157) rfl)) (hw _ (List.mem_of_getElem? (i := 159) rfl)) (hw _ (List.mem_of_getElem? (i := 158) rfl)) (hw _ (List.mem_of_getElem? (i := 43) rfl)) (hw _ (List.mem_of_getElem? (i := 160) rfl)) (by decide) e18 F17_a1.1 (rm23 l Z a0 hw [] a1 p6 h17 n0 Z17 ) (W := 0) (by decide) (by decide) (by decide) (by decide) (by rw [hml]; rfl) (argsL := [(.int p6)]) (rest := []) pd_23 rfl (by rfl) (Nat.le_of_eq rfl) (hb hby d19_295) rfl rfl ?_
    intro v19 T19 h19 L19 X19 e19 q19
    obtain ⟨rfl, M19, rfl⟩ := q19
    have N19 := Fr.app N17 M19
    refine own_aconst_null (n := 299) X19 hx (hb hby d19_298) rfl ?_
    refine own_retA X19 hx lk hret rfl rfl (hb hby d19_299) (by decide) (by decide) ?_
    rw [e19]
    rw [hE] at F17_a1
    rw [zp2, ← ek] at F17_nd12
    exact ⟨rfl, N19, OL17, Kc.ofKeep K17 (kinS (List.mem_of_getElem? (i := 0) rfl) (fun c e => exaSort F0.1 c e) (kinS (List.mem_of_getElem? (i := 1) rfl) (fun c e => VA.sort RT.va c e) kin0)), _, _, _, _, F17_a1, Or.inr ⟨_, _, rfl, rfl, ntb, F17_tb, own_nodes Y17_NO F17_nd12 hi⟩⟩
theorem STRK.keep1 {Z : State} {h h' : Heap} {a a2 : Addr} {ch : Int32} {a0 : Array Value} {kk : Nat} (w : (Cond.instantiable "java/lang/String" kk).before a0 Z = true) (F : STRK Z h a ch) (K : Keep h h' [a2]) (ne : a ≠ a2) (E : Exa Z h a2 "java/lang/String") : STRK Z h' a ch := by
  obtain ⟨b, cd, hs, hz, n, f, q, r, t⟩ := F
  exact ⟨b, cd, hs, hz, n, f, q.keep K (ninS ne nin0), r.keep K (ninS (Ne.symm (own_neOA E w r)) nin0), t⟩
def SET (Z : State) (h : Heap) (n0 : Nat) (a : Addr) (cb : Nat) (key : Nat → Addr) (inS : Nat → Bool) (k : Nat) : Prop := ∃ mp, HS Z h a (.ref mp) ∧ MAP Z h n0 mp cb key inS k ∧ n0 ≤ mp
theorem SET.exa {Z : State} {h : Heap} {n0 : Nat} {a : Addr} {cb : Nat} {key : Nat → Addr} {inS : Nat → Bool} {k : Nat} (F : SET Z h n0 a cb key inS k) : Exa Z h a "java/util/HashSet" := by
  obtain ⟨mp, q, -⟩ := F
  exact q.1
theorem SET.ext {Z : State} {h h' : Heap} {n0 : Nat} {a : Addr} {cb : Nat} {key : Nat → Addr} {inS : Nat → Bool} {k : Nat} (F : SET Z h n0 a cb key inS k) (E : Ext h h') : SET Z h' n0 a cb key inS k := by
  obtain ⟨mp, q, r, s⟩ := F
  exact ⟨mp, q.ext E, r.ext E, s⟩
theorem SET.kc {Z : State} {h h' : Heap} {n0 : Nat} {a : Addr} {cb : Nat} {key : Nat → Addr} {inS : Nat → Bool} {k : Nat} {L : List (String ⊕ FieldType)} (F : SET Z h n0 a cb key inS k) (K : Kc Z h h' L) (q : NoS Z (.inl "java/util/HashSet") L) (q0 : NoS Z (.inl "java/util/HashMap") L) (q1 : NoS Z (.inl "java/util/HashMap$Node") L) (q2 : NoS Z (.inr (.object "java/util/HashMap$Node")) L) : SET Z h' n0 a cb key inS k := by
  obtain ⟨mp, r, s, t⟩ := F
  exact ⟨mp, r.kc K q, s.kc K q0 q1 q2, t⟩
theorem d14_0 : decode jdk_69_method_15_code 0 = .ok (.aload_n 0, 1) := by decide +kernel
theorem d14_1 : decode jdk_69_method_15_code 1 = .ok (.aload_n 1, 1) := by decide +kernel
theorem d14_2 : decode jdk_69_method_15_code 2 = .ok (.invokestatic 149, 3) := by decide +kernel
theorem d14_5 : decode jdk_69_method_15_code 5 = .ok (.aload_n 1, 1) := by decide +kernel
theorem d14_6 : decode jdk_69_method_15_code 6 = .ok (.aload_n 2, 1) := by decide +kernel
theorem d14_7 : decode jdk_69_method_15_code 7 = .ok (.iconst 0, 1) := by decide +kernel
theorem d14_8 : decode jdk_69_method_15_code 8 = .ok (.iconst 1, 1) := by decide +kernel
theorem d14_9 : decode jdk_69_method_15_code 9 = .ok (.invokevirtual 152, 3) := by decide +kernel
theorem d14_12 : decode jdk_69_method_15_code 12 = .ok (.areturn, 1) := by decide +kernel
theorem pn_14 : plainFor (⟨"java/util/HashMap", "put", "(Ljava/lang/Object;Ljava/lang/Object;)Ljava/lang/Object;"⟩ : MethodName) = true := by first | exact plainFor_of_name (by first | (simp [plainName, overriddenIn]; done) | decide +kernel) | decide +kernel
theorem ef_14 (m : MethodId) (a1 : Addr) (a2 : Addr) (a3 : Addr) : entryFrame m #[(.ref a1), (.ref a2), (.ref a3)] 3 = mkF m 0 #[.val (.ref a1), .val (.ref a2), .val (.ref a3)] [] := by first | (simp [entryFrame, argsToLocals, Value.category, Array.replicate]; done) | rfl
theorem pd_14 : parseMethodDescriptor "(Ljava/lang/Object;Ljava/lang/Object;)Ljava/lang/Object;" = some ⟨[(.object "java/lang/Object"), (.object "java/lang/Object")], some (.object "java/lang/Object")⟩ := by decide +kernel
def Q14 (Z : State) (a1 : Addr) (a2 : Addr) (a3 : Addr) (cb : Nat) (key : Nat → Addr) (inS : Nat → Bool) (k : Nat) (i : Nat) (h0 : Heap) (n0 : Nat) (v : Option Value) (h : Heap) (L : List Loc) : Prop := v = some .null ∧ Fr n0 L ∧ Old Z n0 h ∧ Kc Z h0 h [(.inl "java/util/HashMap"), (.inr (.object "java/util/HashMap$Node")), (.inl "java/lang/String")] ∧ MAP Z h n0 a1 cb key (fun j => if j = i then true else inS j) (k + 1) ∧ STRK Z h a2 (Nat.toInt32 (cb + i)) ∧ ∀ a' ch', a' ≠ a2 → STRK Z h0 a' ch' → STRK Z h a' ch'
theorem rm14 (l : Launch) (Z : State) (a0 : Array Value) (hw : ∀ d ∈ tables_1, d.before a0 Z = true) (ws : List Jvm.Cond) (a1 : Addr) (a2 : Addr) (a3 : Addr) (cb : Nat) (key : Nat → Addr) (inS : Nat → Bool) (k : Nat) (i : Nat) (h0 : Heap) (n0 : Nat) (Z0 : n0 ≤ h0.size) (cs : Int32) (dA pr eL eE : Addr) (TT : STT Z cs dA pr eL eE) (OL : Old Z n0 h0) (M0 : MAP Z h0 n0 a1 cb key inS k) (nb : n0 ≤ a1) (S0 : STRK Z h0 a2 (Nat.toInt32 (cb + i))) (nb2 : n0 ≤ a2) (hc : cb < 256) (hi : i < 5) (hk : k < 5) (hin : inS i = false) (ek : key i = a2) :
    MetFree l (⟨"java/util/HashMap", "put", "(Ljava/lang/Object;Ljava/lang/Object;)Ljava/lang/Object;"⟩ : MethodName) (head1 (Jvm.Cond.code (⟨"java/util/HashMap", "put", "(Ljava/lang/Object;Ljava/lang/Object;)Ljava/lang/Object;"⟩ : MethodName) jdk_69_method_15_code 3 (some (.object "java/lang/Object")) :: ws) ({ frames := 4, cells := 2, slots := 20, locals := 71 } : Room)) (fun a U => a = #[(.ref a1), (.ref a2), (.ref a3)] ∧ Z.Warmed39 U.vm ∧ U.heap = h0) (fun _ _ _ _ _ => True) (fun _ U o U' => ∃ v L, o = .returned v ∧ (Q14 Z a1 a2 a3 cb key inS k i h0 n0) v U'.heap L ∧ FrameEnd U o U' L ({ frames := 4, cells := 2, slots := 20, locals := 71 } : Room).cells ({ frames := 4, cells := 2, slots := 20, locals := 71 } : Room).slots) := by
  refine MetFree.of_bodySF pn_14 hisR ?_
  intro p e s m args below meth c s₁ Bd hml0 hP hK
  obtain ⟨rfl, hZ, hh⟩ := hP
  have hx := Bd.exec
  have hby := Bd.bytes
  have hml : c.maxLocals = 3 := hml0
  have hown : s.vm.findClass "java/util/HashMap" = some m.cls := findClass_of_methodNamed Bd.named
  have hnm := (name_of_methodNamed Bd.named Bd.method).1
  have X0 : Stand p l e ({ frames := 4, cells := 2, slots := 20, locals := 71 } : Room) s m #[(.ref a1), (.ref a2), (.ref a3)] below meth c s₁ [] 0 0 := Stand.of_body Bd
  have e0 : s₁.heap = h0 := by rw [← hh, Bd.state]; rfl
  have N0 := Fr.nil n0
  have lk : meth.locks = false := BodyLoose.notSynchronized Bd
  have hret := Bd.returns
  show Ends p e below (EF s ({ frames := 4, cells := 2, slots := 20, locals := 71 } : Room).cells ({ frames := 4, cells := 2, slots := 20, locals := 71 } : Room).slots) (Q14 Z a1 a2 a3 cb key inS k i h0 n0) (s₁.setTop (entryFrame m #[(.ref a1), (.ref a2), (.ref a3)] 3))
  refine Ends.cast (ef_14 m a1 a2 a3) ?_
  refine own_aloadN (n := 1) X0 hx (hb hby d14_0) rfl rfl rfl ?_
  refine own_aloadN (n := 2) X0 hx (hb hby d14_1) rfl rfl rfl ?_
  refine own_callS (n := 5) X0 hx hZ hown (hw _ (List.mem_of_getElem? (i := 95) rfl)) (hw _ (List.mem_of_getElem? (i := 96) rfl)) (hw _ (List.mem_of_getElem? (i := 43) rfl)) (hw _ (List.mem_of_getElem? (i := 97) rfl)) (by decide) e0 (rm15 l Z a0 hw [] a2 (Nat.toInt32 (cb + i)) h0 n0 Z0 cs dA pr eL eE TT OL S0 nb2 (by rw [len_toInt (by omega)]; omega) (by rw [len_toInt (by omega)]; omega)) (W := 1) (by decide) (by decide) (by decide) (by decide) (by rw [hml]; rfl) (argsL := [(.ref a2)]) (rest := [(.ref a1)]) pd_15 rfl (by rfl) (Nat.le_of_eq rfl) (hb hby d14_2) rfl rfl ?_
  intro v1 T1 h1 L1 X1 e1 q1
  obtain ⟨rfl, M1, K1, S1⟩ := q1
  have N1 := Fr.app N0 M1
  have KS1 : Kc Z h0 h1 [(.inl "java/lang/String")] := Kc.ofKeep K1 (kinS (List.mem_of_getElem? (i := 0) rfl) (fun c e => exaSort S0.exa c e) kin0)
  have OL1 := OL.keep K1 (allS nb2 all0)
  have Z1 := own_oldz OL1
  obtain ⟨tv, thr, mc, lf, F0, D0⟩ := M0.kc KS1 (noS (noCC (by decide)) no0) (noS (noCC (by decide)) no0) (noS (noAC (hw _ (List.mem_of_getElem? (i := 70) rfl))) no0)
  refine own_aloadN (n := 6) X1 hx (hb hby d14_5) rfl rfl rfl ?_
  refine own_aloadN (n := 7) X1 hx (hb hby d14_6) rfl rfl rfl ?_
  refine own_iconst (n := 8) X1 hx (0 : Int32) (hb hby d14_7) rfl rfl ?_
  refine own_iconst (n := 9) X1 hx (1 : Int32) (hb hby d14_8) rfl rfl ?_
  refine own_callV (n := 12) X1 hx hZ hown (hw _ (List.mem_of_getElem? (i := 116) rfl)) (hw _ (List.mem_of_getElem? (i := 117) rfl)) (hw _ (List.mem_of_getElem? (i := 119) rfl)) (hw _ (List.mem_of_getElem? (i := 118) rfl)) (hw _ (List.mem_of_getElem? (i := 43) rfl)) (hw _ (List.mem_of_getElem? (i := 120) rfl)) (by decide) e1 F0.1 (rm19 l Z a0 hw [] a1 (Nat.toInt32 (cb + i)) a2 a3 0 1 cb key inS k i h1 n0 Z1 OL1 tv thr mc lf F0 D0 nb hc hi hk rfl hin ek) (W := 0) (by decide) (by decide) (by decide) (by decide) (by rw [hml]; rfl) (argsL := [(.int (Nat.toInt32 (cb + i))), (.ref a2), (.ref a3), (.int (0 : Int32)), (.int (1 : Int32))]) (rest := []) pd_19 rfl (by rfl) (Nat.le_of_eq rfl) (hb hby d14_9) rfl rfl ?_
  intro v2 T2 h2 L2 X2 e2 q2
  obtain ⟨rfl, M2, OL2, KC2, MM2⟩ := q2
  have N2 := Fr.app N1 M2
  refine own_retA X2 hx lk hret rfl rfl (hb hby d14_12) (by decide) (by decide) ?_
  rw [e2]
  exact ⟨rfl, N2, OL2, (Kc.ofKeep (L := [(.inl "java/util/HashMap"), (.inr (.object "java/util/HashMap$Node")), (.inl "java/lang/String")]) K1 (kinS (List.mem_of_getElem? (i := 2) rfl) (fun c e => exaSort S0.exa c e) kin0)).trans KC2 (fun t ht => by simp only [List.mem_cons, List.not_mem_nil, or_false] at ht ⊢; exact ht.elim Or.inl (fun z => Or.inr (Or.inl z))), MM2, S1.kc KC2 (noS (noCC (by decide)) (noS (noCA (hw _ (List.mem_of_getElem? (i := 70) rfl))) no0)) (noS (noAC (hw _ (List.mem_of_getElem? (i := 42) rfl))) (noS (noAA (by decide)) no0)), fun a' ch' ne F => (STRK.keep1 (hw _ (List.mem_of_getElem? (i := 70) rfl)) F K1 ne S0.exa).kc KC2 (noS (noCC (by decide)) (noS (noCA (hw _ (List.mem_of_getElem? (i := 70) rfl))) no0)) (noS (noAC (hw _ (List.mem_of_getElem? (i := 42) rfl))) (noS (noAA (by decide)) no0))⟩
theorem d13_0 : decode jdk_93_method_10_code 0 = .ok (.aload_n 0, 1) := by decide +kernel
theorem d13_1 : decode jdk_93_method_10_code 1 = .ok (.getfield 10, 3) := by decide +kernel
theorem d13_4 : decode jdk_93_method_10_code 4 = .ok (.aload_n 1, 1) := by decide +kernel
theorem d13_5 : decode jdk_93_method_10_code 5 = .ok (.getstatic 64, 3) := by decide +kernel
theorem d13_8 : decode jdk_93_method_10_code 8 = .ok (.invokevirtual 68, 3) := by decide +kernel
theorem d13_11 : decode jdk_93_method_10_code 11 = .ok (.ifnonnull 7, 3) := by decide +kernel
theorem d13_14 : decode jdk_93_method_10_code 14 = .ok (.iconst 1, 1) := by decide +kernel
theorem d13_15 : decode jdk_93_method_10_code 15 = .ok (.goto 4, 3) := by decide +kernel
theorem d13_18 : decode jdk_93_method_10_code 18 = .ok (.iconst 0, 1) := by decide +kernel
theorem d13_19 : decode jdk_93_method_10_code 19 = .ok (.ireturn, 1) := by decide +kernel
theorem pn_13 : plainFor (⟨"java/util/HashSet", "add", "(Ljava/lang/Object;)Z"⟩ : MethodName) = true := by first | exact plainFor_of_name (by first | (simp [plainName, overriddenIn]; done) | decide +kernel) | decide +kernel
theorem ef_13 (m : MethodId) (a1 : Addr) (a2 : Addr) : entryFrame m #[(.ref a1), (.ref a2)] 2 = mkF m 0 #[.val (.ref a1), .val (.ref a2)] [] := by first | (simp [entryFrame, argsToLocals, Value.category, Array.replicate]; done) | rfl
theorem pd_13 : parseMethodDescriptor "(Ljava/lang/Object;)Z" = some ⟨[(.object "java/lang/Object")], some .boolean⟩ := by decide +kernel
def Q13 (Z : State) (a1 : Addr) (a2 : Addr) (cb : Nat) (key : Nat → Addr) (inS : Nat → Bool) (k : Nat) (i : Nat) (h0 : Heap) (n0 : Nat) (v : Option Value) (h : Heap) (L : List Loc) : Prop := v = some (.int 1) ∧ Fr n0 L ∧ Old Z n0 h ∧ Kc Z h0 h [(.inl "java/util/HashMap"), (.inr (.object "java/util/HashMap$Node")), (.inl "java/lang/String")] ∧ SET Z h n0 a1 cb key (fun j => if j = i then true else inS j) (k + 1) ∧ STRK Z h a2 (Nat.toInt32 (cb + i)) ∧ ∀ a' ch', a' ≠ a2 → STRK Z h0 a' ch' → STRK Z h a' ch'
theorem rm13 (l : Launch) (Z : State) (a0 : Array Value) (hw : ∀ d ∈ tables_1, d.before a0 Z = true) (ws : List Jvm.Cond) (a1 : Addr) (a2 : Addr) (cb : Nat) (key : Nat → Addr) (inS : Nat → Bool) (k : Nat) (i : Nat) (h0 : Heap) (n0 : Nat) (Z0 : n0 ≤ h0.size) (cs : Int32) (dA pr eL eE : Addr) (TT : STT Z cs dA pr eL eE) (OL : Old Z n0 h0) (T0 : SET Z h0 n0 a1 cb key inS k) (S0 : STRK Z h0 a2 (Nat.toInt32 (cb + i))) (nb2 : n0 ≤ a2) (hc : cb < 256) (hi : i < 5) (hk : k < 5) (hin : inS i = false) (ek : key i = a2) :
    MetFree l (⟨"java/util/HashSet", "add", "(Ljava/lang/Object;)Z"⟩ : MethodName) (head1 (Jvm.Cond.code (⟨"java/util/HashSet", "add", "(Ljava/lang/Object;)Z"⟩ : MethodName) jdk_93_method_10_code 2 (some .boolean) :: ws) ({ frames := 5, cells := 2, slots := 20, locals := 85 } : Room)) (fun a U => a = #[(.ref a1), (.ref a2)] ∧ Z.Warmed39 U.vm ∧ U.heap = h0) (fun _ _ _ _ _ => True) (fun _ U o U' => ∃ v L, o = .returned v ∧ (Q13 Z a1 a2 cb key inS k i h0 n0) v U'.heap L ∧ FrameEnd U o U' L ({ frames := 5, cells := 2, slots := 20, locals := 85 } : Room).cells ({ frames := 5, cells := 2, slots := 20, locals := 85 } : Room).slots) := by
  refine MetFree.of_bodySF pn_13 hisR ?_
  intro p e s m args below meth c s₁ Bd hml0 hP hK
  obtain ⟨rfl, hZ, hh⟩ := hP
  have hx := Bd.exec
  have hby := Bd.bytes
  have hml : c.maxLocals = 2 := hml0
  have hown : s.vm.findClass "java/util/HashSet" = some m.cls := findClass_of_methodNamed Bd.named
  have hnm := (name_of_methodNamed Bd.named Bd.method).1
  have X0 : Stand p l e ({ frames := 5, cells := 2, slots := 20, locals := 85 } : Room) s m #[(.ref a1), (.ref a2)] below meth c s₁ [] 0 0 := Stand.of_body Bd
  have e0 : s₁.heap = h0 := by rw [← hh, Bd.state]; rfl
  have N0 := Fr.nil n0
  have lk : meth.locks = false := BodyLoose.notSynchronized Bd
  have hret := Bd.returns
  show Ends p e below (EF s ({ frames := 5, cells := 2, slots := 20, locals := 85 } : Room).cells ({ frames := 5, cells := 2, slots := 20, locals := 85 } : Room).slots) (Q13 Z a1 a2 cb key inS k i h0 n0) (s₁.setTop (entryFrame m #[(.ref a1), (.ref a2)] 2))
  refine Ends.cast (ef_13 m a1 a2) ?_
  obtain ⟨mp, F0, M0, nmp⟩ := T0
  refine own_aloadN (n := 1) X0 hx (hb hby d13_0) rfl rfl rfl ?_
  refine own_getF (n := 4) X0 hx hZ hown (hw _ (List.mem_of_getElem? (i := 58) rfl)) e0 F0.2 (hb hby d13_1) rfl ?_
  intro T1 X1 e1
  refine own_aloadN (n := 5) X1 hx (hb hby d13_4) rfl rfl rfl ?_
  refine own_getS (n := 8) X1 hx hZ hown (hw _ (List.mem_of_getElem? (i := 89) rfl)) e1 (TT.2.2.2.2.2.2.2.1.ext OL.2) (hb hby d13_5) rfl ?_
  intro T2 X2 e2
  refine own_callV (n := 11) X2 hx hZ hown (hw _ (List.mem_of_getElem? (i := 90) rfl)) (hw _ (List.mem_of_getElem? (i := 91) rfl)) (hw _ (List.mem_of_getElem? (i := 93) rfl)) (hw _ (List.mem_of_getElem? (i := 92) rfl)) (hw _ (List.mem_of_getElem? (i := 43) rfl)) (hw _ (List.mem_of_getElem? (i := 94) rfl)) (by decide) e2 M0.exa (rm14 l Z a0 hw [] mp a2 pr cb key inS k i h0 n0 Z0 cs dA pr eL eE TT OL M0 nmp S0 nb2 hc hi hk hin ek) (W := 0) (by decide) (by decide) (by decide) (by decide) (by rw [hml]; rfl) (argsL := [(.ref a2), (.ref pr)]) (rest := []) pd_14 rfl (by rfl) (Nat.le_of_eq rfl) (hb hby d13_8) rfl rfl ?_
  intro v3 T3 h3 L3 X3 e3 q3
  obtain ⟨rfl, M3, OL3, KC3, MM3, SS3, OT3⟩ := q3
  have N3 := Fr.app N0 M3
  have FH3 := F0.kc KC3 (noS (noCC (by decide)) (noS (noCA (hw _ (List.mem_of_getElem? (i := 28) rfl))) (noS (noCC (by decide)) no0)))
  refine own_ifnonnullNo (n := 14) X3 hx (hb hby d13_11) rfl rfl ?_
  refine own_iconst (n := 15) X3 hx (1 : Int32) (hb hby d13_14) rfl rfl ?_
  refine own_goto (n := 19) X3 hx (hb hby d13_15) (by decide) (by decide) ?_
  refine own_retN X3 hx lk hret (by simp) (hb hby d13_19) (by decide) (by decide) ?_
  rw [e3]
  exact ⟨rfl, N3, OL3, KC3, ⟨mp, FH3, MM3, nmp⟩, SS3, OT3⟩
theorem d54_0 : decode jdk_69_method_13_code 0 = .ok (.aload_n 0, 1) := by decide +kernel
theorem d54_1 : decode jdk_69_method_13_code 1 = .ok (.getfield 105, 3) := by decide +kernel
theorem d54_4 : decode jdk_69_method_13_code 4 = .ok (.dup, 1) := by decide +kernel
theorem d54_5 : decode jdk_69_method_13_code 5 = .ok (.astore_n 2, 1) := by decide +kernel
theorem d54_6 : decode jdk_69_method_13_code 6 = .ok (.ifnull 142, 3) := by decide +kernel
theorem d54_9 : decode jdk_69_method_13_code 9 = .ok (.aload_n 2, 1) := by decide +kernel
theorem d54_10 : decode jdk_69_method_13_code 10 = .ok (.arraylength, 1) := by decide +kernel
theorem d54_11 : decode jdk_69_method_13_code 11 = .ok (.dup, 1) := by decide +kernel
theorem d54_12 : decode jdk_69_method_13_code 12 = .ok (.istore 5, 2) := by decide +kernel
theorem d54_14 : decode jdk_69_method_13_code 14 = .ok (.ifCond .le 134, 3) := by decide +kernel
theorem d54_17 : decode jdk_69_method_13_code 17 = .ok (.aload_n 2, 1) := by decide +kernel
theorem d54_18 : decode jdk_69_method_13_code 18 = .ok (.iload 5, 2) := by decide +kernel
theorem d54_20 : decode jdk_69_method_13_code 20 = .ok (.iconst 1, 1) := by decide +kernel
theorem d54_21 : decode jdk_69_method_13_code 21 = .ok (.isub, 1) := by decide +kernel
theorem d54_22 : decode jdk_69_method_13_code 22 = .ok (.aload_n 1, 1) := by decide +kernel
theorem d54_23 : decode jdk_69_method_13_code 23 = .ok (.invokestatic 149, 3) := by decide +kernel
theorem d54_26 : decode jdk_69_method_13_code 26 = .ok (.dup, 1) := by decide +kernel
theorem d54_27 : decode jdk_69_method_13_code 27 = .ok (.istore 6, 2) := by decide +kernel
theorem d54_29 : decode jdk_69_method_13_code 29 = .ok (.iand, 1) := by decide +kernel
theorem d54_30 : decode jdk_69_method_13_code 30 = .ok (.aaload, 1) := by decide +kernel
theorem d54_31 : decode jdk_69_method_13_code 31 = .ok (.dup, 1) := by decide +kernel
theorem d54_32 : decode jdk_69_method_13_code 32 = .ok (.astore_n 3, 1) := by decide +kernel
theorem d54_33 : decode jdk_69_method_13_code 33 = .ok (.ifnull 115, 3) := by decide +kernel
theorem d54_36 : decode jdk_69_method_13_code 36 = .ok (.aload_n 3, 1) := by decide +kernel
theorem d54_37 : decode jdk_69_method_13_code 37 = .ok (.getfield 168, 3) := by decide +kernel
theorem d54_40 : decode jdk_69_method_13_code 40 = .ok (.iload 6, 2) := by decide +kernel
theorem d54_42 : decode jdk_69_method_13_code 42 = .ok (.if_icmp .ne 29, 3) := by decide +kernel
theorem d54_45 : decode jdk_69_method_13_code 45 = .ok (.aload_n 3, 1) := by decide +kernel
theorem d54_46 : decode jdk_69_method_13_code 46 = .ok (.getfield 170, 3) := by decide +kernel
theorem d54_49 : decode jdk_69_method_13_code 49 = .ok (.dup, 1) := by decide +kernel
theorem d54_50 : decode jdk_69_method_13_code 50 = .ok (.astore 7, 2) := by decide +kernel
theorem d54_52 : decode jdk_69_method_13_code 52 = .ok (.aload_n 1, 1) := by decide +kernel
theorem d54_53 : decode jdk_69_method_13_code 53 = .ok (.if_acmp .eq 16, 3) := by decide +kernel
theorem d54_56 : decode jdk_69_method_13_code 56 = .ok (.aload_n 1, 1) := by decide +kernel
theorem d54_57 : decode jdk_69_method_13_code 57 = .ok (.ifnull 14, 3) := by decide +kernel
theorem d54_60 : decode jdk_69_method_13_code 60 = .ok (.aload_n 1, 1) := by decide +kernel
theorem d54_61 : decode jdk_69_method_13_code 61 = .ok (.aload 7, 2) := by decide +kernel
theorem d54_63 : decode jdk_69_method_13_code 63 = .ok (.invokevirtual 173, 3) := by decide +kernel
theorem d54_66 : decode jdk_69_method_13_code 66 = .ok (.ifCond .eq 5, 3) := by decide +kernel
theorem d54_69 : decode jdk_69_method_13_code 69 = .ok (.aload_n 3, 1) := by decide +kernel
theorem d54_70 : decode jdk_69_method_13_code 70 = .ok (.areturn, 1) := by decide +kernel
theorem d54_71 : decode jdk_69_method_13_code 71 = .ok (.aload_n 3, 1) := by decide +kernel
theorem d54_72 : decode jdk_69_method_13_code 72 = .ok (.getfield 177, 3) := by decide +kernel
theorem d54_75 : decode jdk_69_method_13_code 75 = .ok (.dup, 1) := by decide +kernel
theorem d54_76 : decode jdk_69_method_13_code 76 = .ok (.astore 4, 2) := by decide +kernel
theorem d54_78 : decode jdk_69_method_13_code 78 = .ok (.ifnull 70, 3) := by decide +kernel
theorem d54_81 : decode jdk_69_method_13_code 81 = .ok (.aload_n 3, 1) := by decide +kernel
theorem d54_82 : decode jdk_69_method_13_code 82 = .ok (.instanceof 180, 3) := by decide +kernel
theorem d54_85 : decode jdk_69_method_13_code 85 = .ok (.ifCond .eq 14, 3) := by decide +kernel
theorem d54_88 : decode jdk_69_method_13_code 88 = .ok (.aload_n 3, 1) := by decide +kernel
theorem d54_89 : decode jdk_69_method_13_code 89 = .ok (.checkcast 180, 3) := by decide +kernel
theorem d54_92 : decode jdk_69_method_13_code 92 = .ok (.iload 6, 2) := by decide +kernel
theorem d54_94 : decode jdk_69_method_13_code 94 = .ok (.aload_n 1, 1) := by decide +kernel
theorem d54_95 : decode jdk_69_method_13_code 95 = .ok (.invokevirtual 182, 3) := by decide +kernel
theorem d54_98 : decode jdk_69_method_13_code 98 = .ok (.areturn, 1) := by decide +kernel
theorem d54_99 : decode jdk_69_method_13_code 99 = .ok (.aload 4, 2) := by decide +kernel
theorem d54_101 : decode jdk_69_method_13_code 101 = .ok (.getfield 168, 3) := by decide +kernel
theorem d54_104 : decode jdk_69_method_13_code 104 = .ok (.iload 6, 2) := by decide +kernel
theorem d54_106 : decode jdk_69_method_13_code 106 = .ok (.if_icmp .ne 31, 3) := by decide +kernel
theorem d54_109 : decode jdk_69_method_13_code 109 = .ok (.aload 4, 2) := by decide +kernel
theorem d54_111 : decode jdk_69_method_13_code 111 = .ok (.getfield 170, 3) := by decide +kernel
theorem d54_114 : decode jdk_69_method_13_code 114 = .ok (.dup, 1) := by decide +kernel
theorem d54_115 : decode jdk_69_method_13_code 115 = .ok (.astore 7, 2) := by decide +kernel
theorem d54_117 : decode jdk_69_method_13_code 117 = .ok (.aload_n 1, 1) := by decide +kernel
theorem d54_118 : decode jdk_69_method_13_code 118 = .ok (.if_acmp .eq 16, 3) := by decide +kernel
theorem d54_121 : decode jdk_69_method_13_code 121 = .ok (.aload_n 1, 1) := by decide +kernel
theorem d54_122 : decode jdk_69_method_13_code 122 = .ok (.ifnull 15, 3) := by decide +kernel
theorem d54_125 : decode jdk_69_method_13_code 125 = .ok (.aload_n 1, 1) := by decide +kernel
theorem d54_126 : decode jdk_69_method_13_code 126 = .ok (.aload 7, 2) := by decide +kernel
theorem d54_128 : decode jdk_69_method_13_code 128 = .ok (.invokevirtual 173, 3) := by decide +kernel
theorem d54_131 : decode jdk_69_method_13_code 131 = .ok (.ifCond .eq 6, 3) := by decide +kernel
theorem d54_134 : decode jdk_69_method_13_code 134 = .ok (.aload 4, 2) := by decide +kernel
theorem d54_136 : decode jdk_69_method_13_code 136 = .ok (.areturn, 1) := by decide +kernel
theorem d54_137 : decode jdk_69_method_13_code 137 = .ok (.aload 4, 2) := by decide +kernel
theorem d54_139 : decode jdk_69_method_13_code 139 = .ok (.getfield 177, 3) := by decide +kernel
theorem d54_142 : decode jdk_69_method_13_code 142 = .ok (.dup, 1) := by decide +kernel
theorem d54_143 : decode jdk_69_method_13_code 143 = .ok (.astore 4, 2) := by decide +kernel
theorem d54_145 : decode jdk_69_method_13_code 145 = .ok (.ifnonnull (-46), 3) := by decide +kernel
theorem d54_148 : decode jdk_69_method_13_code 148 = .ok (.aconst_null, 1) := by decide +kernel
theorem d54_149 : decode jdk_69_method_13_code 149 = .ok (.areturn, 1) := by decide +kernel
theorem pn_54 : plainFor (⟨"java/util/HashMap", "getNode", "(Ljava/lang/Object;)Ljava/util/HashMap$Node;"⟩ : MethodName) = true := by first | exact plainFor_of_name (by first | (simp [plainName, overriddenIn]; done) | decide +kernel) | decide +kernel
theorem ef_54 (m : MethodId) (a1 : Addr) (a2 : Addr) : entryFrame m #[(.ref a1), (.ref a2)] 8 = mkF m 0 #[.val (.ref a1), .val (.ref a2), .unset, .unset, .unset, .unset, .unset, .unset] [] := by first | (simp [entryFrame, argsToLocals, Value.category, Array.replicate]; done) | rfl
theorem pd_54 : parseMethodDescriptor "(Ljava/lang/Object;)Ljava/util/HashMap$Node;" = some ⟨[(.object "java/lang/Object")], some (.object "java/util/HashMap$Node")⟩ := by decide +kernel
def Q54 (Z : State) (a1 : Addr) (a2 : Addr) (cb : Nat) (key : Nat → Addr) (inS : Nat → Bool) (k : Nat) (i : Nat) (h0 : Heap) (n0 : Nat) (v : Option Value) (h : Heap) (L : List Loc) : Prop := ∃ r, v = some r ∧ ((inS i = true ∧ ∃ nd, r = .ref nd) ∨ (inS i = false ∧ r = .null)) ∧ Fr n0 L ∧ Keep h0 h [a2] ∧ STRK Z h a2 (Nat.toInt32 (cb + i))
theorem rm54 (l : Launch) (Z : State) (a0 : Array Value) (hw : ∀ d ∈ tables_1, d.before a0 Z = true) (ws : List Jvm.Cond) (a1 : Addr) (a2 : Addr) (cb : Nat) (key : Nat → Addr) (inS : Nat → Bool) (k : Nat) (i : Nat) (h0 : Heap) (n0 : Nat) (Z0 : n0 ≤ h0.size) (cs : Int32) (dA pr eL eE : Addr) (TT : STT Z cs dA pr eL eE) (OL : Old Z n0 h0) (M0 : MAP Z h0 n0 a1 cb key inS k) (S0 : STRK Z h0 a2 (Nat.toInt32 (cb + i))) (nb2 : n0 ≤ a2) (hc : cb < 256) (hi : i < 5) (hk : k < 6) (ek : inS i = true → key i = a2) :
    MetFree l (⟨"java/util/HashMap", "getNode", "(Ljava/lang/Object;)Ljava/util/HashMap$Node;"⟩ : MethodName) (head1 (Jvm.Cond.code (⟨"java/util/HashMap", "getNode", "(Ljava/lang/Object;)Ljava/util/HashMap$Node;"⟩ : MethodName) jdk_69_method_13_code 8 (some (.object "java/util/HashMap$Node")) :: ws) ({ frames := 4, cells := 0, slots := 0, locals := 53 } : Room)) (fun a U => a = #[(.ref a1), (.ref a2)] ∧ Z.Warmed39 U.vm ∧ U.heap = h0) (fun _ _ _ _ _ => True) (fun _ U o U' => ∃ v L, o = .returned v ∧ (Q54 Z a1 a2 cb key inS k i h0 n0) v U'.heap L ∧ FrameEnd U o U' L ({ frames := 4, cells := 0, slots := 0, locals := 53 } : Room).cells ({ frames := 4, cells := 0, slots := 0, locals := 53 } : Room).slots) := by
  refine MetFree.of_bodySF pn_54 hisR ?_
  intro p e s m args below meth c s₁ Bd hml0 hP hK
  obtain ⟨rfl, hZ, hh⟩ := hP
  have hx := Bd.exec
  have hby := Bd.bytes
  have hml : c.maxLocals = 8 := hml0
  have hown : s.vm.findClass "java/util/HashMap" = some m.cls := findClass_of_methodNamed Bd.named
  have hnm := (name_of_methodNamed Bd.named Bd.method).1
  have X0 : Stand p l e ({ frames := 4, cells := 0, slots := 0, locals := 53 } : Room) s m #[(.ref a1), (.ref a2)] below meth c s₁ [] 0 0 := Stand.of_body Bd
  have e0 : s₁.heap = h0 := by rw [← hh, Bd.state]; rfl
  have N0 := Fr.nil n0
  have lk : meth.locks = false := BodyLoose.notSynchronized Bd
  have hret := Bd.returns
  show Ends p e below (EF s ({ frames := 4, cells := 0, slots := 0, locals := 53 } : Room).cells ({ frames := 4, cells := 0, slots := 0, locals := 53 } : Room).slots) (Q54 Z a1 a2 cb key inS k i h0 n0) (s₁.setTop (entryFrame m #[(.ref a1), (.ref a2)] 8))
  refine Ends.cast (ef_54 m a1 a2) ?_
  obtain ⟨tv, thr, mc, lf, F0, D0⟩ := M0
  rcases D0 with ⟨rfl, rfl, hno⟩ | ⟨tb, t, rfl, rfl, ntb, RT, NO⟩
  · skip
    refine own_aloadN (n := 1) X0 hx (hb hby d54_0) rfl rfl rfl ?_
    refine own_getF (n := 4) X0 hx hZ hown (hw _ (List.mem_of_getElem? (i := 121) rfl)) e0 F0.2.1 (hb hby d54_1) rfl ?_
    intro T1 X1 e1
    refine own_dup (n := 5) X1 hx (hb hby d54_4) rfl rfl ?_
    refine own_astoreN (n := 6) X1 hx (hb hby d54_5) rfl (l' := #[.val (.ref a1), .val (.ref a2), .val .null, .unset, .unset, .unset, .unset, .unset]) rfl rfl ?_
    refine own_ifnullYes (n := 148) X1 hx (hb hby d54_6) rfl (by decide) (by decide) ?_
    refine own_aconst_null (n := 149) X1 hx (hb hby d54_148) rfl ?_
    refine own_retA X1 hx lk hret rfl rfl (hb hby d54_149) (by decide) (by decide) ?_
    rw [e1]
    exact ⟨_, rfl, Or.inr ⟨hno i hi, rfl⟩, N0, Keep.refl h0 [a2], S0⟩
  · cases hbb : inS i
    · skip
      refine own_aloadN (n := 1) X0 hx (hb hby d54_0) rfl rfl rfl ?_
      refine own_getF (n := 4) X0 hx hZ hown (hw _ (List.mem_of_getElem? (i := 121) rfl)) e0 F0.2.1 (hb hby d54_1) rfl ?_
      intro T2 X2 e2
      refine own_dup (n := 5) X2 hx (hb hby d54_4) rfl rfl ?_
      refine own_astoreN (n := 6) X2 hx (hb hby d54_5) rfl (l' := #[.val (.ref a1), .val (.ref a2), .val (.ref tb), .unset, .unset, .unset, .unset, .unset]) rfl rfl ?_
      refine own_ifnullNo (n := 9) X2 hx (hb hby d54_6) rfl (fun z => by cases z) rfl ?_
      refine own_aloadN (n := 10) X2 hx (hb hby d54_9) rfl rfl rfl ?_
      refine own_arraylength (n := 11) X2 hx hZ e2 RT.va (v := (16 : Int32)) rfl (hb hby d54_10) rfl ?_
      refine own_dup (n := 12) X2 hx (hb hby d54_11) rfl rfl ?_
      refine own_istore (n := 14) X2 hx (hb hby d54_12) (l' := #[.val (.ref a1), .val (.ref a2), .val (.ref tb), .unset, .unset, .val (.int (16 : Int32)), .unset, .unset]) rfl rfl ?_
      refine own_ifNo (n := 17) X2 hx (hb hby d54_14) (Jvm.Free.XT.i0_le_f (by decide)) rfl ?_
      refine own_aloadN (n := 18) X2 hx (hb hby d54_17) rfl rfl rfl ?_
      refine own_iload (n := 20) X2 hx (hb hby d54_18) rfl rfl ?_
      refine own_iconst (n := 21) X2 hx (1 : Int32) (hb hby d54_20) rfl rfl ?_
      refine own_isub (n := 22) X2 hx (hb hby d54_21) rfl ?_
      refine own_aloadN (n := 23) X2 hx (hb hby d54_22) rfl rfl rfl ?_
      refine own_callS (n := 26) X2 hx hZ hown (hw _ (List.mem_of_getElem? (i := 95) rfl)) (hw _ (List.mem_of_getElem? (i := 96) rfl)) (hw _ (List.mem_of_getElem? (i := 43) rfl)) (hw _ (List.mem_of_getElem? (i := 97) rfl)) (by decide) e2 (rm15 l Z a0 hw [] a2 (Nat.toInt32 (cb + i)) h0 n0 Z0 cs dA pr eL eE TT OL S0 nb2 (by rw [len_toInt (by omega)]; omega) (by rw [len_toInt (by omega)]; omega)) (W := 2) (by decide) (by decide) (by decide) (by decide) (by rw [hml]; rfl) (argsL := [(.ref a2)]) (rest := [(.int ((16 : Int32) - (1 : Int32))), (.ref tb)]) pd_15 rfl (by rfl) (Nat.le_of_eq rfl) (hb hby d54_23) rfl rfl ?_
      intro v3 T3 h3 L3 X3 e3 q3
      obtain ⟨rfl, M3, K3, S3⟩ := q3
      have N3 := Fr.app N0 M3
      have KS3 : Kc Z h0 h3 [(.inl "java/lang/String")] := Kc.ofKeep K3 (kinS (List.mem_of_getElem? (i := 0) rfl) (fun c e => exaSort S0.exa c e) kin0)
      have OL3 := OL.keep K3 (allS nb2 all0)
      have Z3 := own_oldz OL3
      have RT' := RT.kc KS3 (noS (noAC (hw _ (List.mem_of_getElem? (i := 70) rfl))) no0)
      have NO' := NO.kc KS3 (noS (noCC (by decide)) no0)
      refine own_dup (n := 27) X3 hx (hb hby d54_26) rfl rfl ?_
      refine own_istore (n := 29) X3 hx (hb hby d54_27) (l' := #[.val (.ref a1), .val (.ref a2), .val (.ref tb), .unset, .unset, .val (.int (16 : Int32)), .val (.int (Nat.toInt32 (cb + i))), .unset]) rfl rfl ?_
      refine own_iand (n := 30) X3 hx (hb hby d54_29) rfl ?_
      refine own_aaload (n := 31) X3 hx hZ e3 RT' (i := ((cb + i) % 16)) (own_bk' (ix := 0) rfl hc hi) (Nat.mod_lt _ (by decide)) (v := .null) ((NO' i hi).2 hbb) (hb hby d54_30) rfl ?_
      refine own_dup (n := 32) X3 hx (hb hby d54_31) rfl rfl ?_
      refine own_astoreN (n := 33) X3 hx (hb hby d54_32) rfl (l' := #[.val (.ref a1), .val (.ref a2), .val (.ref tb), .val .null, .unset, .val (.int (16 : Int32)), .val (.int (Nat.toInt32 (cb + i))), .unset]) rfl rfl ?_
      refine own_ifnullYes (n := 148) X3 hx (hb hby d54_33) rfl (by decide) (by decide) ?_
      refine own_aconst_null (n := 149) X3 hx (hb hby d54_148) rfl ?_
      refine own_retA X3 hx lk hret rfl rfl (hb hby d54_149) (by decide) (by decide) ?_
      rw [e3]
      exact ⟨_, rfl, Or.inr ⟨hbb, rfl⟩, N3, K3, S3⟩
    · skip
      refine own_aloadN (n := 1) X0 hx (hb hby d54_0) rfl rfl rfl ?_
      refine own_getF (n := 4) X0 hx hZ hown (hw _ (List.mem_of_getElem? (i := 121) rfl)) e0 F0.2.1 (hb hby d54_1) rfl ?_
      intro T4 X4 e4
      refine own_dup (n := 5) X4 hx (hb hby d54_4) rfl rfl ?_
      refine own_astoreN (n := 6) X4 hx (hb hby d54_5) rfl (l' := #[.val (.ref a1), .val (.ref a2), .val (.ref tb), .unset, .unset, .unset, .unset, .unset]) rfl rfl ?_
      refine own_ifnullNo (n := 9) X4 hx (hb hby d54_6) rfl (fun z => by cases z) rfl ?_
      refine own_aloadN (n := 10) X4 hx (hb hby d54_9) rfl rfl rfl ?_
      refine own_arraylength (n := 11) X4 hx hZ e4 RT.va (v := (16 : Int32)) rfl (hb hby d54_10) rfl ?_
      refine own_dup (n := 12) X4 hx (hb hby d54_11) rfl rfl ?_
      refine own_istore (n := 14) X4 hx (hb hby d54_12) (l' := #[.val (.ref a1), .val (.ref a2), .val (.ref tb), .unset, .unset, .val (.int (16 : Int32)), .unset, .unset]) rfl rfl ?_
      refine own_ifNo (n := 17) X4 hx (hb hby d54_14) (Jvm.Free.XT.i0_le_f (by decide)) rfl ?_
      refine own_aloadN (n := 18) X4 hx (hb hby d54_17) rfl rfl rfl ?_
      refine own_iload (n := 20) X4 hx (hb hby d54_18) rfl rfl ?_
      refine own_iconst (n := 21) X4 hx (1 : Int32) (hb hby d54_20) rfl rfl ?_
      refine own_isub (n := 22) X4 hx (hb hby d54_21) rfl ?_
      refine own_aloadN (n := 23) X4 hx (hb hby d54_22) rfl rfl rfl ?_
      refine own_callS (n := 26) X4 hx hZ hown (hw _ (List.mem_of_getElem? (i := 95) rfl)) (hw _ (List.mem_of_getElem? (i := 96) rfl)) (hw _ (List.mem_of_getElem? (i := 43) rfl)) (hw _ (List.mem_of_getElem? (i := 97) rfl)) (by decide) e4 (rm15 l Z a0 hw [] a2 (Nat.toInt32 (cb + i)) h0 n0 Z0 cs dA pr eL eE TT OL S0 nb2 (by rw [len_toInt (by omega)]; omega) (by rw [len_toInt (by omega)]; omega)) (W := 2) (by decide) (by decide) (by decide) (by decide) (by rw [hml]; rfl) (argsL := [(.ref a2)]) (rest := [(.int ((16 : Int32) - (1 : Int32))), (.ref tb)]) pd_15 rfl (by rfl) (Nat.le_of_eq rfl) (hb hby d54_23) rfl rfl ?_
      intro v5 T5 h5 L5 X5 e5 q5
      obtain ⟨rfl, M5, K5, S5⟩ := q5
      have N5 := Fr.app N0 M5
      have KS5 : Kc Z h0 h5 [(.inl "java/lang/String")] := Kc.ofKeep K5 (kinS (List.mem_of_getElem? (i := 0) rfl) (fun c e => exaSort S0.exa c e) kin0)
      have OL5 := OL.keep K5 (allS nb2 all0)
      have Z5 := own_oldz OL5
      have RT' := RT.kc KS5 (noS (noAC (hw _ (List.mem_of_getElem? (i := 70) rfl))) no0)
      have NO' := NO.kc KS5 (noS (noCC (by decide)) no0)
      obtain ⟨nd, vv, tn, FN⟩ := (NO' i hi).1 hbb
      refine own_dup (n := 27) X5 hx (hb hby d54_26) rfl rfl ?_
      refine own_istore (n := 29) X5 hx (hb hby d54_27) (l' := #[.val (.ref a1), .val (.ref a2), .val (.ref tb), .unset, .unset, .val (.int (16 : Int32)), .val (.int (Nat.toInt32 (cb + i))), .unset]) rfl rfl ?_
      refine own_iand (n := 30) X5 hx (hb hby d54_29) rfl ?_
      refine own_aaload (n := 31) X5 hx hZ e5 RT' (i := ((cb + i) % 16)) (own_bk' (ix := 0) rfl hc hi) (Nat.mod_lt _ (by decide)) (v := (.ref nd)) tn (hb hby d54_30) rfl ?_
      refine own_dup (n := 32) X5 hx (hb hby d54_31) rfl rfl ?_
      refine own_astoreN (n := 33) X5 hx (hb hby d54_32) rfl (l' := #[.val (.ref a1), .val (.ref a2), .val (.ref tb), .val (.ref nd), .unset, .val (.int (16 : Int32)), .val (.int (Nat.toInt32 (cb + i))), .unset]) rfl rfl ?_
      refine own_ifnullNo (n := 36) X5 hx (hb hby d54_33) rfl (fun z => by cases z) rfl ?_
      refine own_aloadN (n := 37) X5 hx (hb hby d54_36) rfl rfl rfl ?_
      refine own_getF (n := 40) X5 hx hZ hown (hw _ (List.mem_of_getElem? (i := 363) rfl)) e5 FN.2.1 (hb hby d54_37) rfl ?_
      intro T6 X6 e6
      refine own_iload (n := 42) X6 hx (hb hby d54_40) rfl rfl ?_
      refine own_icmpNo (n := 45) X6 hx (hb hby d54_42) (Jvm.Free.XT.ii_ne_f rfl) rfl ?_
      refine own_aloadN (n := 46) X6 hx (hb hby d54_45) rfl rfl rfl ?_
      refine own_getF (n := 49) X6 hx hZ hown (hw _ (List.mem_of_getElem? (i := 364) rfl)) e6 FN.2.2.1 (hb hby d54_46) rfl ?_
      intro T7 X7 e7
      refine own_dup (n := 50) X7 hx (hb hby d54_49) rfl rfl ?_
      refine own_astore (n := 52) X7 hx (hb hby d54_50) rfl (l' := #[.val (.ref a1), .val (.ref a2), .val (.ref tb), .val (.ref nd), .unset, .val (.int (16 : Int32)), .val (.int (Nat.toInt32 (cb + i))), .val (.ref (key i))]) rfl rfl ?_
      refine own_aloadN (n := 53) X7 hx (hb hby d54_52) rfl rfl rfl ?_
      refine own_acmpYes (n := 69) X7 hx (hb hby d54_53) rfl rfl (Jvm.Free.XT.aa_eq_t (by rw [ek hbb])) (by decide) (by decide) ?_
      refine own_aloadN (n := 70) X7 hx (hb hby d54_69) rfl rfl rfl ?_
      refine own_retA X7 hx lk hret rfl rfl (hb hby d54_70) (by decide) (by decide) ?_
      rw [e7]
      exact ⟨_, rfl, Or.inl ⟨hbb, _, rfl⟩, N5, K5, S5⟩
theorem d53_0 : decode jdk_69_method_14_code 0 = .ok (.aload_n 0, 1) := by decide +kernel
theorem d53_1 : decode jdk_69_method_14_code 1 = .ok (.aload_n 1, 1) := by decide +kernel
theorem d53_2 : decode jdk_69_method_14_code 2 = .ok (.invokevirtual 158, 3) := by decide +kernel
theorem d53_5 : decode jdk_69_method_14_code 5 = .ok (.ifnull 7, 3) := by decide +kernel
theorem d53_8 : decode jdk_69_method_14_code 8 = .ok (.iconst 1, 1) := by decide +kernel
theorem d53_9 : decode jdk_69_method_14_code 9 = .ok (.goto 4, 3) := by decide +kernel
theorem d53_12 : decode jdk_69_method_14_code 12 = .ok (.iconst 0, 1) := by decide +kernel
theorem d53_13 : decode jdk_69_method_14_code 13 = .ok (.ireturn, 1) := by decide +kernel
theorem pn_53 : plainFor (⟨"java/util/HashMap", "containsKey", "(Ljava/lang/Object;)Z"⟩ : MethodName) = true := by first | exact plainFor_of_name (by first | (simp [plainName, overriddenIn]; done) | decide +kernel) | decide +kernel
theorem ef_53 (m : MethodId) (a1 : Addr) (a2 : Addr) : entryFrame m #[(.ref a1), (.ref a2)] 2 = mkF m 0 #[.val (.ref a1), .val (.ref a2)] [] := by first | (simp [entryFrame, argsToLocals, Value.category, Array.replicate]; done) | rfl
theorem pd_53 : parseMethodDescriptor "(Ljava/lang/Object;)Z" = some ⟨[(.object "java/lang/Object")], some .boolean⟩ := by decide +kernel
def Q53 (Z : State) (a1 : Addr) (a2 : Addr) (cb : Nat) (key : Nat → Addr) (inS : Nat → Bool) (k : Nat) (i : Nat) (h0 : Heap) (n0 : Nat) (v : Option Value) (h : Heap) (L : List Loc) : Prop := ∃ r, v = some (.int r) ∧ ((inS i = true ∧ r = 1) ∨ (inS i = false ∧ r = 0)) ∧ Fr n0 L ∧ Keep h0 h [a2] ∧ STRK Z h a2 (Nat.toInt32 (cb + i))
theorem rm53 (l : Launch) (Z : State) (a0 : Array Value) (hw : ∀ d ∈ tables_1, d.before a0 Z = true) (ws : List Jvm.Cond) (a1 : Addr) (a2 : Addr) (cb : Nat) (key : Nat → Addr) (inS : Nat → Bool) (k : Nat) (i : Nat) (h0 : Heap) (n0 : Nat) (Z0 : n0 ≤ h0.size) (cs : Int32) (dA pr eL eE : Addr) (TT : STT Z cs dA pr eL eE) (OL : Old Z n0 h0) (M0 : MAP Z h0 n0 a1 cb key inS k) (S0 : STRK Z h0 a2 (Nat.toInt32 (cb + i))) (nb2 : n0 ≤ a2) (hc : cb < 256) (hi : i < 5) (hk : k < 6) (ek : inS i = true → key i = a2) :
    MetFree l (⟨"java/util/HashMap", "containsKey", "(Ljava/lang/Object;)Z"⟩ : MethodName) (head1 (Jvm.Cond.code (⟨"java/util/HashMap", "containsKey", "(Ljava/lang/Object;)Z"⟩ : MethodName) jdk_69_method_14_code 2 (some .boolean) :: ws) ({ frames := 5, cells := 0, slots := 0, locals := 72 } : Room)) (fun a U => a = #[(.ref a1), (.ref a2)] ∧ Z.Warmed39 U.vm ∧ U.heap = h0) (fun _ _ _ _ _ => True) (fun _ U o U' => ∃ v L, o = .returned v ∧ (Q53 Z a1 a2 cb key inS k i h0 n0) v U'.heap L ∧ FrameEnd U o U' L ({ frames := 5, cells := 0, slots := 0, locals := 72 } : Room).cells ({ frames := 5, cells := 0, slots := 0, locals := 72 } : Room).slots) := by
  refine MetFree.of_bodySF pn_53 hisR ?_
  intro p e s m args below meth c s₁ Bd hml0 hP hK
  obtain ⟨rfl, hZ, hh⟩ := hP
  have hx := Bd.exec
  have hby := Bd.bytes
  have hml : c.maxLocals = 2 := hml0
  have hown : s.vm.findClass "java/util/HashMap" = some m.cls := findClass_of_methodNamed Bd.named
  have hnm := (name_of_methodNamed Bd.named Bd.method).1
  have X0 : Stand p l e ({ frames := 5, cells := 0, slots := 0, locals := 72 } : Room) s m #[(.ref a1), (.ref a2)] below meth c s₁ [] 0 0 := Stand.of_body Bd
  have e0 : s₁.heap = h0 := by rw [← hh, Bd.state]; rfl
  have N0 := Fr.nil n0
  have lk : meth.locks = false := BodyLoose.notSynchronized Bd
  have hret := Bd.returns
  show Ends p e below (EF s ({ frames := 5, cells := 0, slots := 0, locals := 72 } : Room).cells ({ frames := 5, cells := 0, slots := 0, locals := 72 } : Room).slots) (Q53 Z a1 a2 cb key inS k i h0 n0) (s₁.setTop (entryFrame m #[(.ref a1), (.ref a2)] 2))
  refine Ends.cast (ef_53 m a1 a2) ?_
  refine own_aloadN (n := 1) X0 hx (hb hby d53_0) rfl rfl rfl ?_
  refine own_aloadN (n := 2) X0 hx (hb hby d53_1) rfl rfl rfl ?_
  refine own_callV (n := 5) X0 hx hZ hown (hw _ (List.mem_of_getElem? (i := 358) rfl)) (hw _ (List.mem_of_getElem? (i := 359) rfl)) (hw _ (List.mem_of_getElem? (i := 361) rfl)) (hw _ (List.mem_of_getElem? (i := 360) rfl)) (hw _ (List.mem_of_getElem? (i := 43) rfl)) (hw _ (List.mem_of_getElem? (i := 362) rfl)) (by decide) e0 M0.exa (rm54 l Z a0 hw [] a1 a2 cb key inS k i h0 n0 Z0 cs dA pr eL eE TT OL M0 S0 nb2 hc hi hk ek) (W := 0) (by decide) (by decide) (by decide) (by decide) (by rw [hml]; rfl) (argsL := [(.ref a2)]) (rest := []) pd_54 rfl (by rfl) (Nat.le_of_eq rfl) (hb hby d53_2) rfl rfl ?_
  intro v1 T1 h1 L1 X1 e1 q1
  obtain ⟨r1, rfl, D1, M1, K1, S1⟩ := q1
  have N1 := Fr.app N0 M1
  rcases D1 with ⟨hbb, nd, rfl⟩ | ⟨hbb, rfl⟩
  · skip
    refine own_ifnullNo (n := 8) X1 hx (hb hby d53_5) rfl (fun z => by cases z) rfl ?_
    refine own_iconst (n := 9) X1 hx (1 : Int32) (hb hby d53_8) rfl rfl ?_
    refine own_goto (n := 13) X1 hx (hb hby d53_9) (by decide) (by decide) ?_
    refine own_retN X1 hx lk hret (by simp) (hb hby d53_13) (by decide) (by decide) ?_
    rw [e1]
    exact ⟨_, rfl, Or.inl ⟨hbb, rfl⟩, N1, K1, S1⟩
  · skip
    refine own_ifnullYes (n := 12) X1 hx (hb hby d53_5) rfl (by decide) (by decide) ?_
    refine own_iconst (n := 13) X1 hx (0 : Int32) (hb hby d53_12) rfl rfl ?_
    refine own_retN X1 hx lk hret (by simp) (hb hby d53_13) (by decide) (by decide) ?_
    rw [e1]
    exact ⟨_, rfl, Or.inr ⟨hbb, rfl⟩, N1, K1, S1⟩
theorem d52_0 : decode jdk_93_method_9_code 0 = .ok (.aload_n 0, 1) := by decide +kernel
theorem d52_1 : decode jdk_93_method_9_code 1 = .ok (.getfield 10, 3) := by decide +kernel
theorem d52_4 : decode jdk_93_method_9_code 4 = .ok (.aload_n 1, 1) := by decide +kernel
theorem d52_5 : decode jdk_93_method_9_code 5 = .ok (.invokevirtual 60, 3) := by decide +kernel
theorem d52_8 : decode jdk_93_method_9_code 8 = .ok (.ireturn, 1) := by decide +kernel
theorem pn_52 : plainFor (⟨"java/util/HashSet", "contains", "(Ljava/lang/Object;)Z"⟩ : MethodName) = true := by first | exact plainFor_of_name (by first | (simp [plainName, overriddenIn]; done) | decide +kernel) | decide +kernel
theorem ef_52 (m : MethodId) (a1 : Addr) (a2 : Addr) : entryFrame m #[(.ref a1), (.ref a2)] 2 = mkF m 0 #[.val (.ref a1), .val (.ref a2)] [] := by first | (simp [entryFrame, argsToLocals, Value.category, Array.replicate]; done) | rfl
theorem pd_52 : parseMethodDescriptor "(Ljava/lang/Object;)Z" = some ⟨[(.object "java/lang/Object")], some .boolean⟩ := by decide +kernel
def Q52 (Z : State) (a1 : Addr) (a2 : Addr) (cb : Nat) (key : Nat → Addr) (inS : Nat → Bool) (k : Nat) (i : Nat) (h0 : Heap) (n0 : Nat) (v : Option Value) (h : Heap) (L : List Loc) : Prop := ∃ r, v = some (.int r) ∧ ((inS i = true ∧ r = 1) ∨ (inS i = false ∧ r = 0)) ∧ Fr n0 L ∧ Keep h0 h [a2] ∧ STRK Z h a2 (Nat.toInt32 (cb + i))
theorem rm52 (l : Launch) (Z : State) (a0 : Array Value) (hw : ∀ d ∈ tables_1, d.before a0 Z = true) (ws : List Jvm.Cond) (a1 : Addr) (a2 : Addr) (cb : Nat) (key : Nat → Addr) (inS : Nat → Bool) (k : Nat) (i : Nat) (h0 : Heap) (n0 : Nat) (Z0 : n0 ≤ h0.size) (cs : Int32) (dA pr eL eE : Addr) (TT : STT Z cs dA pr eL eE) (OL : Old Z n0 h0) (T0 : SET Z h0 n0 a1 cb key inS k) (S0 : STRK Z h0 a2 (Nat.toInt32 (cb + i))) (nb2 : n0 ≤ a2) (hc : cb < 256) (hi : i < 5) (hk : k < 6) (ek : inS i = true → key i = a2) :
    MetFree l (⟨"java/util/HashSet", "contains", "(Ljava/lang/Object;)Z"⟩ : MethodName) (head1 (Jvm.Cond.code (⟨"java/util/HashSet", "contains", "(Ljava/lang/Object;)Z"⟩ : MethodName) jdk_93_method_9_code 2 (some .boolean) :: ws) ({ frames := 6, cells := 0, slots := 0, locals := 85 } : Room)) (fun a U => a = #[(.ref a1), (.ref a2)] ∧ Z.Warmed39 U.vm ∧ U.heap = h0) (fun _ _ _ _ _ => True) (fun _ U o U' => ∃ v L, o = .returned v ∧ (Q52 Z a1 a2 cb key inS k i h0 n0) v U'.heap L ∧ FrameEnd U o U' L ({ frames := 6, cells := 0, slots := 0, locals := 85 } : Room).cells ({ frames := 6, cells := 0, slots := 0, locals := 85 } : Room).slots) := by
  refine MetFree.of_bodySF pn_52 hisR ?_
  intro p e s m args below meth c s₁ Bd hml0 hP hK
  obtain ⟨rfl, hZ, hh⟩ := hP
  have hx := Bd.exec
  have hby := Bd.bytes
  have hml : c.maxLocals = 2 := hml0
  have hown : s.vm.findClass "java/util/HashSet" = some m.cls := findClass_of_methodNamed Bd.named
  have hnm := (name_of_methodNamed Bd.named Bd.method).1
  have X0 : Stand p l e ({ frames := 6, cells := 0, slots := 0, locals := 85 } : Room) s m #[(.ref a1), (.ref a2)] below meth c s₁ [] 0 0 := Stand.of_body Bd
  have e0 : s₁.heap = h0 := by rw [← hh, Bd.state]; rfl
  have N0 := Fr.nil n0
  have lk : meth.locks = false := BodyLoose.notSynchronized Bd
  have hret := Bd.returns
  show Ends p e below (EF s ({ frames := 6, cells := 0, slots := 0, locals := 85 } : Room).cells ({ frames := 6, cells := 0, slots := 0, locals := 85 } : Room).slots) (Q52 Z a1 a2 cb key inS k i h0 n0) (s₁.setTop (entryFrame m #[(.ref a1), (.ref a2)] 2))
  refine Ends.cast (ef_52 m a1 a2) ?_
  obtain ⟨mp, F0, M0, nmp⟩ := T0
  refine own_aloadN (n := 1) X0 hx (hb hby d52_0) rfl rfl rfl ?_
  refine own_getF (n := 4) X0 hx hZ hown (hw _ (List.mem_of_getElem? (i := 58) rfl)) e0 F0.2 (hb hby d52_1) rfl ?_
  intro T1 X1 e1
  refine own_aloadN (n := 5) X1 hx (hb hby d52_4) rfl rfl rfl ?_
  refine own_callV (n := 8) X1 hx hZ hown (hw _ (List.mem_of_getElem? (i := 353) rfl)) (hw _ (List.mem_of_getElem? (i := 354) rfl)) (hw _ (List.mem_of_getElem? (i := 356) rfl)) (hw _ (List.mem_of_getElem? (i := 355) rfl)) (hw _ (List.mem_of_getElem? (i := 43) rfl)) (hw _ (List.mem_of_getElem? (i := 357) rfl)) (by decide) e1 M0.exa (rm53 l Z a0 hw [] mp a2 cb key inS k i h0 n0 Z0 cs dA pr eL eE TT OL M0 S0 nb2 hc hi hk ek) (W := 0) (by decide) (by decide) (by decide) (by decide) (by rw [hml]; rfl) (argsL := [(.ref a2)]) (rest := []) pd_53 rfl (by rfl) (Nat.le_of_eq rfl) (hb hby d52_5) rfl rfl ?_
  intro v2 T2 h2 L2 X2 e2 q2
  obtain ⟨r2, rfl, D2, M2, K2, S2⟩ := q2
  have N2 := Fr.app N0 M2
  refine own_retN X2 hx lk hret (by simp) (hb hby d52_8) (by decide) (by decide) ?_
  rw [e2]
  refine ⟨_, rfl, ?_, N2, K2, S2⟩
  rcases D2 with ⟨z, rfl⟩ | ⟨z, rfl⟩
  · exact Or.inl ⟨z, rfl⟩
  · exact Or.inr ⟨z, rfl⟩
theorem d31_0 : decode jdk_69_method_10_code 0 = .ok (.aload_n 0, 1) := by decide +kernel
theorem d31_1 : decode jdk_69_method_10_code 1 = .ok (.getfield 156, 3) := by decide +kernel
theorem d31_4 : decode jdk_69_method_10_code 4 = .ok (.ireturn, 1) := by decide +kernel
theorem pn_31 : plainFor (⟨"java/util/HashMap", "size", "()I"⟩ : MethodName) = true := by first | exact plainFor_of_name (by first | (simp [plainName, overriddenIn]; done) | decide +kernel) | decide +kernel
theorem ef_31 (m : MethodId) (a1 : Addr) : entryFrame m #[(.ref a1)] 1 = mkF m 0 #[.val (.ref a1)] [] := by first | (simp [entryFrame, argsToLocals, Value.category, Array.replicate]; done) | rfl
theorem pd_31 : parseMethodDescriptor "()I" = some ⟨[], some .int⟩ := by decide +kernel
def Q31 (Z : State) (a1 : Addr) (cb : Nat) (key : Nat → Addr) (inS : Nat → Bool) (k : Nat) (i : Nat) (h0 : Heap) (n0 : Nat) (v : Option Value) (h : Heap) (L : List Loc) : Prop := ∃ q, v = some (.int q) ∧ Fr n0 L ∧ h0 = h
theorem rm31 (l : Launch) (Z : State) (a0 : Array Value) (hw : ∀ d ∈ tables_1, d.before a0 Z = true) (ws : List Jvm.Cond) (a1 : Addr) (cb : Nat) (key : Nat → Addr) (inS : Nat → Bool) (k : Nat) (i : Nat) (h0 : Heap) (n0 : Nat) (Z0 : n0 ≤ h0.size) (M0 : MAP Z h0 n0 a1 cb key inS k) :
    MetFree l (⟨"java/util/HashMap", "size", "()I"⟩ : MethodName) (head1 (Jvm.Cond.code (⟨"java/util/HashMap", "size", "()I"⟩ : MethodName) jdk_69_method_10_code 1 (some .int) :: ws) ({ frames := 0, cells := 0, slots := 0, locals := 0 } : Room)) (fun a U => a = #[(.ref a1)] ∧ Z.Warmed39 U.vm ∧ U.heap = h0) (fun _ _ _ _ _ => True) (fun _ U o U' => ∃ v L, o = .returned v ∧ (Q31 Z a1 cb key inS k i h0 n0) v U'.heap L ∧ FrameEnd U o U' L ({ frames := 0, cells := 0, slots := 0, locals := 0 } : Room).cells ({ frames := 0, cells := 0, slots := 0, locals := 0 } : Room).slots) := by
  refine MetFree.of_bodySF pn_31 hisR ?_
  intro p e s m args below meth c s₁ Bd hml0 hP hK
  obtain ⟨rfl, hZ, hh⟩ := hP
  have hx := Bd.exec
  have hby := Bd.bytes
  have hml : c.maxLocals = 1 := hml0
  have hown : s.vm.findClass "java/util/HashMap" = some m.cls := findClass_of_methodNamed Bd.named
  have hnm := (name_of_methodNamed Bd.named Bd.method).1
  have X0 : Stand p l e ({ frames := 0, cells := 0, slots := 0, locals := 0 } : Room) s m #[(.ref a1)] below meth c s₁ [] 0 0 := Stand.of_body Bd
  have e0 : s₁.heap = h0 := by rw [← hh, Bd.state]; rfl
  have N0 := Fr.nil n0
  have lk : meth.locks = false := BodyLoose.notSynchronized Bd
  have hret := Bd.returns
  show Ends p e below (EF s ({ frames := 0, cells := 0, slots := 0, locals := 0 } : Room).cells ({ frames := 0, cells := 0, slots := 0, locals := 0 } : Room).slots) (Q31 Z a1 cb key inS k i h0 n0) (s₁.setTop (entryFrame m #[(.ref a1)] 1))
  refine Ends.cast (ef_31 m a1) ?_
  obtain ⟨tv, thr, mc, lf, F0, D0⟩ := M0
  refine own_aloadN (n := 1) X0 hx (hb hby d31_0) rfl rfl rfl ?_
  refine own_getF (n := 4) X0 hx hZ hown (hw _ (List.mem_of_getElem? (i := 154) rfl)) e0 F0.2.2.1 (hb hby d31_1) rfl ?_
  intro T1 X1 e1
  refine own_retI X1 hx lk hret (hb hby d31_4) (by decide) (by decide) ?_
  rw [e1]
  exact ⟨_, rfl, N0, rfl⟩
theorem d30_0 : decode jdk_93_method_7_code 0 = .ok (.aload_n 0, 1) := by decide +kernel
theorem d30_1 : decode jdk_93_method_7_code 1 = .ok (.getfield 10, 3) := by decide +kernel
theorem d30_4 : decode jdk_93_method_7_code 4 = .ok (.invokevirtual 55, 3) := by decide +kernel
theorem d30_7 : decode jdk_93_method_7_code 7 = .ok (.ireturn, 1) := by decide +kernel
theorem pn_30 : plainFor (⟨"java/util/HashSet", "size", "()I"⟩ : MethodName) = true := by first | exact plainFor_of_name (by first | (simp [plainName, overriddenIn]; done) | decide +kernel) | decide +kernel
theorem ef_30 (m : MethodId) (a1 : Addr) : entryFrame m #[(.ref a1)] 1 = mkF m 0 #[.val (.ref a1)] [] := by first | (simp [entryFrame, argsToLocals, Value.category, Array.replicate]; done) | rfl
theorem pd_30 : parseMethodDescriptor "()I" = some ⟨[], some .int⟩ := by decide +kernel
def Q30 (Z : State) (a1 : Addr) (cb : Nat) (key : Nat → Addr) (inS : Nat → Bool) (k : Nat) (i : Nat) (h0 : Heap) (n0 : Nat) (v : Option Value) (h : Heap) (L : List Loc) : Prop := ∃ q, v = some (.int q) ∧ Fr n0 L ∧ h0 = h
theorem rm30 (l : Launch) (Z : State) (a0 : Array Value) (hw : ∀ d ∈ tables_1, d.before a0 Z = true) (ws : List Jvm.Cond) (a1 : Addr) (cb : Nat) (key : Nat → Addr) (inS : Nat → Bool) (k : Nat) (i : Nat) (h0 : Heap) (n0 : Nat) (Z0 : n0 ≤ h0.size) (T0 : SET Z h0 n0 a1 cb key inS k) :
    MetFree l (⟨"java/util/HashSet", "size", "()I"⟩ : MethodName) (head1 (Jvm.Cond.code (⟨"java/util/HashSet", "size", "()I"⟩ : MethodName) jdk_93_method_7_code 1 (some .int) :: ws) ({ frames := 1, cells := 0, slots := 0, locals := 12 } : Room)) (fun a U => a = #[(.ref a1)] ∧ Z.Warmed39 U.vm ∧ U.heap = h0) (fun _ _ _ _ _ => True) (fun _ U o U' => ∃ v L, o = .returned v ∧ (Q30 Z a1 cb key inS k i h0 n0) v U'.heap L ∧ FrameEnd U o U' L ({ frames := 1, cells := 0, slots := 0, locals := 12 } : Room).cells ({ frames := 1, cells := 0, slots := 0, locals := 12 } : Room).slots) := by
  refine MetFree.of_bodySF pn_30 hisR ?_
  intro p e s m args below meth c s₁ Bd hml0 hP hK
  obtain ⟨rfl, hZ, hh⟩ := hP
  have hx := Bd.exec
  have hby := Bd.bytes
  have hml : c.maxLocals = 1 := hml0
  have hown : s.vm.findClass "java/util/HashSet" = some m.cls := findClass_of_methodNamed Bd.named
  have hnm := (name_of_methodNamed Bd.named Bd.method).1
  have X0 : Stand p l e ({ frames := 1, cells := 0, slots := 0, locals := 12 } : Room) s m #[(.ref a1)] below meth c s₁ [] 0 0 := Stand.of_body Bd
  have e0 : s₁.heap = h0 := by rw [← hh, Bd.state]; rfl
  have N0 := Fr.nil n0
  have lk : meth.locks = false := BodyLoose.notSynchronized Bd
  have hret := Bd.returns
  show Ends p e below (EF s ({ frames := 1, cells := 0, slots := 0, locals := 12 } : Room).cells ({ frames := 1, cells := 0, slots := 0, locals := 12 } : Room).slots) (Q30 Z a1 cb key inS k i h0 n0) (s₁.setTop (entryFrame m #[(.ref a1)] 1))
  refine Ends.cast (ef_30 m a1) ?_
  obtain ⟨mp, F0, M0, nmp⟩ := T0
  refine own_aloadN (n := 1) X0 hx (hb hby d30_0) rfl rfl rfl ?_
  refine own_getF (n := 4) X0 hx hZ hown (hw _ (List.mem_of_getElem? (i := 58) rfl)) e0 F0.2 (hb hby d30_1) rfl ?_
  intro T1 X1 e1
  refine own_callV (n := 7) X1 hx hZ hown (hw _ (List.mem_of_getElem? (i := 220) rfl)) (hw _ (List.mem_of_getElem? (i := 221) rfl)) (hw _ (List.mem_of_getElem? (i := 223) rfl)) (hw _ (List.mem_of_getElem? (i := 222) rfl)) (hw _ (List.mem_of_getElem? (i := 43) rfl)) (hw _ (List.mem_of_getElem? (i := 224) rfl)) (by decide) e1 M0.exa (rm31 l Z a0 hw [] mp cb key inS k i h0 n0 Z0 M0) (W := 0) (by decide) (by decide) (by decide) (by decide) (by rw [hml]; rfl) (argsL := []) (rest := []) pd_31 rfl (by rfl) (Nat.le_of_eq rfl) (hb hby d30_4) rfl rfl ?_
  intro v2 T2 h2 L2 X2 e2 q2
  obtain ⟨q2, rfl, M2, rfl⟩ := q2
  have N2 := Fr.app N0 M2
  refine own_retI X2 hx lk hret (hb hby d30_7) (by decide) (by decide) ?_
  rw [e2]
  exact ⟨_, rfl, N2, rfl⟩
theorem d47_0 : decode jdk_31_method_10_code 0 = .ok (.aload_n 0, 1) := by decide +kernel
theorem d47_1 : decode jdk_31_method_10_code 1 = .ok (.ifnonnull 11, 3) := by decide +kernel
theorem d47_4 : decode jdk_31_method_10_code 4 = .ok (.new 84, 3) := by decide +kernel
theorem d47_7 : decode jdk_31_method_10_code 7 = .ok (.dup, 1) := by decide +kernel
theorem d47_8 : decode jdk_31_method_10_code 8 = .ok (.invokespecial 86, 3) := by decide +kernel
theorem d47_11 : decode jdk_31_method_10_code 11 = .ok (.athrow, 1) := by decide +kernel
theorem d47_12 : decode jdk_31_method_10_code 12 = .ok (.aload_n 0, 1) := by decide +kernel
theorem d47_13 : decode jdk_31_method_10_code 13 = .ok (.areturn, 1) := by decide +kernel
theorem pn_47 : plainFor (⟨"java/util/Objects", "requireNonNull", "(Ljava/lang/Object;)Ljava/lang/Object;"⟩ : MethodName) = true := by first | exact plainFor_of_name (by first | (simp [plainName, overriddenIn]; done) | decide +kernel) | decide +kernel
theorem ef_47 (m : MethodId) (a1 : Addr) : entryFrame m #[(.ref a1)] 1 = mkF m 0 #[.val (.ref a1)] [] := by first | (simp [entryFrame, argsToLocals, Value.category, Array.replicate]; done) | rfl
theorem pd_47 : parseMethodDescriptor "(Ljava/lang/Object;)Ljava/lang/Object;" = some ⟨[(.object "java/lang/Object")], some (.object "java/lang/Object")⟩ := by decide +kernel
def Q47 (Z : State) (a1 : Addr)  (h0 : Heap) (n0 : Nat) (v : Option Value) (h : Heap) (L : List Loc) : Prop := v = some (.ref a1) ∧ Fr n0 L ∧ h0 = h
theorem rm47 (l : Launch) (Z : State) (a0 : Array Value) (hw : ∀ d ∈ tables_1, d.before a0 Z = true) (ws : List Jvm.Cond) (a1 : Addr)  (h0 : Heap) (n0 : Nat) (Z0 : n0 ≤ h0.size)  :
    MetFree l (⟨"java/util/Objects", "requireNonNull", "(Ljava/lang/Object;)Ljava/lang/Object;"⟩ : MethodName) (head1 (Jvm.Cond.code (⟨"java/util/Objects", "requireNonNull", "(Ljava/lang/Object;)Ljava/lang/Object;"⟩ : MethodName) jdk_31_method_10_code 1 (some (.object "java/lang/Object")) :: ws) ({ frames := 0, cells := 0, slots := 0, locals := 0 } : Room)) (fun a U => a = #[(.ref a1)] ∧ Z.Warmed39 U.vm ∧ U.heap = h0) (fun _ _ _ _ _ => True) (fun _ U o U' => ∃ v L, o = .returned v ∧ (Q47 Z a1  h0 n0) v U'.heap L ∧ FrameEnd U o U' L ({ frames := 0, cells := 0, slots := 0, locals := 0 } : Room).cells ({ frames := 0, cells := 0, slots := 0, locals := 0 } : Room).slots) := by
  refine MetFree.of_bodySF pn_47 hisR ?_
  intro p e s m args below meth c s₁ Bd hml0 hP hK
  obtain ⟨rfl, hZ, hh⟩ := hP
  have hx := Bd.exec
  have hby := Bd.bytes
  have hml : c.maxLocals = 1 := hml0
  have hown : s.vm.findClass "java/util/Objects" = some m.cls := findClass_of_methodNamed Bd.named
  have hnm := (name_of_methodNamed Bd.named Bd.method).1
  have X0 : Stand p l e ({ frames := 0, cells := 0, slots := 0, locals := 0 } : Room) s m #[(.ref a1)] below meth c s₁ [] 0 0 := Stand.of_body Bd
  have e0 : s₁.heap = h0 := by rw [← hh, Bd.state]; rfl
  have N0 := Fr.nil n0
  have lk : meth.locks = false := BodyLoose.notSynchronized Bd
  have hret := Bd.returns
  show Ends p e below (EF s ({ frames := 0, cells := 0, slots := 0, locals := 0 } : Room).cells ({ frames := 0, cells := 0, slots := 0, locals := 0 } : Room).slots) (Q47 Z a1  h0 n0) (s₁.setTop (entryFrame m #[(.ref a1)] 1))
  refine Ends.cast (ef_47 m a1) ?_
  refine own_aloadN (n := 1) X0 hx (hb hby d47_0) rfl rfl rfl ?_
  refine own_ifnonnullYes (n := 12) X0 hx (hb hby d47_1) rfl (fun z => by cases z) (by decide) (by decide) ?_
  refine own_aloadN (n := 13) X0 hx (hb hby d47_12) rfl rfl rfl ?_
  refine own_retA X0 hx lk hret rfl rfl (hb hby d47_13) (by decide) (by decide) ?_
  rw [e0]
  exact ⟨rfl, N0, rfl⟩
theorem d46_0 : decode jdk_47_method_1_code 0 = .ok (.aload_n 0, 1) := by decide +kernel
theorem d46_1 : decode jdk_47_method_1_code 1 = .ok (.invokespecial 1, 3) := by decide +kernel
theorem d46_4 : decode jdk_47_method_1_code 4 = .ok (.return_, 1) := by decide +kernel
theorem pn_46 : plainFor (⟨"java/util/ImmutableCollections$AbstractImmutableCollection", "<init>", "()V"⟩ : MethodName) = true := by first | exact plainFor_of_name (by first | (simp [plainName, overriddenIn]; done) | decide +kernel) | decide +kernel
theorem ef_46 (m : MethodId) (a1 : Addr) : entryFrame m #[(.ref a1)] 1 = mkF m 0 #[.val (.ref a1)] [] := by first | (simp [entryFrame, argsToLocals, Value.category, Array.replicate]; done) | rfl
theorem pd_46 : parseMethodDescriptor "()V" = some ⟨[], none⟩ := by decide +kernel
def Q46 (Z : State) (a1 : Addr)  (h0 : Heap) (n0 : Nat) (v : Option Value) (h : Heap) (L : List Loc) : Prop := v = none ∧ Fr n0 L ∧ h0 = h
theorem rm46 (l : Launch) (Z : State) (a0 : Array Value) (hw : ∀ d ∈ tables_1, d.before a0 Z = true) (ws : List Jvm.Cond) (a1 : Addr)  (h0 : Heap) (n0 : Nat) (Z0 : n0 ≤ h0.size)  :
    MetFree l (⟨"java/util/ImmutableCollections$AbstractImmutableCollection", "<init>", "()V"⟩ : MethodName) (head1 (Jvm.Cond.code (⟨"java/util/ImmutableCollections$AbstractImmutableCollection", "<init>", "()V"⟩ : MethodName) jdk_47_method_1_code 1 (none) :: ws) ({ frames := 2, cells := 0, slots := 0, locals := 24 } : Room)) (fun a U => a = #[(.ref a1)] ∧ Z.Warmed39 U.vm ∧ U.heap = h0) (fun _ _ _ _ _ => True) (fun _ U o U' => ∃ v L, o = .returned v ∧ (Q46 Z a1  h0 n0) v U'.heap L ∧ FrameEnd U o U' L ({ frames := 2, cells := 0, slots := 0, locals := 24 } : Room).cells ({ frames := 2, cells := 0, slots := 0, locals := 24 } : Room).slots) := by
  refine MetFree.of_bodySF pn_46 hisR ?_
  intro p e s m args below meth c s₁ Bd hml0 hP hK
  obtain ⟨rfl, hZ, hh⟩ := hP
  have hx := Bd.exec
  have hby := Bd.bytes
  have hml : c.maxLocals = 1 := hml0
  have hown : s.vm.findClass "java/util/ImmutableCollections$AbstractImmutableCollection" = some m.cls := findClass_of_methodNamed Bd.named
  have hnm := (name_of_methodNamed Bd.named Bd.method).1
  have X0 : Stand p l e ({ frames := 2, cells := 0, slots := 0, locals := 24 } : Room) s m #[(.ref a1)] below meth c s₁ [] 0 0 := Stand.of_body Bd
  have e0 : s₁.heap = h0 := by rw [← hh, Bd.state]; rfl
  have N0 := Fr.nil n0
  have lk : meth.locks = false := BodyLoose.notSynchronized Bd
  have hret := Bd.returns
  show Ends p e below (EF s ({ frames := 2, cells := 0, slots := 0, locals := 24 } : Room).cells ({ frames := 2, cells := 0, slots := 0, locals := 24 } : Room).slots) (Q46 Z a1  h0 n0) (s₁.setTop (entryFrame m #[(.ref a1)] 1))
  refine Ends.cast (ef_46 m a1) ?_
  refine own_aloadN (n := 1) X0 hx (hb hby d46_0) rfl rfl rfl ?_
  refine own_callN (n := 4) X0 hx hZ rfl hown (hw _ (List.mem_of_getElem? (i := 315) rfl)) (hw _ (List.mem_of_getElem? (i := 14) rfl)) (hw _ (List.mem_of_getElem? (i := 17) rfl)) (hw _ (List.mem_of_getElem? (i := 18) rfl)) (by decide) e0 (rm3 l Z a0 hw [] a1 h0 n0 Z0 ) (W := 0) (by decide) (by decide) (by decide) (by decide) (by rw [hml]; rfl) (argsL := []) (rest := []) pd_3 rfl (a := a1) (by rfl) (Nat.le_of_eq rfl) (hb hby d46_1) rfl rfl ?_
  intro v1 T1 h1 L1 X1 e1 q1
  obtain ⟨rfl, M1, rfl⟩ := q1
  have N1 := Fr.app N0 M1
  refine own_retV X1 hx lk hret (hb hby d46_4) (by decide) (by decide) ?_
  rw [e1]
  exact ⟨rfl, N1, rfl⟩
theorem d45_0 : decode jdk_46_method_1_code 0 = .ok (.aload_n 0, 1) := by decide +kernel
theorem d45_1 : decode jdk_46_method_1_code 1 = .ok (.invokespecial 1, 3) := by decide +kernel
theorem d45_4 : decode jdk_46_method_1_code 4 = .ok (.return_, 1) := by decide +kernel
theorem pn_45 : plainFor (⟨"java/util/ImmutableCollections$AbstractImmutableList", "<init>", "()V"⟩ : MethodName) = true := by first | exact plainFor_of_name (by first | (simp [plainName, overriddenIn]; done) | decide +kernel) | decide +kernel
theorem ef_45 (m : MethodId) (a1 : Addr) : entryFrame m #[(.ref a1)] 1 = mkF m 0 #[.val (.ref a1)] [] := by first | (simp [entryFrame, argsToLocals, Value.category, Array.replicate]; done) | rfl
theorem pd_45 : parseMethodDescriptor "()V" = some ⟨[], none⟩ := by decide +kernel
def Q45 (Z : State) (a1 : Addr)  (h0 : Heap) (n0 : Nat) (v : Option Value) (h : Heap) (L : List Loc) : Prop := v = none ∧ Fr n0 L ∧ h0 = h
theorem rm45 (l : Launch) (Z : State) (a0 : Array Value) (hw : ∀ d ∈ tables_1, d.before a0 Z = true) (ws : List Jvm.Cond) (a1 : Addr)  (h0 : Heap) (n0 : Nat) (Z0 : n0 ≤ h0.size)  :
    MetFree l (⟨"java/util/ImmutableCollections$AbstractImmutableList", "<init>", "()V"⟩ : MethodName) (head1 (Jvm.Cond.code (⟨"java/util/ImmutableCollections$AbstractImmutableList", "<init>", "()V"⟩ : MethodName) jdk_46_method_1_code 1 (none) :: ws) ({ frames := 3, cells := 0, slots := 0, locals := 36 } : Room)) (fun a U => a = #[(.ref a1)] ∧ Z.Warmed39 U.vm ∧ U.heap = h0) (fun _ _ _ _ _ => True) (fun _ U o U' => ∃ v L, o = .returned v ∧ (Q45 Z a1  h0 n0) v U'.heap L ∧ FrameEnd U o U' L ({ frames := 3, cells := 0, slots := 0, locals := 36 } : Room).cells ({ frames := 3, cells := 0, slots := 0, locals := 36 } : Room).slots) := by
  refine MetFree.of_bodySF pn_45 hisR ?_
  intro p e s m args below meth c s₁ Bd hml0 hP hK
  obtain ⟨rfl, hZ, hh⟩ := hP
  have hx := Bd.exec
  have hby := Bd.bytes
  have hml : c.maxLocals = 1 := hml0
  have hown : s.vm.findClass "java/util/ImmutableCollections$AbstractImmutableList" = some m.cls := findClass_of_methodNamed Bd.named
  have hnm := (name_of_methodNamed Bd.named Bd.method).1
  have X0 : Stand p l e ({ frames := 3, cells := 0, slots := 0, locals := 36 } : Room) s m #[(.ref a1)] below meth c s₁ [] 0 0 := Stand.of_body Bd
  have e0 : s₁.heap = h0 := by rw [← hh, Bd.state]; rfl
  have N0 := Fr.nil n0
  have lk : meth.locks = false := BodyLoose.notSynchronized Bd
  have hret := Bd.returns
  show Ends p e below (EF s ({ frames := 3, cells := 0, slots := 0, locals := 36 } : Room).cells ({ frames := 3, cells := 0, slots := 0, locals := 36 } : Room).slots) (Q45 Z a1  h0 n0) (s₁.setTop (entryFrame m #[(.ref a1)] 1))
  refine Ends.cast (ef_45 m a1) ?_
  refine own_aloadN (n := 1) X0 hx (hb hby d45_0) rfl rfl rfl ?_
  refine own_callN (n := 4) X0 hx hZ rfl hown (hw _ (List.mem_of_getElem? (i := 309) rfl)) (hw _ (List.mem_of_getElem? (i := 310) rfl)) (hw _ (List.mem_of_getElem? (i := 313) rfl)) (hw _ (List.mem_of_getElem? (i := 314) rfl)) (by decide) e0 (rm46 l Z a0 hw [] a1 h0 n0 Z0 ) (W := 0) (by decide) (by decide) (by decide) (by decide) (by rw [hml]; rfl) (argsL := []) (rest := []) pd_46 rfl (a := a1) (by rfl) (Nat.le_of_eq rfl) (hb hby d45_1) rfl rfl ?_
  intro v1 T1 h1 L1 X1 e1 q1
  obtain ⟨rfl, M1, rfl⟩ := q1
  have N1 := Fr.app N0 M1
  refine own_retV X1 hx lk hret (hb hby d45_4) (by decide) (by decide) ?_
  rw [e1]
  exact ⟨rfl, N1, rfl⟩
theorem d58_0 : decode jdk_44_method_1_code 0 = .ok (.aload_n 0, 1) := by decide +kernel
theorem d58_1 : decode jdk_44_method_1_code 1 = .ok (.invokespecial 1, 3) := by decide +kernel
theorem d58_4 : decode jdk_44_method_1_code 4 = .ok (.aload_n 0, 1) := by decide +kernel
theorem d58_5 : decode jdk_44_method_1_code 5 = .ok (.aload_n 1, 1) := by decide +kernel
theorem d58_6 : decode jdk_44_method_1_code 6 = .ok (.invokestatic 7, 3) := by decide +kernel
theorem d58_9 : decode jdk_44_method_1_code 9 = .ok (.putfield 13, 3) := by decide +kernel
theorem d58_12 : decode jdk_44_method_1_code 12 = .ok (.aload_n 0, 1) := by decide +kernel
theorem d58_13 : decode jdk_44_method_1_code 13 = .ok (.getstatic 19, 3) := by decide +kernel
theorem d58_16 : decode jdk_44_method_1_code 16 = .ok (.putfield 24, 3) := by decide +kernel
theorem d58_19 : decode jdk_44_method_1_code 19 = .ok (.return_, 1) := by decide +kernel
theorem pn_58 : plainFor (⟨"java/util/ImmutableCollections$List12", "<init>", "(Ljava/lang/Object;)V"⟩ : MethodName) = true := by first | exact plainFor_of_name (by first | (simp [plainName, overriddenIn]; done) | decide +kernel) | decide +kernel
theorem ef_58 (m : MethodId) (a1 : Addr) (a2 : Addr) : entryFrame m #[(.ref a1), (.ref a2)] 2 = mkF m 0 #[.val (.ref a1), .val (.ref a2)] [] := by first | (simp [entryFrame, argsToLocals, Value.category, Array.replicate]; done) | rfl
theorem pd_58 : parseMethodDescriptor "(Ljava/lang/Object;)V" = some ⟨[(.object "java/lang/Object")], none⟩ := by decide +kernel
def Q58 (Z : State) (a1 : Addr) (a2 : Addr)  (h0 : Heap) (n0 : Nat) (v : Option Value) (h : Heap) (L : List Loc) : Prop := v = none ∧ Fr n0 L ∧ Keep h0 h [a1]
theorem rm58 (l : Launch) (Z : State) (a0 : Array Value) (hw : ∀ d ∈ tables_1, d.before a0 Z = true) (ws : List Jvm.Cond) (a1 : Addr) (a2 : Addr)  (h0 : Heap) (n0 : Nat) (Z0 : n0 ≤ h0.size) (cs : Int32) (dA pr eL eE : Addr) (TT : STT Z cs dA pr eL eE) (OL : Old Z n0 h0) (F0 : L12 Z h0 a1 .null .null) (nb : n0 ≤ a1) :
    MetFree l (⟨"java/util/ImmutableCollections$List12", "<init>", "(Ljava/lang/Object;)V"⟩ : MethodName) (head1 (Jvm.Cond.code (⟨"java/util/ImmutableCollections$List12", "<init>", "(Ljava/lang/Object;)V"⟩ : MethodName) jdk_44_method_1_code 2 (none) :: ws) ({ frames := 4, cells := 0, slots := 0, locals := 48 } : Room)) (fun a U => a = #[(.ref a1), (.ref a2)] ∧ Z.Warmed39 U.vm ∧ U.heap = h0) (fun _ _ _ _ _ => True) (fun _ U o U' => ∃ v L, o = .returned v ∧ (Q58 Z a1 a2  h0 n0) v U'.heap L ∧ FrameEnd U o U' L ({ frames := 4, cells := 0, slots := 0, locals := 48 } : Room).cells ({ frames := 4, cells := 0, slots := 0, locals := 48 } : Room).slots) := by
  refine MetFree.of_bodySF pn_58 hisR ?_
  intro p e s m args below meth c s₁ Bd hml0 hP hK
  obtain ⟨rfl, hZ, hh⟩ := hP
  have hx := Bd.exec
  have hby := Bd.bytes
  have hml : c.maxLocals = 2 := hml0
  have hown : s.vm.findClass "java/util/ImmutableCollections$List12" = some m.cls := findClass_of_methodNamed Bd.named
  have hnm := (name_of_methodNamed Bd.named Bd.method).1
  have X0 : Stand p l e ({ frames := 4, cells := 0, slots := 0, locals := 48 } : Room) s m #[(.ref a1), (.ref a2)] below meth c s₁ [] 0 0 := Stand.of_body Bd
  have e0 : s₁.heap = h0 := by rw [← hh, Bd.state]; rfl
  have N0 := Fr.nil n0
  have lk : meth.locks = false := BodyLoose.notSynchronized Bd
  have hret := Bd.returns
  show Ends p e below (EF s ({ frames := 4, cells := 0, slots := 0, locals := 48 } : Room).cells ({ frames := 4, cells := 0, slots := 0, locals := 48 } : Room).slots) (Q58 Z a1 a2  h0 n0) (s₁.setTop (entryFrame m #[(.ref a1), (.ref a2)] 2))
  refine Ends.cast (ef_58 m a1 a2) ?_
  refine own_aloadN (n := 1) X0 hx (hb hby d58_0) rfl rfl rfl ?_
  refine own_callN (n := 4) X0 hx hZ rfl hown (hw _ (List.mem_of_getElem? (i := 303) rfl)) (hw _ (List.mem_of_getElem? (i := 304) rfl)) (hw _ (List.mem_of_getElem? (i := 307) rfl)) (hw _ (List.mem_of_getElem? (i := 308) rfl)) (by decide) e0 (rm45 l Z a0 hw [] a1 h0 n0 Z0 ) (W := 0) (by decide) (by decide) (by decide) (by decide) (by rw [hml]; rfl) (argsL := []) (rest := []) pd_45 rfl (a := a1) (by rfl) (Nat.le_of_eq rfl) (hb hby d58_1) rfl rfl ?_
  intro v1 T1 h1 L1 X1 e1 q1
  obtain ⟨rfl, M1, rfl⟩ := q1
  have N1 := Fr.app N0 M1
  refine own_aloadN (n := 5) X1 hx (hb hby d58_4) rfl rfl rfl ?_
  refine own_aloadN (n := 6) X1 hx (hb hby d58_5) rfl rfl rfl ?_
  refine own_callS (n := 9) X1 hx hZ hown (hw _ (List.mem_of_getElem? (i := 317) rfl)) (hw _ (List.mem_of_getElem? (i := 318) rfl)) (hw _ (List.mem_of_getElem? (i := 319) rfl)) (hw _ (List.mem_of_getElem? (i := 320) rfl)) (by decide) e1 (rm47 l Z a0 hw [] a2 h0 n0 Z0 ) (W := 1) (by decide) (by decide) (by decide) (by decide) (by rw [hml]; rfl) (argsL := [(.ref a2)]) (rest := [(.ref a1)]) pd_47 rfl (by rfl) (Nat.le_of_eq rfl) (hb hby d58_6) rfl rfl ?_
  intro v2 T2 h2 L2 X2 e2 q2
  obtain ⟨rfl, M2, rfl⟩ := q2
  have N2 := Fr.app N1 M2
  refine own_putF (n := 12) X2 hx hZ hown (hw _ (List.mem_of_getElem? (i := 321) rfl)) e2 F0.2.1 F0.1 (Or.inr ⟨(hw _ (List.mem_of_getElem? (i := 322) rfl)), rfl, hnm⟩) (hw _ (List.mem_of_getElem? (i := 297) rfl)) (ty := (.object "java/lang/Object")) (by decide) rfl rfl (hb hby d58_9) rfl ?_
  intro T3 h3 X3 e3 W3
  have N3 := Fr.snoc X3 N2 nb
  have Z3 : n0 ≤ h3.size := Nat.le_trans Z0 (Keep.of_wr W3).1
  have OL3 := OL.wr W3 nb
  have F3_a1 := F0.set_e0 hw W3
  have K3 : Keep h0 h3 [a1] := (Keep.refl h0 [a1]).wr W3 (Or.inl (List.mem_of_getElem? (i := 0) rfl))
  refine own_aloadN (n := 13) X3 hx (hb hby d58_12) rfl rfl rfl ?_
  refine own_getSN (n := 16) X3 hx hZ hown (hw _ (List.mem_of_getElem? (i := 392) rfl)) e3 (TT.2.2.2.2.2.2.2.2.2.ext OL3.2) (hb hby d58_13) rfl ?_
  intro T4 X4 e4
  refine own_putF (n := 19) X4 hx hZ hown (hw _ (List.mem_of_getElem? (i := 323) rfl)) e4 F3_a1.2.2 F3_a1.1 (Or.inr ⟨(hw _ (List.mem_of_getElem? (i := 324) rfl)), rfl, hnm⟩) (hw _ (List.mem_of_getElem? (i := 297) rfl)) (ty := (.object "java/lang/Object")) (by decide) rfl rfl (hb hby d58_16) rfl ?_
  intro T5 h5 X5 e5 W5
  have N5 := Fr.snoc X5 N3 nb
  have Z5 : n0 ≤ h5.size := Nat.le_trans Z3 (Keep.of_wr W5).1
  have OL5 := OL3.wr W5 nb
  have F5_a1 := F3_a1.set_e1 hw W5
  have K5 : Keep h0 h5 [a1] := K3.wr W5 (Or.inl (List.mem_of_getElem? (i := 0) rfl))
  refine own_retV X5 hx lk hret (hb hby d58_19) (by decide) (by decide) ?_
  rw [e5]
  exact ⟨rfl, N5, K5⟩
theorem d44_0 : decode jdk_44_method_2_code 0 = .ok (.aload_n 0, 1) := by decide +kernel
theorem d44_1 : decode jdk_44_method_2_code 1 = .ok (.invokespecial 1, 3) := by decide +kernel
theorem d44_4 : decode jdk_44_method_2_code 4 = .ok (.aload_n 0, 1) := by decide +kernel
theorem d44_5 : decode jdk_44_method_2_code 5 = .ok (.aload_n 1, 1) := by decide +kernel
theorem d44_6 : decode jdk_44_method_2_code 6 = .ok (.invokestatic 7, 3) := by decide +kernel
theorem d44_9 : decode jdk_44_method_2_code 9 = .ok (.putfield 13, 3) := by decide +kernel
theorem d44_12 : decode jdk_44_method_2_code 12 = .ok (.aload_n 0, 1) := by decide +kernel
theorem d44_13 : decode jdk_44_method_2_code 13 = .ok (.aload_n 2, 1) := by decide +kernel
theorem d44_14 : decode jdk_44_method_2_code 14 = .ok (.invokestatic 7, 3) := by decide +kernel
theorem d44_17 : decode jdk_44_method_2_code 17 = .ok (.putfield 24, 3) := by decide +kernel
theorem d44_20 : decode jdk_44_method_2_code 20 = .ok (.return_, 1) := by decide +kernel
theorem pn_44 : plainFor (⟨"java/util/ImmutableCollections$List12", "<init>", "(Ljava/lang/Object;Ljava/lang/Object;)V"⟩ : MethodName) = true := by first | exact plainFor_of_name (by first | (simp [plainName, overriddenIn]; done) | decide +kernel) | decide +kernel
theorem ef_44 (m : MethodId) (a1 : Addr) (a2 : Addr) (a3 : Addr) : entryFrame m #[(.ref a1), (.ref a2), (.ref a3)] 3 = mkF m 0 #[.val (.ref a1), .val (.ref a2), .val (.ref a3)] [] := by first | (simp [entryFrame, argsToLocals, Value.category, Array.replicate]; done) | rfl
theorem pd_44 : parseMethodDescriptor "(Ljava/lang/Object;Ljava/lang/Object;)V" = some ⟨[(.object "java/lang/Object"), (.object "java/lang/Object")], none⟩ := by decide +kernel
def Q44 (Z : State) (a1 : Addr) (a2 : Addr) (a3 : Addr)  (h0 : Heap) (n0 : Nat) (v : Option Value) (h : Heap) (L : List Loc) : Prop := v = none ∧ Fr n0 L ∧ Keep h0 h [a1]
theorem rm44 (l : Launch) (Z : State) (a0 : Array Value) (hw : ∀ d ∈ tables_1, d.before a0 Z = true) (ws : List Jvm.Cond) (a1 : Addr) (a2 : Addr) (a3 : Addr)  (h0 : Heap) (n0 : Nat) (Z0 : n0 ≤ h0.size) (cs : Int32) (dA pr eL eE : Addr) (TT : STT Z cs dA pr eL eE) (OL : Old Z n0 h0) (F0 : L12 Z h0 a1 .null .null) (nb : n0 ≤ a1) :
    MetFree l (⟨"java/util/ImmutableCollections$List12", "<init>", "(Ljava/lang/Object;Ljava/lang/Object;)V"⟩ : MethodName) (head1 (Jvm.Cond.code (⟨"java/util/ImmutableCollections$List12", "<init>", "(Ljava/lang/Object;Ljava/lang/Object;)V"⟩ : MethodName) jdk_44_method_2_code 3 (none) :: ws) ({ frames := 4, cells := 0, slots := 0, locals := 48 } : Room)) (fun a U => a = #[(.ref a1), (.ref a2), (.ref a3)] ∧ Z.Warmed39 U.vm ∧ U.heap = h0) (fun _ _ _ _ _ => True) (fun _ U o U' => ∃ v L, o = .returned v ∧ (Q44 Z a1 a2 a3  h0 n0) v U'.heap L ∧ FrameEnd U o U' L ({ frames := 4, cells := 0, slots := 0, locals := 48 } : Room).cells ({ frames := 4, cells := 0, slots := 0, locals := 48 } : Room).slots) := by
  refine MetFree.of_bodySF pn_44 hisR ?_
  intro p e s m args below meth c s₁ Bd hml0 hP hK
  obtain ⟨rfl, hZ, hh⟩ := hP
  have hx := Bd.exec
  have hby := Bd.bytes
  have hml : c.maxLocals = 3 := hml0
  have hown : s.vm.findClass "java/util/ImmutableCollections$List12" = some m.cls := findClass_of_methodNamed Bd.named
  have hnm := (name_of_methodNamed Bd.named Bd.method).1
  have X0 : Stand p l e ({ frames := 4, cells := 0, slots := 0, locals := 48 } : Room) s m #[(.ref a1), (.ref a2), (.ref a3)] below meth c s₁ [] 0 0 := Stand.of_body Bd
  have e0 : s₁.heap = h0 := by rw [← hh, Bd.state]; rfl
  have N0 := Fr.nil n0
  have lk : meth.locks = false := BodyLoose.notSynchronized Bd
  have hret := Bd.returns
  show Ends p e below (EF s ({ frames := 4, cells := 0, slots := 0, locals := 48 } : Room).cells ({ frames := 4, cells := 0, slots := 0, locals := 48 } : Room).slots) (Q44 Z a1 a2 a3  h0 n0) (s₁.setTop (entryFrame m #[(.ref a1), (.ref a2), (.ref a3)] 3))
  refine Ends.cast (ef_44 m a1 a2 a3) ?_
  refine own_aloadN (n := 1) X0 hx (hb hby d44_0) rfl rfl rfl ?_
  refine own_callN (n := 4) X0 hx hZ rfl hown (hw _ (List.mem_of_getElem? (i := 303) rfl)) (hw _ (List.mem_of_getElem? (i := 304) rfl)) (hw _ (List.mem_of_getElem? (i := 307) rfl)) (hw _ (List.mem_of_getElem? (i := 308) rfl)) (by decide) e0 (rm45 l Z a0 hw [] a1 h0 n0 Z0 ) (W := 0) (by decide) (by decide) (by decide) (by decide) (by rw [hml]; rfl) (argsL := []) (rest := []) pd_45 rfl (a := a1) (by rfl) (Nat.le_of_eq rfl) (hb hby d44_1) rfl rfl ?_
  intro v1 T1 h1 L1 X1 e1 q1
  obtain ⟨rfl, M1, rfl⟩ := q1
  have N1 := Fr.app N0 M1
  refine own_aloadN (n := 5) X1 hx (hb hby d44_4) rfl rfl rfl ?_
  refine own_aloadN (n := 6) X1 hx (hb hby d44_5) rfl rfl rfl ?_
  refine own_callS (n := 9) X1 hx hZ hown (hw _ (List.mem_of_getElem? (i := 317) rfl)) (hw _ (List.mem_of_getElem? (i := 318) rfl)) (hw _ (List.mem_of_getElem? (i := 319) rfl)) (hw _ (List.mem_of_getElem? (i := 320) rfl)) (by decide) e1 (rm47 l Z a0 hw [] a2 h0 n0 Z0 ) (W := 1) (by decide) (by decide) (by decide) (by decide) (by rw [hml]; rfl) (argsL := [(.ref a2)]) (rest := [(.ref a1)]) pd_47 rfl (by rfl) (Nat.le_of_eq rfl) (hb hby d44_6) rfl rfl ?_
  intro v2 T2 h2 L2 X2 e2 q2
  obtain ⟨rfl, M2, rfl⟩ := q2
  have N2 := Fr.app N1 M2
  refine own_putF (n := 12) X2 hx hZ hown (hw _ (List.mem_of_getElem? (i := 321) rfl)) e2 F0.2.1 F0.1 (Or.inr ⟨(hw _ (List.mem_of_getElem? (i := 322) rfl)), rfl, hnm⟩) (hw _ (List.mem_of_getElem? (i := 297) rfl)) (ty := (.object "java/lang/Object")) (by decide) rfl rfl (hb hby d44_9) rfl ?_
  intro T3 h3 X3 e3 W3
  have N3 := Fr.snoc X3 N2 nb
  have Z3 : n0 ≤ h3.size := Nat.le_trans Z0 (Keep.of_wr W3).1
  have OL3 := OL.wr W3 nb
  have F3_a1 := F0.set_e0 hw W3
  have K3 : Keep h0 h3 [a1] := (Keep.refl h0 [a1]).wr W3 (Or.inl (List.mem_of_getElem? (i := 0) rfl))
  refine own_aloadN (n := 13) X3 hx (hb hby d44_12) rfl rfl rfl ?_
  refine own_aloadN (n := 14) X3 hx (hb hby d44_13) rfl rfl rfl ?_
  refine own_callS (n := 17) X3 hx hZ hown (hw _ (List.mem_of_getElem? (i := 317) rfl)) (hw _ (List.mem_of_getElem? (i := 318) rfl)) (hw _ (List.mem_of_getElem? (i := 319) rfl)) (hw _ (List.mem_of_getElem? (i := 320) rfl)) (by decide) e3 (rm47 l Z a0 hw [] a3 h3 n0 Z3 ) (W := 1) (by decide) (by decide) (by decide) (by decide) (by rw [hml]; rfl) (argsL := [(.ref a3)]) (rest := [(.ref a1)]) pd_47 rfl (by rfl) (Nat.le_of_eq rfl) (hb hby d44_14) rfl rfl ?_
  intro v4 T4 h4 L4 X4 e4 q4
  obtain ⟨rfl, M4, rfl⟩ := q4
  have N4 := Fr.app N3 M4
  refine own_putF (n := 20) X4 hx hZ hown (hw _ (List.mem_of_getElem? (i := 323) rfl)) e4 F3_a1.2.2 F3_a1.1 (Or.inr ⟨(hw _ (List.mem_of_getElem? (i := 324) rfl)), rfl, hnm⟩) (hw _ (List.mem_of_getElem? (i := 297) rfl)) (ty := (.object "java/lang/Object")) (by decide) rfl rfl (hb hby d44_17) rfl ?_
  intro T5 h5 X5 e5 W5
  have N5 := Fr.snoc X5 N4 nb
  have Z5 : n0 ≤ h5.size := Nat.le_trans Z3 (Keep.of_wr W5).1
  have OL5 := OL3.wr W5 nb
  have F5_a1 := F3_a1.set_e1 hw W5
  have K5 : Keep h0 h5 [a1] := K3.wr W5 (Or.inl (List.mem_of_getElem? (i := 0) rfl))
  refine own_retV X5 hx lk hret (hb hby d44_20) (by decide) (by decide) ?_
  rw [e5]
  exact ⟨rfl, N5, K5⟩
theorem d57_0 : decode jdk_45_method_1_code 0 = .ok (.aload_n 0, 1) := by decide +kernel
theorem d57_1 : decode jdk_45_method_1_code 1 = .ok (.invokespecial 1, 3) := by decide +kernel
theorem d57_4 : decode jdk_45_method_1_code 4 = .ok (.aload_n 0, 1) := by decide +kernel
theorem d57_5 : decode jdk_45_method_1_code 5 = .ok (.aload_n 1, 1) := by decide +kernel
theorem d57_6 : decode jdk_45_method_1_code 6 = .ok (.putfield 7, 3) := by decide +kernel
theorem d57_9 : decode jdk_45_method_1_code 9 = .ok (.aload_n 0, 1) := by decide +kernel
theorem d57_10 : decode jdk_45_method_1_code 10 = .ok (.iload_n 2, 1) := by decide +kernel
theorem d57_11 : decode jdk_45_method_1_code 11 = .ok (.putfield 13, 3) := by decide +kernel
theorem d57_14 : decode jdk_45_method_1_code 14 = .ok (.return_, 1) := by decide +kernel
theorem pn_57 : plainFor (⟨"java/util/ImmutableCollections$ListN", "<init>", "([Ljava/lang/Object;Z)V"⟩ : MethodName) = true := by first | exact plainFor_of_name (by first | (simp [plainName, overriddenIn]; done) | decide +kernel) | decide +kernel
theorem ef_57 (m : MethodId) (a1 : Addr) (a2 : Addr) (p3 : Int32) : entryFrame m #[(.ref a1), (.ref a2), (.int p3)] 3 = mkF m 0 #[.val (.ref a1), .val (.ref a2), .val (.int p3)] [] := by first | (simp [entryFrame, argsToLocals, Value.category, Array.replicate]; done) | rfl
theorem pd_57 : parseMethodDescriptor "([Ljava/lang/Object;Z)V" = some ⟨[(.array (.object "java/lang/Object")), .boolean], none⟩ := by decide +kernel
def Q57 (Z : State) (a1 : Addr) (a2 : Addr) (p3 : Int32)  (h0 : Heap) (n0 : Nat) (v : Option Value) (h : Heap) (L : List Loc) : Prop := v = none ∧ Fr n0 L ∧ Keep h0 h [a1]
theorem rm57 (l : Launch) (Z : State) (a0 : Array Value) (hw : ∀ d ∈ tables_1, d.before a0 Z = true) (ws : List Jvm.Cond) (a1 : Addr) (a2 : Addr) (p3 : Int32)  (h0 : Heap) (n0 : Nat) (Z0 : n0 ≤ h0.size) (F0 : LN Z h0 a1 .null 0) (nb : n0 ≤ a1) (zp3 : p3 = 0) :
    MetFree l (⟨"java/util/ImmutableCollections$ListN", "<init>", "([Ljava/lang/Object;Z)V"⟩ : MethodName) (head1 (Jvm.Cond.code (⟨"java/util/ImmutableCollections$ListN", "<init>", "([Ljava/lang/Object;Z)V"⟩ : MethodName) jdk_45_method_1_code 3 (none) :: ws) ({ frames := 4, cells := 0, slots := 0, locals := 48 } : Room)) (fun a U => a = #[(.ref a1), (.ref a2), (.int p3)] ∧ Z.Warmed39 U.vm ∧ U.heap = h0) (fun _ _ _ _ _ => True) (fun _ U o U' => ∃ v L, o = .returned v ∧ (Q57 Z a1 a2 p3  h0 n0) v U'.heap L ∧ FrameEnd U o U' L ({ frames := 4, cells := 0, slots := 0, locals := 48 } : Room).cells ({ frames := 4, cells := 0, slots := 0, locals := 48 } : Room).slots) := by
  refine MetFree.of_bodySF pn_57 hisR ?_
  intro p e s m args below meth c s₁ Bd hml0 hP hK
  obtain ⟨rfl, hZ, hh⟩ := hP
  have hx := Bd.exec
  have hby := Bd.bytes
  have hml : c.maxLocals = 3 := hml0
  have hown : s.vm.findClass "java/util/ImmutableCollections$ListN" = some m.cls := findClass_of_methodNamed Bd.named
  have hnm := (name_of_methodNamed Bd.named Bd.method).1
  have X0 : Stand p l e ({ frames := 4, cells := 0, slots := 0, locals := 48 } : Room) s m #[(.ref a1), (.ref a2), (.int p3)] below meth c s₁ [] 0 0 := Stand.of_body Bd
  have e0 : s₁.heap = h0 := by rw [← hh, Bd.state]; rfl
  have N0 := Fr.nil n0
  have lk : meth.locks = false := BodyLoose.notSynchronized Bd
  have hret := Bd.returns
  show Ends p e below (EF s ({ frames := 4, cells := 0, slots := 0, locals := 48 } : Room).cells ({ frames := 4, cells := 0, slots := 0, locals := 48 } : Room).slots) (Q57 Z a1 a2 p3  h0 n0) (s₁.setTop (entryFrame m #[(.ref a1), (.ref a2), (.int p3)] 3))
  refine Ends.cast (ef_57 m a1 a2 p3) ?_
  refine own_aloadN (n := 1) X0 hx (hb hby d57_0) rfl rfl rfl ?_
  refine own_callN (n := 4) X0 hx hZ rfl hown (hw _ (List.mem_of_getElem? (i := 381) rfl)) (hw _ (List.mem_of_getElem? (i := 304) rfl)) (hw _ (List.mem_of_getElem? (i := 307) rfl)) (hw _ (List.mem_of_getElem? (i := 308) rfl)) (by decide) e0 (rm45 l Z a0 hw [] a1 h0 n0 Z0 ) (W := 0) (by decide) (by decide) (by decide) (by decide) (by rw [hml]; rfl) (argsL := []) (rest := []) pd_45 rfl (a := a1) (by rfl) (Nat.le_of_eq rfl) (hb hby d57_1) rfl rfl ?_
  intro v1 T1 h1 L1 X1 e1 q1
  obtain ⟨rfl, M1, rfl⟩ := q1
  have N1 := Fr.app N0 M1
  refine own_aloadN (n := 5) X1 hx (hb hby d57_4) rfl rfl rfl ?_
  refine own_aloadN (n := 6) X1 hx (hb hby d57_5) rfl rfl rfl ?_
  refine own_putF (n := 9) X1 hx hZ hown (hw _ (List.mem_of_getElem? (i := 385) rfl)) e1 F0.2.1 F0.1 (Or.inr ⟨(hw _ (List.mem_of_getElem? (i := 386) rfl)), rfl, hnm⟩) (hw _ (List.mem_of_getElem? (i := 375) rfl)) (ty := (.array (.object "java/lang/Object"))) (by decide) rfl rfl (hb hby d57_6) rfl ?_
  intro T2 h2 X2 e2 W2
  have N2 := Fr.snoc X2 N1 nb
  have Z2 : n0 ≤ h2.size := Nat.le_trans Z0 (Keep.of_wr W2).1
  have F2_a1 := F0.set_elements hw W2
  have K2 : Keep h0 h2 [a1] := (Keep.refl h0 [a1]).wr W2 (Or.inl (List.mem_of_getElem? (i := 0) rfl))
  refine own_aloadN (n := 10) X2 hx (hb hby d57_9) rfl rfl rfl ?_
  refine own_iloadN (n := 11) X2 hx (hb hby d57_10) rfl rfl ?_
  refine own_putF (n := 14) X2 hx hZ hown (hw _ (List.mem_of_getElem? (i := 387) rfl)) e2 F2_a1.2.2 F2_a1.1 (Or.inr ⟨(hw _ (List.mem_of_getElem? (i := 388) rfl)), rfl, hnm⟩) (hw _ (List.mem_of_getElem? (i := 375) rfl)) (ty := .boolean) (by decide) (by rw [zp3]; rfl) (by rw [zp3]; rfl) (hb hby d57_11) rfl ?_
  intro T3 h3 X3 e3 W3
  have N3 := Fr.snoc X3 N2 nb
  have Z3 : n0 ≤ h3.size := Nat.le_trans Z2 (Keep.of_wr W3).1
  have F3_a1 := F2_a1.set_allowNulls hw W3
  have K3 : Keep h0 h3 [a1] := K2.wr W3 (Or.inl (List.mem_of_getElem? (i := 0) rfl))
  refine own_retV X3 hx lk hret (hb hby d57_14) (by decide) (by decide) ?_
  rw [e3]
  exact ⟨rfl, N3, K3⟩
theorem d56_0 : decode jdk_56_method_4_code 0 = .ok (.aload_n 0, 1) := by decide +kernel
theorem d56_1 : decode jdk_56_method_4_code 1 = .ok (.arraylength, 1) := by decide +kernel
theorem d56_2 : decode jdk_56_method_4_code 2 = .ok (.anewarray 2, 3) := by decide +kernel
theorem d56_5 : decode jdk_56_method_4_code 5 = .ok (.astore_n 1, 1) := by decide +kernel
theorem d56_6 : decode jdk_56_method_4_code 6 = .ok (.iconst 0, 1) := by decide +kernel
theorem d56_7 : decode jdk_56_method_4_code 7 = .ok (.istore_n 2, 1) := by decide +kernel
theorem d56_8 : decode jdk_56_method_4_code 8 = .ok (.iload_n 2, 1) := by decide +kernel
theorem d56_9 : decode jdk_56_method_4_code 9 = .ok (.aload_n 0, 1) := by decide +kernel
theorem d56_10 : decode jdk_56_method_4_code 10 = .ok (.arraylength, 1) := by decide +kernel
theorem d56_11 : decode jdk_56_method_4_code 11 = .ok (.if_icmp .ge 18, 3) := by decide +kernel
theorem d56_14 : decode jdk_56_method_4_code 14 = .ok (.aload_n 1, 1) := by decide +kernel
theorem d56_15 : decode jdk_56_method_4_code 15 = .ok (.iload_n 2, 1) := by decide +kernel
theorem d56_16 : decode jdk_56_method_4_code 16 = .ok (.aload_n 0, 1) := by decide +kernel
theorem d56_17 : decode jdk_56_method_4_code 17 = .ok (.iload_n 2, 1) := by decide +kernel
theorem d56_18 : decode jdk_56_method_4_code 18 = .ok (.aaload, 1) := by decide +kernel
theorem d56_19 : decode jdk_56_method_4_code 19 = .ok (.invokestatic 37, 3) := by decide +kernel
theorem d56_22 : decode jdk_56_method_4_code 22 = .ok (.aastore, 1) := by decide +kernel
theorem d56_23 : decode jdk_56_method_4_code 23 = .ok (.iinc 2 1, 3) := by decide +kernel
theorem d56_26 : decode jdk_56_method_4_code 26 = .ok (.goto (-18), 3) := by decide +kernel
theorem d56_29 : decode jdk_56_method_4_code 29 = .ok (.new 12, 3) := by decide +kernel
theorem d56_32 : decode jdk_56_method_4_code 32 = .ok (.dup, 1) := by decide +kernel
theorem d56_33 : decode jdk_56_method_4_code 33 = .ok (.aload_n 1, 1) := by decide +kernel
theorem d56_34 : decode jdk_56_method_4_code 34 = .ok (.iconst 0, 1) := by decide +kernel
theorem d56_35 : decode jdk_56_method_4_code 35 = .ok (.invokespecial 43, 3) := by decide +kernel
theorem d56_38 : decode jdk_56_method_4_code 38 = .ok (.areturn, 1) := by decide +kernel
theorem pn_56 : plainFor (⟨"java/util/ImmutableCollections", "listFromArray", "([Ljava/lang/Object;)Ljava/util/List;"⟩ : MethodName) = true := by first | exact plainFor_of_name (by first | (simp [plainName, overriddenIn]; done) | decide +kernel) | decide +kernel
theorem ef_56 (m : MethodId) (a1 : Addr) : entryFrame m #[(.ref a1)] 3 = mkF m 0 #[.val (.ref a1), .unset, .unset] [] := by first | (simp [entryFrame, argsToLocals, Value.category, Array.replicate]; done) | rfl
theorem pd_56 : parseMethodDescriptor "([Ljava/lang/Object;)Ljava/util/List;" = some ⟨[(.array (.object "java/lang/Object"))], some (.object "java/util/List")⟩ := by decide +kernel
def Q56 (Z : State) (a1 : Addr)  (h0 : Heap) (n0 : Nat) (v : Option Value) (h : Heap) (L : List Loc) : Prop := ∃ a, v = some (.ref a) ∧ Fr n0 L ∧ Keep h0 h []
theorem rm56 (l : Launch) (Z : State) (a0 : Array Value) (hw : ∀ d ∈ tables_1, d.before a0 Z = true) (ws : List Jvm.Cond) (a1 : Addr)  (h0 : Heap) (n0 : Nat) (Z0 : n0 ≤ h0.size) (cs : Int32) (dA pr eL eE : Addr) (TT : STT Z cs dA pr eL eE) (OL : Old Z n0 h0) (n : Nat) (t : Nat → Value) (key : Nat → Addr) (RT : RA Z h0 a1 "java/lang/Object" n t) (ht : ∀ j, j < n → t j = .ref (key j)) (hE : ∀ j, j < n → Exa Z h0 (key j) "java/lang/String") (hn4 : n ≤ 4) :
    MetFree l (⟨"java/util/ImmutableCollections", "listFromArray", "([Ljava/lang/Object;)Ljava/util/List;"⟩ : MethodName) (head1 (Jvm.Cond.code (⟨"java/util/ImmutableCollections", "listFromArray", "([Ljava/lang/Object;)Ljava/util/List;"⟩ : MethodName) jdk_56_method_4_code 3 (some (.object "java/util/List")) :: ws) ({ frames := 5, cells := 2, slots := 6, locals := 63 } : Room)) (fun a U => a = #[(.ref a1)] ∧ Z.Warmed39 U.vm ∧ U.heap = h0) (fun _ _ _ _ _ => True) (fun _ U o U' => ∃ v L, o = .returned v ∧ (Q56 Z a1  h0 n0) v U'.heap L ∧ FrameEnd U o U' L ({ frames := 5, cells := 2, slots := 6, locals := 63 } : Room).cells ({ frames := 5, cells := 2, slots := 6, locals := 63 } : Room).slots) := by
  refine MetFree.of_bodySF pn_56 hisR ?_
  intro p e s m args below meth c s₁ Bd hml0 hP hK
  obtain ⟨rfl, hZ, hh⟩ := hP
  have hx := Bd.exec
  have hby := Bd.bytes
  have hml : c.maxLocals = 3 := hml0
  have hown : s.vm.findClass "java/util/ImmutableCollections" = some m.cls := findClass_of_methodNamed Bd.named
  have hnm := (name_of_methodNamed Bd.named Bd.method).1
  have X0 : Stand p l e ({ frames := 5, cells := 2, slots := 6, locals := 63 } : Room) s m #[(.ref a1)] below meth c s₁ [] 0 0 := Stand.of_body Bd
  have e0 : s₁.heap = h0 := by rw [← hh, Bd.state]; rfl
  have N0 := Fr.nil n0
  have lk : meth.locks = false := BodyLoose.notSynchronized Bd
  have hret := Bd.returns
  show Ends p e below (EF s ({ frames := 5, cells := 2, slots := 6, locals := 63 } : Room).cells ({ frames := 5, cells := 2, slots := 6, locals := 63 } : Room).slots) (Q56 Z a1  h0 n0) (s₁.setTop (entryFrame m #[(.ref a1)] 3))
  refine Ends.cast (ef_56 m a1) ?_
  have loop : ∀ (mm : Nat) (TB : State) (hB : Heap) (lB : List Loc) (d : Addr) (ii : Int32) (i : Nat) (td : Nat → Value) (XB : Stand p l e ({ frames := 5, cells := 2, slots := 6, locals := 63 } : Room) s m #[(.ref a1)] below meth c TB lB (0 + 1) (0 + 4)) (eB : TB.heap = hB) (NB : Fr n0 lB) (ZB : n0 ≤ hB.size) (hii : ii.toInt = (i : Int)) (hin : i + mm = n) (OB : Old Z n0 hB) (RA1 : RA Z hB a1 "java/lang/Object" n t) (RD : RA Z hB d "java/lang/Object" n td) (hne : a1 ≠ d) (nd : n0 ≤ d) (bd : h0.size ≤ d) (KB : Keep h0 hB []), Ends p e below (EF s ({ frames := 5, cells := 2, slots := 6, locals := 63 } : Room).cells ({ frames := 5, cells := 2, slots := 6, locals := 63 } : Room).slots) (Q56 Z a1  h0 n0) (TB.setTop (mkF m 8 #[.val (.ref a1), .val (.ref d), .val (.int ii)] [])) := by
    intro mm
    induction mm with
    | zero =>
      intro TB hB lB d ii i td XB eB NB ZB hii hin OB RA1 RD hne nd bd KB
      refine own_iloadN (n := 9) XB hx (hb hby d56_8) rfl rfl ?_
      refine own_aloadN (n := 10) XB hx (hb hby d56_9) rfl rfl rfl ?_
      refine own_arraylength (n := 11) XB hx hZ eB RA1.va (v := (Nat.toInt32 n)) (len_toInt (by omega)) (hb hby d56_10) rfl ?_
      refine own_icmpYes (n := 29) XB hx (hb hby d56_11) (Jvm.Free.XT.ii_ge_t (by rw [Int32.lt_iff_toInt_lt, len_toInt (by omega)]; omega)) (by decide) (by decide) ?_
      refine own_newO (n := 32) XB hx hZ hown (hw _ (List.mem_of_getElem? (i := 181) rfl)) (hw _ (List.mem_of_getElem? (i := 375) rfl)) (hw _ (List.mem_of_getElem? (i := 376) rfl)) eB (by decide) (by decide) (hb hby d56_29) rfl ?_
      intro T1 h1 b1 X1 e1 g1 E1 A1 D1
      have Z1 : n0 ≤ h1.size := Nat.le_trans ZB E1.1
      have nb_b1 : n0 ≤ b1 := Nat.le_trans ZB (Nat.le_of_eq g1.symm)
      have OL1 := OB.ext E1
      have ne_a1_b1 : a1 ≠ b1 := Nat.ne_of_lt (Nat.lt_of_lt_of_le RA1.lt (Nat.le_of_eq g1.symm))
      have F1_a1 := RA1.ext E1
      have ne_d_b1 : d ≠ b1 := Nat.ne_of_lt (Nat.lt_of_lt_of_le RD.lt (Nat.le_of_eq g1.symm))
      have F1_d := RD.ext E1
      have K1 : Keep h0 h1 [] := KB.ext E1
      have big_b1 : h0.size ≤ b1 := Nat.le_trans KB.1 (Nat.le_of_eq g1.symm)
      have N1_b1 : LN Z h1 b1 (.null) (0) := ⟨A1, D1 (Or.inr (hw _ (List.mem_of_getElem? (i := 386) rfl))) (ty := (.array (.object "java/lang/Object"))) (by decide), D1 (Or.inr (hw _ (List.mem_of_getElem? (i := 388) rfl))) (ty := .boolean) (by decide)⟩
      refine own_dup (n := 33) X1 hx (hb hby d56_32) rfl rfl ?_
      refine own_aloadN (n := 34) X1 hx (hb hby d56_33) rfl rfl rfl ?_
      refine own_iconst (n := 35) X1 hx (0 : Int32) (hb hby d56_34) rfl rfl ?_
      refine own_callNN (n := 38) X1 hx hZ rfl hown (hw _ (List.mem_of_getElem? (i := 377) rfl)) (hw _ (List.mem_of_getElem? (i := 378) rfl)) (hw _ (List.mem_of_getElem? (i := 376) rfl)) (hw _ (List.mem_of_getElem? (i := 380) rfl)) (by decide) e1 (rm57 l Z a0 hw [] b1 d 0 h1 n0 Z1 N1_b1 nb_b1 rfl) (W := 1) (by decide) (by decide) (by decide) (by decide) (by rw [hml]; rfl) (argsL := [(.ref d), (.int (0 : Int32))]) (rest := [(.ref b1)]) pd_57 rfl (a := b1) (by rfl) (Nat.le_of_eq rfl) (hb hby d56_35) rfl rfl ?_
      intro v2 T2 h2 L2 X2 e2 q2
      obtain ⟨rfl, M2, K2⟩ := q2
      have N2 := Fr.app NB M2
      have Z2 : n0 ≤ h2.size := Nat.le_trans Z1 K2.1
      have OL2 := OL1.keep K2 (allS nb_b1 all0)
      have F2_a1 := F1_a1.keep K2 (ninS ne_a1_b1 nin0)
      have F2_d := F1_d.keep K2 (ninS ne_d_b1 nin0)
      have KK2 := K1.trans K2 (fun z hz => by cases List.mem_singleton.mp hz; exact Or.inr big_b1)
      refine own_retA X2 hx lk hret rfl rfl (hb hby d56_38) (by decide) (by decide) ?_
      rw [e2]
      exact ⟨_, rfl, N2, KK2⟩
    | succ mm ih =>
      intro TB hB lB d ii i td XB eB NB ZB hii hin OB RA1 RD hne nd bd KB
      refine own_iloadN (n := 9) XB hx (hb hby d56_8) rfl rfl ?_
      refine own_aloadN (n := 10) XB hx (hb hby d56_9) rfl rfl rfl ?_
      refine own_arraylength (n := 11) XB hx hZ eB RA1.va (v := (Nat.toInt32 n)) (len_toInt (by omega)) (hb hby d56_10) rfl ?_
      refine own_icmpNo (n := 14) XB hx (hb hby d56_11) (Jvm.Free.XT.ii_ge_f (by rw [Int32.lt_iff_toInt_lt, len_toInt (by omega)]; omega)) rfl ?_
      refine own_aloadN (n := 15) XB hx (hb hby d56_14) rfl rfl rfl ?_
      refine own_iloadN (n := 16) XB hx (hb hby d56_15) rfl rfl ?_
      refine own_aloadN (n := 17) XB hx (hb hby d56_16) rfl rfl rfl ?_
      refine own_iloadN (n := 18) XB hx (hb hby d56_17) rfl rfl ?_
      refine own_aaload (n := 19) XB hx hZ eB RA1 (i := i) hii (by omega) (v := (.ref (key i))) (ht i (by omega)) (hb hby d56_18) rfl ?_
      refine own_callS (n := 22) XB hx hZ hown (hw _ (List.mem_of_getElem? (i := 374) rfl)) (hw _ (List.mem_of_getElem? (i := 318) rfl)) (hw _ (List.mem_of_getElem? (i := 319) rfl)) (hw _ (List.mem_of_getElem? (i := 320) rfl)) (by decide) eB (rm47 l Z a0 hw [] (key i) hB n0 ZB ) (W := 2) (by decide) (by decide) (by decide) (by decide) (by rw [hml]; rfl) (argsL := [(.ref (key i))]) (rest := [(.int ii), (.ref d)]) pd_47 rfl (by rfl) (Nat.le_of_eq rfl) (hb hby d56_19) rfl rfl ?_
      intro v3 T3 h3 L3 X3 e3 q3
      obtain ⟨rfl, M3, rfl⟩ := q3
      have N3 := Fr.app NB M3
      refine own_aastore (n := 23) X3 hx hZ e3 RD (Ins.of_exa ((hE i (by omega)).keep KB) (hw _ (List.mem_of_getElem? (i := 262) rfl))) (i := i) hii (by omega) (hb hby d56_22) rfl ?_
      intro T4 h4 X4 e4 W4 A4
      have N4 := Fr.snoc X4 N3 nd
      have Z4 : n0 ≤ h4.size := Nat.le_trans ZB (Keep.of_wr W4).1
      have OL4 := OB.wr W4 nd
      have F4_a1 := RA1.wrO W4 hne
      have K4 : Keep h0 h4 [] := KB.wr W4 (Or.inr bd)
      refine own_iinc (n := 26) X4 hx (hb hby d56_23) rfl (v := (1 : Int32)) rfl (l' := #[.val (.ref a1), .val (.ref d), .val (.int (ii + (1 : Int32)))]) rfl rfl ?_
      refine own_goto (n := 8) X4 hx (hb hby d56_26) (by decide) (by decide) ?_
      show Ends p e below (EF s ({ frames := 5, cells := 2, slots := 6, locals := 63 } : Room).cells ({ frames := 5, cells := 2, slots := 6, locals := 63 } : Room).slots) (Q56 Z a1  h0 n0) (T4.setTop (mkF m 8 #[.val (.ref a1), .val (.ref d), .val (.int (ii + (1 : Int32)))] []))
      exact ih _ _ _ d _ (i + 1) _ X4 e4 N4 Z4 (own_add1 hii (by omega)) (by omega) OL4 F4_a1 A4 hne nd bd K4
  refine own_aloadN (n := 1) X0 hx (hb hby d56_0) rfl rfl rfl ?_
  refine own_arraylength (n := 2) X0 hx hZ e0 RT.va (v := (Nat.toInt32 n)) (len_toInt (by omega)) (hb hby d56_1) rfl ?_
  refine own_newR (n := 5) X0 hx hZ hown (hw _ (List.mem_of_getElem? (i := 373) rfl)) (hw _ (List.mem_of_getElem? (i := 261) rfl)) e0 (i := n) (cap := 4) (len_toInt (by omega)) hn4 (by decide) (by decide) (by decide) (hb hby d56_2) rfl ?_
  intro T5 h5 b5 X5 e5 g5 E5 A5
  have Z5 : n0 ≤ h5.size := Nat.le_trans Z0 E5.1
  have nb_b5 : n0 ≤ b5 := Nat.le_trans Z0 (Nat.le_of_eq g5.symm)
  have OL5 := OL.ext E5
  have ne_a1_b5 : a1 ≠ b5 := Nat.ne_of_lt (Nat.lt_of_lt_of_le RT.lt (Nat.le_of_eq g5.symm))
  have F5_a1 := RT.ext E5
  have K5 : Keep h0 h5 [] := (Keep.refl h0 []).ext E5
  have big_b5 : h0.size ≤ b5 := Nat.le_trans (Keep.refl h0 []).1 (Nat.le_of_eq g5.symm)
  refine own_astoreN (n := 6) X5 hx (hb hby d56_5) rfl (l' := #[.val (.ref a1), .val (.ref b5), .unset]) rfl rfl ?_
  refine own_iconst (n := 7) X5 hx (0 : Int32) (hb hby d56_6) rfl rfl ?_
  refine own_istoreN (n := 8) X5 hx (hb hby d56_7) (l' := #[.val (.ref a1), .val (.ref b5), .val (.int (0 : Int32))]) rfl rfl ?_
  show Ends p e below (EF s ({ frames := 5, cells := 2, slots := 6, locals := 63 } : Room).cells ({ frames := 5, cells := 2, slots := 6, locals := 63 } : Room).slots) (Q56 Z a1  h0 n0) (T5.setTop (mkF m 8 #[.val (.ref a1), .val (.ref b5), .val (.int (0 : Int32))] []))
  exact loop n _ _ _ b5 _ 0 _ X5 e5 N0 Z5 rfl (by omega) OL5 F5_a1 A5 ne_a1_b5 nb_b5 big_b5 K5
theorem d28_0 : decode jdk_40_method_36_code 0 = .ok (.getstatic 90, 3) := by decide +kernel
theorem d28_3 : decode jdk_40_method_36_code 3 = .ok (.areturn, 1) := by decide +kernel
theorem pn_28 : plainFor (⟨"java/util/List", "of", "()Ljava/util/List;"⟩ : MethodName) = true := by first | exact plainFor_of_name (by first | (simp [plainName, overriddenIn]; done) | decide +kernel) | decide +kernel
theorem ef_28 (m : MethodId)  : entryFrame m #[] 0 = mkF m 0 #[] [] := by first | (simp [entryFrame, argsToLocals, Value.category, Array.replicate]; done) | rfl
theorem pd_28 : parseMethodDescriptor "()Ljava/util/List;" = some ⟨[], some (.object "java/util/List")⟩ := by decide +kernel
def Q28 (Z : State)   (h0 : Heap) (n0 : Nat) (v : Option Value) (h : Heap) (L : List Loc) : Prop := ∃ a, v = some (.ref a) ∧ Fr n0 L ∧ Keep h0 h []
theorem rm28 (l : Launch) (Z : State) (a0 : Array Value) (hw : ∀ d ∈ tables_1, d.before a0 Z = true) (ws : List Jvm.Cond)   (h0 : Heap) (n0 : Nat) (Z0 : n0 ≤ h0.size) (cs : Int32) (dA pr eL eE : Addr) (TT : STT Z cs dA pr eL eE) (OL : Old Z n0 h0) :
    MetFree l (⟨"java/util/List", "of", "()Ljava/util/List;"⟩ : MethodName) (head1 (Jvm.Cond.code (⟨"java/util/List", "of", "()Ljava/util/List;"⟩ : MethodName) jdk_40_method_36_code 0 (some (.object "java/util/List")) :: ws) ({ frames := 0, cells := 0, slots := 0, locals := 0 } : Room)) (fun a U => a = #[] ∧ Z.Warmed39 U.vm ∧ U.heap = h0) (fun _ _ _ _ _ => True) (fun _ U o U' => ∃ v L, o = .returned v ∧ (Q28 Z   h0 n0) v U'.heap L ∧ FrameEnd U o U' L ({ frames := 0, cells := 0, slots := 0, locals := 0 } : Room).cells ({ frames := 0, cells := 0, slots := 0, locals := 0 } : Room).slots) := by
  refine MetFree.of_bodySF pn_28 hisR ?_
  intro p e s m args below meth c s₁ Bd hml0 hP hK
  obtain ⟨rfl, hZ, hh⟩ := hP
  have hx := Bd.exec
  have hby := Bd.bytes
  have hml : c.maxLocals = 0 := hml0
  have hown : s.vm.findClass "java/util/List" = some m.cls := findClass_of_methodNamed Bd.named
  have hnm := (name_of_methodNamed Bd.named Bd.method).1
  have X0 : Stand p l e ({ frames := 0, cells := 0, slots := 0, locals := 0 } : Room) s m #[] below meth c s₁ [] 0 0 := Stand.of_body Bd
  have e0 : s₁.heap = h0 := by rw [← hh, Bd.state]; rfl
  have N0 := Fr.nil n0
  have lk : meth.locks = false := BodyLoose.notSynchronized Bd
  have hret := Bd.returns
  show Ends p e below (EF s ({ frames := 0, cells := 0, slots := 0, locals := 0 } : Room).cells ({ frames := 0, cells := 0, slots := 0, locals := 0 } : Room).slots) (Q28 Z   h0 n0) (s₁.setTop (entryFrame m #[] 0))
  refine Ends.cast (ef_28 m ) ?_
  refine own_getS (n := 3) X0 hx hZ hown (hw _ (List.mem_of_getElem? (i := 196) rfl)) e0 (TT.2.2.2.2.2.2.2.2.1.ext OL.2) (hb hby d28_0) rfl ?_
  intro T1 X1 e1
  refine own_retA X1 hx lk hret rfl rfl (hb hby d28_3) (by decide) (by decide) ?_
  rw [e1]
  exact ⟨_, rfl, N0, (Keep.refl h0 [])⟩
theorem d43_0 : decode jdk_40_method_47_code 0 = .ok (.aload_n 0, 1) := by decide +kernel
theorem d43_1 : decode jdk_40_method_47_code 1 = .ok (.arraylength, 1) := by decide +kernel
theorem d43_2 : decode jdk_40_method_47_code 2 = .ok (.tableswitch 57 0 2 #[26, 32, 43], 26) := by decide +kernel
theorem d43_28 : decode jdk_40_method_47_code 28 = .ok (.getstatic 90, 3) := by decide +kernel
theorem d43_31 : decode jdk_40_method_47_code 31 = .ok (.astore_n 1, 1) := by decide +kernel
theorem d43_32 : decode jdk_40_method_47_code 32 = .ok (.aload_n 1, 1) := by decide +kernel
theorem d43_33 : decode jdk_40_method_47_code 33 = .ok (.areturn, 1) := by decide +kernel
theorem d43_34 : decode jdk_40_method_47_code 34 = .ok (.new 96, 3) := by decide +kernel
theorem d43_37 : decode jdk_40_method_47_code 37 = .ok (.dup, 1) := by decide +kernel
theorem d43_38 : decode jdk_40_method_47_code 38 = .ok (.aload_n 0, 1) := by decide +kernel
theorem d43_39 : decode jdk_40_method_47_code 39 = .ok (.iconst 0, 1) := by decide +kernel
theorem d43_40 : decode jdk_40_method_47_code 40 = .ok (.aaload, 1) := by decide +kernel
theorem d43_41 : decode jdk_40_method_47_code 41 = .ok (.invokespecial 98, 3) := by decide +kernel
theorem d43_44 : decode jdk_40_method_47_code 44 = .ok (.areturn, 1) := by decide +kernel
theorem d43_45 : decode jdk_40_method_47_code 45 = .ok (.new 96, 3) := by decide +kernel
theorem d43_48 : decode jdk_40_method_47_code 48 = .ok (.dup, 1) := by decide +kernel
theorem d43_49 : decode jdk_40_method_47_code 49 = .ok (.aload_n 0, 1) := by decide +kernel
theorem d43_50 : decode jdk_40_method_47_code 50 = .ok (.iconst 0, 1) := by decide +kernel
theorem d43_51 : decode jdk_40_method_47_code 51 = .ok (.aaload, 1) := by decide +kernel
theorem d43_52 : decode jdk_40_method_47_code 52 = .ok (.aload_n 0, 1) := by decide +kernel
theorem d43_53 : decode jdk_40_method_47_code 53 = .ok (.iconst 1, 1) := by decide +kernel
theorem d43_54 : decode jdk_40_method_47_code 54 = .ok (.aaload, 1) := by decide +kernel
theorem d43_55 : decode jdk_40_method_47_code 55 = .ok (.invokespecial 100, 3) := by decide +kernel
theorem d43_58 : decode jdk_40_method_47_code 58 = .ok (.areturn, 1) := by decide +kernel
theorem d43_59 : decode jdk_40_method_47_code 59 = .ok (.aload_n 0, 1) := by decide +kernel
theorem d43_60 : decode jdk_40_method_47_code 60 = .ok (.invokestatic 109, 3) := by decide +kernel
theorem d43_63 : decode jdk_40_method_47_code 63 = .ok (.areturn, 1) := by decide +kernel
theorem pn_43 : plainFor (⟨"java/util/List", "of", "([Ljava/lang/Object;)Ljava/util/List;"⟩ : MethodName) = true := by first | exact plainFor_of_name (by first | (simp [plainName, overriddenIn]; done) | decide +kernel) | decide +kernel
theorem ef_43 (m : MethodId) (a1 : Addr) : entryFrame m #[(.ref a1)] 2 = mkF m 0 #[.val (.ref a1), .unset] [] := by first | (simp [entryFrame, argsToLocals, Value.category, Array.replicate]; done) | rfl
theorem pd_43 : parseMethodDescriptor "([Ljava/lang/Object;)Ljava/util/List;" = some ⟨[(.array (.object "java/lang/Object"))], some (.object "java/util/List")⟩ := by decide +kernel
def Q43 (Z : State) (a1 : Addr)  (h0 : Heap) (n0 : Nat) (v : Option Value) (h : Heap) (L : List Loc) : Prop := ∃ a, v = some (.ref a) ∧ Fr n0 L ∧ Keep h0 h []
theorem rm43 (l : Launch) (Z : State) (a0 : Array Value) (hw : ∀ d ∈ tables_1, d.before a0 Z = true) (ws : List Jvm.Cond) (a1 : Addr)  (h0 : Heap) (n0 : Nat) (Z0 : n0 ≤ h0.size) (cs : Int32) (dA pr eL eE : Addr) (TT : STT Z cs dA pr eL eE) (OL : Old Z n0 h0) (n : Nat) (t : Nat → Value) (key : Nat → Addr) (RT : RA Z h0 a1 "java/lang/Object" n t) (ht : ∀ j, j < n → t j = .ref (key j)) (hE : ∀ j, j < n → Exa Z h0 (key j) "java/lang/String") (hn4 : n ≤ 4) (hn1 : 1 ≤ n) :
    MetFree l (⟨"java/util/List", "of", "([Ljava/lang/Object;)Ljava/util/List;"⟩ : MethodName) (head1 (Jvm.Cond.code (⟨"java/util/List", "of", "([Ljava/lang/Object;)Ljava/util/List;"⟩ : MethodName) jdk_40_method_47_code 2 (some (.object "java/util/List")) :: ws) ({ frames := 6, cells := 2, slots := 6, locals := 77 } : Room)) (fun a U => a = #[(.ref a1)] ∧ Z.Warmed39 U.vm ∧ U.heap = h0) (fun _ _ _ _ _ => True) (fun _ U o U' => ∃ v L, o = .returned v ∧ (Q43 Z a1  h0 n0) v U'.heap L ∧ FrameEnd U o U' L ({ frames := 6, cells := 2, slots := 6, locals := 77 } : Room).cells ({ frames := 6, cells := 2, slots := 6, locals := 77 } : Room).slots) := by
  refine MetFree.of_bodySF pn_43 hisR ?_
  intro p e s m args below meth c s₁ Bd hml0 hP hK
  obtain ⟨rfl, hZ, hh⟩ := hP
  have hx := Bd.exec
  have hby := Bd.bytes
  have hml : c.maxLocals = 2 := hml0
  have hown : s.vm.findClass "java/util/List" = some m.cls := findClass_of_methodNamed Bd.named
  have hnm := (name_of_methodNamed Bd.named Bd.method).1
  have X0 : Stand p l e ({ frames := 6, cells := 2, slots := 6, locals := 77 } : Room) s m #[(.ref a1)] below meth c s₁ [] 0 0 := Stand.of_body Bd
  have e0 : s₁.heap = h0 := by rw [← hh, Bd.state]; rfl
  have N0 := Fr.nil n0
  have lk : meth.locks = false := BodyLoose.notSynchronized Bd
  have hret := Bd.returns
  show Ends p e below (EF s ({ frames := 6, cells := 2, slots := 6, locals := 77 } : Room).cells ({ frames := 6, cells := 2, slots := 6, locals := 77 } : Room).slots) (Q43 Z a1  h0 n0) (s₁.setTop (entryFrame m #[(.ref a1)] 2))
  refine Ends.cast (ef_43 m a1) ?_
  have hcs : n = 1 ∨ n = 2 ∨ n = 3 ∨ n = 4 := by omega
  rcases hcs with rfl | rfl | rfl | rfl
  · skip
    refine own_aloadN (n := 1) X0 hx (hb hby d43_0) rfl rfl rfl ?_
    refine own_arraylength (n := 2) X0 hx hZ e0 RT.va (v := (1 : Int32)) rfl (hb hby d43_1) rfl ?_
    refine own_tswIn (n := 34) X0 hx (hb hby d43_2) (by decide) rfl (by decide) (by decide) ?_
    refine own_newO (n := 37) X0 hx hZ hown (hw _ (List.mem_of_getElem? (i := 296) rfl)) (hw _ (List.mem_of_getElem? (i := 297) rfl)) (hw _ (List.mem_of_getElem? (i := 298) rfl)) e0 (by decide) (by decide) (hb hby d43_34) rfl ?_
    intro T1 h1 b1 X1 e1 g1 E1 A1 D1
    have Z1 : n0 ≤ h1.size := Nat.le_trans Z0 E1.1
    have nb_b1 : n0 ≤ b1 := Nat.le_trans Z0 (Nat.le_of_eq g1.symm)
    have OL1 := OL.ext E1
    have ne_a1_b1 : a1 ≠ b1 := Nat.ne_of_lt (Nat.lt_of_lt_of_le RT.lt (Nat.le_of_eq g1.symm))
    have F1_a1 := RT.ext E1
    have K1 : Keep h0 h1 [] := (Keep.refl h0 []).ext E1
    have big_b1 : h0.size ≤ b1 := Nat.le_trans (Keep.refl h0 []).1 (Nat.le_of_eq g1.symm)
    have N1_b1 : L12 Z h1 b1 (.null) (.null) := ⟨A1, D1 (Or.inr (hw _ (List.mem_of_getElem? (i := 322) rfl))) (ty := (.object "java/lang/Object")) (by decide), D1 (Or.inr (hw _ (List.mem_of_getElem? (i := 324) rfl))) (ty := (.object "java/lang/Object")) (by decide)⟩
    refine own_dup (n := 38) X1 hx (hb hby d43_37) rfl rfl ?_
    refine own_aloadN (n := 39) X1 hx (hb hby d43_38) rfl rfl rfl ?_
    refine own_iconst (n := 40) X1 hx (0 : Int32) (hb hby d43_39) rfl rfl ?_
    refine own_aaload (n := 41) X1 hx hZ e1 F1_a1 (i := 0) rfl (by decide) (v := (.ref (key 0))) (ht 0 (by decide)) (hb hby d43_40) rfl ?_
    refine own_callN (n := 44) X1 hx hZ rfl hown (hw _ (List.mem_of_getElem? (i := 389) rfl)) (hw _ (List.mem_of_getElem? (i := 390) rfl)) (hw _ (List.mem_of_getElem? (i := 298) rfl)) (hw _ (List.mem_of_getElem? (i := 391) rfl)) (by decide) e1 (rm58 l Z a0 hw [] b1 (key 0) h1 n0 Z1 cs dA pr eL eE TT OL1 N1_b1 nb_b1) (W := 1) (by decide) (by decide) (by decide) (by decide) (by rw [hml]; rfl) (argsL := [(.ref (key 0))]) (rest := [(.ref b1)]) pd_58 rfl (a := b1) (by rfl) (Nat.le_of_eq rfl) (hb hby d43_41) rfl rfl ?_
    intro v2 T2 h2 L2 X2 e2 q2
    obtain ⟨rfl, M2, K2⟩ := q2
    have N2 := Fr.app N0 M2
    have Z2 : n0 ≤ h2.size := Nat.le_trans Z1 K2.1
    have OL2 := OL1.keep K2 (allS nb_b1 all0)
    have F2_a1 := F1_a1.keep K2 (ninS ne_a1_b1 nin0)
    have KK2 := K1.trans K2 (fun z hz => by cases List.mem_singleton.mp hz; exact Or.inr big_b1)
    refine own_retA X2 hx lk hret rfl rfl (hb hby d43_44) (by decide) (by decide) ?_
    rw [e2]
    exact ⟨_, rfl, N2, KK2⟩
  · skip
    refine own_aloadN (n := 1) X0 hx (hb hby d43_0) rfl rfl rfl ?_
    refine own_arraylength (n := 2) X0 hx hZ e0 RT.va (v := (2 : Int32)) rfl (hb hby d43_1) rfl ?_
    refine own_tswIn (n := 45) X0 hx (hb hby d43_2) (by decide) rfl (by decide) (by decide) ?_
    refine own_newO (n := 48) X0 hx hZ hown (hw _ (List.mem_of_getElem? (i := 296) rfl)) (hw _ (List.mem_of_getElem? (i := 297) rfl)) (hw _ (List.mem_of_getElem? (i := 298) rfl)) e0 (by decide) (by decide) (hb hby d43_45) rfl ?_
    intro T3 h3 b3 X3 e3 g3 E3 A3 D3
    have Z3 : n0 ≤ h3.size := Nat.le_trans Z0 E3.1
    have nb_b3 : n0 ≤ b3 := Nat.le_trans Z0 (Nat.le_of_eq g3.symm)
    have OL3 := OL.ext E3
    have ne_a1_b3 : a1 ≠ b3 := Nat.ne_of_lt (Nat.lt_of_lt_of_le RT.lt (Nat.le_of_eq g3.symm))
    have F3_a1 := RT.ext E3
    have K3 : Keep h0 h3 [] := (Keep.refl h0 []).ext E3
    have big_b3 : h0.size ≤ b3 := Nat.le_trans (Keep.refl h0 []).1 (Nat.le_of_eq g3.symm)
    have N3_b3 : L12 Z h3 b3 (.null) (.null) := ⟨A3, D3 (Or.inr (hw _ (List.mem_of_getElem? (i := 322) rfl))) (ty := (.object "java/lang/Object")) (by decide), D3 (Or.inr (hw _ (List.mem_of_getElem? (i := 324) rfl))) (ty := (.object "java/lang/Object")) (by decide)⟩
    refine own_dup (n := 49) X3 hx (hb hby d43_48) rfl rfl ?_
    refine own_aloadN (n := 50) X3 hx (hb hby d43_49) rfl rfl rfl ?_
    refine own_iconst (n := 51) X3 hx (0 : Int32) (hb hby d43_50) rfl rfl ?_
    refine own_aaload (n := 52) X3 hx hZ e3 F3_a1 (i := 0) rfl (by decide) (v := (.ref (key 0))) (ht 0 (by decide)) (hb hby d43_51) rfl ?_
    refine own_aloadN (n := 53) X3 hx (hb hby d43_52) rfl rfl rfl ?_
    refine own_iconst (n := 54) X3 hx (1 : Int32) (hb hby d43_53) rfl rfl ?_
    refine own_aaload (n := 55) X3 hx hZ e3 F3_a1 (i := 1) rfl (by decide) (v := (.ref (key 1))) (ht 1 (by decide)) (hb hby d43_54) rfl ?_
    refine own_callN (n := 58) X3 hx hZ rfl hown (hw _ (List.mem_of_getElem? (i := 299) rfl)) (hw _ (List.mem_of_getElem? (i := 300) rfl)) (hw _ (List.mem_of_getElem? (i := 298) rfl)) (hw _ (List.mem_of_getElem? (i := 302) rfl)) (by decide) e3 (rm44 l Z a0 hw [] b3 (key 0) (key 1) h3 n0 Z3 cs dA pr eL eE TT OL3 N3_b3 nb_b3) (W := 1) (by decide) (by decide) (by decide) (by decide) (by rw [hml]; rfl) (argsL := [(.ref (key 0)), (.ref (key 1))]) (rest := [(.ref b3)]) pd_44 rfl (a := b3) (by rfl) (Nat.le_of_eq rfl) (hb hby d43_55) rfl rfl ?_
    intro v4 T4 h4 L4 X4 e4 q4
    obtain ⟨rfl, M4, K4⟩ := q4
    have N4 := Fr.app N0 M4
    have Z4 : n0 ≤ h4.size := Nat.le_trans Z3 K4.1
    have OL4 := OL3.keep K4 (allS nb_b3 all0)
    have F4_a1 := F3_a1.keep K4 (ninS ne_a1_b3 nin0)
    have KK4 := K3.trans K4 (fun z hz => by cases List.mem_singleton.mp hz; exact Or.inr big_b3)
    refine own_retA X4 hx lk hret rfl rfl (hb hby d43_58) (by decide) (by decide) ?_
    rw [e4]
    exact ⟨_, rfl, N4, KK4⟩
  · skip
    refine own_aloadN (n := 1) X0 hx (hb hby d43_0) rfl rfl rfl ?_
    refine own_arraylength (n := 2) X0 hx hZ e0 RT.va (v := (3 : Int32)) rfl (hb hby d43_1) rfl ?_
    refine own_tswOut (n := 59) X0 hx (hb hby d43_2) (by decide) (by decide) (by decide) ?_
    refine own_aloadN (n := 60) X0 hx (hb hby d43_59) rfl rfl rfl ?_
    refine own_callS (n := 63) X0 hx hZ hown (hw _ (List.mem_of_getElem? (i := 370) rfl)) (hw _ (List.mem_of_getElem? (i := 371) rfl)) (hw _ (List.mem_of_getElem? (i := 174) rfl)) (hw _ (List.mem_of_getElem? (i := 372) rfl)) (by decide) e0 (rm56 l Z a0 hw [] a1 h0 n0 Z0 cs dA pr eL eE TT OL _ t key RT ht hE hn4) (W := 0) (by decide) (by decide) (by decide) (by decide) (by rw [hml]; rfl) (argsL := [(.ref a1)]) (rest := []) pd_56 rfl (by rfl) (Nat.le_of_eq rfl) (hb hby d43_60) rfl rfl ?_
    intro v5 T5 h5 L5 X5 e5 q5
    obtain ⟨o5, rfl, M5, K5⟩ := q5
    have N5 := Fr.app N0 M5
    have Z5 : n0 ≤ h5.size := Nat.le_trans Z0 K5.1
    have OL5 := OL.keep K5 all0
    have F5_a1 := RT.keep K5 nin0
    have KK5 := (Keep.refl h0 []).trans K5 (fun z hz => nomatch hz)
    refine own_retA X5 hx lk hret rfl rfl (hb hby d43_63) (by decide) (by decide) ?_
    rw [e5]
    exact ⟨_, rfl, N5, KK5⟩
  · skip
    refine own_aloadN (n := 1) X0 hx (hb hby d43_0) rfl rfl rfl ?_
    refine own_arraylength (n := 2) X0 hx hZ e0 RT.va (v := (4 : Int32)) rfl (hb hby d43_1) rfl ?_
    refine own_tswOut (n := 59) X0 hx (hb hby d43_2) (by decide) (by decide) (by decide) ?_
    refine own_aloadN (n := 60) X0 hx (hb hby d43_59) rfl rfl rfl ?_
    refine own_callS (n := 63) X0 hx hZ hown (hw _ (List.mem_of_getElem? (i := 370) rfl)) (hw _ (List.mem_of_getElem? (i := 371) rfl)) (hw _ (List.mem_of_getElem? (i := 174) rfl)) (hw _ (List.mem_of_getElem? (i := 372) rfl)) (by decide) e0 (rm56 l Z a0 hw [] a1 h0 n0 Z0 cs dA pr eL eE TT OL _ t key RT ht hE hn4) (W := 0) (by decide) (by decide) (by decide) (by decide) (by rw [hml]; rfl) (argsL := [(.ref a1)]) (rest := []) pd_56 rfl (by rfl) (Nat.le_of_eq rfl) (hb hby d43_60) rfl rfl ?_
    intro v6 T6 h6 L6 X6 e6 q6
    obtain ⟨o6, rfl, M6, K6⟩ := q6
    have N6 := Fr.app N0 M6
    have Z6 : n0 ≤ h6.size := Nat.le_trans Z0 K6.1
    have OL6 := OL.keep K6 all0
    have F6_a1 := RT.keep K6 nin0
    have KK6 := (Keep.refl h0 []).trans K6 (fun z hz => nomatch hz)
    refine own_retA X6 hx lk hret rfl rfl (hb hby d43_63) (by decide) (by decide) ?_
    rw [e6]
    exact ⟨_, rfl, N6, KK6⟩
theorem own_min10 {p2 : Int32} {k : Nat} (hp : p2.toInt = (k : Int)) (hk : k ≤ 4) : (if p2 < (10 : Int32) then p2 else (10 : Int32)).toInt = (k : Int) := by
  have o : (10 : Int32).toInt = 10 := rfl
  rw [if_pos (by rw [Int32.lt_iff_toInt_lt, o]; omega)]
  exact hp
theorem d41_0 : decode jdk_65_method_120_code 0 = .ok (.aload_n 2, 1) := by decide +kernel
theorem d41_1 : decode jdk_65_method_120_code 1 = .ok (.ldc 110, 2) := by decide +kernel
theorem d41_3 : decode jdk_65_method_120_code 3 = .ok (.if_acmp .ne 10, 3) := by decide +kernel
theorem d41_6 : decode jdk_65_method_120_code 6 = .ok (.iload_n 1, 1) := by decide +kernel
theorem d41_7 : decode jdk_65_method_120_code 7 = .ok (.anewarray 2, 3) := by decide +kernel
theorem d41_10 : decode jdk_65_method_120_code 10 = .ok (.goto 14, 3) := by decide +kernel
theorem d41_13 : decode jdk_65_method_120_code 13 = .ok (.aload_n 2, 1) := by decide +kernel
theorem d41_14 : decode jdk_65_method_120_code 14 = .ok (.invokevirtual 90, 3) := by decide +kernel
theorem d41_17 : decode jdk_65_method_120_code 17 = .ok (.iload_n 1, 1) := by decide +kernel
theorem d41_18 : decode jdk_65_method_120_code 18 = .ok (.invokestatic 95, 3) := by decide +kernel
theorem d41_21 : decode jdk_65_method_120_code 21 = .ok (.checkcast 110, 3) := by decide +kernel
theorem d41_24 : decode jdk_65_method_120_code 24 = .ok (.astore_n 3, 1) := by decide +kernel
theorem d41_25 : decode jdk_65_method_120_code 25 = .ok (.aload_n 0, 1) := by decide +kernel
theorem d41_26 : decode jdk_65_method_120_code 26 = .ok (.iconst 0, 1) := by decide +kernel
theorem d41_27 : decode jdk_65_method_120_code 27 = .ok (.aload_n 3, 1) := by decide +kernel
theorem d41_28 : decode jdk_65_method_120_code 28 = .ok (.iconst 0, 1) := by decide +kernel
theorem d41_29 : decode jdk_65_method_120_code 29 = .ok (.aload_n 0, 1) := by decide +kernel
theorem d41_30 : decode jdk_65_method_120_code 30 = .ok (.arraylength, 1) := by decide +kernel
theorem d41_31 : decode jdk_65_method_120_code 31 = .ok (.iload_n 1, 1) := by decide +kernel
theorem d41_32 : decode jdk_65_method_120_code 32 = .ok (.invokestatic 304, 3) := by decide +kernel
theorem d41_35 : decode jdk_65_method_120_code 35 = .ok (.invokestatic 150, 3) := by decide +kernel
theorem d41_38 : decode jdk_65_method_120_code 38 = .ok (.aload_n 3, 1) := by decide +kernel
theorem d41_39 : decode jdk_65_method_120_code 39 = .ok (.areturn, 1) := by decide +kernel
theorem pn_41 : plainFor (⟨"java/util/Arrays", "copyOf", "([Ljava/lang/Object;ILjava/lang/Class;)[Ljava/lang/Object;"⟩ : MethodName) = true := by first | exact plainFor_of_name (by first | (simp [plainName, overriddenIn]; done) | decide +kernel) | decide +kernel
theorem ef_41 (m : MethodId) (a1 : Addr) (p2 : Int32) (a3 : Addr) : entryFrame m #[(.ref a1), (.int p2), (.ref a3)] 4 = mkF m 0 #[.val (.ref a1), .val (.int p2), .val (.ref a3), .unset] [] := by first | (simp [entryFrame, argsToLocals, Value.category, Array.replicate]; done) | rfl
theorem pd_41 : parseMethodDescriptor "([Ljava/lang/Object;ILjava/lang/Class;)[Ljava/lang/Object;" = some ⟨[(.array (.object "java/lang/Object")), .int, (.object "java/lang/Class")], some (.array (.object "java/lang/Object"))⟩ := by decide +kernel
def Q41 (Z : State) (a1 : Addr) (p2 : Int32) (a3 : Addr) (k : Nat) (key : Nat → Addr) (h0 : Heap) (n0 : Nat) (v : Option Value) (h : Heap) (L : List Loc) : Prop := ∃ a t', v = some (.ref a) ∧ Fr n0 L ∧ Keep h0 h [] ∧ RA Z h a "java/lang/Object" k t' ∧ ∀ j, j < k → t' j = .ref (key j)
theorem rm41 (l : Launch) (Z : State) (a0 : Array Value) (hw : ∀ d ∈ tables_1, d.before a0 Z = true) (ws : List Jvm.Cond) (a1 : Addr) (p2 : Int32) (a3 : Addr) (k : Nat) (key : Nat → Addr) (h0 : Heap) (n0 : Nat) (Z0 : n0 ≤ h0.size) (cs : Int32) (dA pr eL eE : Addr) (TT : STT Z cs dA pr eL eE) (OL : Old Z n0 h0) (mr : Addr) (MR : Mir Z "[Ljava/lang/Object;" mr) (t : Nat → Value) (em : a3 = mr) (RT : RA Z h0 a1 "java/lang/Object" 10 t) (ht : ∀ j, j < k → t j = .ref (key j)) (hrf : ∀ j, j < 10 → (t j).isRef = true) (hE : ∀ j, j < k → Exa Z h0 (key j) "java/lang/String") (hk4 : k ≤ 4) (hk1 : 1 ≤ k) (hp : p2.toInt = (k : Int)) :
    MetFree l (⟨"java/util/Arrays", "copyOf", "([Ljava/lang/Object;ILjava/lang/Class;)[Ljava/lang/Object;"⟩ : MethodName) (head1 (Jvm.Cond.code (⟨"java/util/Arrays", "copyOf", "([Ljava/lang/Object;ILjava/lang/Class;)[Ljava/lang/Object;"⟩ : MethodName) jdk_65_method_120_code 4 (some (.array (.object "java/lang/Object"))) :: ws) ({ frames := 1, cells := 1, slots := 4, locals := 60 } : Room)) (fun a U => a = #[(.ref a1), (.int p2), (.ref a3)] ∧ Z.Warmed39 U.vm ∧ U.heap = h0) (fun _ _ _ _ _ => True) (fun _ U o U' => ∃ v L, o = .returned v ∧ (Q41 Z a1 p2 a3 k key h0 n0) v U'.heap L ∧ FrameEnd U o U' L ({ frames := 1, cells := 1, slots := 4, locals := 60 } : Room).cells ({ frames := 1, cells := 1, slots := 4, locals := 60 } : Room).slots) := by
  refine MetFree.of_bodySF pn_41 hisR ?_
  intro p e s m args below meth c s₁ Bd hml0 hP hK
  obtain ⟨rfl, hZ, hh⟩ := hP
  have hx := Bd.exec
  have hby := Bd.bytes
  have hml : c.maxLocals = 4 := hml0
  have hown : s.vm.findClass "java/util/Arrays" = some m.cls := findClass_of_methodNamed Bd.named
  have hnm := (name_of_methodNamed Bd.named Bd.method).1
  have X0 : Stand p l e ({ frames := 1, cells := 1, slots := 4, locals := 60 } : Room) s m #[(.ref a1), (.int p2), (.ref a3)] below meth c s₁ [] 0 0 := Stand.of_body Bd
  have e0 : s₁.heap = h0 := by rw [← hh, Bd.state]; rfl
  have N0 := Fr.nil n0
  have lk : meth.locks = false := BodyLoose.notSynchronized Bd
  have hret := Bd.returns
  show Ends p e below (EF s ({ frames := 1, cells := 1, slots := 4, locals := 60 } : Room).cells ({ frames := 1, cells := 1, slots := 4, locals := 60 } : Room).slots) (Q41 Z a1 p2 a3 k key h0 n0) (s₁.setTop (entryFrame m #[(.ref a1), (.int p2), (.ref a3)] 4))
  refine Ends.cast (ef_41 m a1 p2 a3) ?_
  refine own_aloadN (n := 1) X0 hx (hb hby d41_0) rfl rfl rfl ?_
  refine own_ldcM (n := 3) X0 hx hZ hown (hw _ (List.mem_of_getElem? (i := 284) rfl)) MR e0 (hb hby d41_1) rfl ?_
  intro T1 X1 e1
  refine own_acmpNo (n := 6) X1 hx (hb hby d41_3) rfl rfl (Jvm.Free.XT.aa_ne_f (by rw [em])) rfl ?_
  refine own_iloadN (n := 7) X1 hx (hb hby d41_6) rfl rfl ?_
  refine own_newR (n := 10) X1 hx hZ hown (hw _ (List.mem_of_getElem? (i := 285) rfl)) (hw _ (List.mem_of_getElem? (i := 261) rfl)) e1 (i := k) (cap := 4) hp hk4 (by decide) (by decide) (by decide) (hb hby d41_7) rfl ?_
  intro T2 h2 b2 X2 e2 g2 E2 A2
  have Z2 : n0 ≤ h2.size := Nat.le_trans Z0 E2.1
  have nb_b2 : n0 ≤ b2 := Nat.le_trans Z0 (Nat.le_of_eq g2.symm)
  have OL2 := OL.ext E2
  have ne_a1_b2 : a1 ≠ b2 := Nat.ne_of_lt (Nat.lt_of_lt_of_le RT.lt (Nat.le_of_eq g2.symm))
  have F2_a1 := RT.ext E2
  have K2 : Keep h0 h2 [] := (Keep.refl h0 []).ext E2
  have big_b2 : h0.size ≤ b2 := Nat.le_trans (Keep.refl h0 []).1 (Nat.le_of_eq g2.symm)
  refine own_goto (n := 24) X2 hx (hb hby d41_10) (by decide) (by decide) ?_
  refine own_astoreN (n := 25) X2 hx (hb hby d41_24) rfl (l' := #[.val (.ref a1), .val (.int p2), .val (.ref a3), .val (.ref b2)]) rfl rfl ?_
  refine own_aloadN (n := 26) X2 hx (hb hby d41_25) rfl rfl rfl ?_
  refine own_iconst (n := 27) X2 hx (0 : Int32) (hb hby d41_26) rfl rfl ?_
  refine own_aloadN (n := 28) X2 hx (hb hby d41_27) rfl rfl rfl ?_
  refine own_iconst (n := 29) X2 hx (0 : Int32) (hb hby d41_28) rfl rfl ?_
  refine own_aloadN (n := 30) X2 hx (hb hby d41_29) rfl rfl rfl ?_
  refine own_arraylength (n := 31) X2 hx hZ e2 F2_a1.va (v := (10 : Int32)) rfl (hb hby d41_30) rfl ?_
  refine own_iloadN (n := 32) X2 hx (hb hby d41_31) rfl rfl ?_
  refine own_callS (n := 35) X2 hx hZ hown (hw _ (List.mem_of_getElem? (i := 286) rfl)) (hw _ (List.mem_of_getElem? (i := 287) rfl)) (hw _ (List.mem_of_getElem? (i := 258) rfl)) (hw _ (List.mem_of_getElem? (i := 288) rfl)) (by decide) e2 (rm42 l Z a0 hw [] (10 : Int32) p2 h2 n0 Z2 ) (W := 4) (by decide) (by decide) (by decide) (by decide) (by rw [hml]; rfl) (argsL := [(.int (10 : Int32)), (.int p2)]) (rest := [(.int (0 : Int32)), (.ref b2), (.int (0 : Int32)), (.ref a1)]) pd_42 rfl (by rfl) (Nat.le_of_eq rfl) (hb hby d41_32) rfl rfl ?_
  intro v3 T3 h3 L3 X3 e3 q3
  obtain ⟨rfl, M3, rfl⟩ := q3
  have N3 := Fr.app N0 M3
  refine own_cpR (n := 38) X3 hx hZ hown (hw _ (List.mem_of_getElem? (i := 289) rfl)) (hw _ (List.mem_of_getElem? (i := 292) rfl)) (hw _ (List.mem_of_getElem? (i := 290) rfl)) (hw _ (List.mem_of_getElem? (i := 291) rfl)) e3 F2_a1 A2 hrf (fun _ _ => rfl) (fun j hj => ⟨key j, ht j hj, Ins.of_exa ((hE j hj).keep K2) (hw _ (List.mem_of_getElem? (i := 262) rfl))⟩) (nn := k) (own_min10 hp hk4) (by omega) (Nat.le_refl _) N3 nb_b2 (by rw [hml]; rfl) (hb hby d41_35) rfl (by decide) (W := 0) (Nat.le_of_eq rfl) (by decide) ?_
  intro T4 h4 L4 X4 e4 N4 K4 A4
  have Z4 : n0 ≤ h4.size := Nat.le_trans Z2 K4.1
  have OL4 := OL2.keep K4 (allS nb_b2 all0)
  have F4_a1 := F2_a1.keep K4 (ninS ne_a1_b2 nin0)
  have KK4 := K2.trans K4 (fun z hz => by cases List.mem_singleton.mp hz; exact Or.inr big_b2)
  refine own_aloadN (n := 39) X4 hx (hb hby d41_38) rfl rfl rfl ?_
  refine own_retA X4 hx lk hret rfl rfl (hb hby d41_39) (by decide) (by decide) ?_
  rw [e4]
  exact ⟨_, _, rfl, N4, KK4, A4, fun j hj => (if_pos hj).trans (ht j hj)⟩
theorem d40_0 : decode jdk_65_method_119_code 0 = .ok (.aload_n 0, 1) := by decide +kernel
theorem d40_1 : decode jdk_65_method_119_code 1 = .ok (.iload_n 1, 1) := by decide +kernel
theorem d40_2 : decode jdk_65_method_119_code 2 = .ok (.aload_n 0, 1) := by decide +kernel
theorem d40_3 : decode jdk_65_method_119_code 3 = .ok (.invokevirtual 86, 3) := by decide +kernel
theorem d40_6 : decode jdk_65_method_119_code 6 = .ok (.invokestatic 300, 3) := by decide +kernel
theorem d40_9 : decode jdk_65_method_119_code 9 = .ok (.areturn, 1) := by decide +kernel
theorem pn_40 : plainFor (⟨"java/util/Arrays", "copyOf", "([Ljava/lang/Object;I)[Ljava/lang/Object;"⟩ : MethodName) = true := by first | exact plainFor_of_name (by first | (simp [plainName, overriddenIn]; done) | decide +kernel) | decide +kernel
theorem ef_40 (m : MethodId) (a1 : Addr) (p2 : Int32) : entryFrame m #[(.ref a1), (.int p2)] 2 = mkF m 0 #[.val (.ref a1), .val (.int p2)] [] := by first | (simp [entryFrame, argsToLocals, Value.category, Array.replicate]; done) | rfl
theorem pd_40 : parseMethodDescriptor "([Ljava/lang/Object;I)[Ljava/lang/Object;" = some ⟨[(.array (.object "java/lang/Object")), .int], some (.array (.object "java/lang/Object"))⟩ := by decide +kernel
def Q40 (Z : State) (a1 : Addr) (p2 : Int32) (k : Nat) (key : Nat → Addr) (h0 : Heap) (n0 : Nat) (v : Option Value) (h : Heap) (L : List Loc) : Prop := ∃ a t', v = some (.ref a) ∧ Fr n0 L ∧ Keep h0 h [] ∧ RA Z h a "java/lang/Object" k t' ∧ ∀ j, j < k → t' j = .ref (key j)
theorem rm40 (l : Launch) (Z : State) (a0 : Array Value) (hw : ∀ d ∈ tables_1, d.before a0 Z = true) (ws : List Jvm.Cond) (a1 : Addr) (p2 : Int32) (k : Nat) (key : Nat → Addr) (h0 : Heap) (n0 : Nat) (Z0 : n0 ≤ h0.size) (cs : Int32) (dA pr eL eE : Addr) (TT : STT Z cs dA pr eL eE) (OL : Old Z n0 h0) (mr : Addr) (MR : Mir Z "[Ljava/lang/Object;" mr) (t : Nat → Value) (XE : Exa Z h0 a1 "[Ljava/lang/Object;") (RT : RA Z h0 a1 "java/lang/Object" 10 t) (ht : ∀ j, j < k → t j = .ref (key j)) (hrf : ∀ j, j < 10 → (t j).isRef = true) (hE : ∀ j, j < k → Exa Z h0 (key j) "java/lang/String") (hk4 : k ≤ 4) (hk1 : 1 ≤ k) (hp : p2.toInt = (k : Int)) :
    MetFree l (⟨"java/util/Arrays", "copyOf", "([Ljava/lang/Object;I)[Ljava/lang/Object;"⟩ : MethodName) (head1 (Jvm.Cond.code (⟨"java/util/Arrays", "copyOf", "([Ljava/lang/Object;I)[Ljava/lang/Object;"⟩ : MethodName) jdk_65_method_119_code 2 (some (.array (.object "java/lang/Object"))) :: ws) ({ frames := 2, cells := 1, slots := 4, locals := 77 } : Room)) (fun a U => a = #[(.ref a1), (.int p2)] ∧ Z.Warmed39 U.vm ∧ U.heap = h0) (fun _ _ _ _ _ => True) (fun _ U o U' => ∃ v L, o = .returned v ∧ (Q40 Z a1 p2 k key h0 n0) v U'.heap L ∧ FrameEnd U o U' L ({ frames := 2, cells := 1, slots := 4, locals := 77 } : Room).cells ({ frames := 2, cells := 1, slots := 4, locals := 77 } : Room).slots) := by
  refine MetFree.of_bodySF pn_40 hisR ?_
  intro p e s m args below meth c s₁ Bd hml0 hP hK
  obtain ⟨rfl, hZ, hh⟩ := hP
  have hx := Bd.exec
  have hby := Bd.bytes
  have hml : c.maxLocals = 2 := hml0
  have hown : s.vm.findClass "java/util/Arrays" = some m.cls := findClass_of_methodNamed Bd.named
  have hnm := (name_of_methodNamed Bd.named Bd.method).1
  have X0 : Stand p l e ({ frames := 2, cells := 1, slots := 4, locals := 77 } : Room) s m #[(.ref a1), (.int p2)] below meth c s₁ [] 0 0 := Stand.of_body Bd
  have e0 : s₁.heap = h0 := by rw [← hh, Bd.state]; rfl
  have N0 := Fr.nil n0
  have lk : meth.locks = false := BodyLoose.notSynchronized Bd
  have hret := Bd.returns
  show Ends p e below (EF s ({ frames := 2, cells := 1, slots := 4, locals := 77 } : Room).cells ({ frames := 2, cells := 1, slots := 4, locals := 77 } : Room).slots) (Q40 Z a1 p2 k key h0 n0) (s₁.setTop (entryFrame m #[(.ref a1), (.int p2)] 2))
  refine Ends.cast (ef_40 m a1 p2) ?_
  refine own_aloadN (n := 1) X0 hx (hb hby d40_0) rfl rfl rfl ?_
  refine own_iloadN (n := 2) X0 hx (hb hby d40_1) rfl rfl ?_
  refine own_aloadN (n := 3) X0 hx (hb hby d40_2) rfl rfl rfl ?_
  refine own_gcls (n := 6) X0 hx hZ hown (hw _ (List.mem_of_getElem? (i := 275) rfl)) (hw _ (List.mem_of_getElem? (i := 276) rfl)) (hw _ (List.mem_of_getElem? (i := 180) rfl)) (hw _ (List.mem_of_getElem? (i := 278) rfl)) (hw _ (List.mem_of_getElem? (i := 277) rfl)) (hw _ (List.mem_of_getElem? (i := 279) rfl)) e0 XE MR (by rw [hml]; rfl) (hb hby d40_3) rfl (by decide) (W := 2) (Nat.le_of_eq rfl) (by decide) ?_
  intro T1 X1 e1
  refine own_callS (n := 9) X1 hx hZ hown (hw _ (List.mem_of_getElem? (i := 281) rfl)) (hw _ (List.mem_of_getElem? (i := 282) rfl)) (hw _ (List.mem_of_getElem? (i := 273) rfl)) (hw _ (List.mem_of_getElem? (i := 283) rfl)) (by decide) e1 (rm41 l Z a0 hw [] a1 p2 mr k key h0 n0 Z0 cs dA pr eL eE TT OL mr MR t rfl RT ht hrf hE hk4 hk1 hp) (W := 0) (by decide) (by decide) (by decide) (by decide) (by rw [hml]; rfl) (argsL := [(.ref a1), (.int p2), (.ref mr)]) (rest := []) pd_41 rfl (by rfl) (Nat.le_of_eq rfl) (hb hby d40_6) rfl rfl ?_
  intro v2 T2 h2 L2 X2 e2 q2
  obtain ⟨o2, t2, rfl, M2, K2, A2, q2⟩ := q2
  have N2 := Fr.app N0 M2
  refine own_retA X2 hx lk hret rfl rfl (hb hby d40_9) (by decide) (by decide) ?_
  rw [e2]
  exact ⟨_, _, rfl, N2, K2, A2, q2⟩
theorem d39_0 : decode jdk_38_method_16_code 0 = .ok (.aload_n 0, 1) := by decide +kernel
theorem d39_1 : decode jdk_38_method_16_code 1 = .ok (.getfield 9, 3) := by decide +kernel
theorem d39_4 : decode jdk_38_method_16_code 4 = .ok (.aload_n 0, 1) := by decide +kernel
theorem d39_5 : decode jdk_38_method_16_code 5 = .ok (.getfield 48, 3) := by decide +kernel
theorem d39_8 : decode jdk_38_method_16_code 8 = .ok (.invokestatic 66, 3) := by decide +kernel
theorem d39_11 : decode jdk_38_method_16_code 11 = .ok (.areturn, 1) := by decide +kernel
theorem pn_39 : plainFor (⟨"java/util/ArrayList", "toArray", "()[Ljava/lang/Object;"⟩ : MethodName) = true := by first | exact plainFor_of_name (by first | (simp [plainName, overriddenIn]; done) | decide +kernel) | decide +kernel
theorem ef_39 (m : MethodId) (a1 : Addr) : entryFrame m #[(.ref a1)] 1 = mkF m 0 #[.val (.ref a1)] [] := by first | (simp [entryFrame, argsToLocals, Value.category, Array.replicate]; done) | rfl
theorem pd_39 : parseMethodDescriptor "()[Ljava/lang/Object;" = some ⟨[], some (.array (.object "java/lang/Object"))⟩ := by decide +kernel
def Q39 (Z : State) (a1 : Addr) (k : Nat) (key : Nat → Addr) (h0 : Heap) (n0 : Nat) (v : Option Value) (h : Heap) (L : List Loc) : Prop := ∃ a t', v = some (.ref a) ∧ Fr n0 L ∧ Keep h0 h [] ∧ RA Z h a "java/lang/Object" k t' ∧ ∀ j, j < k → t' j = .ref (key j)
theorem rm39 (l : Launch) (Z : State) (a0 : Array Value) (hw : ∀ d ∈ tables_1, d.before a0 Z = true) (ws : List Jvm.Cond) (a1 : Addr) (k : Nat) (key : Nat → Addr) (h0 : Heap) (n0 : Nat) (Z0 : n0 ≤ h0.size) (cs : Int32) (dA pr eL eE : Addr) (TT : STT Z cs dA pr eL eE) (OL : Old Z n0 h0) (mr : Addr) (MR : Mir Z "[Ljava/lang/Object;" mr) (L0 : LST Z h0 n0 dA a1 k key) (hE : ∀ j, j < k → Exa Z h0 (key j) "java/lang/String") (hk4 : k ≤ 4) (hk1 : 1 ≤ k) :
    MetFree l (⟨"java/util/ArrayList", "toArray", "()[Ljava/lang/Object;"⟩ : MethodName) (head1 (Jvm.Cond.code (⟨"java/util/ArrayList", "toArray", "()[Ljava/lang/Object;"⟩ : MethodName) jdk_38_method_16_code 1 (some (.array (.object "java/lang/Object"))) :: ws) ({ frames := 3, cells := 1, slots := 4, locals := 90 } : Room)) (fun a U => a = #[(.ref a1)] ∧ Z.Warmed39 U.vm ∧ U.heap = h0) (fun _ _ _ _ _ => True) (fun _ U o U' => ∃ v L, o = .returned v ∧ (Q39 Z a1 k key h0 n0) v U'.heap L ∧ FrameEnd U o U' L ({ frames := 3, cells := 1, slots := 4, locals := 90 } : Room).cells ({ frames := 3, cells := 1, slots := 4, locals := 90 } : Room).slots) := by
  refine MetFree.of_bodySF pn_39 hisR ?_
  intro p e s m args below meth c s₁ Bd hml0 hP hK
  obtain ⟨rfl, hZ, hh⟩ := hP
  have hx := Bd.exec
  have hby := Bd.bytes
  have hml : c.maxLocals = 1 := hml0
  have hown : s.vm.findClass "java/util/ArrayList" = some m.cls := findClass_of_methodNamed Bd.named
  have hnm := (name_of_methodNamed Bd.named Bd.method).1
  have X0 : Stand p l e ({ frames := 3, cells := 1, slots := 4, locals := 90 } : Room) s m #[(.ref a1)] below meth c s₁ [] 0 0 := Stand.of_body Bd
  have e0 : s₁.heap = h0 := by rw [← hh, Bd.state]; rfl
  have N0 := Fr.nil n0
  have lk : meth.locks = false := BodyLoose.notSynchronized Bd
  have hret := Bd.returns
  show Ends p e below (EF s ({ frames := 3, cells := 1, slots := 4, locals := 90 } : Room).cells ({ frames := 3, cells := 1, slots := 4, locals := 90 } : Room).slots) (Q39 Z a1 k key h0 n0) (s₁.setTop (entryFrame m #[(.ref a1)] 1))
  refine Ends.cast (ef_39 m a1) ?_
  obtain ⟨ed, mc, F0, D0⟩ := L0
  obtain ⟨-, na, t, RT, ht, hrf, XE⟩ := D0.resolve_left (fun z => by omega)
  refine own_aloadN (n := 1) X0 hx (hb hby d39_0) rfl rfl rfl ?_
  refine own_getF (n := 4) X0 hx hZ hown (hw _ (List.mem_of_getElem? (i := 25) rfl)) e0 F0.2.1 (hb hby d39_1) rfl ?_
  intro T1 X1 e1
  refine own_aloadN (n := 5) X1 hx (hb hby d39_4) rfl rfl rfl ?_
  refine own_getF (n := 8) X1 hx hZ hown (hw _ (List.mem_of_getElem? (i := 191) rfl)) e1 F0.2.2.1 (hb hby d39_5) rfl ?_
  intro T2 X2 e2
  refine own_callS (n := 11) X2 hx hZ hown (hw _ (List.mem_of_getElem? (i := 271) rfl)) (hw _ (List.mem_of_getElem? (i := 272) rfl)) (hw _ (List.mem_of_getElem? (i := 273) rfl)) (hw _ (List.mem_of_getElem? (i := 274) rfl)) (by decide) e2 (rm40 l Z a0 hw [] ed (Nat.toInt32 k) k key h0 n0 Z0 cs dA pr eL eE TT OL mr MR t XE RT ht hrf hE hk4 hk1 (len_toInt (by omega))) (W := 0) (by decide) (by decide) (by decide) (by decide) (by rw [hml]; rfl) (argsL := [(.ref ed), (.int (Nat.toInt32 k))]) (rest := []) pd_40 rfl (by rfl) (Nat.le_of_eq rfl) (hb hby d39_8) rfl rfl ?_
  intro v3 T3 h3 L3 X3 e3 q3
  obtain ⟨o3, t3, rfl, M3, K3, A3, q3⟩ := q3
  have N3 := Fr.app N0 M3
  refine own_retA X3 hx lk hret rfl rfl (hb hby d39_11) (by decide) (by decide) ?_
  rw [e3]
  exact ⟨_, _, rfl, N3, K3, A3, q3⟩
theorem d26_0 : decode jdk_56_method_3_code 0 = .ok (.aload_n 0, 1) := by decide +kernel
theorem d26_1 : decode jdk_56_method_3_code 1 = .ok (.instanceof 10, 3) := by decide +kernel
theorem d26_4 : decode jdk_56_method_3_code 4 = .ok (.ifCond .ne 22, 3) := by decide +kernel
theorem d26_7 : decode jdk_56_method_3_code 7 = .ok (.aload_n 0, 1) := by decide +kernel
theorem d26_8 : decode jdk_56_method_3_code 8 = .ok (.instanceof 12, 3) := by decide +kernel
theorem d26_11 : decode jdk_56_method_3_code 11 = .ok (.ifCond .eq 20, 3) := by decide +kernel
theorem d26_14 : decode jdk_56_method_3_code 14 = .ok (.aload_n 0, 1) := by decide +kernel
theorem d26_15 : decode jdk_56_method_3_code 15 = .ok (.checkcast 12, 3) := by decide +kernel
theorem d26_18 : decode jdk_56_method_3_code 18 = .ok (.astore_n 1, 1) := by decide +kernel
theorem d26_19 : decode jdk_56_method_3_code 19 = .ok (.aload_n 1, 1) := by decide +kernel
theorem d26_20 : decode jdk_56_method_3_code 20 = .ok (.getfield 14, 3) := by decide +kernel
theorem d26_23 : decode jdk_56_method_3_code 23 = .ok (.ifCond .ne 8, 3) := by decide +kernel
theorem d26_26 : decode jdk_56_method_3_code 26 = .ok (.aload_n 0, 1) := by decide +kernel
theorem d26_27 : decode jdk_56_method_3_code 27 = .ok (.checkcast 18, 3) := by decide +kernel
theorem d26_30 : decode jdk_56_method_3_code 30 = .ok (.areturn, 1) := by decide +kernel
theorem d26_31 : decode jdk_56_method_3_code 31 = .ok (.aload_n 0, 1) := by decide +kernel
theorem d26_32 : decode jdk_56_method_3_code 32 = .ok (.invokeinterface 20 1, 5) := by decide +kernel
theorem d26_37 : decode jdk_56_method_3_code 37 = .ok (.ifCond .eq 7, 3) := by decide +kernel
theorem d26_40 : decode jdk_56_method_3_code 40 = .ok (.invokestatic 26, 3) := by decide +kernel
theorem d26_43 : decode jdk_56_method_3_code 43 = .ok (.areturn, 1) := by decide +kernel
theorem d26_44 : decode jdk_56_method_3_code 44 = .ok (.aload_n 0, 1) := by decide +kernel
theorem d26_45 : decode jdk_56_method_3_code 45 = .ok (.invokeinterface 30 1, 5) := by decide +kernel
theorem d26_50 : decode jdk_56_method_3_code 50 = .ok (.invokestatic 34, 3) := by decide +kernel
theorem d26_53 : decode jdk_56_method_3_code 53 = .ok (.areturn, 1) := by decide +kernel
theorem pn_26 : plainFor (⟨"java/util/ImmutableCollections", "listCopy", "(Ljava/util/Collection;)Ljava/util/List;"⟩ : MethodName) = true := by first | exact plainFor_of_name (by first | (simp [plainName, overriddenIn]; done) | decide +kernel) | decide +kernel
theorem ef_26 (m : MethodId) (a1 : Addr) : entryFrame m #[(.ref a1)] 2 = mkF m 0 #[.val (.ref a1), .unset] [] := by first | (simp [entryFrame, argsToLocals, Value.category, Array.replicate]; done) | rfl
theorem pd_26 : parseMethodDescriptor "(Ljava/util/Collection;)Ljava/util/List;" = some ⟨[(.object "java/util/Collection")], some (.object "java/util/List")⟩ := by decide +kernel
def Q26 (Z : State) (a1 : Addr) (k : Nat) (key : Nat → Addr) (h0 : Heap) (n0 : Nat) (v : Option Value) (h : Heap) (L : List Loc) : Prop := ∃ a, v = some (.ref a) ∧ Fr n0 L ∧ Keep h0 h []
theorem rm26 (l : Launch) (Z : State) (a0 : Array Value) (hw : ∀ d ∈ tables_1, d.before a0 Z = true) (ws : List Jvm.Cond) (a1 : Addr) (k : Nat) (key : Nat → Addr) (h0 : Heap) (n0 : Nat) (Z0 : n0 ≤ h0.size) (cs : Int32) (dA pr eL eE : Addr) (TT : STT Z cs dA pr eL eE) (OL : Old Z n0 h0) (mr : Addr) (MR : Mir Z "[Ljava/lang/Object;" mr) (L0 : LST Z h0 n0 dA a1 k key) (hE : ∀ j, j < k → Exa Z h0 (key j) "java/lang/String") (hk4 : k ≤ 4) :
    MetFree l (⟨"java/util/ImmutableCollections", "listCopy", "(Ljava/util/Collection;)Ljava/util/List;"⟩ : MethodName) (head1 (Jvm.Cond.code (⟨"java/util/ImmutableCollections", "listCopy", "(Ljava/util/Collection;)Ljava/util/List;"⟩ : MethodName) jdk_56_method_3_code 2 (some (.object "java/util/List")) :: ws) ({ frames := 7, cells := 3, slots := 10, locals := 102 } : Room)) (fun a U => a = #[(.ref a1)] ∧ Z.Warmed39 U.vm ∧ U.heap = h0) (fun _ _ _ _ _ => True) (fun _ U o U' => ∃ v L, o = .returned v ∧ (Q26 Z a1 k key h0 n0) v U'.heap L ∧ FrameEnd U o U' L ({ frames := 7, cells := 3, slots := 10, locals := 102 } : Room).cells ({ frames := 7, cells := 3, slots := 10, locals := 102 } : Room).slots) := by
  refine MetFree.of_bodySF pn_26 hisR ?_
  intro p e s m args below meth c s₁ Bd hml0 hP hK
  obtain ⟨rfl, hZ, hh⟩ := hP
  have hx := Bd.exec
  have hby := Bd.bytes
  have hml : c.maxLocals = 2 := hml0
  have hown : s.vm.findClass "java/util/ImmutableCollections" = some m.cls := findClass_of_methodNamed Bd.named
  have hnm := (name_of_methodNamed Bd.named Bd.method).1
  have X0 : Stand p l e ({ frames := 7, cells := 3, slots := 10, locals := 102 } : Room) s m #[(.ref a1)] below meth c s₁ [] 0 0 := Stand.of_body Bd
  have e0 : s₁.heap = h0 := by rw [← hh, Bd.state]; rfl
  have N0 := Fr.nil n0
  have lk : meth.locks = false := BodyLoose.notSynchronized Bd
  have hret := Bd.returns
  show Ends p e below (EF s ({ frames := 7, cells := 3, slots := 10, locals := 102 } : Room).cells ({ frames := 7, cells := 3, slots := 10, locals := 102 } : Room).slots) (Q26 Z a1 k key h0 n0) (s₁.setTop (entryFrame m #[(.ref a1)] 2))
  refine Ends.cast (ef_26 m a1) ?_
  obtain ⟨ed, mc, F0, D0⟩ := L0
  refine own_aloadN (n := 1) X0 hx (hb hby d26_0) rfl rfl rfl ?_
  refine own_inst0 (n := 4) X0 hx hZ hown (hw _ (List.mem_of_getElem? (i := 176) rfl)) e0 F0.1 (own_nsno (hw _ (List.mem_of_getElem? (i := 177) rfl)) (hw _ (List.mem_of_getElem? (i := 297) rfl)) (NS.step (hw _ (List.mem_of_getElem? (i := 177) rfl)) (NS.step (hw _ (List.mem_of_getElem? (i := 178) rfl)) (NS.step (hw _ (List.mem_of_getElem? (i := 179) rfl)) (own_nsroot (hw _ (List.mem_of_getElem? (i := 180) rfl)) (hw _ (List.mem_of_getElem? (i := 297) rfl)) (by decide)) (by decide)) (by decide)) (by decide)) (by decide)) (hb hby d26_1) rfl ?_
  intro T1 X1 e1
  refine own_ifNo (n := 7) X1 hx (hb hby d26_4) (Jvm.Free.XT.i0_ne_f rfl) rfl ?_
  refine own_aloadN (n := 8) X1 hx (hb hby d26_7) rfl rfl rfl ?_
  refine own_inst0 (n := 11) X1 hx hZ hown (hw _ (List.mem_of_getElem? (i := 181) rfl)) e1 F0.1 (own_nsno (hw _ (List.mem_of_getElem? (i := 177) rfl)) (hw _ (List.mem_of_getElem? (i := 375) rfl)) (NS.step (hw _ (List.mem_of_getElem? (i := 177) rfl)) (NS.step (hw _ (List.mem_of_getElem? (i := 178) rfl)) (NS.step (hw _ (List.mem_of_getElem? (i := 179) rfl)) (own_nsroot (hw _ (List.mem_of_getElem? (i := 180) rfl)) (hw _ (List.mem_of_getElem? (i := 375) rfl)) (by decide)) (by decide)) (by decide)) (by decide)) (by decide)) (hb hby d26_8) rfl ?_
  intro T2 X2 e2
  refine own_ifYes (n := 31) X2 hx (hb hby d26_11) (Jvm.Free.XT.i0_eq_t rfl) (by decide) (by decide) ?_
  refine own_aloadN (n := 32) X2 hx (hb hby d26_31) rfl rfl rfl ?_
  refine own_callI (n := 37) X2 hx hZ hown (hw _ (List.mem_of_getElem? (i := 182) rfl)) (hw _ (List.mem_of_getElem? (i := 183) rfl)) (hw _ (List.mem_of_getElem? (i := 184) rfl)) (hw _ (List.mem_of_getElem? (i := 185) rfl)) (hw _ (List.mem_of_getElem? (i := 186) rfl)) (hw _ (List.mem_of_getElem? (i := 187) rfl)) (hw _ (List.mem_of_getElem? (i := 188) rfl)) (hw _ (List.mem_of_getElem? (i := 189) rfl)) (hw _ (List.mem_of_getElem? (i := 3) rfl)) (hw _ (List.mem_of_getElem? (i := 190) rfl)) (by decide) e2 F0.1 (rm27 l Z a0 hw [] a1 dA k key h0 n0 Z0 ⟨ed, mc, F0, D0⟩ (by omega)) (W := 0) (by decide) (by decide) (by decide) (by decide) (by rw [hml]; rfl) (argsL := []) (rest := []) pd_27 rfl (by rfl) (Nat.le_of_eq rfl) (hb hby d26_32) rfl rfl ?_
  intro v3 T3 h3 L3 X3 e3 q3
  obtain ⟨r3, rfl, ra3, rb3, M3, rfl⟩ := q3
  have N3 := Fr.app N0 M3
  by_cases c37 : r3 = 0
  · refine own_ifYes (n := 44) X3 hx (hb hby d26_37) (Jvm.Free.XT.i0_eq_t c37) (by decide) (by decide) ?_
    refine own_aloadN (n := 45) X3 hx (hb hby d26_44) rfl rfl rfl ?_
    have hk1 : 1 ≤ k := Nat.pos_of_ne_zero (fun z => ra3 z c37)
    refine own_callI (n := 50) X3 hx hZ hown (hw _ (List.mem_of_getElem? (i := 263) rfl)) (hw _ (List.mem_of_getElem? (i := 264) rfl)) (hw _ (List.mem_of_getElem? (i := 265) rfl)) (hw _ (List.mem_of_getElem? (i := 266) rfl)) (hw _ (List.mem_of_getElem? (i := 267) rfl)) (hw _ (List.mem_of_getElem? (i := 268) rfl)) (hw _ (List.mem_of_getElem? (i := 269) rfl)) (hw _ (List.mem_of_getElem? (i := 189) rfl)) (hw _ (List.mem_of_getElem? (i := 3) rfl)) (hw _ (List.mem_of_getElem? (i := 270) rfl)) (by decide) e3 F0.1 (rm39 l Z a0 hw [] a1 k key h0 n0 Z0 cs dA pr eL eE TT OL mr MR ⟨ed, mc, F0, D0⟩ hE hk4 hk1) (W := 0) (by decide) (by decide) (by decide) (by decide) (by rw [hml]; rfl) (argsL := []) (rest := []) pd_39 rfl (by rfl) (Nat.le_of_eq rfl) (hb hby d26_45) rfl rfl ?_
    intro v4 T4 h4 L4 X4 e4 q4
    obtain ⟨o4, t4, rfl, M4, K4, A4, q4⟩ := q4
    have N4 := Fr.app N3 M4
    have Z4 : n0 ≤ h4.size := Nat.le_trans Z0 K4.1
    have OL4 := OL.keep K4 all0
    have F4_a1 := F0.keep K4 nin0
    have KK4 := (Keep.refl h0 []).trans K4 (fun z hz => nomatch hz)
    refine own_callS (n := 53) X4 hx hZ hown (hw _ (List.mem_of_getElem? (i := 293) rfl)) (hw _ (List.mem_of_getElem? (i := 294) rfl)) (hw _ (List.mem_of_getElem? (i := 170) rfl)) (hw _ (List.mem_of_getElem? (i := 295) rfl)) (by decide) e4 (rm43 l Z a0 hw [] o4 h4 n0 Z4 cs dA pr eL eE TT OL4 k t4 key A4 q4 (fun j hj => (hE j hj).keep K4) hk4 hk1) (W := 0) (by decide) (by decide) (by decide) (by decide) (by rw [hml]; rfl) (argsL := [(.ref o4)]) (rest := []) pd_43 rfl (by rfl) (Nat.le_of_eq rfl) (hb hby d26_50) rfl rfl ?_
    intro v5 T5 h5 L5 X5 e5 q5
    obtain ⟨o5, rfl, M5, K5⟩ := q5
    have N5 := Fr.app N4 M5
    have Z5 : n0 ≤ h5.size := Nat.le_trans Z4 K5.1
    have OL5 := OL4.keep K5 all0
    have F5_a1 := F4_a1.keep K5 nin0
    have KK5 := KK4.trans K5 (fun z hz => nomatch hz)
    refine own_retA X5 hx lk hret rfl rfl (hb hby d26_53) (by decide) (by decide) ?_
    rw [e5]
    exact ⟨_, rfl, N5, KK5⟩
  · refine own_ifNo (n := 40) X3 hx (hb hby d26_37) (Jvm.Free.XT.i0_eq_f c37) rfl ?_
    refine own_callS (n := 43) X3 hx hZ hown (hw _ (List.mem_of_getElem? (i := 193) rfl)) (hw _ (List.mem_of_getElem? (i := 194) rfl)) (hw _ (List.mem_of_getElem? (i := 170) rfl)) (hw _ (List.mem_of_getElem? (i := 195) rfl)) (by decide) e3 (rm28 l Z a0 hw []  h0 n0 Z0 cs dA pr eL eE TT OL) (W := 0) (by decide) (by decide) (by decide) (by decide) (by rw [hml]; rfl) (argsL := []) (rest := []) pd_28 rfl (by rfl) (Nat.le_of_eq rfl) (hb hby d26_40) rfl rfl ?_
    intro v6 T6 h6 L6 X6 e6 q6
    obtain ⟨o6, rfl, M6, K6⟩ := q6
    have N6 := Fr.app N3 M6
    have Z6 : n0 ≤ h6.size := Nat.le_trans Z0 K6.1
    have OL6 := OL.keep K6 all0
    have F6_a1 := F0.keep K6 nin0
    have KK6 := (Keep.refl h0 []).trans K6 (fun z hz => nomatch hz)
    refine own_retA X6 hx lk hret rfl rfl (hb hby d26_43) (by decide) (by decide) ?_
    rw [e6]
    exact ⟨_, rfl, N6, KK6⟩
theorem d25_0 : decode jdk_40_method_48_code 0 = .ok (.aload_n 0, 1) := by decide +kernel
theorem d25_1 : decode jdk_40_method_48_code 1 = .ok (.invokestatic 112, 3) := by decide +kernel
theorem d25_4 : decode jdk_40_method_48_code 4 = .ok (.areturn, 1) := by decide +kernel
theorem pn_25 : plainFor (⟨"java/util/List", "copyOf", "(Ljava/util/Collection;)Ljava/util/List;"⟩ : MethodName) = true := by first | exact plainFor_of_name (by first | (simp [plainName, overriddenIn]; done) | decide +kernel) | decide +kernel
theorem ef_25 (m : MethodId) (a1 : Addr) : entryFrame m #[(.ref a1)] 1 = mkF m 0 #[.val (.ref a1)] [] := by first | (simp [entryFrame, argsToLocals, Value.category, Array.replicate]; done) | rfl
theorem pd_25 : parseMethodDescriptor "(Ljava/util/Collection;)Ljava/util/List;" = some ⟨[(.object "java/util/Collection")], some (.object "java/util/List")⟩ := by decide +kernel
def Q25 (Z : State) (a1 : Addr) (k : Nat) (key : Nat → Addr) (h0 : Heap) (n0 : Nat) (v : Option Value) (h : Heap) (L : List Loc) : Prop := ∃ a, v = some (.ref a) ∧ Fr n0 L ∧ Keep h0 h []
theorem rm25 (l : Launch) (Z : State) (a0 : Array Value) (hw : ∀ d ∈ tables_1, d.before a0 Z = true) (ws : List Jvm.Cond) (a1 : Addr) (k : Nat) (key : Nat → Addr) (h0 : Heap) (n0 : Nat) (Z0 : n0 ≤ h0.size) (cs : Int32) (dA pr eL eE : Addr) (TT : STT Z cs dA pr eL eE) (OL : Old Z n0 h0) (mr : Addr) (MR : Mir Z "[Ljava/lang/Object;" mr) (L0 : LST Z h0 n0 dA a1 k key) (hE : ∀ j, j < k → Exa Z h0 (key j) "java/lang/String") (hk4 : k ≤ 4) :
    MetFree l (⟨"java/util/List", "copyOf", "(Ljava/util/Collection;)Ljava/util/List;"⟩ : MethodName) (head1 (Jvm.Cond.code (⟨"java/util/List", "copyOf", "(Ljava/util/Collection;)Ljava/util/List;"⟩ : MethodName) jdk_40_method_48_code 1 (some (.object "java/util/List")) :: ws) ({ frames := 8, cells := 3, slots := 10, locals := 115 } : Room)) (fun a U => a = #[(.ref a1)] ∧ Z.Warmed39 U.vm ∧ U.heap = h0) (fun _ _ _ _ _ => True) (fun _ U o U' => ∃ v L, o = .returned v ∧ (Q25 Z a1 k key h0 n0) v U'.heap L ∧ FrameEnd U o U' L ({ frames := 8, cells := 3, slots := 10, locals := 115 } : Room).cells ({ frames := 8, cells := 3, slots := 10, locals := 115 } : Room).slots) := by
  refine MetFree.of_bodySF pn_25 hisR ?_
  intro p e s m args below meth c s₁ Bd hml0 hP hK
  obtain ⟨rfl, hZ, hh⟩ := hP
  have hx := Bd.exec
  have hby := Bd.bytes
  have hml : c.maxLocals = 1 := hml0
  have hown : s.vm.findClass "java/util/List" = some m.cls := findClass_of_methodNamed Bd.named
  have hnm := (name_of_methodNamed Bd.named Bd.method).1
  have X0 : Stand p l e ({ frames := 8, cells := 3, slots := 10, locals := 115 } : Room) s m #[(.ref a1)] below meth c s₁ [] 0 0 := Stand.of_body Bd
  have e0 : s₁.heap = h0 := by rw [← hh, Bd.state]; rfl
  have N0 := Fr.nil n0
  have lk : meth.locks = false := BodyLoose.notSynchronized Bd
  have hret := Bd.returns
  show Ends p e below (EF s ({ frames := 8, cells := 3, slots := 10, locals := 115 } : Room).cells ({ frames := 8, cells := 3, slots := 10, locals := 115 } : Room).slots) (Q25 Z a1 k key h0 n0) (s₁.setTop (entryFrame m #[(.ref a1)] 1))
  refine Ends.cast (ef_25 m a1) ?_
  refine own_aloadN (n := 1) X0 hx (hb hby d25_0) rfl rfl rfl ?_
  refine own_callS (n := 4) X0 hx hZ hown (hw _ (List.mem_of_getElem? (i := 172) rfl)) (hw _ (List.mem_of_getElem? (i := 173) rfl)) (hw _ (List.mem_of_getElem? (i := 174) rfl)) (hw _ (List.mem_of_getElem? (i := 175) rfl)) (by decide) e0 (rm26 l Z a0 hw [] a1 k key h0 n0 Z0 cs dA pr eL eE TT OL mr MR L0 hE hk4) (W := 0) (by decide) (by decide) (by decide) (by decide) (by rw [hml]; rfl) (argsL := [(.ref a1)]) (rest := []) pd_26 rfl (by rfl) (Nat.le_of_eq rfl) (hb hby d25_1) rfl rfl ?_
  intro v1 T1 h1 L1 X1 e1 q1
  obtain ⟨o1, rfl, M1, K1⟩ := q1
  have N1 := Fr.app N0 M1
  have Z1 : n0 ≤ h1.size := Nat.le_trans Z0 K1.1
  have OL1 := OL.keep K1 all0
  have KK1 := (Keep.refl h0 []).trans K1 (fun z hz => nomatch hz)
  refine own_retA X1 hx lk hret rfl rfl (hb hby d25_4) (by decide) (by decide) ?_
  rw [e1]
  exact ⟨_, rfl, N1, KK1⟩
theorem own_sub1 {ii : Int32} {i : Nat} (h : ii.toInt = ((i + 1 : Nat) : Int)) (hi : i < 100000) : (ii - 1).toInt = (i : Int) := by
  have q := c_isub ii 1
  have r := rng32 (ii - 1)
  have o : (1 : Int32).toInt = 1 := rfl
  omega
theorem own_one4 {v0 v1 v2 v3 : Value} {o : Slot} {v : Int32} (h : One o) (q4 : v3.category = 1) : storeLocals #[.val v0, .val v1, .val v2, .val v3, o] 4 (.int v) = some #[.val v0, .val v1, .val v2, .val v3, .val (.int v)] := by
  rcases h with rfl | ⟨w, rfl, hw⟩
  · cases v3 <;> first | rfl | (simp [Value.category] at q4)
  · cases v3 <;> cases w <;> first | rfl | (simp [Value.category] at q4 hw)
def STRS (Z : State) (h : Heap) (n0 k cb : Nat) (key : Nat → Addr) : Prop := ∀ j, j < k → STRK Z h (key j) (Nat.toInt32 (cb + j)) ∧ n0 ≤ key j ∧ ∀ i, i < k → i ≠ j → key i ≠ key j
theorem STRS.ext {Z : State} {h h' : Heap} {n0 k cb : Nat} {key : Nat → Addr} (F : STRS Z h n0 k cb key) (E : Ext h h') : STRS Z h' n0 k cb key := fun j hj => ⟨(F j hj).1.ext E, (F j hj).2⟩
theorem STRS.kc {Z : State} {h h' : Heap} {n0 k cb : Nat} {key : Nat → Addr} {L : List (String ⊕ FieldType)} (F : STRS Z h n0 k cb key) (K : Kc Z h h' L) (q1 : NoS Z (.inl "java/lang/String") L) (q2 : NoS Z (.inr .byte) L) : STRS Z h' n0 k cb key := fun j hj => ⟨(F j hj).1.kc K q1 q2, (F j hj).2⟩
theorem STRS.one {Z : State} {h h' : Heap} {n0 k cb i : Nat} {key : Nat → Addr} {a0 : Array Value} {kk : Nat} (F : STRS Z h n0 k cb key) (w : (Cond.instantiable "java/lang/String" kk).before a0 Z = true) (hi : i < k) (K : Keep h h' [key i]) (S : STRK Z h' (key i) (Nat.toInt32 (cb + i))) : STRS Z h' n0 k cb key := fun j hj => by
  refine ⟨?_, (F j hj).2⟩
  by_cases e : j = i
  · subst e; exact S
  · exact STRK.keep1 w (F j hj).1 K ((F i hi).2.2 j hj e) (F i hi).1.exa
def JUD (Z : State) (h : Heap) (a : Addr) (k : Nat) (inS : Nat → Bool) : Prop := ∃ dv rf ct g, JR Z h a dv (.ref rf) ct ∧ IA Z h rf (k + 1) g ∧ ∀ j, j < k → (inS j = true → g j < g (j + 1)) ∧ (inS j = false → g (j + 1) = g j)
theorem JUD.exa {Z : State} {h : Heap} {a : Addr} {k : Nat} {inS : Nat → Bool} (F : JUD Z h a k inS) : Exa Z h a "com/example/avocet/avocet/eval/JudgedRanking" := by
  obtain ⟨dv, rf, ct, g, q, -⟩ := F
  exact q.1
theorem own_rfS {g G : Nat → Int32} {i : Nat} {inS : Nat → Bool} {q : Int32} (hG : ∀ y, G y = if y = (i + 1) then (g i + q) else g y) (hg : ∀ j, j < i → (inS j = true → g j < g (j + 1)) ∧ (inS j = false → g (j + 1) = g j)) (hgb : 0 ≤ (g i).toInt ∧ (g i).toInt ≤ (i : Int)) (hi : i < 100) (D : (inS i = true ∧ q = 1) ∨ (inS i = false ∧ q = 0)) :
    (∀ j, j < i + 1 → (inS j = true → G j < G (j + 1)) ∧ (inS j = false → G (j + 1) = G j)) ∧ 0 ≤ (G (i + 1)).toInt ∧ (G (i + 1)).toInt ≤ ((i + 1 : Nat) : Int) := by
  have e1 : G (i + 1) = g i + q := by rw [hG, if_pos rfl]
  have e2 : ∀ j, j < i + 1 → G j = g j := fun j hj => by rw [hG, if_neg (by omega)]
  have a1 := c_iadd (g i) q
  have a2 := rng32 (g i + q)
  have o1 : (1 : Int32).toInt = 1 := rfl
  have o0 : (0 : Int32).toInt = 0 := rfl
  refine ⟨fun j hj => ?_, ?_⟩
  · by_cases e : j = i
    · subst e
      rw [e1, e2 j (by omega)]
      rcases D with ⟨z, rfl⟩ | ⟨z, rfl⟩
      · exact ⟨fun _ => by rw [Int32.lt_iff_toInt_lt]; omega, fun y => absurd (z.symm.trans y) (by decide)⟩
      · exact ⟨fun y => absurd (z.symm.trans y) (by decide), fun _ => own_inj (by omega)⟩
    · rw [e2 j hj, e2 (j + 1) (by omega)]
      exact hg j (by omega)
  · rw [e1]
    rcases D with ⟨z, rfl⟩ | ⟨z, rfl⟩ <;> omega
theorem d24_0 : decode prog_15_method_1_code 0 = .ok (.aload_n 0, 1) := by decide +kernel
theorem d24_1 : decode prog_15_method_1_code 1 = .ok (.invokespecial 1, 3) := by decide +kernel
theorem d24_4 : decode prog_15_method_1_code 4 = .ok (.aload_n 0, 1) := by decide +kernel
theorem d24_5 : decode prog_15_method_1_code 5 = .ok (.aload_n 1, 1) := by decide +kernel
theorem d24_6 : decode prog_15_method_1_code 6 = .ok (.invokestatic 7, 3) := by decide +kernel
theorem d24_9 : decode prog_15_method_1_code 9 = .ok (.putfield 13, 3) := by decide +kernel
theorem d24_12 : decode prog_15_method_1_code 12 = .ok (.aload_n 0, 1) := by decide +kernel
theorem d24_13 : decode prog_15_method_1_code 13 = .ok (.aload_n 1, 1) := by decide +kernel
theorem d24_14 : decode prog_15_method_1_code 14 = .ok (.invokeinterface 19 1, 5) := by decide +kernel
theorem d24_19 : decode prog_15_method_1_code 19 = .ok (.iconst 1, 1) := by decide +kernel
theorem d24_20 : decode prog_15_method_1_code 20 = .ok (.iadd, 1) := by decide +kernel
theorem d24_21 : decode prog_15_method_1_code 21 = .ok (.newarray .int, 2) := by decide +kernel
theorem d24_23 : decode prog_15_method_1_code 23 = .ok (.putfield 23, 3) := by decide +kernel
theorem d24_26 : decode prog_15_method_1_code 26 = .ok (.iconst 1, 1) := by decide +kernel
theorem d24_27 : decode prog_15_method_1_code 27 = .ok (.istore_n 3, 1) := by decide +kernel
theorem d24_28 : decode prog_15_method_1_code 28 = .ok (.iload_n 3, 1) := by decide +kernel
theorem d24_29 : decode prog_15_method_1_code 29 = .ok (.aload_n 1, 1) := by decide +kernel
theorem d24_30 : decode prog_15_method_1_code 30 = .ok (.invokeinterface 19 1, 5) := by decide +kernel
theorem d24_35 : decode prog_15_method_1_code 35 = .ok (.if_icmp .gt 51, 3) := by decide +kernel
theorem d24_38 : decode prog_15_method_1_code 38 = .ok (.aload_n 2, 1) := by decide +kernel
theorem d24_39 : decode prog_15_method_1_code 39 = .ok (.aload_n 1, 1) := by decide +kernel
theorem d24_40 : decode prog_15_method_1_code 40 = .ok (.iload_n 3, 1) := by decide +kernel
theorem d24_41 : decode prog_15_method_1_code 41 = .ok (.iconst 1, 1) := by decide +kernel
theorem d24_42 : decode prog_15_method_1_code 42 = .ok (.isub, 1) := by decide +kernel
theorem d24_43 : decode prog_15_method_1_code 43 = .ok (.invokeinterface 27 2, 5) := by decide +kernel
theorem d24_48 : decode prog_15_method_1_code 48 = .ok (.invokeinterface 31 2, 5) := by decide +kernel
theorem d24_53 : decode prog_15_method_1_code 53 = .ok (.ifCond .eq 7, 3) := by decide +kernel
theorem d24_56 : decode prog_15_method_1_code 56 = .ok (.iconst 1, 1) := by decide +kernel
theorem d24_57 : decode prog_15_method_1_code 57 = .ok (.goto 4, 3) := by decide +kernel
theorem d24_60 : decode prog_15_method_1_code 60 = .ok (.iconst 0, 1) := by decide +kernel
theorem d24_61 : decode prog_15_method_1_code 61 = .ok (.istore 4, 2) := by decide +kernel
theorem d24_63 : decode prog_15_method_1_code 63 = .ok (.aload_n 0, 1) := by decide +kernel
theorem d24_64 : decode prog_15_method_1_code 64 = .ok (.getfield 23, 3) := by decide +kernel
theorem d24_67 : decode prog_15_method_1_code 67 = .ok (.iload_n 3, 1) := by decide +kernel
theorem d24_68 : decode prog_15_method_1_code 68 = .ok (.aload_n 0, 1) := by decide +kernel
theorem d24_69 : decode prog_15_method_1_code 69 = .ok (.getfield 23, 3) := by decide +kernel
theorem d24_72 : decode prog_15_method_1_code 72 = .ok (.iload_n 3, 1) := by decide +kernel
theorem d24_73 : decode prog_15_method_1_code 73 = .ok (.iconst 1, 1) := by decide +kernel
theorem d24_74 : decode prog_15_method_1_code 74 = .ok (.isub, 1) := by decide +kernel
theorem d24_75 : decode prog_15_method_1_code 75 = .ok (.iaload, 1) := by decide +kernel
theorem d24_76 : decode prog_15_method_1_code 76 = .ok (.iload 4, 2) := by decide +kernel
theorem d24_78 : decode prog_15_method_1_code 78 = .ok (.iadd, 1) := by decide +kernel
theorem d24_79 : decode prog_15_method_1_code 79 = .ok (.iastore, 1) := by decide +kernel
theorem d24_80 : decode prog_15_method_1_code 80 = .ok (.iinc 3 1, 3) := by decide +kernel
theorem d24_83 : decode prog_15_method_1_code 83 = .ok (.goto (-55), 3) := by decide +kernel
theorem d24_86 : decode prog_15_method_1_code 86 = .ok (.aload_n 0, 1) := by decide +kernel
theorem d24_87 : decode prog_15_method_1_code 87 = .ok (.aload_n 2, 1) := by decide +kernel
theorem d24_88 : decode prog_15_method_1_code 88 = .ok (.invokeinterface 37 1, 5) := by decide +kernel
theorem d24_93 : decode prog_15_method_1_code 93 = .ok (.putfield 38, 3) := by decide +kernel
theorem d24_96 : decode prog_15_method_1_code 96 = .ok (.return_, 1) := by decide +kernel
theorem pn_24 : plainFor (⟨"com/example/avocet/avocet/eval/JudgedRanking", "<init>", "(Ljava/util/List;Ljava/util/Set;)V"⟩ : MethodName) = true := by first | exact plainFor_of_name (by first | (simp [plainName, overriddenIn]; done) | decide +kernel) | decide +kernel
theorem ef_24 (m : MethodId) (a1 : Addr) (a2 : Addr) (a3 : Addr) : entryFrame m #[(.ref a1), (.ref a2), (.ref a3)] 5 = mkF m 0 #[.val (.ref a1), .val (.ref a2), .val (.ref a3), .unset, .unset] [] := by first | (simp [entryFrame, argsToLocals, Value.category, Array.replicate]; done) | rfl
theorem pd_24 : parseMethodDescriptor "(Ljava/util/List;Ljava/util/Set;)V" = some ⟨[(.object "java/util/List"), (.object "java/util/Set")], none⟩ := by decide +kernel
def Q24 (Z : State) (a1 : Addr) (a2 : Addr) (a3 : Addr) (k : Nat) (inS : Nat → Bool) (h0 : Heap) (n0 : Nat) (v : Option Value) (h : Heap) (L : List Loc) : Prop := v = none ∧ Fr n0 L ∧ Old Z n0 h ∧ JUD Z h a1 k inS
theorem rm24 (l : Launch) (Z : State) (a0 : Array Value) (hw : ∀ d ∈ tables_1, d.before a0 Z = true) (ws : List Jvm.Cond) (a1 : Addr) (a2 : Addr) (a3 : Addr) (k : Nat) (inS : Nat → Bool) (h0 : Heap) (n0 : Nat) (Z0 : n0 ≤ h0.size) (cs : Int32) (dA pr eL eE : Addr) (TT : STT Z cs dA pr eL eE) (OL : Old Z n0 h0) (mr : Addr) (MR : Mir Z "[Ljava/lang/Object;" mr) (key : Nat → Addr) (cb : Nat) (ct : Nat) (F0 : JR Z h0 a1 .null .null 0) (nb : n0 ≤ a1) (L0 : LST Z h0 n0 dA a2 k key) (T0 : SET Z h0 n0 a3 cb key inS ct) (SS : STRS Z h0 n0 k cb key) (hk4 : k ≤ 4) (hc : cb < 256) (hct : ct < 6) :
    MetFree l (⟨"com/example/avocet/avocet/eval/JudgedRanking", "<init>", "(Ljava/util/List;Ljava/util/Set;)V"⟩ : MethodName) (head1 (Jvm.Cond.code (⟨"com/example/avocet/avocet/eval/JudgedRanking", "<init>", "(Ljava/util/List;Ljava/util/Set;)V"⟩ : MethodName) prog_15_method_1_code 5 (none) :: ws) ({ frames := 9, cells := 4, slots := 15, locals := 128 } : Room)) (fun a U => a = #[(.ref a1), (.ref a2), (.ref a3)] ∧ Z.Warmed39 U.vm ∧ U.heap = h0) (fun _ _ _ _ _ => True) (fun _ U o U' => ∃ v L, o = .returned v ∧ (Q24 Z a1 a2 a3 k inS h0 n0) v U'.heap L ∧ FrameEnd U o U' L ({ frames := 9, cells := 4, slots := 15, locals := 128 } : Room).cells ({ frames := 9, cells := 4, slots := 15, locals := 128 } : Room).slots) := by
  refine MetFree.of_bodySF pn_24 hisR ?_
  intro p e s m args below meth c s₁ Bd hml0 hP hK
  obtain ⟨rfl, hZ, hh⟩ := hP
  have hx := Bd.exec
  have hby := Bd.bytes
  have hml : c.maxLocals = 5 := hml0
  have hown : s.vm.findClass "com/example/avocet/avocet/eval/JudgedRanking" = some m.cls := findClass_of_methodNamed Bd.named
  have hnm := (name_of_methodNamed Bd.named Bd.method).1
  have X0 : Stand p l e ({ frames := 9, cells := 4, slots := 15, locals := 128 } : Room) s m #[(.ref a1), (.ref a2), (.ref a3)] below meth c s₁ [] 0 0 := Stand.of_body Bd
  have e0 : s₁.heap = h0 := by rw [← hh, Bd.state]; rfl
  have N0 := Fr.nil n0
  have lk : meth.locks = false := BodyLoose.notSynchronized Bd
  have hret := Bd.returns
  show Ends p e below (EF s ({ frames := 9, cells := 4, slots := 15, locals := 128 } : Room).cells ({ frames := 9, cells := 4, slots := 15, locals := 128 } : Room).slots) (Q24 Z a1 a2 a3 k inS h0 n0) (s₁.setTop (entryFrame m #[(.ref a1), (.ref a2), (.ref a3)] 5))
  refine Ends.cast (ef_24 m a1 a2 a3) ?_
  have loop : ∀ (mm : Nat) (TB : State) (hB : Heap) (lB : List Loc) (ii : Int32) (sq : Slot) (i : Nat) (dr : Addr) (rf : Addr) (g : Nat → Int32) (XB : Stand p l e ({ frames := 9, cells := 4, slots := 15, locals := 128 } : Room) s m #[(.ref a1), (.ref a2), (.ref a3)] below meth c TB lB (0 + 3 + 1) (0 + 10 + 5)) (eB : TB.heap = hB) (NB : Fr n0 lB) (ZB : n0 ≤ hB.size) (hii : ii.toInt = ((i + 1 : Nat) : Int)) (hin : i + mm = k) (hsq : One sq) (OB : Old Z n0 hB) (FB : JR Z hB a1 (.ref dr) (.ref rf) 0) (AB : IA Z hB rf (k + 1) g) (nrf : n0 ≤ rf) (LB : LST Z hB n0 dA a2 k key) (UB : SET Z hB n0 a3 cb key inS ct) (SB : STRS Z hB n0 k cb key) (hg : ∀ j, j < i → (inS j = true → g j < g (j + 1)) ∧ (inS j = false → g (j + 1) = g j)) (hgb : 0 ≤ (g i).toInt ∧ (g i).toInt ≤ (i : Int)), Ends p e below (EF s ({ frames := 9, cells := 4, slots := 15, locals := 128 } : Room).cells ({ frames := 9, cells := 4, slots := 15, locals := 128 } : Room).slots) (Q24 Z a1 a2 a3 k inS h0 n0) (TB.setTop (mkF m 28 #[.val (.ref a1), .val (.ref a2), .val (.ref a3), .val (.int ii), sq] [])) := by
    intro mm
    induction mm with
    | zero =>
      intro TB hB lB ii sq i dr rf g XB eB NB ZB hii hin hsq OB FB AB nrf LB UB SB hg hgb
      refine own_iloadN (n := 29) XB hx (hb hby d24_28) rfl rfl ?_
      refine own_aloadN (n := 30) XB hx (hb hby d24_29) rfl rfl rfl ?_
      refine own_callI (n := 35) XB hx hZ hown (hw _ (List.mem_of_getElem? (i := 199) rfl)) (hw _ (List.mem_of_getElem? (i := 200) rfl)) (hw _ (List.mem_of_getElem? (i := 201) rfl)) (hw _ (List.mem_of_getElem? (i := 202) rfl)) (hw _ (List.mem_of_getElem? (i := 203) rfl)) (hw _ (List.mem_of_getElem? (i := 204) rfl)) (hw _ (List.mem_of_getElem? (i := 205) rfl)) (hw _ (List.mem_of_getElem? (i := 206) rfl)) (hw _ (List.mem_of_getElem? (i := 3) rfl)) (hw _ (List.mem_of_getElem? (i := 207) rfl)) (by decide) eB LB.exa (rm29 l Z a0 hw [] a2 dA k key hB n0 ZB LB) (W := 1) (by decide) (by decide) (by decide) (by decide) (by rw [hml]; rfl) (argsL := []) (rest := [(.int ii)]) pd_29 rfl (by rfl) (Nat.le_of_eq rfl) (hb hby d24_30) rfl rfl ?_
      intro v1 T1 h1 L1 X1 e1 q1
      obtain ⟨rfl, M1, rfl⟩ := q1
      have N1 := Fr.app NB M1
      refine own_icmpYes (n := 86) X1 hx (hb hby d24_35) (Jvm.Free.XT.ii_gt_t (by rw [Int32.lt_iff_toInt_lt, len_toInt (by omega)]; omega)) (by decide) (by decide) ?_
      refine own_aloadN (n := 87) X1 hx (hb hby d24_86) rfl rfl rfl ?_
      refine own_aloadN (n := 88) X1 hx (hb hby d24_87) rfl rfl rfl ?_
      refine own_callI (n := 93) X1 hx hZ hown (hw _ (List.mem_of_getElem? (i := 211) rfl)) (hw _ (List.mem_of_getElem? (i := 212) rfl)) (hw _ (List.mem_of_getElem? (i := 213) rfl)) (hw _ (List.mem_of_getElem? (i := 214) rfl)) (hw _ (List.mem_of_getElem? (i := 215) rfl)) (hw _ (List.mem_of_getElem? (i := 216) rfl)) (hw _ (List.mem_of_getElem? (i := 217) rfl)) (hw _ (List.mem_of_getElem? (i := 218) rfl)) (hw _ (List.mem_of_getElem? (i := 29) rfl)) (hw _ (List.mem_of_getElem? (i := 219) rfl)) (by decide) e1 UB.exa (rm30 l Z a0 hw [] a3 cb key inS ct 0 hB n0 ZB UB) (W := 1) (by decide) (by decide) (by decide) (by decide) (by rw [hml]; rfl) (argsL := []) (rest := [(.ref a1)]) pd_30 rfl (by rfl) (Nat.le_of_eq rfl) (hb hby d24_88) rfl rfl ?_
      intro v2 T2 h2 L2 X2 e2 q2
      obtain ⟨q2, rfl, M2, rfl⟩ := q2
      have N2 := Fr.app N1 M2
      refine own_putF (n := 96) X2 hx hZ hown (hw _ (List.mem_of_getElem? (i := 225) rfl)) e2 FB.2.2.2 FB.1 (Or.inr ⟨(hw _ (List.mem_of_getElem? (i := 226) rfl)), rfl, hnm⟩) (hw _ (List.mem_of_getElem? (i := 162) rfl)) (ty := .int) (by decide) rfl rfl (hb hby d24_93) rfl ?_
      intro T3 h3 X3 e3 W3
      have N3 := Fr.snoc X3 N2 nb
      have Z3 : n0 ≤ h3.size := Nat.le_trans ZB (Keep.of_wr W3).1
      have OL3 := OB.wr W3 nb
      have F3_a1 := FB.set_relevantCount hw W3
      have F3_rf := AB.wrO W3 (Ne.symm (own_neOA FB.1 (hw _ (List.mem_of_getElem? (i := 162) rfl)) AB))
      have KW3 : Kc Z hB h3 [(.inl "com/example/avocet/avocet/eval/JudgedRanking")] := Kc.ofKeep (Keep.of_wr W3) (kinS (List.mem_singleton.mpr rfl) (fun c e => exaSort FB.1 c e) kin0)
      have Y3_a2 := LB.kc KW3 (noS (noCC (by decide)) no0) (noS (noAC (hw _ (List.mem_of_getElem? (i := 162) rfl))) no0)
      have Y3_a3 := UB.kc KW3 (noS (noCC (by decide)) no0) (noS (noCC (by decide)) no0) (noS (noCC (by decide)) no0) (noS (noAC (hw _ (List.mem_of_getElem? (i := 162) rfl))) no0)
      have Y3_S := SB.kc KW3 (noS (noCC (by decide)) no0) (noS (noAC (hw _ (List.mem_of_getElem? (i := 162) rfl))) no0)
      refine own_retV X3 hx lk hret (hb hby d24_96) (by decide) (by decide) ?_
      rw [e3]
      exact ⟨rfl, N3, OL3, _, _, _, _, F3_a1, F3_rf, fun j hj => hg j (by omega)⟩
    | succ mm ih =>
      intro TB hB lB ii sq i dr rf g XB eB NB ZB hii hin hsq OB FB AB nrf LB UB SB hg hgb
      refine own_iloadN (n := 29) XB hx (hb hby d24_28) rfl rfl ?_
      refine own_aloadN (n := 30) XB hx (hb hby d24_29) rfl rfl rfl ?_
      refine own_callI (n := 35) XB hx hZ hown (hw _ (List.mem_of_getElem? (i := 199) rfl)) (hw _ (List.mem_of_getElem? (i := 200) rfl)) (hw _ (List.mem_of_getElem? (i := 201) rfl)) (hw _ (List.mem_of_getElem? (i := 202) rfl)) (hw _ (List.mem_of_getElem? (i := 203) rfl)) (hw _ (List.mem_of_getElem? (i := 204) rfl)) (hw _ (List.mem_of_getElem? (i := 205) rfl)) (hw _ (List.mem_of_getElem? (i := 206) rfl)) (hw _ (List.mem_of_getElem? (i := 3) rfl)) (hw _ (List.mem_of_getElem? (i := 207) rfl)) (by decide) eB LB.exa (rm29 l Z a0 hw [] a2 dA k key hB n0 ZB LB) (W := 1) (by decide) (by decide) (by decide) (by decide) (by rw [hml]; rfl) (argsL := []) (rest := [(.int ii)]) pd_29 rfl (by rfl) (Nat.le_of_eq rfl) (hb hby d24_30) rfl rfl ?_
      intro v4 T4 h4 L4 X4 e4 q4
      obtain ⟨rfl, M4, rfl⟩ := q4
      have N4 := Fr.app NB M4
      refine own_icmpNo (n := 38) X4 hx (hb hby d24_35) (Jvm.Free.XT.ii_gt_f (by rw [Int32.lt_iff_toInt_lt, len_toInt (by omega)]; omega)) rfl ?_
      refine own_aloadN (n := 39) X4 hx (hb hby d24_38) rfl rfl rfl ?_
      refine own_aloadN (n := 40) X4 hx (hb hby d24_39) rfl rfl rfl ?_
      refine own_iloadN (n := 41) X4 hx (hb hby d24_40) rfl rfl ?_
      refine own_iconst (n := 42) X4 hx (1 : Int32) (hb hby d24_41) rfl rfl ?_
      refine own_isub (n := 43) X4 hx (hb hby d24_42) rfl ?_
      refine own_callI (n := 48) X4 hx hZ hown (hw _ (List.mem_of_getElem? (i := 325) rfl)) (hw _ (List.mem_of_getElem? (i := 326) rfl)) (hw _ (List.mem_of_getElem? (i := 327) rfl)) (hw _ (List.mem_of_getElem? (i := 328) rfl)) (hw _ (List.mem_of_getElem? (i := 329) rfl)) (hw _ (List.mem_of_getElem? (i := 330) rfl)) (hw _ (List.mem_of_getElem? (i := 331) rfl)) (hw _ (List.mem_of_getElem? (i := 206) rfl)) (hw _ (List.mem_of_getElem? (i := 3) rfl)) (hw _ (List.mem_of_getElem? (i := 332) rfl)) (by decide) e4 LB.exa (rm48 l Z a0 hw [] a2 (ii - (1 : Int32)) dA k key i hB n0 ZB LB (by omega) (own_sub1 hii (by omega)) (by omega)) (W := 1) (by decide) (by decide) (by decide) (by decide) (by rw [hml]; rfl) (argsL := [(.int (ii - (1 : Int32)))]) (rest := [(.ref a3)]) pd_48 rfl (by rfl) (Nat.le_of_eq rfl) (hb hby d24_43) rfl rfl ?_
      intro v5 T5 h5 L5 X5 e5 q5
      obtain ⟨rfl, M5, rfl⟩ := q5
      have N5 := Fr.app N4 M5
      have hik : i < k := by omega
      refine own_callI (n := 53) X5 hx hZ hown (hw _ (List.mem_of_getElem? (i := 345) rfl)) (hw _ (List.mem_of_getElem? (i := 346) rfl)) (hw _ (List.mem_of_getElem? (i := 347) rfl)) (hw _ (List.mem_of_getElem? (i := 348) rfl)) (hw _ (List.mem_of_getElem? (i := 349) rfl)) (hw _ (List.mem_of_getElem? (i := 350) rfl)) (hw _ (List.mem_of_getElem? (i := 351) rfl)) (hw _ (List.mem_of_getElem? (i := 218) rfl)) (hw _ (List.mem_of_getElem? (i := 29) rfl)) (hw _ (List.mem_of_getElem? (i := 352) rfl)) (by decide) e5 UB.exa (rm52 l Z a0 hw [] a3 (key i) cb key inS ct i hB n0 ZB cs dA pr eL eE TT OB UB (SB i hik).1 (SB i hik).2.1 hc (by omega) hct (fun _ => rfl)) (W := 0) (by decide) (by decide) (by decide) (by decide) (by rw [hml]; rfl) (argsL := [(.ref (key i))]) (rest := []) pd_52 rfl (by rfl) (Nat.le_of_eq rfl) (hb hby d24_48) rfl rfl ?_
      intro v6 T6 h6 L6 X6 e6 q6
      obtain ⟨r6, rfl, D6, M6, K6, S6⟩ := q6
      have N6 := Fr.app N5 M6
      have KS6 : Kc Z hB h6 [(.inl "java/lang/String")] := Kc.ofKeep K6 (kinS (List.mem_of_getElem? (i := 0) rfl) (fun c e => exaSort (SB i hik).1.exa c e) kin0)
      have OL6 := OB.keep K6 (allS (SB i hik).2.1 all0)
      have Z6 : n0 ≤ h6.size := Nat.le_trans ZB KS6.1
      have F6_a1 := FB.kc KS6 (noS (noCC (by decide)) no0)
      have F6_rf := AB.kc KS6 (noS (noAC (hw _ (List.mem_of_getElem? (i := 70) rfl))) no0)
      have Y6_a2 := LB.kc KS6 (noS (noCC (by decide)) no0) (noS (noAC (hw _ (List.mem_of_getElem? (i := 70) rfl))) no0)
      have Y6_a3 := UB.kc KS6 (noS (noCC (by decide)) no0) (noS (noCC (by decide)) no0) (noS (noCC (by decide)) no0) (noS (noAC (hw _ (List.mem_of_getElem? (i := 70) rfl))) no0)
      have Y6_S := SB.one (hw _ (List.mem_of_getElem? (i := 70) rfl)) hik K6 S6
      by_cases c53 : r6 = 0
      · refine own_ifYes (n := 60) X6 hx (hb hby d24_53) (Jvm.Free.XT.i0_eq_t c53) (by decide) (by decide) ?_
        refine own_iconst (n := 61) X6 hx (0 : Int32) (hb hby d24_60) rfl rfl ?_
        refine own_istore (n := 63) X6 hx (hb hby d24_61) (l' := #[.val (.ref a1), .val (.ref a2), .val (.ref a3), .val (.int ii), .val (.int (0 : Int32))]) (own_one4 hsq rfl) rfl ?_
        refine own_aloadN (n := 64) X6 hx (hb hby d24_63) rfl rfl rfl ?_
        refine own_getF (n := 67) X6 hx hZ hown (hw _ (List.mem_of_getElem? (i := 209) rfl)) e6 F6_a1.2.2.1 (hb hby d24_64) rfl ?_
        intro T7 X7 e7
        refine own_iloadN (n := 68) X7 hx (hb hby d24_67) rfl rfl ?_
        refine own_aloadN (n := 69) X7 hx (hb hby d24_68) rfl rfl rfl ?_
        refine own_getF (n := 72) X7 hx hZ hown (hw _ (List.mem_of_getElem? (i := 209) rfl)) e7 F6_a1.2.2.1 (hb hby d24_69) rfl ?_
        intro T8 X8 e8
        refine own_iloadN (n := 73) X8 hx (hb hby d24_72) rfl rfl ?_
        refine own_iconst (n := 74) X8 hx (1 : Int32) (hb hby d24_73) rfl rfl ?_
        refine own_isub (n := 75) X8 hx (hb hby d24_74) rfl ?_
        refine own_iaload (n := 76) X8 hx hZ e8 F6_rf (i := i) (own_sub1 hii (by omega)) (by omega) (hb hby d24_75) rfl ?_
        refine own_iload (n := 78) X8 hx (hb hby d24_76) rfl rfl ?_
        refine own_iadd (n := 79) X8 hx (hb hby d24_78) rfl ?_
        refine own_iastore (n := 80) X8 hx hZ e8 F6_rf (i := (i + 1)) hii (by omega) (hb hby d24_79) rfl ?_
        intro T9 h9 X9 e9 W9 A9
        have N9 := Fr.snoc X9 N6 nrf
        have Z9 : n0 ≤ h9.size := Nat.le_trans Z6 (Keep.of_wr W9).1
        have KW9 : Kc Z h6 h9 [(.inr .int)] := Kc.ofKeep (Keep.of_wr W9) (kinS (List.mem_singleton.mpr rfl) (fun c e => VA.sort F6_rf c e) kin0)
        have Y9_a2 := Y6_a2.kc KW9 (noS (noCA (hw _ (List.mem_of_getElem? (i := 2) rfl))) no0) (noS (noAA (by decide)) no0)
        have Y9_a3 := Y6_a3.kc KW9 (noS (noCA (hw _ (List.mem_of_getElem? (i := 28) rfl))) no0) (noS (noCA (hw _ (List.mem_of_getElem? (i := 42) rfl))) no0) (noS (noCA (hw _ (List.mem_of_getElem? (i := 137) rfl))) no0) (noS (noAA (by decide)) no0)
        have Y9_S := Y6_S.kc KW9 (noS (noCA (hw _ (List.mem_of_getElem? (i := 70) rfl))) no0) (noS (noAA (by decide)) no0)
        have OL9 := OL6.wr W9 nrf
        have F9_a1 := F6_a1.wrO W9 (own_neOA F6_a1.1 (hw _ (List.mem_of_getElem? (i := 162) rfl)) F6_rf)
        refine own_iinc (n := 83) X9 hx (hb hby d24_80) rfl (v := (1 : Int32)) rfl (l' := #[.val (.ref a1), .val (.ref a2), .val (.ref a3), .val (.int (ii + (1 : Int32))), .val (.int (0 : Int32))]) rfl rfl ?_
        refine own_goto (n := 28) X9 hx (hb hby d24_83) (by decide) (by decide) ?_
        show Ends p e below (EF s ({ frames := 9, cells := 4, slots := 15, locals := 128 } : Room).cells ({ frames := 9, cells := 4, slots := 15, locals := 128 } : Room).slots) (Q24 Z a1 a2 a3 k inS h0 n0) (T9.setTop (mkF m 28 #[.val (.ref a1), .val (.ref a2), .val (.ref a3), .val (.int (ii + (1 : Int32))), .val (.int (0 : Int32))] []))
        obtain ⟨hg1, hgb1⟩ := own_rfS (G := (fun y => if y = (i + 1) then ((g i) + (0 : Int32)) else g y)) (q := (0 : Int32)) (fun _ => rfl) hg hgb (by omega) (Or.inr ⟨D6.elim (fun z => absurd (z.2.symm.trans c53) (by decide)) (fun z => z.1), rfl⟩)
        exact ih _ _ _ _ _ (i + 1) dr rf (fun y => if y = (i + 1) then ((g i) + (0 : Int32)) else g y) X9 e9 N9 Z9 (own_add1 hii (by omega)) (by omega) (One.val rfl) OL9 F9_a1 A9 nrf Y9_a2 Y9_a3 Y9_S hg1 hgb1
      · refine own_ifNo (n := 56) X6 hx (hb hby d24_53) (Jvm.Free.XT.i0_eq_f c53) rfl ?_
        refine own_iconst (n := 57) X6 hx (1 : Int32) (hb hby d24_56) rfl rfl ?_
        refine own_goto (n := 61) X6 hx (hb hby d24_57) (by decide) (by decide) ?_
        refine own_istore (n := 63) X6 hx (hb hby d24_61) (l' := #[.val (.ref a1), .val (.ref a2), .val (.ref a3), .val (.int ii), .val (.int (1 : Int32))]) (own_one4 hsq rfl) rfl ?_
        refine own_aloadN (n := 64) X6 hx (hb hby d24_63) rfl rfl rfl ?_
        refine own_getF (n := 67) X6 hx hZ hown (hw _ (List.mem_of_getElem? (i := 209) rfl)) e6 F6_a1.2.2.1 (hb hby d24_64) rfl ?_
        intro T10 X10 e10
        refine own_iloadN (n := 68) X10 hx (hb hby d24_67) rfl rfl ?_
        refine own_aloadN (n := 69) X10 hx (hb hby d24_68) rfl rfl rfl ?_
        refine own_getF (n := 72) X10 hx hZ hown (hw _ (List.mem_of_getElem? (i := 209) rfl)) e10 F6_a1.2.2.1 (hb hby d24_69) rfl ?_
        intro T11 X11 e11
        refine own_iloadN (n := 73) X11 hx (hb hby d24_72) rfl rfl ?_
        refine own_iconst (n := 74) X11 hx (1 : Int32) (hb hby d24_73) rfl rfl ?_
        refine own_isub (n := 75) X11 hx (hb hby d24_74) rfl ?_
        refine own_iaload (n := 76) X11 hx hZ e11 F6_rf (i := i) (own_sub1 hii (by omega)) (by omega) (hb hby d24_75) rfl ?_
        refine own_iload (n := 78) X11 hx (hb hby d24_76) rfl rfl ?_
        refine own_iadd (n := 79) X11 hx (hb hby d24_78) rfl ?_
        refine own_iastore (n := 80) X11 hx hZ e11 F6_rf (i := (i + 1)) hii (by omega) (hb hby d24_79) rfl ?_
        intro T12 h12 X12 e12 W12 A12
        have N12 := Fr.snoc X12 N6 nrf
        have Z12 : n0 ≤ h12.size := Nat.le_trans Z6 (Keep.of_wr W12).1
        have KW12 : Kc Z h6 h12 [(.inr .int)] := Kc.ofKeep (Keep.of_wr W12) (kinS (List.mem_singleton.mpr rfl) (fun c e => VA.sort F6_rf c e) kin0)
        have Y12_a2 := Y6_a2.kc KW12 (noS (noCA (hw _ (List.mem_of_getElem? (i := 2) rfl))) no0) (noS (noAA (by decide)) no0)
        have Y12_a3 := Y6_a3.kc KW12 (noS (noCA (hw _ (List.mem_of_getElem? (i := 28) rfl))) no0) (noS (noCA (hw _ (List.mem_of_getElem? (i := 42) rfl))) no0) (noS (noCA (hw _ (List.mem_of_getElem? (i := 137) rfl))) no0) (noS (noAA (by decide)) no0)
        have Y12_S := Y6_S.kc KW12 (noS (noCA (hw _ (List.mem_of_getElem? (i := 70) rfl))) no0) (noS (noAA (by decide)) no0)
        have OL12 := OL6.wr W12 nrf
        have F12_a1 := F6_a1.wrO W12 (own_neOA F6_a1.1 (hw _ (List.mem_of_getElem? (i := 162) rfl)) F6_rf)
        refine own_iinc (n := 83) X12 hx (hb hby d24_80) rfl (v := (1 : Int32)) rfl (l' := #[.val (.ref a1), .val (.ref a2), .val (.ref a3), .val (.int (ii + (1 : Int32))), .val (.int (1 : Int32))]) rfl rfl ?_
        refine own_goto (n := 28) X12 hx (hb hby d24_83) (by decide) (by decide) ?_
        show Ends p e below (EF s ({ frames := 9, cells := 4, slots := 15, locals := 128 } : Room).cells ({ frames := 9, cells := 4, slots := 15, locals := 128 } : Room).slots) (Q24 Z a1 a2 a3 k inS h0 n0) (T12.setTop (mkF m 28 #[.val (.ref a1), .val (.ref a2), .val (.ref a3), .val (.int (ii + (1 : Int32))), .val (.int (1 : Int32))] []))
        obtain ⟨hg1, hgb1⟩ := own_rfS (G := (fun y => if y = (i + 1) then ((g i) + (1 : Int32)) else g y)) (q := (1 : Int32)) (fun _ => rfl) hg hgb (by omega) (Or.inl ⟨D6.elim (fun z => z.1) (fun z => absurd z.2 c53), rfl⟩)
        exact ih _ _ _ _ _ (i + 1) dr rf (fun y => if y = (i + 1) then ((g i) + (1 : Int32)) else g y) X12 e12 N12 Z12 (own_add1 hii (by omega)) (by omega) (One.val rfl) OL12 F12_a1 A12 nrf Y12_a2 Y12_a3 Y12_S hg1 hgb1
  refine own_aloadN (n := 1) X0 hx (hb hby d24_0) rfl rfl rfl ?_
  refine own_initO (n := 4) X0 hx hZ hown (hw _ (List.mem_of_getElem? (i := 167) rfl)) (hw _ (List.mem_of_getElem? (i := 20) rfl)) (hw _ (List.mem_of_getElem? (i := 21) rfl)) e0 (by rw [hml]; rfl) (hb hby d24_1) rfl (by decide) (W := 0) (Nat.le_of_eq rfl) (by decide) ?_
  intro T13 X13 e13
  refine own_aloadN (n := 5) X13 hx (hb hby d24_4) rfl rfl rfl ?_
  refine own_aloadN (n := 6) X13 hx (hb hby d24_5) rfl rfl rfl ?_
  refine own_callS (n := 9) X13 hx hZ hown (hw _ (List.mem_of_getElem? (i := 168) rfl)) (hw _ (List.mem_of_getElem? (i := 169) rfl)) (hw _ (List.mem_of_getElem? (i := 170) rfl)) (hw _ (List.mem_of_getElem? (i := 171) rfl)) (by decide) e13 (rm25 l Z a0 hw [] a2 k key h0 n0 Z0 cs dA pr eL eE TT OL mr MR L0 (fun j hj => (SS j hj).1.exa) hk4) (W := 1) (by decide) (by decide) (by decide) (by decide) (by rw [hml]; rfl) (argsL := [(.ref a2)]) (rest := [(.ref a1)]) pd_25 rfl (by rfl) (Nat.le_of_eq rfl) (hb hby d24_6) rfl rfl ?_
  intro v14 T14 h14 L14 X14 e14 q14
  obtain ⟨o14, rfl, M14, K14⟩ := q14
  have N14 := Fr.app N0 M14
  have Z14 : n0 ≤ h14.size := Nat.le_trans Z0 K14.1
  have OL14 := OL.keep K14 all0
  have F14_a1 := F0.keep K14 nin0
  have KW14 : Kc Z h0 h14 [] := Kc.ofKeep K14 kin0
  have Y14_a2 := L0.kc KW14 no0 no0
  have Y14_a3 := T0.kc KW14 no0 no0 no0 no0
  have Y14_S := SS.kc KW14 no0 no0
  refine own_putF (n := 12) X14 hx hZ hown (hw _ (List.mem_of_getElem? (i := 197) rfl)) e14 F14_a1.2.1 F14_a1.1 (Or.inr ⟨(hw _ (List.mem_of_getElem? (i := 198) rfl)), rfl, hnm⟩) (hw _ (List.mem_of_getElem? (i := 162) rfl)) (ty := (.object "java/util/List")) (by decide) rfl rfl (hb hby d24_9) rfl ?_
  intro T15 h15 X15 e15 W15
  have N15 := Fr.snoc X15 N14 nb
  have Z15 : n0 ≤ h15.size := Nat.le_trans Z14 (Keep.of_wr W15).1
  have OL15 := OL14.wr W15 nb
  have F15_a1 := F14_a1.set_documents hw W15
  have KW15 : Kc Z h14 h15 [(.inl "com/example/avocet/avocet/eval/JudgedRanking")] := Kc.ofKeep (Keep.of_wr W15) (kinS (List.mem_singleton.mpr rfl) (fun c e => exaSort F14_a1.1 c e) kin0)
  have Y15_a2 := Y14_a2.kc KW15 (noS (noCC (by decide)) no0) (noS (noAC (hw _ (List.mem_of_getElem? (i := 162) rfl))) no0)
  have Y15_a3 := Y14_a3.kc KW15 (noS (noCC (by decide)) no0) (noS (noCC (by decide)) no0) (noS (noCC (by decide)) no0) (noS (noAC (hw _ (List.mem_of_getElem? (i := 162) rfl))) no0)
  have Y15_S := Y14_S.kc KW15 (noS (noCC (by decide)) no0) (noS (noAC (hw _ (List.mem_of_getElem? (i := 162) rfl))) no0)
  refine own_aloadN (n := 13) X15 hx (hb hby d24_12) rfl rfl rfl ?_
  refine own_aloadN (n := 14) X15 hx (hb hby d24_13) rfl rfl rfl ?_
  refine own_callI (n := 19) X15 hx hZ hown (hw _ (List.mem_of_getElem? (i := 199) rfl)) (hw _ (List.mem_of_getElem? (i := 200) rfl)) (hw _ (List.mem_of_getElem? (i := 201) rfl)) (hw _ (List.mem_of_getElem? (i := 202) rfl)) (hw _ (List.mem_of_getElem? (i := 203) rfl)) (hw _ (List.mem_of_getElem? (i := 204) rfl)) (hw _ (List.mem_of_getElem? (i := 205) rfl)) (hw _ (List.mem_of_getElem? (i := 206) rfl)) (hw _ (List.mem_of_getElem? (i := 3) rfl)) (hw _ (List.mem_of_getElem? (i := 207) rfl)) (by decide) e15 Y15_a2.exa (rm29 l Z a0 hw [] a2 dA k key h15 n0 Z15 Y15_a2) (W := 1) (by decide) (by decide) (by decide) (by decide) (by rw [hml]; rfl) (argsL := []) (rest := [(.ref a1)]) pd_29 rfl (by rfl) (Nat.le_of_eq rfl) (hb hby d24_14) rfl rfl ?_
  intro v16 T16 h16 L16 X16 e16 q16
  obtain ⟨rfl, M16, rfl⟩ := q16
  have N16 := Fr.app N15 M16
  refine own_iconst (n := 20) X16 hx (1 : Int32) (hb hby d24_19) rfl rfl ?_
  refine own_iadd (n := 21) X16 hx (hb hby d24_20) rfl ?_
  refine own_newI (n := 23) X16 hx hZ (hw _ (List.mem_of_getElem? (i := 208) rfl)) e16 (i := (k + 1)) (cap := 5) (by rw [own_succ (by omega)]; exact len_toInt (by omega)) (by omega) (by decide) (by decide) (by decide) (hb hby d24_21) rfl ?_
  intro T17 h17 b17 X17 e17 g17 E17 A17
  have Z17 : n0 ≤ h17.size := Nat.le_trans Z15 E17.1
  have nb_b17 : n0 ≤ b17 := Nat.le_trans Z15 (Nat.le_of_eq g17.symm)
  have OL17 := OL15.ext E17
  have ne_a1_b17 : a1 ≠ b17 := Nat.ne_of_lt (Nat.lt_of_lt_of_le F15_a1.lt (Nat.le_of_eq g17.symm))
  have F17_a1 := F15_a1.ext E17
  have Y17_a2 := Y15_a2.ext E17
  have Y17_a3 := Y15_a3.ext E17
  have Y17_S := Y15_S.ext E17
  refine own_putF (n := 26) X17 hx hZ hown (hw _ (List.mem_of_getElem? (i := 209) rfl)) e17 F17_a1.2.2.1 F17_a1.1 (Or.inr ⟨(hw _ (List.mem_of_getElem? (i := 210) rfl)), rfl, hnm⟩) (hw _ (List.mem_of_getElem? (i := 162) rfl)) (ty := (.array .int)) (by decide) rfl rfl (hb hby d24_23) rfl ?_
  intro T18 h18 X18 e18 W18
  have N18 := Fr.snoc X18 N16 nb
  have Z18 : n0 ≤ h18.size := Nat.le_trans Z17 (Keep.of_wr W18).1
  have OL18 := OL17.wr W18 nb
  have F18_a1 := F17_a1.set_relevantFound hw W18
  have F18_b17 := A17.wrO W18 (Ne.symm ne_a1_b17)
  have KW18 : Kc Z h17 h18 [(.inl "com/example/avocet/avocet/eval/JudgedRanking")] := Kc.ofKeep (Keep.of_wr W18) (kinS (List.mem_singleton.mpr rfl) (fun c e => exaSort F17_a1.1 c e) kin0)
  have Y18_a2 := Y17_a2.kc KW18 (noS (noCC (by decide)) no0) (noS (noAC (hw _ (List.mem_of_getElem? (i := 162) rfl))) no0)
  have Y18_a3 := Y17_a3.kc KW18 (noS (noCC (by decide)) no0) (noS (noCC (by decide)) no0) (noS (noCC (by decide)) no0) (noS (noAC (hw _ (List.mem_of_getElem? (i := 162) rfl))) no0)
  have Y18_S := Y17_S.kc KW18 (noS (noCC (by decide)) no0) (noS (noAC (hw _ (List.mem_of_getElem? (i := 162) rfl))) no0)
  refine own_iconst (n := 27) X18 hx (1 : Int32) (hb hby d24_26) rfl rfl ?_
  refine own_istoreN (n := 28) X18 hx (hb hby d24_27) (l' := #[.val (.ref a1), .val (.ref a2), .val (.ref a3), .val (.int (1 : Int32)), .unset]) rfl rfl ?_
  show Ends p e below (EF s ({ frames := 9, cells := 4, slots := 15, locals := 128 } : Room).cells ({ frames := 9, cells := 4, slots := 15, locals := 128 } : Room).slots) (Q24 Z a1 a2 a3 k inS h0 n0) (T18.setTop (mkF m 28 #[.val (.ref a1), .val (.ref a2), .val (.ref a3), .val (.int (1 : Int32)), .unset] []))
  exact loop k _ _ _ _ _ 0 o14 b17 (fun _ => 0) X18 e18 N18 Z18 rfl (by omega) (Or.inl rfl) OL18 F18_a1 F18_b17 nb_b17 Y18_a2 Y18_a3 Y18_S (fun j hj => absurd hj (Nat.not_lt_zero _)) ⟨by decide, by decide⟩
theorem d55_0 : decode prog_15_method_4_code 0 = .ok (.aload_n 0, 1) := by decide +kernel
theorem d55_1 : decode prog_15_method_4_code 1 = .ok (.getfield 23, 3) := by decide +kernel
theorem d55_4 : decode prog_15_method_4_code 4 = .ok (.iload_n 1, 1) := by decide +kernel
theorem d55_5 : decode prog_15_method_4_code 5 = .ok (.iaload, 1) := by decide +kernel
theorem d55_6 : decode prog_15_method_4_code 6 = .ok (.aload_n 0, 1) := by decide +kernel
theorem d55_7 : decode prog_15_method_4_code 7 = .ok (.getfield 23, 3) := by decide +kernel
theorem d55_10 : decode prog_15_method_4_code 10 = .ok (.iload_n 1, 1) := by decide +kernel
theorem d55_11 : decode prog_15_method_4_code 11 = .ok (.iconst 1, 1) := by decide +kernel
theorem d55_12 : decode prog_15_method_4_code 12 = .ok (.isub, 1) := by decide +kernel
theorem d55_13 : decode prog_15_method_4_code 13 = .ok (.iaload, 1) := by decide +kernel
theorem d55_14 : decode prog_15_method_4_code 14 = .ok (.if_icmp .le 7, 3) := by decide +kernel
theorem d55_17 : decode prog_15_method_4_code 17 = .ok (.iconst 1, 1) := by decide +kernel
theorem d55_18 : decode prog_15_method_4_code 18 = .ok (.goto 4, 3) := by decide +kernel
theorem d55_21 : decode prog_15_method_4_code 21 = .ok (.iconst 0, 1) := by decide +kernel
theorem d55_22 : decode prog_15_method_4_code 22 = .ok (.ireturn, 1) := by decide +kernel
theorem pn_55 : plainFor (⟨"com/example/avocet/avocet/eval/JudgedRanking", "isRelevantAt", "(I)Z"⟩ : MethodName) = true := by first | exact plainFor_of_name (by first | (simp [plainName, overriddenIn]; done) | decide +kernel) | decide +kernel
theorem ef_55 (m : MethodId) (a1 : Addr) (p2 : Int32) : entryFrame m #[(.ref a1), (.int p2)] 2 = mkF m 0 #[.val (.ref a1), .val (.int p2)] [] := by first | (simp [entryFrame, argsToLocals, Value.category, Array.replicate]; done) | rfl
theorem pd_55 : parseMethodDescriptor "(I)Z" = some ⟨[.int], some .boolean⟩ := by decide +kernel
def Q55 (Z : State) (a1 : Addr) (p2 : Int32) (k : Nat) (inS : Nat → Bool) (i : Nat) (h0 : Heap) (n0 : Nat) (v : Option Value) (h : Heap) (L : List Loc) : Prop := ∃ r, v = some (.int r) ∧ (inS i = true → r = 1) ∧ (inS i = false → r = 0) ∧ Fr n0 L ∧ h0 = h
theorem rm55 (l : Launch) (Z : State) (a0 : Array Value) (hw : ∀ d ∈ tables_1, d.before a0 Z = true) (ws : List Jvm.Cond) (a1 : Addr) (p2 : Int32) (k : Nat) (inS : Nat → Bool) (i : Nat) (h0 : Heap) (n0 : Nat) (Z0 : n0 ≤ h0.size) (J0 : JUD Z h0 a1 k inS) (hi : i < k) (hk : k < 5) (hp : p2.toInt = ((i + 1 : Nat) : Int)) :
    MetFree l (⟨"com/example/avocet/avocet/eval/JudgedRanking", "isRelevantAt", "(I)Z"⟩ : MethodName) (head1 (Jvm.Cond.code (⟨"com/example/avocet/avocet/eval/JudgedRanking", "isRelevantAt", "(I)Z"⟩ : MethodName) prog_15_method_4_code 2 (some .boolean) :: ws) ({ frames := 0, cells := 0, slots := 0, locals := 0 } : Room)) (fun a U => a = #[(.ref a1), (.int p2)] ∧ Z.Warmed39 U.vm ∧ U.heap = h0) (fun _ _ _ _ _ => True) (fun _ U o U' => ∃ v L, o = .returned v ∧ (Q55 Z a1 p2 k inS i h0 n0) v U'.heap L ∧ FrameEnd U o U' L ({ frames := 0, cells := 0, slots := 0, locals := 0 } : Room).cells ({ frames := 0, cells := 0, slots := 0, locals := 0 } : Room).slots) := by
  refine MetFree.of_bodySF pn_55 hisR ?_
  intro p e s m args below meth c s₁ Bd hml0 hP hK
  obtain ⟨rfl, hZ, hh⟩ := hP
  have hx := Bd.exec
  have hby := Bd.bytes
  have hml : c.maxLocals = 2 := hml0
  have hown : s.vm.findClass "com/example/avocet/avocet/eval/JudgedRanking" = some m.cls := findClass_of_methodNamed Bd.named
  have hnm := (name_of_methodNamed Bd.named Bd.method).1
  have X0 : Stand p l e ({ frames := 0, cells := 0, slots := 0, locals := 0 } : Room) s m #[(.ref a1), (.int p2)] below meth c s₁ [] 0 0 := Stand.of_body Bd
  have e0 : s₁.heap = h0 := by rw [← hh, Bd.state]; rfl
  have N0 := Fr.nil n0
  have lk : meth.locks = false := BodyLoose.notSynchronized Bd
  have hret := Bd.returns
  show Ends p e below (EF s ({ frames := 0, cells := 0, slots := 0, locals := 0 } : Room).cells ({ frames := 0, cells := 0, slots := 0, locals := 0 } : Room).slots) (Q55 Z a1 p2 k inS i h0 n0) (s₁.setTop (entryFrame m #[(.ref a1), (.int p2)] 2))
  refine Ends.cast (ef_55 m a1 p2) ?_
  obtain ⟨dv, rf, ct, g, F0, A, hg⟩ := J0
  refine own_aloadN (n := 1) X0 hx (hb hby d55_0) rfl rfl rfl ?_
  refine own_getF (n := 4) X0 hx hZ hown (hw _ (List.mem_of_getElem? (i := 209) rfl)) e0 F0.2.2.1 (hb hby d55_1) rfl ?_
  intro T1 X1 e1
  refine own_iloadN (n := 5) X1 hx (hb hby d55_4) rfl rfl ?_
  refine own_iaload (n := 6) X1 hx hZ e1 A (i := (i + 1)) hp (by omega) (hb hby d55_5) rfl ?_
  refine own_aloadN (n := 7) X1 hx (hb hby d55_6) rfl rfl rfl ?_
  refine own_getF (n := 10) X1 hx hZ hown (hw _ (List.mem_of_getElem? (i := 209) rfl)) e1 F0.2.2.1 (hb hby d55_7) rfl ?_
  intro T2 X2 e2
  refine own_iloadN (n := 11) X2 hx (hb hby d55_10) rfl rfl ?_
  refine own_iconst (n := 12) X2 hx (1 : Int32) (hb hby d55_11) rfl rfl ?_
  refine own_isub (n := 13) X2 hx (hb hby d55_12) rfl ?_
  refine own_iaload (n := 14) X2 hx hZ e2 A (i := i) (own_sub1 hp (by omega)) (by omega) (hb hby d55_13) rfl ?_
  by_cases c14 : (g i) < (g (i + 1))
  · refine own_icmpNo (n := 17) X2 hx (hb hby d55_14) (Jvm.Free.XT.ii_le_f c14) rfl ?_
    refine own_iconst (n := 18) X2 hx (1 : Int32) (hb hby d55_17) rfl rfl ?_
    refine own_goto (n := 22) X2 hx (hb hby d55_18) (by decide) (by decide) ?_
    refine own_retN X2 hx lk hret (by simp) (hb hby d55_22) (by decide) (by decide) ?_
    rw [e2]
    exact ⟨_, rfl, fun _ => rfl, fun z => absurd c14 (by rw [(hg i hi).2 z]; exact Int32.lt_irrefl), N0, rfl⟩
  · refine own_icmpYes (n := 21) X2 hx (hb hby d55_14) (Jvm.Free.XT.ii_le_t c14) (by decide) (by decide) ?_
    refine own_iconst (n := 22) X2 hx (0 : Int32) (hb hby d55_21) rfl rfl ?_
    refine own_retN X2 hx lk hret (by simp) (hb hby d55_22) (by decide) (by decide) ?_
    rw [e2]
    exact ⟨_, rfl, fun z => absurd ((hg i hi).1 z) c14, fun _ => rfl, N0, rfl⟩
def BIT (mask : Int32) (j : Nat) : Prop := ¬ ((mask >>> (Nat.toInt32 j &&& 31)) &&& (1 : Int32)) = 0
theorem own_chk {p2 p4 : Int32} {i k : Nat} (z2 : p2 = Nat.toInt32 k) (z4 : p4 = Nat.toInt32 (i + 1)) (q : ¬ p2 < p4) (hk : k < 5) (hi : i < 4) : i < k := by
  rw [Int32.lt_iff_toInt_lt, z2, z4, len_toInt (by omega), len_toInt (by omega)] at q
  omega
theorem d32_0 : decode method_4_code 0 = .ok (.iload_n 3, 1) := by decide +kernel
theorem d32_1 : decode method_4_code 1 = .ok (.iload_n 1, 1) := by decide +kernel
theorem d32_2 : decode method_4_code 2 = .ok (.if_icmp .le 5, 3) := by decide +kernel
theorem d32_5 : decode method_4_code 5 = .ok (.iconst 1, 1) := by decide +kernel
theorem d32_6 : decode method_4_code 6 = .ok (.ireturn, 1) := by decide +kernel
theorem d32_7 : decode method_4_code 7 = .ok (.iload_n 2, 1) := by decide +kernel
theorem d32_8 : decode method_4_code 8 = .ok (.iload_n 3, 1) := by decide +kernel
theorem d32_9 : decode method_4_code 9 = .ok (.iconst 1, 1) := by decide +kernel
theorem d32_10 : decode method_4_code 10 = .ok (.isub, 1) := by decide +kernel
theorem d32_11 : decode method_4_code 11 = .ok (.ishr, 1) := by decide +kernel
theorem d32_12 : decode method_4_code 12 = .ok (.iconst 1, 1) := by decide +kernel
theorem d32_13 : decode method_4_code 13 = .ok (.iand, 1) := by decide +kernel
theorem d32_14 : decode method_4_code 14 = .ok (.ifCond .eq 7, 3) := by decide +kernel
theorem d32_17 : decode method_4_code 17 = .ok (.iconst 1, 1) := by decide +kernel
theorem d32_18 : decode method_4_code 18 = .ok (.goto 4, 3) := by decide +kernel
theorem d32_21 : decode method_4_code 21 = .ok (.iconst 0, 1) := by decide +kernel
theorem d32_22 : decode method_4_code 22 = .ok (.istore 4, 2) := by decide +kernel
theorem d32_24 : decode method_4_code 24 = .ok (.aload_n 0, 1) := by decide +kernel
theorem d32_25 : decode method_4_code 25 = .ok (.iload_n 3, 1) := by decide +kernel
theorem d32_26 : decode method_4_code 26 = .ok (.invokevirtual 40, 3) := by decide +kernel
theorem d32_29 : decode method_4_code 29 = .ok (.iload 4, 2) := by decide +kernel
theorem d32_31 : decode method_4_code 31 = .ok (.if_icmp .ne 7, 3) := by decide +kernel
theorem d32_34 : decode method_4_code 34 = .ok (.iconst 1, 1) := by decide +kernel
theorem d32_35 : decode method_4_code 35 = .ok (.goto 4, 3) := by decide +kernel
theorem d32_38 : decode method_4_code 38 = .ok (.iconst 0, 1) := by decide +kernel
theorem d32_39 : decode method_4_code 39 = .ok (.ireturn, 1) := by decide +kernel
theorem pn_32 : plainFor (⟨"com/example/avocet/avocet/eval/JudgedRankingIsRelevantAtPinLaw", "check", "(Lcom/example/avocet/avocet/eval/JudgedRanking;III)Z"⟩ : MethodName) = true := by first | exact plainFor_of_name (by first | (simp [plainName, overriddenIn]; done) | decide +kernel) | decide +kernel
theorem ef_32 (m : MethodId) (a1 : Addr) (p2 : Int32) (p3 : Int32) (p4 : Int32) : entryFrame m #[(.ref a1), (.int p2), (.int p3), (.int p4)] 5 = mkF m 0 #[.val (.ref a1), .val (.int p2), .val (.int p3), .val (.int p4), .unset] [] := by first | (simp [entryFrame, argsToLocals, Value.category, Array.replicate]; done) | rfl
theorem pd_32 : parseMethodDescriptor "(Lcom/example/avocet/avocet/eval/JudgedRanking;III)Z" = some ⟨[(.object "com/example/avocet/avocet/eval/JudgedRanking"), .int, .int, .int], some .boolean⟩ := by decide +kernel
def Q32 (Z : State) (a1 : Addr) (p2 : Int32) (p3 : Int32) (p4 : Int32) (k : Nat) (inS : Nat → Bool) (i : Nat) (h0 : Heap) (n0 : Nat) (v : Option Value) (h : Heap) (L : List Loc) : Prop := v = some (.int 1) ∧ Fr n0 L ∧ h0 = h
theorem rm32 (l : Launch) (Z : State) (a0 : Array Value) (hw : ∀ d ∈ tables_1, d.before a0 Z = true) (ws : List Jvm.Cond) (a1 : Addr) (p2 : Int32) (p3 : Int32) (p4 : Int32) (k : Nat) (inS : Nat → Bool) (i : Nat) (h0 : Heap) (n0 : Nat) (Z0 : n0 ≤ h0.size) (J0 : JUD Z h0 a1 k inS) (hk : k < 5) (z2 : p2 = Nat.toInt32 k) (z4 : p4 = Nat.toInt32 (i + 1)) (hi4 : i < 4) (hbt : ∀ j, j < k → (inS j = true ↔ BIT p3 j)) :
    MetFree l (⟨"com/example/avocet/avocet/eval/JudgedRankingIsRelevantAtPinLaw", "check", "(Lcom/example/avocet/avocet/eval/JudgedRanking;III)Z"⟩ : MethodName) (head1 (Jvm.Cond.code (⟨"com/example/avocet/avocet/eval/JudgedRankingIsRelevantAtPinLaw", "check", "(Lcom/example/avocet/avocet/eval/JudgedRanking;III)Z"⟩ : MethodName) method_4_code 5 (some .boolean) :: ws) ({ frames := 1, cells := 0, slots := 0, locals := 13 } : Room)) (fun a U => a = #[(.ref a1), (.int p2), (.int p3), (.int p4)] ∧ Z.Warmed39 U.vm ∧ U.heap = h0) (fun _ _ _ _ _ => True) (fun _ U o U' => ∃ v L, o = .returned v ∧ (Q32 Z a1 p2 p3 p4 k inS i h0 n0) v U'.heap L ∧ FrameEnd U o U' L ({ frames := 1, cells := 0, slots := 0, locals := 13 } : Room).cells ({ frames := 1, cells := 0, slots := 0, locals := 13 } : Room).slots) := by
  refine MetFree.of_bodySF pn_32 hisR ?_
  intro p e s m args below meth c s₁ Bd hml0 hP hK
  obtain ⟨rfl, hZ, hh⟩ := hP
  have hx := Bd.exec
  have hby := Bd.bytes
  have hml : c.maxLocals = 5 := hml0
  have hown : s.vm.findClass "com/example/avocet/avocet/eval/JudgedRankingIsRelevantAtPinLaw" = some m.cls := findClass_of_methodNamed Bd.named
  have hnm := (name_of_methodNamed Bd.named Bd.method).1
  have X0 : Stand p l e ({ frames := 1, cells := 0, slots := 0, locals := 13 } : Room) s m #[(.ref a1), (.int p2), (.int p3), (.int p4)] below meth c s₁ [] 0 0 := Stand.of_body Bd
  have e0 : s₁.heap = h0 := by rw [← hh, Bd.state]; rfl
  have N0 := Fr.nil n0
  have lk : meth.locks = false := BodyLoose.notSynchronized Bd
  have hret := Bd.returns
  show Ends p e below (EF s ({ frames := 1, cells := 0, slots := 0, locals := 13 } : Room).cells ({ frames := 1, cells := 0, slots := 0, locals := 13 } : Room).slots) (Q32 Z a1 p2 p3 p4 k inS i h0 n0) (s₁.setTop (entryFrame m #[(.ref a1), (.int p2), (.int p3), (.int p4)] 5))
  refine Ends.cast (ef_32 m a1 p2 p3 p4) ?_
  have hqm : p4 - (1 : Int32) = Nat.toInt32 i := own_inj (by rw [own_sub1 (i := i) (by rw [z4]; exact len_toInt (by omega)) (by omega), len_toInt (by omega)])
  refine own_iloadN (n := 1) X0 hx (hb hby d32_0) rfl rfl ?_
  refine own_iloadN (n := 2) X0 hx (hb hby d32_1) rfl rfl ?_
  by_cases c2 : p2 < p4
  · refine own_icmpNo (n := 5) X0 hx (hb hby d32_2) (Jvm.Free.XT.ii_le_f c2) rfl ?_
    refine own_iconst (n := 6) X0 hx (1 : Int32) (hb hby d32_5) rfl rfl ?_
    refine own_retN X0 hx lk hret (by simp) (hb hby d32_6) (by decide) (by decide) ?_
    rw [e0]
    exact ⟨rfl, N0, rfl⟩
  · refine own_icmpYes (n := 7) X0 hx (hb hby d32_2) (Jvm.Free.XT.ii_le_t c2) (by decide) (by decide) ?_
    refine own_iloadN (n := 8) X0 hx (hb hby d32_7) rfl rfl ?_
    refine own_iloadN (n := 9) X0 hx (hb hby d32_8) rfl rfl ?_
    refine own_iconst (n := 10) X0 hx (1 : Int32) (hb hby d32_9) rfl rfl ?_
    refine own_isub (n := 11) X0 hx (hb hby d32_10) rfl ?_
    refine own_ishr (n := 12) X0 hx (hb hby d32_11) rfl ?_
    refine own_iconst (n := 13) X0 hx (1 : Int32) (hb hby d32_12) rfl rfl ?_
    refine own_iand (n := 14) X0 hx (hb hby d32_13) rfl ?_
    by_cases c14 : ((p3 >>> ((p4 - (1 : Int32)) &&& 31)) &&& (1 : Int32)) = 0
    · refine own_ifYes (n := 21) X0 hx (hb hby d32_14) (Jvm.Free.XT.i0_eq_t c14) (by decide) (by decide) ?_
      refine own_iconst (n := 22) X0 hx (0 : Int32) (hb hby d32_21) rfl rfl ?_
      refine own_istore (n := 24) X0 hx (hb hby d32_22) (l' := #[.val (.ref a1), .val (.int p2), .val (.int p3), .val (.int p4), .val (.int (0 : Int32))]) rfl rfl ?_
      refine own_aloadN (n := 25) X0 hx (hb hby d32_24) rfl rfl rfl ?_
      refine own_iloadN (n := 26) X0 hx (hb hby d32_25) rfl rfl ?_
      have hik : i < k := own_chk z2 z4 c2 hk hi4
      refine own_callV (n := 29) X0 hx hZ hown (hw _ (List.mem_of_getElem? (i := 365) rfl)) (hw _ (List.mem_of_getElem? (i := 366) rfl)) (hw _ (List.mem_of_getElem? (i := 368) rfl)) (hw _ (List.mem_of_getElem? (i := 367) rfl)) (hw _ (List.mem_of_getElem? (i := 163) rfl)) (hw _ (List.mem_of_getElem? (i := 369) rfl)) (by decide) e0 J0.exa (rm55 l Z a0 hw [] a1 p4 k inS i h0 n0 Z0 J0 hik hk (by rw [z4]; exact len_toInt (by omega))) (W := 0) (by decide) (by decide) (by decide) (by decide) (by rw [hml]; rfl) (argsL := [(.int p4)]) (rest := []) pd_55 rfl (by rfl) (Nat.le_of_eq rfl) (hb hby d32_26) rfl rfl ?_
      intro v1 T1 h1 L1 X1 e1 q1
      obtain ⟨r1, rfl, ra1, rb1, M1, rfl⟩ := q1
      have N1 := Fr.app N0 M1
      refine own_iload (n := 31) X1 hx (hb hby d32_29) rfl rfl ?_
      refine own_icmpNo (n := 34) X1 hx (hb hby d32_31) (Jvm.Free.XT.ii_ne_f (rb1 (eq_false_of_ne_true (fun z => (hbt i hik).mp z (by rw [hqm] at c14; exact c14))))) rfl ?_
      refine own_iconst (n := 35) X1 hx (1 : Int32) (hb hby d32_34) rfl rfl ?_
      refine own_goto (n := 39) X1 hx (hb hby d32_35) (by decide) (by decide) ?_
      refine own_retN X1 hx lk hret (by simp) (hb hby d32_39) (by decide) (by decide) ?_
      rw [e1]
      exact ⟨rfl, N1, rfl⟩
    · refine own_ifNo (n := 17) X0 hx (hb hby d32_14) (Jvm.Free.XT.i0_eq_f c14) rfl ?_
      refine own_iconst (n := 18) X0 hx (1 : Int32) (hb hby d32_17) rfl rfl ?_
      refine own_goto (n := 22) X0 hx (hb hby d32_18) (by decide) (by decide) ?_
      refine own_istore (n := 24) X0 hx (hb hby d32_22) (l' := #[.val (.ref a1), .val (.int p2), .val (.int p3), .val (.int p4), .val (.int (1 : Int32))]) rfl rfl ?_
      refine own_aloadN (n := 25) X0 hx (hb hby d32_24) rfl rfl rfl ?_
      refine own_iloadN (n := 26) X0 hx (hb hby d32_25) rfl rfl ?_
      have hik : i < k := own_chk z2 z4 c2 hk hi4
      refine own_callV (n := 29) X0 hx hZ hown (hw _ (List.mem_of_getElem? (i := 365) rfl)) (hw _ (List.mem_of_getElem? (i := 366) rfl)) (hw _ (List.mem_of_getElem? (i := 368) rfl)) (hw _ (List.mem_of_getElem? (i := 367) rfl)) (hw _ (List.mem_of_getElem? (i := 163) rfl)) (hw _ (List.mem_of_getElem? (i := 369) rfl)) (by decide) e0 J0.exa (rm55 l Z a0 hw [] a1 p4 k inS i h0 n0 Z0 J0 hik hk (by rw [z4]; exact len_toInt (by omega))) (W := 0) (by decide) (by decide) (by decide) (by decide) (by rw [hml]; rfl) (argsL := [(.int p4)]) (rest := []) pd_55 rfl (by rfl) (Nat.le_of_eq rfl) (hb hby d32_26) rfl rfl ?_
      intro v2 T2 h2 L2 X2 e2 q2
      obtain ⟨r2, rfl, ra2, rb2, M2, rfl⟩ := q2
      have N2 := Fr.app N0 M2
      refine own_iload (n := 31) X2 hx (hb hby d32_29) rfl rfl ?_
      refine own_icmpNo (n := 34) X2 hx (hb hby d32_31) (Jvm.Free.XT.ii_ne_f (ra2 ((hbt i hik).mpr (by rw [hqm] at c14; exact c14)))) rfl ?_
      refine own_iconst (n := 35) X2 hx (1 : Int32) (hb hby d32_34) rfl rfl ?_
      refine own_goto (n := 39) X2 hx (hb hby d32_35) (by decide) (by decide) ?_
      refine own_retN X2 hx lk hret (by simp) (hb hby d32_39) (by decide) (by decide) ?_
      rw [e2]
      exact ⟨rfl, N2, rfl⟩
theorem own_more {p : Program} {l : Launch} {e : Env} {R : Room} {s : State} {m : MethodId} {args : Array Value} {below : List Frame} {meth : Method} {c : Code} {T : State} {locs : List Loc} {u v u' v' : Nat} (X : Stand p l e R s m args below meth c T locs u v) (h1 : u ≤ u') (h2 : v ≤ v') : Stand p l e R s m args below meth c T locs u' v' := { X with same := X.same.mono h1 h2 }
theorem NODES.rekey {Z : State} {h : Heap} {c : Nat} {key key' : Nat → Addr} {inS : Nat → Bool} {t : Nat → Value} (F : NODES Z h c key inS t) (q : ∀ i, i < 5 → inS i = true → key i = key' i) : NODES Z h c key' inS t := fun i hi => ⟨fun z => by obtain ⟨nd, vv, a, b⟩ := (F i hi).1 z; exact ⟨nd, vv, a, by rw [← q i hi z]; exact b⟩, (F i hi).2⟩
theorem SET.rekey {Z : State} {h : Heap} {n0 : Nat} {a : Addr} {cb : Nat} {key key' : Nat → Addr} {inS : Nat → Bool} {k : Nat} (F : SET Z h n0 a cb key inS k) (q : ∀ i, i < 5 → inS i = true → key i = key' i) : SET Z h n0 a cb key' inS k := by
  obtain ⟨mp, r, ⟨tv, thr, mc, lf, r2, s⟩, t⟩ := F
  exact ⟨mp, r, ⟨tv, thr, mc, lf, r2, s.elim Or.inl fun ⟨tb, t', a, b, d, r', s'⟩ => Or.inr ⟨tb, t', a, b, d, r', s'.rekey q⟩⟩, t⟩
theorem LST.rekey {Z : State} {h : Heap} {n0 : Nat} {dA a : Addr} {k : Nat} {key key' : Nat → Addr} (F : LST Z h n0 dA a k key) (e : ∀ j, j < k → key j = key' j) : LST Z h n0 dA a k key' := by
  obtain ⟨ed, mc, q, r⟩ := F
  exact ⟨ed, mc, q, r.elim Or.inl fun ⟨q, r, t, a, b, c, x⟩ => Or.inr ⟨q, r, t, a, fun j hj => by rw [← e j hj]; exact b j hj, c, x⟩⟩
theorem STRS.rekey {Z : State} {h : Heap} {n0 k cb : Nat} {key key' : Nat → Addr} (F : STRS Z h n0 k cb key) (e : ∀ j, j < k → key j = key' j) : STRS Z h n0 k cb key' := fun j hj => by
  obtain ⟨q1, q2, q3⟩ := F j hj
  refine ⟨by rw [← e j hj]; exact q1, by rw [← e j hj]; exact q2, fun i hi ne => by rw [← e j hj, ← e i hi]; exact q3 i hi ne⟩
theorem STRS.oth {Z : State} {h h' : Heap} {n0 k cb : Nat} {key : Nat → Addr} {o : Addr} (F : STRS Z h n0 k cb key) (O : ∀ a' ch', a' ≠ o → STRK Z h a' ch' → STRK Z h' a' ch') (hfr : ∀ j, j < k → key j ≠ o) : STRS Z h' n0 k cb key := fun j hj => ⟨O _ _ (hfr j hj) (F j hj).1, (F j hj).2⟩
theorem STRS.snoc {Z : State} {h : Heap} {n0 k cb : Nat} {key : Nat → Addr} {o : Addr} (F : STRS Z h n0 k cb key) (S : STRK Z h o (Nat.toInt32 (cb + k))) (nb : n0 ≤ o) (hfr : ∀ j, j < k → key j ≠ o) : STRS Z h n0 (k + 1) cb (fun j => if j = k then o else key j) := fun j hj => by
  show STRK Z h (if j = k then o else key j) (Nat.toInt32 (cb + j)) ∧ n0 ≤ (if j = k then o else key j) ∧ ∀ i, i < k + 1 → i ≠ j → (if i = k then o else key i) ≠ (if j = k then o else key j)
  by_cases e : j = k
  · subst e
    rw [if_pos (rfl : j = j)]
    refine ⟨S, nb, fun i hi ne => ?_⟩
    rw [if_neg ne]
    exact hfr i (by omega)
  · rw [if_neg e]
    obtain ⟨q1, q2, q3⟩ := F j (by omega)
    refine ⟨q1, q2, fun i hi ne => ?_⟩
    by_cases e2 : i = k
    · rw [if_pos e2]
      exact Ne.symm (hfr j (by omega))
    · rw [if_neg e2]
      exact q3 i (by omega) ne
theorem own_rk {key : Nat → Addr} {inS : Nat → Bool} {i : Nat} {o : Addr} (h : inS i = false) : ∀ j, j < 5 → inS j = true → key j = (fun j => if j = i then o else key j) j := fun j _ q => by
  by_cases e : j = i
  · subst e; rw [h] at q; cases q
  · exact (if_neg e).symm
theorem own_bit0 {inS : Nat → Bool} {k : Nat} {mask : Int32} (hno : ∀ j, k ≤ j → j < 5 → inS j = false) (hbt : ∀ j, j < k → (inS j = true ↔ BIT mask j)) (hk : k < 4) (q : ((mask >>> (Nat.toInt32 k &&& 31)) &&& (1 : Int32)) = 0) : (∀ j, k + 1 ≤ j → j < 5 → inS j = false) ∧ ∀ j, j < k + 1 → (inS j = true ↔ BIT mask j) := by
  refine ⟨fun j h1 h2 => hno j (by omega) h2, fun j hj => ?_⟩
  by_cases e : j = k
  · subst e
    exact ⟨fun z => absurd ((hno j (Nat.le_refl _) (by omega)).symm.trans z) (by decide), fun z => absurd q z⟩
  · exact hbt j (by omega)
theorem own_bit1 {inS : Nat → Bool} {k : Nat} {mask : Int32} (hno : ∀ j, k ≤ j → j < 5 → inS j = false) (hbt : ∀ j, j < k → (inS j = true ↔ BIT mask j)) (hk : k < 4) (q : ¬ ((mask >>> (Nat.toInt32 k &&& 31)) &&& (1 : Int32)) = 0) : (∀ j, k + 1 ≤ j → j < 5 → (fun j => if j = k then true else inS j) j = false) ∧ ∀ j, j < k + 1 → ((fun j => if j = k then true else inS j) j = true ↔ BIT mask j) := by
  refine ⟨fun j h1 h2 => (if_neg (by omega)).trans (hno j (by omega) h2), fun j hj => ?_⟩
  by_cases e : j = k
  · subst e
    exact ⟨fun _ => q, fun _ => if_pos rfl⟩
  · show (if j = k then true else inS j) = true ↔ _
    rw [if_neg e]
    exact hbt j (by omega)
theorem own_b4 {inS : Nat → Bool} {k : Nat} {mask : Int32} (hbt : ∀ j, j < k → (inS j = true ↔ BIT mask j)) (hk : k ≤ 4) : ∀ j, j < k → ((fun j => if j = 4 then true else inS j) j = true ↔ BIT mask j) := fun j hj => by
  show (if j = 4 then true else inS j) = true ↔ _
  rw [if_neg (by omega)]
  exact hbt j hj
theorem own_chr {x y : Int32} {a b : Nat} (hx : x = Nat.toInt32 a) (hy : y = Nat.toInt32 b) (h : a + b < 1000) : (x + y).toUInt32.toUInt16.toUInt32.toInt32 = Nat.toInt32 (a + b) := by
  have q := c_i2c (x + y)
  have r := c_iadd x y
  have r2 := rng32 (x + y)
  have l1 : x.toInt = (a : Int) := by rw [hx]; exact len_toInt (by omega)
  have l2 : y.toInt = (b : Int) := by rw [hy]; exact len_toInt (by omega)
  apply own_inj
  rw [len_toInt (by omega)]
  omega
def INV (Z : State) (h : Heap) (n0 : Nat) (dA al hs : Addr) (cb : Nat) (mask : Int32) (k : Nat) : Prop := ∃ key inS ct, LST Z h n0 dA al k key ∧ SET Z h n0 hs cb key inS ct ∧ STRS Z h n0 k cb key ∧ ct ≤ k ∧ (∀ j, k ≤ j → j < 5 → inS j = false) ∧ ∀ j, j < k → (inS j = true ↔ BIT mask j)
theorem d33_0 : decode method_3_code 0 = .ok (.iload_n 2, 1) := by decide +kernel
theorem d33_1 : decode method_3_code 1 = .ok (.iload_n 3, 1) := by decide +kernel
theorem d33_2 : decode method_3_code 2 = .ok (.iadd, 1) := by decide +kernel
theorem d33_3 : decode method_3_code 3 = .ok (.i2c, 1) := by decide +kernel
theorem d33_4 : decode method_3_code 4 = .ok (.invokestatic 20, 3) := by decide +kernel
theorem d33_7 : decode method_3_code 7 = .ok (.astore 5, 2) := by decide +kernel
theorem d33_9 : decode method_3_code 9 = .ok (.aload_n 0, 1) := by decide +kernel
theorem d33_10 : decode method_3_code 10 = .ok (.aload 5, 2) := by decide +kernel
theorem d33_12 : decode method_3_code 12 = .ok (.invokevirtual 39, 3) := by decide +kernel
theorem d33_15 : decode method_3_code 15 = .ok (.pop, 1) := by decide +kernel
theorem d33_16 : decode method_3_code 16 = .ok (.iload 4, 2) := by decide +kernel
theorem d33_18 : decode method_3_code 18 = .ok (.iload_n 3, 1) := by decide +kernel
theorem d33_19 : decode method_3_code 19 = .ok (.ishr, 1) := by decide +kernel
theorem d33_20 : decode method_3_code 20 = .ok (.iconst 1, 1) := by decide +kernel
theorem d33_21 : decode method_3_code 21 = .ok (.iand, 1) := by decide +kernel
theorem d33_22 : decode method_3_code 22 = .ok (.ifCond .eq 10, 3) := by decide +kernel
theorem d33_25 : decode method_3_code 25 = .ok (.aload_n 1, 1) := by decide +kernel
theorem d33_26 : decode method_3_code 26 = .ok (.aload 5, 2) := by decide +kernel
theorem d33_28 : decode method_3_code 28 = .ok (.invokevirtual 26, 3) := by decide +kernel
theorem d33_31 : decode method_3_code 31 = .ok (.pop, 1) := by decide +kernel
theorem d33_32 : decode method_3_code 32 = .ok (.return_, 1) := by decide +kernel
theorem pn_33 : plainFor (⟨"com/example/avocet/avocet/eval/JudgedRankingIsRelevantAtPinLaw", "put", "(Ljava/util/ArrayList;Ljava/util/HashSet;CII)V"⟩ : MethodName) = true := by first | exact plainFor_of_name (by first | (simp [plainName, overriddenIn]; done) | decide +kernel) | decide +kernel
theorem ef_33 (m : MethodId) (a1 : Addr) (a2 : Addr) (p3 : Int32) (p4 : Int32) (p5 : Int32) : entryFrame m #[(.ref a1), (.ref a2), (.int p3), (.int p4), (.int p5)] 6 = mkF m 0 #[.val (.ref a1), .val (.ref a2), .val (.int p3), .val (.int p4), .val (.int p5), .unset] [] := by first | (simp [entryFrame, argsToLocals, Value.category, Array.replicate]; done) | rfl
theorem pd_33 : parseMethodDescriptor "(Ljava/util/ArrayList;Ljava/util/HashSet;CII)V" = some ⟨[(.object "java/util/ArrayList"), (.object "java/util/HashSet"), .char, .int, .int], none⟩ := by decide +kernel
def Q33 (Z : State) (a1 : Addr) (a2 : Addr) (p3 : Int32) (p4 : Int32) (p5 : Int32) (dA : Addr) (cb : Nat) (k : Nat) (h0 : Heap) (n0 : Nat) (v : Option Value) (h : Heap) (L : List Loc) : Prop := v = none ∧ Fr n0 L ∧ Old Z n0 h ∧ INV Z h n0 dA a1 a2 cb p5 (k + 1)
theorem rm33 (l : Launch) (Z : State) (a0 : Array Value) (hw : ∀ d ∈ tables_1, d.before a0 Z = true) (ws : List Jvm.Cond) (a1 : Addr) (a2 : Addr) (p3 : Int32) (p4 : Int32) (p5 : Int32) (dA : Addr) (cb : Nat) (k : Nat) (h0 : Heap) (n0 : Nat) (Z0 : n0 ≤ h0.size) (cs : Int32) (pr eL eE : Addr) (TT : STT Z cs dA pr eL eE) (OL : Old Z n0 h0) (I0 : INV Z h0 n0 dA a1 a2 cb p5 k) (nb : n0 ≤ a1) (hc : cb < 256) (hk : k < 4) (z3 : p3 = Nat.toInt32 cb) (z4 : p4 = Nat.toInt32 k) :
    MetFree l (⟨"com/example/avocet/avocet/eval/JudgedRankingIsRelevantAtPinLaw", "put", "(Ljava/util/ArrayList;Ljava/util/HashSet;CII)V"⟩ : MethodName) (head1 (Jvm.Cond.code (⟨"com/example/avocet/avocet/eval/JudgedRankingIsRelevantAtPinLaw", "put", "(Ljava/util/ArrayList;Ljava/util/HashSet;CII)V"⟩ : MethodName) method_3_code 6 (none) :: ws) ({ frames := 6, cells := 5, slots := 36, locals := 98 } : Room)) (fun a U => a = #[(.ref a1), (.ref a2), (.int p3), (.int p4), (.int p5)] ∧ Z.Warmed39 U.vm ∧ U.heap = h0) (fun _ _ _ _ _ => True) (fun _ U o U' => ∃ v L, o = .returned v ∧ (Q33 Z a1 a2 p3 p4 p5 dA cb k h0 n0) v U'.heap L ∧ FrameEnd U o U' L ({ frames := 6, cells := 5, slots := 36, locals := 98 } : Room).cells ({ frames := 6, cells := 5, slots := 36, locals := 98 } : Room).slots) := by
  refine MetFree.of_bodySF pn_33 hisR ?_
  intro p e s m args below meth c s₁ Bd hml0 hP hK
  obtain ⟨rfl, hZ, hh⟩ := hP
  have hx := Bd.exec
  have hby := Bd.bytes
  have hml : c.maxLocals = 6 := hml0
  have hown : s.vm.findClass "com/example/avocet/avocet/eval/JudgedRankingIsRelevantAtPinLaw" = some m.cls := findClass_of_methodNamed Bd.named
  have hnm := (name_of_methodNamed Bd.named Bd.method).1
  have X0 : Stand p l e ({ frames := 6, cells := 5, slots := 36, locals := 98 } : Room) s m #[(.ref a1), (.ref a2), (.int p3), (.int p4), (.int p5)] below meth c s₁ [] 0 0 := Stand.of_body Bd
  have e0 : s₁.heap = h0 := by rw [← hh, Bd.state]; rfl
  have N0 := Fr.nil n0
  have lk : meth.locks = false := BodyLoose.notSynchronized Bd
  have hret := Bd.returns
  show Ends p e below (EF s ({ frames := 6, cells := 5, slots := 36, locals := 98 } : Room).cells ({ frames := 6, cells := 5, slots := 36, locals := 98 } : Room).slots) (Q33 Z a1 a2 p3 p4 p5 dA cb k h0 n0) (s₁.setTop (entryFrame m #[(.ref a1), (.ref a2), (.int p3), (.int p4), (.int p5)] 6))
  refine Ends.cast (ef_33 m a1 a2 p3 p4 p5) ?_
  obtain ⟨key, inS, ct, L0, T0, SS, hct, hno, hbt⟩ := I0
  refine own_iloadN (n := 1) X0 hx (hb hby d33_0) rfl rfl ?_
  refine own_iloadN (n := 2) X0 hx (hb hby d33_1) rfl rfl ?_
  refine own_iadd (n := 3) X0 hx (hb hby d33_2) rfl ?_
  refine own_i2c (n := 4) X0 hx (hb hby d33_3) rfl ?_
  have hEE : ((p3 + p4).toUInt32.toUInt16.toUInt32.toInt32) = Nat.toInt32 (cb + k) := own_chr z3 z4 (by omega)
  refine own_callS (n := 7) X0 hx hZ hown (hw _ (List.mem_of_getElem? (i := 60) rfl)) (hw _ (List.mem_of_getElem? (i := 61) rfl)) (hw _ (List.mem_of_getElem? (i := 62) rfl)) (hw _ (List.mem_of_getElem? (i := 63) rfl)) (by decide) e0 (rm9 l Z a0 hw [] ((p3 + p4).toUInt32.toUInt16.toUInt32.toInt32) h0 n0 Z0 cs dA pr eL eE TT OL (by rw [hEE, len_toInt (by omega)]; omega) (by rw [hEE, len_toInt (by omega)]; omega)) (W := 0) (by decide) (by decide) (by decide) (by decide) (by rw [hml]; rfl) (argsL := [(.int ((p3 + p4).toUInt32.toUInt16.toUInt32.toInt32))]) (rest := []) pd_9 rfl (by rfl) (Nat.le_of_eq rfl) (hb hby d33_4) rfl rfl ?_
  intro v1 T1 h1 L1 X1 e1 q1
  obtain ⟨o1, rfl, M1, K1, S1, bg1⟩ := q1
  have N1 := Fr.app N0 M1
  rw [hEE] at S1
  have nbo : n0 ≤ o1 := Nat.le_trans Z0 bg1
  have hfr : ∀ j, j < k → key j ≠ o1 := fun j hj => Nat.ne_of_lt (Nat.lt_of_lt_of_le (SS j hj).1.exa.lt bg1)
  have Z1 : n0 ≤ h1.size := Nat.le_trans Z0 K1.1
  have OL1 := OL.keep K1 all0
  have KW1 : Kc Z h0 h1 [] := Kc.ofKeep K1 kin0
  have Y1_a1 := L0.kc KW1 no0 no0
  have Y1_a2 := T0.kc KW1 no0 no0 no0 no0
  have Y1_S := SS.kc KW1 no0 no0
  refine own_astore (n := 9) X1 hx (hb hby d33_7) rfl (l' := #[.val (.ref a1), .val (.ref a2), .val (.int p3), .val (.int p4), .val (.int p5), .val (.ref o1)]) rfl rfl ?_
  refine own_aloadN (n := 10) X1 hx (hb hby d33_9) rfl rfl rfl ?_
  refine own_aload (n := 12) X1 hx (hb hby d33_10) rfl rfl rfl ?_
  refine own_callV (n := 15) X1 hx hZ hown (hw _ (List.mem_of_getElem? (i := 234) rfl)) (hw _ (List.mem_of_getElem? (i := 235) rfl)) (hw _ (List.mem_of_getElem? (i := 237) rfl)) (hw _ (List.mem_of_getElem? (i := 236) rfl)) (hw _ (List.mem_of_getElem? (i := 3) rfl)) (hw _ (List.mem_of_getElem? (i := 238) rfl)) (by decide) e1 Y1_a1.exa (rm34 l Z a0 hw [] a1 o1 dA k key (Nat.toInt32 (cb + k)) h1 n0 Z1 cs pr eL eE TT OL1 Y1_a1 nb S1 (by omega)) (W := 0) (by decide) (by decide) (by decide) (by decide) (by rw [hml]; rfl) (argsL := [(.ref o1)]) (rest := []) pd_34 rfl (by rfl) (Nat.le_of_eq rfl) (hb hby d33_12) rfl rfl ?_
  intro v2 T2 h2 L2 X2 e2 q2
  obtain ⟨rfl, M2, OL2, KC2, LL2⟩ := q2
  have N2 := Fr.app N1 M2
  have Z2 : n0 ≤ h2.size := Nat.le_trans Z1 KC2.1
  have Y2_a2 := Y1_a2.kc KC2 (noS (noCC (by decide)) (noS (noCA (hw _ (List.mem_of_getElem? (i := 28) rfl))) no0)) (noS (noCC (by decide)) (noS (noCA (hw _ (List.mem_of_getElem? (i := 42) rfl))) no0)) (noS (noCC (by decide)) (noS (noCA (hw _ (List.mem_of_getElem? (i := 137) rfl))) no0)) (noS (noAC (hw _ (List.mem_of_getElem? (i := 2) rfl))) (noS (noAA (by decide)) no0))
  have Y2_S := Y1_S.kc KC2 (noS (noCC (by decide)) (noS (noCA (hw _ (List.mem_of_getElem? (i := 70) rfl))) no0)) (noS (noAC (hw _ (List.mem_of_getElem? (i := 2) rfl))) (noS (noAA (by decide)) no0))
  have Y2_O := S1.kc KC2 (noS (noCC (by decide)) (noS (noCA (hw _ (List.mem_of_getElem? (i := 70) rfl))) no0)) (noS (noAC (hw _ (List.mem_of_getElem? (i := 2) rfl))) (noS (noAA (by decide)) no0))
  refine own_pop (n := 16) X2 hx (hb hby d33_15) rfl rfl ?_
  refine own_iload (n := 18) X2 hx (hb hby d33_16) rfl rfl ?_
  refine own_iloadN (n := 19) X2 hx (hb hby d33_18) rfl rfl ?_
  refine own_ishr (n := 20) X2 hx (hb hby d33_19) rfl ?_
  refine own_iconst (n := 21) X2 hx (1 : Int32) (hb hby d33_20) rfl rfl ?_
  refine own_iand (n := 22) X2 hx (hb hby d33_21) rfl ?_
  by_cases c22 : ((p5 >>> (p4 &&& 31)) &&& (1 : Int32)) = 0
  · refine own_ifYes (n := 32) X2 hx (hb hby d33_22) (Jvm.Free.XT.i0_eq_t c22) (by decide) (by decide) ?_
    refine own_retV X2 hx lk hret (hb hby d33_32) (by decide) (by decide) ?_
    rw [e2]
    obtain ⟨hn1, hb1⟩ := own_bit0 hno hbt hk (by rw [← z4]; exact c22)
    exact ⟨rfl, N2, OL2, _, _, _, LL2, Y2_a2.rekey (own_rk (key := key) (i := k) (o := o1) (hno k (Nat.le_refl _) (by omega))), Y2_S.snoc Y2_O nbo hfr, by omega, hn1, hb1⟩
  · refine own_ifNo (n := 25) X2 hx (hb hby d33_22) (Jvm.Free.XT.i0_eq_f c22) rfl ?_
    refine own_aloadN (n := 26) X2 hx (hb hby d33_25) rfl rfl rfl ?_
    refine own_aload (n := 28) X2 hx (hb hby d33_26) rfl rfl rfl ?_
    have UK := Y2_a2.rekey (own_rk (key := key) (i := k) (o := o1) (hno k (Nat.le_refl _) (by omega)))
    refine own_callV (n := 31) X2 hx hZ hown (hw _ (List.mem_of_getElem? (i := 84) rfl)) (hw _ (List.mem_of_getElem? (i := 85) rfl)) (hw _ (List.mem_of_getElem? (i := 87) rfl)) (hw _ (List.mem_of_getElem? (i := 86) rfl)) (hw _ (List.mem_of_getElem? (i := 29) rfl)) (hw _ (List.mem_of_getElem? (i := 88) rfl)) (by decide) e2 UK.exa (rm13 l Z a0 hw [] a2 o1 cb (fun j => if j = k then o1 else key j) inS ct k h2 n0 Z2 cs dA pr eL eE TT OL2 UK Y2_O nbo hc (by omega) (by omega) (hno k (Nat.le_refl _) (by omega)) (if_pos rfl)) (W := 0) (by decide) (by decide) (by decide) (by decide) (by rw [hml]; rfl) (argsL := [(.ref o1)]) (rest := []) pd_13 rfl (by rfl) (Nat.le_of_eq rfl) (hb hby d33_28) rfl rfl ?_
    intro v3 T3 h3 L3 X3 e3 q3
    obtain ⟨rfl, M3, OL3, KC3, UU3, SO3, OT3⟩ := q3
    have N3 := Fr.app N2 M3
    have Z3 : n0 ≤ h3.size := Nat.le_trans Z2 KC3.1
    have Y3_a1 := LL2.kc KC3 (noS (noCC (by decide)) (noS (noCA (hw _ (List.mem_of_getElem? (i := 2) rfl))) (noS (noCC (by decide)) no0))) (noS (noAC (hw _ (List.mem_of_getElem? (i := 42) rfl))) (noS (noAA (by decide)) (noS (noAC (hw _ (List.mem_of_getElem? (i := 70) rfl))) no0)))
    have SX3 := Y2_S.oth OT3 hfr
    refine own_pop (n := 32) X3 hx (hb hby d33_31) rfl rfl ?_
    refine own_retV X3 hx lk hret (hb hby d33_32) (by decide) (by decide) ?_
    rw [e3]
    obtain ⟨hn1, hb1⟩ := own_bit1 hno hbt hk (by rw [← z4]; exact c22)
    exact ⟨rfl, N3, OL3, _, _, _, Y3_a1, UU3, SX3.snoc SO3 nbo hfr, by omega, hn1, hb1⟩
theorem pn_0 : plainFor x = true := by first | exact plainFor_of_name (by first | (simp [plainName, overriddenIn]; done) | decide +kernel) | decide +kernel
theorem ef_0 (m : MethodId) (p1 : Int32) (p2 : Int32) (p3 : Int32) (p4 : Int32) : entryFrame m #[(.int p1), (.int p2), (.int p3), (.int p4)] maxLocals = mkF m 0 #[.val (.int p1), .val (.int p2), .val (.int p3), .val (.int p4), .unset, .unset, .unset, .unset, .unset] [] := by first | (simp [entryFrame, argsToLocals, Value.category, Array.replicate, maxLocals]; done) | rfl
def Q0 (Z : State) (p1 : Int32) (p2 : Int32) (p3 : Int32) (p4 : Int32)  (h0 : Heap) (n0 : Nat) (v : Option Value) (h : Heap) (L : List Loc) : Prop := v = some (.int 1) ∧ Fr n0 L
theorem rm0 (l : Launch) (Z : State) (a0 : Array Value) (hw : ∀ d ∈ tables_1, d.before a0 Z = true) (ws : List Jvm.Cond) (p1 : Int32) (p2 : Int32) (p3 : Int32) (p4 : Int32)  (h0 : Heap) (n0 : Nat) (Z0 : n0 ≤ h0.size) (cs : Int32) (dA pr eL eE : Addr) (TT : STT Z cs dA pr eL eE) (OL : Old Z n0 h0) (mr : Addr) (MR : Mir Z "[Ljava/lang/Object;" mr) :
    MetFree l x (head1 (Jvm.Cond.code x code maxLocals ret :: ws) room_1) (fun a U => a = #[(.int p1), (.int p2), (.int p3), (.int p4)] ∧ Z.Warmed39 U.vm ∧ U.heap = h0) (fun _ _ _ _ _ => True) (fun _ U o U' => ∃ v L, o = .returned v ∧ (Q0 Z p1 p2 p3 p4  h0 n0) v U'.heap L ∧ FrameEnd U o U' L 64 320) := by
  refine MetFree.of_bodySF pn_0 hisR ?_
  intro p e s m args below meth c s₁ Bd hml0 hP hK
  obtain ⟨rfl, hZ, hh⟩ := hP
  have hx := Bd.exec
  have hby := Bd.bytes
  have hml : c.maxLocals = 9 := hml0
  have hown : s.vm.findClass "com/example/avocet/avocet/eval/JudgedRankingIsRelevantAtPinLaw" = some m.cls := findClass_of_methodNamed Bd.named
  have hnm := (name_of_methodNamed Bd.named Bd.method).1
  have X0 : Stand p l e room_1 s m #[(.int p1), (.int p2), (.int p3), (.int p4)] below meth c s₁ [] 0 0 := Stand.of_body Bd
  have e0 : s₁.heap = h0 := by rw [← hh, Bd.state]; rfl
  have N0 := Fr.nil n0
  have lk : meth.locks = false := BodyLoose.notSynchronized Bd
  have hret := Bd.returns
  show Ends p e below (EF s 64 320) (Q0 Z p1 p2 p3 p4  h0 n0) (s₁.setTop (entryFrame m #[(.int p1), (.int p2), (.int p3), (.int p4)] maxLocals))
  refine Ends.cast (ef_0 m p1 p2 p3 p4) ?_
  have blkc : ∀ (TB : State) (hB : Heap) (lB : List Loc) (lst : Addr) (hst : Addr) (k : Nat) (cb : Nat) (key : Nat → Addr) (inS : Nat → Bool) (ct : Nat) (XB : Stand p l e room_1 s m #[(.int p1), (.int p2), (.int p3), (.int p4)] below meth c TB lB (27) (182)) (eB : TB.heap = hB) (NB : Fr n0 lB) (ZB : n0 ≤ hB.size) (OB : Old Z n0 hB) (LB : LST Z hB n0 dA lst k key) (UB : SET Z hB n0 hst cb key inS ct) (SB : STRS Z hB n0 k cb key) (hk4 : k ≤ 4) (hc : cb < 256) (hct : ct < 6) (hbt : ∀ j, j < k → (inS j = true ↔ BIT p2 j)), Ends p e below (EF s 64 320) (Q0 Z p1 p2 p3 p4  h0 n0) (TB.setTop (mkF m 121 #[.val (.int p1), .val (.int p2), .val (.int p3), .val (.int p4), .val (.int (Nat.toInt32 k)), .val (.int (Nat.toInt32 cb)), .val (.ref lst), .val (.ref hst), .unset] [])) := by
    intro TB hB lB lst hst k cb key inS ct XB eB NB ZB OB LB UB SB hk4 hc hct hbt
    refine own_newO (n := 124) XB hx hZ hown (hw _ (List.mem_of_getElem? (i := 161) rfl)) (hw _ (List.mem_of_getElem? (i := 162) rfl)) (hw _ (List.mem_of_getElem? (i := 163) rfl)) eB (by decide) (by decide) (hb hby at_121) rfl ?_
    intro T1 h1 b1 X1 e1 g1 E1 A1 D1
    have Z1 : n0 ≤ h1.size := Nat.le_trans ZB E1.1
    have nb_b1 : n0 ≤ b1 := Nat.le_trans ZB (Nat.le_of_eq g1.symm)
    have OL1 := OB.ext E1
    have Y1_lst := LB.ext E1
    have Y1_hst := UB.ext E1
    have Y1_S := SB.ext E1
    have N1_b1 : JR Z h1 b1 (.null) (.null) (0) := ⟨A1, D1 (Or.inr (hw _ (List.mem_of_getElem? (i := 198) rfl))) (ty := (.object "java/util/List")) (by decide), D1 (Or.inr (hw _ (List.mem_of_getElem? (i := 210) rfl))) (ty := (.array .int)) (by decide), D1 (Or.inr (hw _ (List.mem_of_getElem? (i := 226) rfl))) (ty := .int) (by decide)⟩
    refine own_dup (n := 125) X1 hx (hb hby at_124) rfl rfl ?_
    refine own_aload (n := 127) X1 hx (hb hby at_125) rfl rfl rfl ?_
    refine own_aload (n := 129) X1 hx (hb hby at_127) rfl rfl rfl ?_
    refine own_callN (n := 132) X1 hx hZ rfl hown (hw _ (List.mem_of_getElem? (i := 164) rfl)) (hw _ (List.mem_of_getElem? (i := 165) rfl)) (hw _ (List.mem_of_getElem? (i := 163) rfl)) (hw _ (List.mem_of_getElem? (i := 166) rfl)) (by decide) e1 (rm24 l Z a0 hw [] b1 lst hst k inS h1 n0 Z1 cs dA pr eL eE TT OL1 mr MR key cb ct N1_b1 nb_b1 Y1_lst Y1_hst Y1_S hk4 hc hct) (W := 1) (by decide) (by decide) (by decide) (by decide) (by rw [hml]; rfl) (argsL := [(.ref lst), (.ref hst)]) (rest := [(.ref b1)]) pd_24 rfl (a := b1) (by rfl) (Nat.le_of_eq rfl) (hb hby at_129) rfl rfl ?_
    intro v2 T2 h2 L2 X2 e2 q2
    obtain ⟨rfl, M2, OL2, JD2⟩ := q2
    have N2 := Fr.app NB M2
    have Z2 := own_oldz OL2
    refine own_astore (n := 134) X2 hx (hb hby at_132) rfl (l' := #[.val (.int p1), .val (.int p2), .val (.int p3), .val (.int p4), .val (.int (Nat.toInt32 k)), .val (.int (Nat.toInt32 cb)), .val (.ref lst), .val (.ref hst), .val (.ref b1)]) rfl rfl ?_
    refine own_aload (n := 136) X2 hx (hb hby at_134) rfl rfl rfl ?_
    refine own_iload (n := 138) X2 hx (hb hby at_136) rfl rfl ?_
    refine own_iloadN (n := 139) X2 hx (hb hby at_138) rfl rfl ?_
    refine own_iconst (n := 140) X2 hx (1 : Int32) (hb hby at_139) rfl rfl ?_
    refine own_callS (n := 143) X2 hx hZ hown (hw _ (List.mem_of_getElem? (i := 227) rfl)) (hw _ (List.mem_of_getElem? (i := 228) rfl)) (hw _ (List.mem_of_getElem? (i := 229) rfl)) (hw _ (List.mem_of_getElem? (i := 230) rfl)) (by decide) e2 (rm32 l Z a0 hw [] b1 (Nat.toInt32 k) p2 (1 : Int32) k inS 0 h2 n0 Z2 JD2 (by omega) rfl (by decide) (by decide) hbt) (W := 0) (by decide) (by decide) (by decide) (by decide) (by rw [hml]; rfl) (argsL := [(.ref b1), (.int (Nat.toInt32 k)), (.int p2), (.int (1 : Int32))]) (rest := []) pd_32 rfl (by rfl) (Nat.le_of_eq rfl) (hb hby at_140) rfl rfl ?_
    intro v3 T3 h3 L3 X3 e3 q3
    obtain ⟨rfl, M3, rfl⟩ := q3
    have N3 := Fr.app N2 M3
    refine own_ifNo (n := 146) X3 hx (hb hby at_143) (Jvm.Free.XT.i0_eq_f (by decide)) rfl ?_
    refine own_aload (n := 148) X3 hx (hb hby at_146) rfl rfl rfl ?_
    refine own_iload (n := 150) X3 hx (hb hby at_148) rfl rfl ?_
    refine own_iloadN (n := 151) X3 hx (hb hby at_150) rfl rfl ?_
    refine own_iconst (n := 152) X3 hx (2 : Int32) (hb hby at_151) rfl rfl ?_
    refine own_callS (n := 155) X3 hx hZ hown (hw _ (List.mem_of_getElem? (i := 227) rfl)) (hw _ (List.mem_of_getElem? (i := 228) rfl)) (hw _ (List.mem_of_getElem? (i := 229) rfl)) (hw _ (List.mem_of_getElem? (i := 230) rfl)) (by decide) e3 (rm32 l Z a0 hw [] b1 (Nat.toInt32 k) p2 (2 : Int32) k inS 1 h2 n0 Z2 JD2 (by omega) rfl (by decide) (by decide) hbt) (W := 0) (by decide) (by decide) (by decide) (by decide) (by rw [hml]; rfl) (argsL := [(.ref b1), (.int (Nat.toInt32 k)), (.int p2), (.int (2 : Int32))]) (rest := []) pd_32 rfl (by rfl) (Nat.le_of_eq rfl) (hb hby at_152) rfl rfl ?_
    intro v4 T4 h4 L4 X4 e4 q4
    obtain ⟨rfl, M4, rfl⟩ := q4
    have N4 := Fr.app N3 M4
    refine own_ifNo (n := 158) X4 hx (hb hby at_155) (Jvm.Free.XT.i0_eq_f (by decide)) rfl ?_
    refine own_aload (n := 160) X4 hx (hb hby at_158) rfl rfl rfl ?_
    refine own_iload (n := 162) X4 hx (hb hby at_160) rfl rfl ?_
    refine own_iloadN (n := 163) X4 hx (hb hby at_162) rfl rfl ?_
    refine own_iconst (n := 164) X4 hx (3 : Int32) (hb hby at_163) rfl rfl ?_
    refine own_callS (n := 167) X4 hx hZ hown (hw _ (List.mem_of_getElem? (i := 227) rfl)) (hw _ (List.mem_of_getElem? (i := 228) rfl)) (hw _ (List.mem_of_getElem? (i := 229) rfl)) (hw _ (List.mem_of_getElem? (i := 230) rfl)) (by decide) e4 (rm32 l Z a0 hw [] b1 (Nat.toInt32 k) p2 (3 : Int32) k inS 2 h2 n0 Z2 JD2 (by omega) rfl (by decide) (by decide) hbt) (W := 0) (by decide) (by decide) (by decide) (by decide) (by rw [hml]; rfl) (argsL := [(.ref b1), (.int (Nat.toInt32 k)), (.int p2), (.int (3 : Int32))]) (rest := []) pd_32 rfl (by rfl) (Nat.le_of_eq rfl) (hb hby at_164) rfl rfl ?_
    intro v5 T5 h5 L5 X5 e5 q5
    obtain ⟨rfl, M5, rfl⟩ := q5
    have N5 := Fr.app N4 M5
    refine own_ifNo (n := 170) X5 hx (hb hby at_167) (Jvm.Free.XT.i0_eq_f (by decide)) rfl ?_
    refine own_aload (n := 172) X5 hx (hb hby at_170) rfl rfl rfl ?_
    refine own_iload (n := 174) X5 hx (hb hby at_172) rfl rfl ?_
    refine own_iloadN (n := 175) X5 hx (hb hby at_174) rfl rfl ?_
    refine own_iconst (n := 176) X5 hx (4 : Int32) (hb hby at_175) rfl rfl ?_
    refine own_callS (n := 179) X5 hx hZ hown (hw _ (List.mem_of_getElem? (i := 227) rfl)) (hw _ (List.mem_of_getElem? (i := 228) rfl)) (hw _ (List.mem_of_getElem? (i := 229) rfl)) (hw _ (List.mem_of_getElem? (i := 230) rfl)) (by decide) e5 (rm32 l Z a0 hw [] b1 (Nat.toInt32 k) p2 (4 : Int32) k inS 3 h2 n0 Z2 JD2 (by omega) rfl (by decide) (by decide) hbt) (W := 0) (by decide) (by decide) (by decide) (by decide) (by rw [hml]; rfl) (argsL := [(.ref b1), (.int (Nat.toInt32 k)), (.int p2), (.int (4 : Int32))]) (rest := []) pd_32 rfl (by rfl) (Nat.le_of_eq rfl) (hb hby at_176) rfl rfl ?_
    intro v6 T6 h6 L6 X6 e6 q6
    obtain ⟨rfl, M6, rfl⟩ := q6
    have N6 := Fr.app N5 M6
    refine own_ifNo (n := 182) X6 hx (hb hby at_179) (Jvm.Free.XT.i0_eq_f (by decide)) rfl ?_
    refine own_iconst (n := 183) X6 hx (1 : Int32) (hb hby at_182) rfl rfl ?_
    refine own_goto (n := 187) X6 hx (hb hby at_183) (by decide) (by decide) ?_
    refine own_retN X6 hx lk hret (by simp) (hb hby at_187) (by decide) (by decide) ?_
    rw [e6]
    exact ⟨rfl, N6⟩
  have blkb : ∀ (TB : State) (hB : Heap) (lB : List Loc) (lst : Addr) (hst : Addr) (k : Nat) (cb : Nat) (XB : Stand p l e room_1 s m #[(.int p1), (.int p2), (.int p3), (.int p4)] below meth c TB lB (23) (156)) (eB : TB.heap = hB) (NB : Fr n0 lB) (ZB : n0 ≤ hB.size) (OB : Old Z n0 hB) (VB : INV Z hB n0 dA lst hst cb p2 k) (hk4 : k ≤ 4) (hc : cb < 256), Ends p e below (EF s 64 320) (Q0 Z p1 p2 p3 p4  h0 n0) (TB.setTop (mkF m 101 #[.val (.int p1), .val (.int p2), .val (.int p3), .val (.int p4), .val (.int (Nat.toInt32 k)), .val (.int (Nat.toInt32 cb)), .val (.ref lst), .val (.ref hst), .unset] [])) := by
    intro TB hB lB lst hst k cb XB eB NB ZB OB VB hk4 hc
    obtain ⟨key, inS, ct, LB, UB, SB, hct, hno, hbt⟩ := VB
    refine own_iloadN (n := 102) XB hx (hb hby at_101) rfl rfl ?_
    refine own_iconst (n := 103) XB hx (1 : Int32) (hb hby at_102) rfl rfl ?_
    refine own_iand (n := 104) XB hx (hb hby at_103) rfl ?_
    by_cases c104 : (p4 &&& (1 : Int32)) = 0
    · refine own_ifYes (n := 121) XB hx (hb hby at_104) (Jvm.Free.XT.i0_eq_t c104) (by decide) (by decide) ?_
      show Ends p e below (EF s 64 320) (Q0 Z p1 p2 p3 p4  h0 n0) (TB.setTop (mkF m 121 #[.val (.int p1), .val (.int p2), .val (.int p3), .val (.int p4), .val (.int (Nat.toInt32 k)), .val (.int (Nat.toInt32 cb)), .val (.ref lst), .val (.ref hst), .unset] []))
      exact blkc _ _ _ lst hst k cb key inS ct (own_more XB (by decide) (by decide)) eB NB ZB OB LB UB SB hk4 hc (by omega) hbt
    · refine own_ifNo (n := 107) XB hx (hb hby at_104) (Jvm.Free.XT.i0_eq_f c104) rfl ?_
      refine own_aload (n := 109) XB hx (hb hby at_107) rfl rfl rfl ?_
      refine own_iload (n := 111) XB hx (hb hby at_109) rfl rfl ?_
      refine own_iconst (n := 112) XB hx (4 : Int32) (hb hby at_111) rfl rfl ?_
      refine own_iadd (n := 113) XB hx (hb hby at_112) rfl ?_
      refine own_i2c (n := 114) XB hx (hb hby at_113) rfl ?_
      have hEE : (((Nat.toInt32 cb) + (4 : Int32)).toUInt32.toUInt16.toUInt32.toInt32) = Nat.toInt32 (cb + 4) := own_chr rfl rfl (by omega)
      refine own_callS (n := 117) XB hx hZ hown (hw _ (List.mem_of_getElem? (i := 60) rfl)) (hw _ (List.mem_of_getElem? (i := 61) rfl)) (hw _ (List.mem_of_getElem? (i := 62) rfl)) (hw _ (List.mem_of_getElem? (i := 63) rfl)) (by decide) eB (rm9 l Z a0 hw [] (((Nat.toInt32 cb) + (4 : Int32)).toUInt32.toUInt16.toUInt32.toInt32) hB n0 ZB cs dA pr eL eE TT OB (by rw [hEE, len_toInt (by omega)]; omega) (by rw [hEE, len_toInt (by omega)]; omega)) (W := 1) (by decide) (by decide) (by decide) (by decide) (by rw [hml]; rfl) (argsL := [(.int (((Nat.toInt32 cb) + (4 : Int32)).toUInt32.toUInt16.toUInt32.toInt32))]) (rest := [(.ref hst)]) pd_9 rfl (by rfl) (Nat.le_of_eq rfl) (hb hby at_114) rfl rfl ?_
      intro v7 T7 h7 L7 X7 e7 q7
      obtain ⟨o7, rfl, M7, K7, S7, bg7⟩ := q7
      have N7 := Fr.app NB M7
      rw [hEE] at S7
      have nbo : n0 ≤ o7 := Nat.le_trans ZB bg7
      have hfr : ∀ j, j < k → key j ≠ o7 := fun j hj => Nat.ne_of_lt (Nat.lt_of_lt_of_le (SB j hj).1.exa.lt bg7)
      have Z7 : n0 ≤ h7.size := Nat.le_trans ZB K7.1
      have OL7 := OB.keep K7 all0
      have KW7 : Kc Z hB h7 [] := Kc.ofKeep K7 kin0
      have Y7_lst := LB.kc KW7 no0 no0
      have Y7_hst := UB.kc KW7 no0 no0 no0 no0
      have Y7_S := SB.kc KW7 no0 no0
      have UK := Y7_hst.rekey (own_rk (key := key) (i := 4) (o := o7) (hno 4 hk4 (by decide)))
      refine own_callV (n := 120) X7 hx hZ hown (hw _ (List.mem_of_getElem? (i := 84) rfl)) (hw _ (List.mem_of_getElem? (i := 85) rfl)) (hw _ (List.mem_of_getElem? (i := 87) rfl)) (hw _ (List.mem_of_getElem? (i := 86) rfl)) (hw _ (List.mem_of_getElem? (i := 29) rfl)) (hw _ (List.mem_of_getElem? (i := 88) rfl)) (by decide) e7 UK.exa (rm13 l Z a0 hw [] hst o7 cb (fun j => if j = 4 then o7 else key j) inS ct 4 h7 n0 Z7 cs dA pr eL eE TT OL7 UK S7 nbo hc (by omega) (by omega) (hno 4 hk4 (by decide)) (if_pos rfl)) (W := 0) (by decide) (by decide) (by decide) (by decide) (by rw [hml]; rfl) (argsL := [(.ref o7)]) (rest := []) pd_13 rfl (by rfl) (Nat.le_of_eq rfl) (hb hby at_117) rfl rfl ?_
      intro v8 T8 h8 L8 X8 e8 q8
      obtain ⟨rfl, M8, OL8, KC8, UU8, SO8, OT8⟩ := q8
      have N8 := Fr.app N7 M8
      have Z8 : n0 ≤ h8.size := Nat.le_trans Z7 KC8.1
      have Y8_lst := Y7_lst.kc KC8 (noS (noCC (by decide)) (noS (noCA (hw _ (List.mem_of_getElem? (i := 2) rfl))) (noS (noCC (by decide)) no0))) (noS (noAC (hw _ (List.mem_of_getElem? (i := 42) rfl))) (noS (noAA (by decide)) (noS (noAC (hw _ (List.mem_of_getElem? (i := 70) rfl))) no0)))
      have SX8 := Y7_S.oth OT8 hfr
      refine own_pop (n := 121) X8 hx (hb hby at_120) rfl rfl ?_
      show Ends p e below (EF s 64 320) (Q0 Z p1 p2 p3 p4  h0 n0) (T8.setTop (mkF m 121 #[.val (.int p1), .val (.int p2), .val (.int p3), .val (.int p4), .val (.int (Nat.toInt32 k)), .val (.int (Nat.toInt32 cb)), .val (.ref lst), .val (.ref hst), .unset] []))
      exact blkc _ _ _ lst hst k cb (fun j => if j = 4 then o7 else key j) (fun j => if j = 4 then true else inS j) (ct + 1) (own_more X8 (by decide) (by decide)) e8 N8 Z8 OL8 (Y8_lst.rekey (fun j hj => (if_neg (by omega)).symm)) UU8 (SX8.rekey (fun j hj => (if_neg (by omega)).symm)) hk4 hc (by omega) (own_b4 hbt hk4)
  have blka : ∀ (TB : State) (hB : Heap) (lB : List Loc) (lst : Addr) (hst : Addr) (k : Nat) (cb : Nat) (XB : Stand p l e room_1 s m #[(.int p1), (.int p2), (.int p3), (.int p4)] below meth c TB lB (3) (12)) (eB : TB.heap = hB) (NB : Fr n0 lB) (ZB : n0 ≤ hB.size) (OB : Old Z n0 hB) (VB : INV Z hB n0 dA lst hst cb p2 0) (nl : n0 ≤ lst) (hk5 : k < 5) (hc : cb < 256), Ends p e below (EF s 64 320) (Q0 Z p1 p2 p3 p4  h0 n0) (TB.setTop (mkF m 34 #[.val (.int p1), .val (.int p2), .val (.int p3), .val (.int p4), .val (.int (Nat.toInt32 k)), .val (.int (Nat.toInt32 cb)), .val (.ref lst), .val (.ref hst), .unset] [])) := by
    intro TB hB lB lst hst k cb XB eB NB ZB OB VB nl hk5 hc
    have hcs : k = 0 ∨ k = 1 ∨ k = 2 ∨ k = 3 ∨ k = 4 := by omega
    rcases hcs with rfl | rfl | rfl | rfl | rfl
    · skip
      refine own_iload (n := 36) XB hx (hb hby at_34) rfl rfl ?_
      refine own_ifYes (n := 50) XB hx (hb hby at_36) (Jvm.Free.XT.i0_le_t (by decide)) (by decide) (by decide) ?_
      refine own_iload (n := 52) XB hx (hb hby at_50) rfl rfl ?_
      refine own_iconst (n := 53) XB hx (1 : Int32) (hb hby at_52) rfl rfl ?_
      refine own_icmpYes (n := 67) XB hx (hb hby at_53) (Jvm.Free.XT.ii_le_t (by decide)) (by decide) (by decide) ?_
      refine own_iload (n := 69) XB hx (hb hby at_67) rfl rfl ?_
      refine own_iconst (n := 70) XB hx (2 : Int32) (hb hby at_69) rfl rfl ?_
      refine own_icmpYes (n := 84) XB hx (hb hby at_70) (Jvm.Free.XT.ii_le_t (by decide)) (by decide) (by decide) ?_
      refine own_iload (n := 86) XB hx (hb hby at_84) rfl rfl ?_
      refine own_iconst (n := 87) XB hx (3 : Int32) (hb hby at_86) rfl rfl ?_
      refine own_icmpYes (n := 101) XB hx (hb hby at_87) (Jvm.Free.XT.ii_le_t (by decide)) (by decide) (by decide) ?_
      show Ends p e below (EF s 64 320) (Q0 Z p1 p2 p3 p4  h0 n0) (TB.setTop (mkF m 101 #[.val (.int p1), .val (.int p2), .val (.int p3), .val (.int p4), .val (.int (Nat.toInt32 0)), .val (.int (Nat.toInt32 cb)), .val (.ref lst), .val (.ref hst), .unset] []))
      exact blkb _ _ _ lst hst _ cb (own_more XB (by decide) (by decide)) eB NB ZB OB VB (by decide) hc
    · skip
      refine own_iload (n := 36) XB hx (hb hby at_34) rfl rfl ?_
      refine own_ifNo (n := 39) XB hx (hb hby at_36) (Jvm.Free.XT.i0_le_f (by decide)) rfl ?_
      refine own_aload (n := 41) XB hx (hb hby at_39) rfl rfl rfl ?_
      refine own_aload (n := 43) XB hx (hb hby at_41) rfl rfl rfl ?_
      refine own_iload (n := 45) XB hx (hb hby at_43) rfl rfl ?_
      refine own_iconst (n := 46) XB hx (0 : Int32) (hb hby at_45) rfl rfl ?_
      refine own_iloadN (n := 47) XB hx (hb hby at_46) rfl rfl ?_
      refine own_callS (n := 50) XB hx hZ hown (hw _ (List.mem_of_getElem? (i := 231) rfl)) (hw _ (List.mem_of_getElem? (i := 232) rfl)) (hw _ (List.mem_of_getElem? (i := 229) rfl)) (hw _ (List.mem_of_getElem? (i := 233) rfl)) (by decide) eB (rm33 l Z a0 hw [] lst hst (Nat.toInt32 cb) (0 : Int32) p2 dA cb 0 hB n0 ZB cs pr eL eE TT OB VB nl hc (by decide) rfl (by decide)) (W := 0) (by decide) (by decide) (by decide) (by decide) (by rw [hml]; rfl) (argsL := [(.ref lst), (.ref hst), (.int (Nat.toInt32 cb)), (.int (0 : Int32)), (.int p2)]) (rest := []) pd_33 rfl (by rfl) (Nat.le_of_eq rfl) (hb hby at_47) rfl rfl ?_
      intro v9 T9 h9 L9 X9 e9 q9
      obtain ⟨rfl, M9, OL9, VV9⟩ := q9
      have N9 := Fr.app NB M9
      have Z9 := own_oldz OL9
      refine own_iload (n := 52) X9 hx (hb hby at_50) rfl rfl ?_
      refine own_iconst (n := 53) X9 hx (1 : Int32) (hb hby at_52) rfl rfl ?_
      refine own_icmpYes (n := 67) X9 hx (hb hby at_53) (Jvm.Free.XT.ii_le_t (by decide)) (by decide) (by decide) ?_
      refine own_iload (n := 69) X9 hx (hb hby at_67) rfl rfl ?_
      refine own_iconst (n := 70) X9 hx (2 : Int32) (hb hby at_69) rfl rfl ?_
      refine own_icmpYes (n := 84) X9 hx (hb hby at_70) (Jvm.Free.XT.ii_le_t (by decide)) (by decide) (by decide) ?_
      refine own_iload (n := 86) X9 hx (hb hby at_84) rfl rfl ?_
      refine own_iconst (n := 87) X9 hx (3 : Int32) (hb hby at_86) rfl rfl ?_
      refine own_icmpYes (n := 101) X9 hx (hb hby at_87) (Jvm.Free.XT.ii_le_t (by decide)) (by decide) (by decide) ?_
      show Ends p e below (EF s 64 320) (Q0 Z p1 p2 p3 p4  h0 n0) (T9.setTop (mkF m 101 #[.val (.int p1), .val (.int p2), .val (.int p3), .val (.int p4), .val (.int (Nat.toInt32 1)), .val (.int (Nat.toInt32 cb)), .val (.ref lst), .val (.ref hst), .unset] []))
      exact blkb _ _ _ lst hst _ cb (own_more X9 (by decide) (by decide)) e9 N9 Z9 OL9 VV9 (by decide) hc
    · skip
      refine own_iload (n := 36) XB hx (hb hby at_34) rfl rfl ?_
      refine own_ifNo (n := 39) XB hx (hb hby at_36) (Jvm.Free.XT.i0_le_f (by decide)) rfl ?_
      refine own_aload (n := 41) XB hx (hb hby at_39) rfl rfl rfl ?_
      refine own_aload (n := 43) XB hx (hb hby at_41) rfl rfl rfl ?_
      refine own_iload (n := 45) XB hx (hb hby at_43) rfl rfl ?_
      refine own_iconst (n := 46) XB hx (0 : Int32) (hb hby at_45) rfl rfl ?_
      refine own_iloadN (n := 47) XB hx (hb hby at_46) rfl rfl ?_
      refine own_callS (n := 50) XB hx hZ hown (hw _ (List.mem_of_getElem? (i := 231) rfl)) (hw _ (List.mem_of_getElem? (i := 232) rfl)) (hw _ (List.mem_of_getElem? (i := 229) rfl)) (hw _ (List.mem_of_getElem? (i := 233) rfl)) (by decide) eB (rm33 l Z a0 hw [] lst hst (Nat.toInt32 cb) (0 : Int32) p2 dA cb 0 hB n0 ZB cs pr eL eE TT OB VB nl hc (by decide) rfl (by decide)) (W := 0) (by decide) (by decide) (by decide) (by decide) (by rw [hml]; rfl) (argsL := [(.ref lst), (.ref hst), (.int (Nat.toInt32 cb)), (.int (0 : Int32)), (.int p2)]) (rest := []) pd_33 rfl (by rfl) (Nat.le_of_eq rfl) (hb hby at_47) rfl rfl ?_
      intro v10 T10 h10 L10 X10 e10 q10
      obtain ⟨rfl, M10, OL10, VV10⟩ := q10
      have N10 := Fr.app NB M10
      have Z10 := own_oldz OL10
      refine own_iload (n := 52) X10 hx (hb hby at_50) rfl rfl ?_
      refine own_iconst (n := 53) X10 hx (1 : Int32) (hb hby at_52) rfl rfl ?_
      refine own_icmpNo (n := 56) X10 hx (hb hby at_53) (Jvm.Free.XT.ii_le_f (by decide)) rfl ?_
      refine own_aload (n := 58) X10 hx (hb hby at_56) rfl rfl rfl ?_
      refine own_aload (n := 60) X10 hx (hb hby at_58) rfl rfl rfl ?_
      refine own_iload (n := 62) X10 hx (hb hby at_60) rfl rfl ?_
      refine own_iconst (n := 63) X10 hx (1 : Int32) (hb hby at_62) rfl rfl ?_
      refine own_iloadN (n := 64) X10 hx (hb hby at_63) rfl rfl ?_
      refine own_callS (n := 67) X10 hx hZ hown (hw _ (List.mem_of_getElem? (i := 231) rfl)) (hw _ (List.mem_of_getElem? (i := 232) rfl)) (hw _ (List.mem_of_getElem? (i := 229) rfl)) (hw _ (List.mem_of_getElem? (i := 233) rfl)) (by decide) e10 (rm33 l Z a0 hw [] lst hst (Nat.toInt32 cb) (1 : Int32) p2 dA cb 1 h10 n0 Z10 cs pr eL eE TT OL10 VV10 nl hc (by decide) rfl (by decide)) (W := 0) (by decide) (by decide) (by decide) (by decide) (by rw [hml]; rfl) (argsL := [(.ref lst), (.ref hst), (.int (Nat.toInt32 cb)), (.int (1 : Int32)), (.int p2)]) (rest := []) pd_33 rfl (by rfl) (Nat.le_of_eq rfl) (hb hby at_64) rfl rfl ?_
      intro v11 T11 h11 L11 X11 e11 q11
      obtain ⟨rfl, M11, OL11, VV11⟩ := q11
      have N11 := Fr.app N10 M11
      have Z11 := own_oldz OL11
      refine own_iload (n := 69) X11 hx (hb hby at_67) rfl rfl ?_
      refine own_iconst (n := 70) X11 hx (2 : Int32) (hb hby at_69) rfl rfl ?_
      refine own_icmpYes (n := 84) X11 hx (hb hby at_70) (Jvm.Free.XT.ii_le_t (by decide)) (by decide) (by decide) ?_
      refine own_iload (n := 86) X11 hx (hb hby at_84) rfl rfl ?_
      refine own_iconst (n := 87) X11 hx (3 : Int32) (hb hby at_86) rfl rfl ?_
      refine own_icmpYes (n := 101) X11 hx (hb hby at_87) (Jvm.Free.XT.ii_le_t (by decide)) (by decide) (by decide) ?_
      show Ends p e below (EF s 64 320) (Q0 Z p1 p2 p3 p4  h0 n0) (T11.setTop (mkF m 101 #[.val (.int p1), .val (.int p2), .val (.int p3), .val (.int p4), .val (.int (Nat.toInt32 2)), .val (.int (Nat.toInt32 cb)), .val (.ref lst), .val (.ref hst), .unset] []))
      exact blkb _ _ _ lst hst _ cb (own_more X11 (by decide) (by decide)) e11 N11 Z11 OL11 VV11 (by decide) hc
    · skip
      refine own_iload (n := 36) XB hx (hb hby at_34) rfl rfl ?_
      refine own_ifNo (n := 39) XB hx (hb hby at_36) (Jvm.Free.XT.i0_le_f (by decide)) rfl ?_
      refine own_aload (n := 41) XB hx (hb hby at_39) rfl rfl rfl ?_
      refine own_aload (n := 43) XB hx (hb hby at_41) rfl rfl rfl ?_
      refine own_iload (n := 45) XB hx (hb hby at_43) rfl rfl ?_
      refine own_iconst (n := 46) XB hx (0 : Int32) (hb hby at_45) rfl rfl ?_
      refine own_iloadN (n := 47) XB hx (hb hby at_46) rfl rfl ?_
      refine own_callS (n := 50) XB hx hZ hown (hw _ (List.mem_of_getElem? (i := 231) rfl)) (hw _ (List.mem_of_getElem? (i := 232) rfl)) (hw _ (List.mem_of_getElem? (i := 229) rfl)) (hw _ (List.mem_of_getElem? (i := 233) rfl)) (by decide) eB (rm33 l Z a0 hw [] lst hst (Nat.toInt32 cb) (0 : Int32) p2 dA cb 0 hB n0 ZB cs pr eL eE TT OB VB nl hc (by decide) rfl (by decide)) (W := 0) (by decide) (by decide) (by decide) (by decide) (by rw [hml]; rfl) (argsL := [(.ref lst), (.ref hst), (.int (Nat.toInt32 cb)), (.int (0 : Int32)), (.int p2)]) (rest := []) pd_33 rfl (by rfl) (Nat.le_of_eq rfl) (hb hby at_47) rfl rfl ?_
      intro v12 T12 h12 L12 X12 e12 q12
      obtain ⟨rfl, M12, OL12, VV12⟩ := q12
      have N12 := Fr.app NB M12
      have Z12 := own_oldz OL12
      refine own_iload (n := 52) X12 hx (hb hby at_50) rfl rfl ?_
      refine own_iconst (n := 53) X12 hx (1 : Int32) (hb hby at_52) rfl rfl ?_
      refine own_icmpNo (n := 56) X12 hx (hb hby at_53) (Jvm.Free.XT.ii_le_f (by decide)) rfl ?_
      refine own_aload (n := 58) X12 hx (hb hby at_56) rfl rfl rfl ?_
      refine own_aload (n := 60) X12 hx (hb hby at_58) rfl rfl rfl ?_
      refine own_iload (n := 62) X12 hx (hb hby at_60) rfl rfl ?_
      refine own_iconst (n := 63) X12 hx (1 : Int32) (hb hby at_62) rfl rfl ?_
      refine own_iloadN (n := 64) X12 hx (hb hby at_63) rfl rfl ?_
      refine own_callS (n := 67) X12 hx hZ hown (hw _ (List.mem_of_getElem? (i := 231) rfl)) (hw _ (List.mem_of_getElem? (i := 232) rfl)) (hw _ (List.mem_of_getElem? (i := 229) rfl)) (hw _ (List.mem_of_getElem? (i := 233) rfl)) (by decide) e12 (rm33 l Z a0 hw [] lst hst (Nat.toInt32 cb) (1 : Int32) p2 dA cb 1 h12 n0 Z12 cs pr eL eE TT OL12 VV12 nl hc (by decide) rfl (by decide)) (W := 0) (by decide) (by decide) (by decide) (by decide) (by rw [hml]; rfl) (argsL := [(.ref lst), (.ref hst), (.int (Nat.toInt32 cb)), (.int (1 : Int32)), (.int p2)]) (rest := []) pd_33 rfl (by rfl) (Nat.le_of_eq rfl) (hb hby at_64) rfl rfl ?_
      intro v13 T13 h13 L13 X13 e13 q13
      obtain ⟨rfl, M13, OL13, VV13⟩ := q13
      have N13 := Fr.app N12 M13
      have Z13 := own_oldz OL13
      refine own_iload (n := 69) X13 hx (hb hby at_67) rfl rfl ?_
      refine own_iconst (n := 70) X13 hx (2 : Int32) (hb hby at_69) rfl rfl ?_
      refine own_icmpNo (n := 73) X13 hx (hb hby at_70) (Jvm.Free.XT.ii_le_f (by decide)) rfl ?_
      refine own_aload (n := 75) X13 hx (hb hby at_73) rfl rfl rfl ?_
      refine own_aload (n := 77) X13 hx (hb hby at_75) rfl rfl rfl ?_
      refine own_iload (n := 79) X13 hx (hb hby at_77) rfl rfl ?_
      refine own_iconst (n := 80) X13 hx (2 : Int32) (hb hby at_79) rfl rfl ?_
      refine own_iloadN (n := 81) X13 hx (hb hby at_80) rfl rfl ?_
      refine own_callS (n := 84) X13 hx hZ hown (hw _ (List.mem_of_getElem? (i := 231) rfl)) (hw _ (List.mem_of_getElem? (i := 232) rfl)) (hw _ (List.mem_of_getElem? (i := 229) rfl)) (hw _ (List.mem_of_getElem? (i := 233) rfl)) (by decide) e13 (rm33 l Z a0 hw [] lst hst (Nat.toInt32 cb) (2 : Int32) p2 dA cb 2 h13 n0 Z13 cs pr eL eE TT OL13 VV13 nl hc (by decide) rfl (by decide)) (W := 0) (by decide) (by decide) (by decide) (by decide) (by rw [hml]; rfl) (argsL := [(.ref lst), (.ref hst), (.int (Nat.toInt32 cb)), (.int (2 : Int32)), (.int p2)]) (rest := []) pd_33 rfl (by rfl) (Nat.le_of_eq rfl) (hb hby at_81) rfl rfl ?_
      intro v14 T14 h14 L14 X14 e14 q14
      obtain ⟨rfl, M14, OL14, VV14⟩ := q14
      have N14 := Fr.app N13 M14
      have Z14 := own_oldz OL14
      refine own_iload (n := 86) X14 hx (hb hby at_84) rfl rfl ?_
      refine own_iconst (n := 87) X14 hx (3 : Int32) (hb hby at_86) rfl rfl ?_
      refine own_icmpYes (n := 101) X14 hx (hb hby at_87) (Jvm.Free.XT.ii_le_t (by decide)) (by decide) (by decide) ?_
      show Ends p e below (EF s 64 320) (Q0 Z p1 p2 p3 p4  h0 n0) (T14.setTop (mkF m 101 #[.val (.int p1), .val (.int p2), .val (.int p3), .val (.int p4), .val (.int (Nat.toInt32 3)), .val (.int (Nat.toInt32 cb)), .val (.ref lst), .val (.ref hst), .unset] []))
      exact blkb _ _ _ lst hst _ cb (own_more X14 (by decide) (by decide)) e14 N14 Z14 OL14 VV14 (by decide) hc
    · skip
      refine own_iload (n := 36) XB hx (hb hby at_34) rfl rfl ?_
      refine own_ifNo (n := 39) XB hx (hb hby at_36) (Jvm.Free.XT.i0_le_f (by decide)) rfl ?_
      refine own_aload (n := 41) XB hx (hb hby at_39) rfl rfl rfl ?_
      refine own_aload (n := 43) XB hx (hb hby at_41) rfl rfl rfl ?_
      refine own_iload (n := 45) XB hx (hb hby at_43) rfl rfl ?_
      refine own_iconst (n := 46) XB hx (0 : Int32) (hb hby at_45) rfl rfl ?_
      refine own_iloadN (n := 47) XB hx (hb hby at_46) rfl rfl ?_
      refine own_callS (n := 50) XB hx hZ hown (hw _ (List.mem_of_getElem? (i := 231) rfl)) (hw _ (List.mem_of_getElem? (i := 232) rfl)) (hw _ (List.mem_of_getElem? (i := 229) rfl)) (hw _ (List.mem_of_getElem? (i := 233) rfl)) (by decide) eB (rm33 l Z a0 hw [] lst hst (Nat.toInt32 cb) (0 : Int32) p2 dA cb 0 hB n0 ZB cs pr eL eE TT OB VB nl hc (by decide) rfl (by decide)) (W := 0) (by decide) (by decide) (by decide) (by decide) (by rw [hml]; rfl) (argsL := [(.ref lst), (.ref hst), (.int (Nat.toInt32 cb)), (.int (0 : Int32)), (.int p2)]) (rest := []) pd_33 rfl (by rfl) (Nat.le_of_eq rfl) (hb hby at_47) rfl rfl ?_
      intro v15 T15 h15 L15 X15 e15 q15
      obtain ⟨rfl, M15, OL15, VV15⟩ := q15
      have N15 := Fr.app NB M15
      have Z15 := own_oldz OL15
      refine own_iload (n := 52) X15 hx (hb hby at_50) rfl rfl ?_
      refine own_iconst (n := 53) X15 hx (1 : Int32) (hb hby at_52) rfl rfl ?_
      refine own_icmpNo (n := 56) X15 hx (hb hby at_53) (Jvm.Free.XT.ii_le_f (by decide)) rfl ?_
      refine own_aload (n := 58) X15 hx (hb hby at_56) rfl rfl rfl ?_
      refine own_aload (n := 60) X15 hx (hb hby at_58) rfl rfl rfl ?_
      refine own_iload (n := 62) X15 hx (hb hby at_60) rfl rfl ?_
      refine own_iconst (n := 63) X15 hx (1 : Int32) (hb hby at_62) rfl rfl ?_
      refine own_iloadN (n := 64) X15 hx (hb hby at_63) rfl rfl ?_
      refine own_callS (n := 67) X15 hx hZ hown (hw _ (List.mem_of_getElem? (i := 231) rfl)) (hw _ (List.mem_of_getElem? (i := 232) rfl)) (hw _ (List.mem_of_getElem? (i := 229) rfl)) (hw _ (List.mem_of_getElem? (i := 233) rfl)) (by decide) e15 (rm33 l Z a0 hw [] lst hst (Nat.toInt32 cb) (1 : Int32) p2 dA cb 1 h15 n0 Z15 cs pr eL eE TT OL15 VV15 nl hc (by decide) rfl (by decide)) (W := 0) (by decide) (by decide) (by decide) (by decide) (by rw [hml]; rfl) (argsL := [(.ref lst), (.ref hst), (.int (Nat.toInt32 cb)), (.int (1 : Int32)), (.int p2)]) (rest := []) pd_33 rfl (by rfl) (Nat.le_of_eq rfl) (hb hby at_64) rfl rfl ?_
      intro v16 T16 h16 L16 X16 e16 q16
      obtain ⟨rfl, M16, OL16, VV16⟩ := q16
      have N16 := Fr.app N15 M16
      have Z16 := own_oldz OL16
      refine own_iload (n := 69) X16 hx (hb hby at_67) rfl rfl ?_
      refine own_iconst (n := 70) X16 hx (2 : Int32) (hb hby at_69) rfl rfl ?_
      refine own_icmpNo (n := 73) X16 hx (hb hby at_70) (Jvm.Free.XT.ii_le_f (by decide)) rfl ?_
      refine own_aload (n := 75) X16 hx (hb hby at_73) rfl rfl rfl ?_
      refine own_aload (n := 77) X16 hx (hb hby at_75) rfl rfl rfl ?_
      refine own_iload (n := 79) X16 hx (hb hby at_77) rfl rfl ?_
      refine own_iconst (n := 80) X16 hx (2 : Int32) (hb hby at_79) rfl rfl ?_
      refine own_iloadN (n := 81) X16 hx (hb hby at_80) rfl rfl ?_
      refine own_callS (n := 84) X16 hx hZ hown (hw _ (List.mem_of_getElem? (i := 231) rfl)) (hw _ (List.mem_of_getElem? (i := 232) rfl)) (hw _ (List.mem_of_getElem? (i := 229) rfl)) (hw _ (List.mem_of_getElem? (i := 233) rfl)) (by decide) e16 (rm33 l Z a0 hw [] lst hst (Nat.toInt32 cb) (2 : Int32) p2 dA cb 2 h16 n0 Z16 cs pr eL eE TT OL16 VV16 nl hc (by decide) rfl (by decide)) (W := 0) (by decide) (by decide) (by decide) (by decide) (by rw [hml]; rfl) (argsL := [(.ref lst), (.ref hst), (.int (Nat.toInt32 cb)), (.int (2 : Int32)), (.int p2)]) (rest := []) pd_33 rfl (by rfl) (Nat.le_of_eq rfl) (hb hby at_81) rfl rfl ?_
      intro v17 T17 h17 L17 X17 e17 q17
      obtain ⟨rfl, M17, OL17, VV17⟩ := q17
      have N17 := Fr.app N16 M17
      have Z17 := own_oldz OL17
      refine own_iload (n := 86) X17 hx (hb hby at_84) rfl rfl ?_
      refine own_iconst (n := 87) X17 hx (3 : Int32) (hb hby at_86) rfl rfl ?_
      refine own_icmpNo (n := 90) X17 hx (hb hby at_87) (Jvm.Free.XT.ii_le_f (by decide)) rfl ?_
      refine own_aload (n := 92) X17 hx (hb hby at_90) rfl rfl rfl ?_
      refine own_aload (n := 94) X17 hx (hb hby at_92) rfl rfl rfl ?_
      refine own_iload (n := 96) X17 hx (hb hby at_94) rfl rfl ?_
      refine own_iconst (n := 97) X17 hx (3 : Int32) (hb hby at_96) rfl rfl ?_
      refine own_iloadN (n := 98) X17 hx (hb hby at_97) rfl rfl ?_
      refine own_callS (n := 101) X17 hx hZ hown (hw _ (List.mem_of_getElem? (i := 231) rfl)) (hw _ (List.mem_of_getElem? (i := 232) rfl)) (hw _ (List.mem_of_getElem? (i := 229) rfl)) (hw _ (List.mem_of_getElem? (i := 233) rfl)) (by decide) e17 (rm33 l Z a0 hw [] lst hst (Nat.toInt32 cb) (3 : Int32) p2 dA cb 3 h17 n0 Z17 cs pr eL eE TT OL17 VV17 nl hc (by decide) rfl (by decide)) (W := 0) (by decide) (by decide) (by decide) (by decide) (by rw [hml]; rfl) (argsL := [(.ref lst), (.ref hst), (.int (Nat.toInt32 cb)), (.int (3 : Int32)), (.int p2)]) (rest := []) pd_33 rfl (by rfl) (Nat.le_of_eq rfl) (hb hby at_98) rfl rfl ?_
      intro v18 T18 h18 L18 X18 e18 q18
      obtain ⟨rfl, M18, OL18, VV18⟩ := q18
      have N18 := Fr.app N17 M18
      have Z18 := own_oldz OL18
      show Ends p e below (EF s 64 320) (Q0 Z p1 p2 p3 p4  h0 n0) (T18.setTop (mkF m 101 #[.val (.int p1), .val (.int p2), .val (.int p3), .val (.int p4), .val (.int (Nat.toInt32 4)), .val (.int (Nat.toInt32 cb)), .val (.ref lst), .val (.ref hst), .unset] []))
      exact blkb _ _ _ lst hst _ cb (own_more X18 (by decide) (by decide)) e18 N18 Z18 OL18 VV18 (by decide) hc
  refine own_iloadN (n := 1) X0 hx (hb hby at_0) rfl rfl ?_
  refine own_ldc (n := 3) X0 hx hZ hown (hw _ (List.mem_of_getElem? (i := 0) rfl)) (hb hby at_1) rfl ?_
  refine own_iand (n := 4) X0 hx (hb hby at_3) rfl ?_
  refine own_iconst (n := 5) X0 hx (5 : Int32) (hb hby at_4) rfl rfl ?_
  refine own_irem (n := 6) X0 hx (hb hby at_5) (by decide) rfl ?_
  refine own_istore (n := 8) X0 hx (hb hby at_6) (l' := #[.val (.int p1), .val (.int p2), .val (.int p3), .val (.int p4), .val (.int ((p1 &&& (2147483647 : Int32)) % (5 : Int32))), .unset, .unset, .unset, .unset]) rfl rfl ?_
  show Ends p e below (EF s 64 320) (Q0 Z p1 p2 p3 p4  h0 n0) (s₁.setTop (mkF m 8 #[.val (.int p1), .val (.int p2), .val (.int p3), .val (.int p4), .val (.int ((p1 &&& (2147483647 : Int32)) % (5 : Int32))), .unset, .unset, .unset, .unset] []))
  generalize g_sz : ((p1 &&& (2147483647 : Int32)) % (5 : Int32)) = sz
  refine own_iloadN (n := 9) X0 hx (hb hby at_8) rfl rfl ?_
  refine own_sipush (n := 12) X0 hx (255 : Int32) (hb hby at_9) rfl rfl ?_
  refine own_iand (n := 13) X0 hx (hb hby at_12) rfl ?_
  refine own_i2c (n := 14) X0 hx (hb hby at_13) rfl ?_
  refine own_istore (n := 16) X0 hx (hb hby at_14) (l' := #[.val (.int p1), .val (.int p2), .val (.int p3), .val (.int p4), .val (.int sz), .val (.int ((p3 &&& (255 : Int32)).toUInt32.toUInt16.toUInt32.toInt32)), .unset, .unset, .unset]) rfl rfl ?_
  show Ends p e below (EF s 64 320) (Q0 Z p1 p2 p3 p4  h0 n0) (s₁.setTop (mkF m 16 #[.val (.int p1), .val (.int p2), .val (.int p3), .val (.int p4), .val (.int sz), .val (.int ((p3 &&& (255 : Int32)).toUInt32.toUInt16.toUInt32.toInt32)), .unset, .unset, .unset] []))
  generalize g_chb : ((p3 &&& (255 : Int32)).toUInt32.toUInt16.toUInt32.toInt32) = chb
  refine own_newO (n := 19) X0 hx hZ hown (hw _ (List.mem_of_getElem? (i := 1) rfl)) (hw _ (List.mem_of_getElem? (i := 2) rfl)) (hw _ (List.mem_of_getElem? (i := 3) rfl)) e0 (by decide) (by decide) (hb hby at_16) rfl ?_
  intro T19 h19 b19 X19 e19 g19 E19 A19 D19
  have Z19 : n0 ≤ h19.size := Nat.le_trans Z0 E19.1
  have nb_b19 : n0 ≤ b19 := Nat.le_trans Z0 (Nat.le_of_eq g19.symm)
  have OL19 := OL.ext E19
  have N19_b19 : AL Z h19 b19 (.null) (0) (0) := ⟨A19, D19 (Or.inl (hw _ (List.mem_of_getElem? (i := 26) rfl))) (ty := (.array (.object "java/lang/Object"))) (by decide), D19 (Or.inl (hw _ (List.mem_of_getElem? (i := 192) rfl))) (ty := .int) (by decide), D19 (Or.inl (hw _ (List.mem_of_getElem? (i := 23) rfl))) (ty := .int) (by decide)⟩
  refine own_dup (n := 20) X19 hx (hb hby at_19) rfl rfl ?_
  refine own_callN (n := 23) X19 hx hZ rfl hown (hw _ (List.mem_of_getElem? (i := 4) rfl)) (hw _ (List.mem_of_getElem? (i := 5) rfl)) (hw _ (List.mem_of_getElem? (i := 3) rfl)) (hw _ (List.mem_of_getElem? (i := 6) rfl)) (by decide) e19 (rm1 l Z a0 hw [] b19 dA h19 n0 Z19 cs pr eL eE TT OL19 N19_b19 nb_b19) (W := 1) (by decide) (by decide) (by decide) (by decide) (by rw [hml]; rfl) (argsL := []) (rest := [(.ref b19)]) pd_1 rfl (a := b19) (by rfl) (Nat.le_of_eq rfl) (hb hby at_20) rfl rfl ?_
  intro v20 T20 h20 L20 X20 e20 q20
  obtain ⟨rfl, M20, K20, F20⟩ := q20
  have N20 := Fr.app N0 M20
  have Z20 : n0 ≤ h20.size := Nat.le_trans Z19 K20.1
  have OL20 := OL19.keep K20 (allS nb_b19 all0)
  refine own_astore (n := 25) X20 hx (hb hby at_23) rfl (l' := #[.val (.int p1), .val (.int p2), .val (.int p3), .val (.int p4), .val (.int sz), .val (.int chb), .val (.ref b19), .unset, .unset]) rfl rfl ?_
  refine own_newO (n := 28) X20 hx hZ hown (hw _ (List.mem_of_getElem? (i := 27) rfl)) (hw _ (List.mem_of_getElem? (i := 28) rfl)) (hw _ (List.mem_of_getElem? (i := 29) rfl)) e20 (by decide) (by decide) (hb hby at_25) rfl ?_
  intro T21 h21 b21 X21 e21 g21 E21 A21 D21
  have Z21 : n0 ≤ h21.size := Nat.le_trans Z20 E21.1
  have nb_b21 : n0 ≤ b21 := Nat.le_trans Z20 (Nat.le_of_eq g21.symm)
  have OL21 := OL20.ext E21
  have ne_b19_b21 : b19 ≠ b21 := Nat.ne_of_lt (Nat.lt_of_lt_of_le F20.lt (Nat.le_of_eq g21.symm))
  have F21_b19 := F20.ext E21
  have N21_b21 : HS Z h21 b21 (.null) := ⟨A21, D21 (Or.inl (hw _ (List.mem_of_getElem? (i := 59) rfl))) (ty := (.object "java/util/HashMap")) (by decide)⟩
  refine own_dup (n := 29) X21 hx (hb hby at_28) rfl rfl ?_
  refine own_callN (n := 32) X21 hx hZ rfl hown (hw _ (List.mem_of_getElem? (i := 30) rfl)) (hw _ (List.mem_of_getElem? (i := 31) rfl)) (hw _ (List.mem_of_getElem? (i := 29) rfl)) (hw _ (List.mem_of_getElem? (i := 32) rfl)) (by decide) e21 (rm5 l Z a0 hw [] b21 h21 n0 Z21 N21_b21 nb_b21) (W := 1) (by decide) (by decide) (by decide) (by decide) (by rw [hml]; rfl) (argsL := []) (rest := [(.ref b21)]) pd_5 rfl (a := b21) (by rfl) (Nat.le_of_eq rfl) (hb hby at_29) rfl rfl ?_
  intro v22 T22 h22 L22 X22 e22 q22
  obtain ⟨rfl, M22, K22, mp22, lf22, F22, H22, bg22⟩ := q22
  have N22 := Fr.app N20 M22
  have Z22 : n0 ≤ h22.size := Nat.le_trans Z21 K22.1
  have OL22 := OL21.keep K22 (allS nb_b21 all0)
  have F22_b19 := F21_b19.keep K22 (ninS ne_b19_b21 nin0)
  have nbm := Nat.le_trans Z21 bg22
  refine own_astore (n := 34) X22 hx (hb hby at_32) rfl (l' := #[.val (.int p1), .val (.int p2), .val (.int p3), .val (.int p4), .val (.int sz), .val (.int chb), .val (.ref b19), .val (.ref b21), .unset]) rfl rfl ?_
  show Ends p e below (EF s 64 320) (Q0 Z p1 p2 p3 p4  h0 n0) (T22.setTop (mkF m 34 #[.val (.int p1), .val (.int p2), .val (.int p3), .val (.int p4), .val (.int sz), .val (.int chb), .val (.ref b19), .val (.ref b21), .unset] []))
  obtain ⟨k, hk5, rfl⟩ : ∃ k : Nat, k < 5 ∧ sz = Nat.toInt32 k := by
    have q1 := c_and p1 2147483647 (by decide)
    have q2 := (c_irem (p1 &&& (2147483647 : Int32)) 5 5 rfl).1 q1.1
    rw [g_sz] at q2
    exact ⟨sz.toInt.toNat, by omega, own_inj (by rw [len_toInt (by omega)]; omega)⟩
  obtain ⟨cb, hc, rfl⟩ : ∃ cb : Nat, cb < 256 ∧ chb = Nat.toInt32 cb := by
    have q1 := c_and p3 255 (by decide)
    have q2 := c_i2c (p3 &&& (255 : Int32))
    rw [g_chb] at q2
    have o : (255 : Int32).toInt = 255 := rfl
    exact ⟨chb.toInt.toNat, by omega, own_inj (by rw [len_toInt (by omega)]; omega)⟩
  have V0 : INV Z h22 n0 dA b19 b21 cb p2 0 := ⟨fun _ => 0, fun _ => false, 0, ⟨dA, 0, F22_b19, Or.inl ⟨rfl, rfl⟩⟩, ⟨mp22, F22, ⟨_, _, _, _, H22, Or.inl ⟨rfl, rfl, fun _ _ => rfl⟩⟩, nbm⟩, fun j hj => absurd hj (Nat.not_lt_zero _), Nat.le_refl _, fun _ _ _ => rfl, fun j hj => absurd hj (Nat.not_lt_zero _)⟩
  exact blka _ _ _ b19 b21 k cb (own_more X22 (by decide) (by decide)) e22 N22 Z22 OL22 V0 nb_b19 hk5 hc
theorem own_steq {s : State} {args : Array Value} {t : Term} {k : Int32} (h : (Cond.eq t (Term.int k)).before args s = true) : t.eval args s none [] s = some (.int k) := Cond.eq_int h rfl
theorem own_va0 {Z : State} {args : Array Value} {t : Term} {a : Addr} {ty : FieldType} (ev : t.eval args Z none [] Z = some (.ref a)) (h1 : (Cond.arrayOf t ty).before args Z = true) (h2 : (Cond.eq (.length t) (.int 0)).before args Z = true) : VA Z Z.heap a ty 0 (fun _ => .null) := by
  obtain ⟨c, A⟩ := Arr.start ev (Cond.before_iff.mp h1)
  have hl := own_steq h2
  obtain ⟨b, SA, e1, e2, e3⟩ := Term.length_spec hl
  cases (Option.some.inj (ev.symm.trans e1) : Value.ref a = Value.ref b)
  have h31 := Jvm.Free.SBG.length_lt ev e2 hl
  cases (A.fin (U := Z) (Vm.Alike.refl _)).symm.trans e2
  refine ⟨by decide, c, A, ?_, fun j hj => absurd hj (Nat.not_lt_zero _)⟩
  injection e3 with e3
  have q := congrArg Int32.toInt e3
  rw [len_toInt h31] at q
  have o : (0 : Int32).toInt = 0 := rfl
  omega
theorem comes_1 {Post : Tables → Env → Array Value → State → Outcome → State → Prop} (hpost : ∀ tb e args s v u, (limb_1_1.after args s (.returned v) u = true ∧ limb_1_2.after args s (.returned v) u = true ∧ True) → FrameEnd s (.returned v) u (Jvm.fieldLocs frame_1_writes args s ++ Jvm.arrayLocs frame_1_arrays args s ++ Jvm.staticLocs frame_1_statics s) 64 320 → Post tb e args s (.returned v) u) :
    ArmFor flags0 classFile x code maxLocals ret World_1 tables_1 room_1 Calls_1 rest_1 Pre_1 Post := by
  intro l hfl _ _ p e ha hc hk s m args below hf hA hF happ hP
  obtain ⟨hcalls, hrest, hpre⟩ := hP
  obtain ⟨-, -, -, hnamed, -, -, -, hat⟩ := (Spec.applies_iff hf).mp happ
  obtain ⟨hg, hn⟩ := and_e (Cond.before_iff.mp (show (Jvm.Cond.and given_1 narrow_1).before args s = true from hpre))
  obtain ⟨hcount, hg0⟩ := and_e hg
  obtain ⟨hi0, hg1⟩ := and_e hg0
  obtain ⟨hi1, hg2⟩ := and_e hg1
  obtain ⟨hi2, hg3⟩ := and_e hg2
  obtain ⟨w0, w1, w2, w3, rfl⟩ : ∃ w0 w1 w2 w3 : Value, args = #[w0, w1, w2, w3] := by
    have hs : args.size = 4 := by simpa [Cond.value, given_1] using hcount
    obtain ⟨L⟩ := args
    match L, hs with
    | [w0, w1, w2, w3], _ => exact ⟨w0, w1, w2, w3, rfl⟩
  have hw := fun d (hd : d ∈ tables_1) => atoms_spec (ws := Jvm.Cond.code x code maxLocals ret :: tables_1) hat d (List.mem_cons_of_mem _ hd)
  have hfit : Fit s := fun {y c} hc i hi => by
    obtain ⟨ha, rfl⟩ := Array.getElem?_eq_some_iff.mp hc
    have q := List.all_eq_true.mp ((Array.all_eq_true_iff_forall_mem.mp hF) _ (Array.getElem_mem ha)) i (List.mem_range.mpr hi)
    simpa [Array.getElem?_eq_getElem hi] using q
  obtain ⟨i0, j0⟩ := is_v hi0
  obtain rfl : w0 = (.int i0) := Option.some.inj j0
  obtain ⟨i1, j1⟩ := is_v hi1
  obtain rfl : w1 = (.int i1) := Option.some.inj j1
  obtain ⟨i2, j2⟩ := is_v hi2
  obtain rfl : w2 = (.int i2) := Option.some.inj j2
  obtain ⟨i3, j3⟩ := is_v hg3
  obtain rfl : w3 = (.int i3) := Option.some.inj j3
  obtain ⟨hsets, hown0⟩ := atoms_of _ (rest_1_c_eq ▸ (show rest_1_c.before _ s = true from hrest))
  have hr0 := Cond.before_iff.mp hown0
  have jj := fun i d (h : jdkStatics_1[i]? = some d) => hsets d (List.mem_of_getElem? h)
  obtain ⟨cs, ev⟩ := is_v (Cond.before_iff.mp (jj 10 _ rfl))
  have CS : Sta s s.heap "java/lang/String" "COMPACT_STRINGS" "Z" (.int cs) := Sta.start ev (Or.inl (jj 9 _ rfl))
  have hcs : ¬ cs = 0 := fun z => by
    subst z
    have q := not_v (Cond.before_iff.mp (jj 11 _ rfl))
    have q2 := eq_i ev (Term.int_eval 0) rfl
    rw [q] at q2
    cases q2
  obtain ⟨dA, evd⟩ := exa_v (Cond.before_iff.mp (jj 7 _ rfl))
  have VD := own_va0 evd (jj 6 _ rfl) (jj 8 _ rfl)
  have SD : Sta s s.heap "java/util/ArrayList" "DEFAULTCAPACITY_EMPTY_ELEMENTDATA" "[Ljava/lang/Object;" (.ref dA) := Sta.start evd (Or.inr ⟨(hw _ (List.mem_of_getElem? (i := 3) rfl)), jj 2 _ rfl⟩)
  obtain ⟨pr, evp⟩ := exa_v (Cond.before_iff.mp (jj 20 _ rfl))
  have SPR : Sta s s.heap "java/util/HashSet" "PRESENT" "Ljava/lang/Object;" (.ref pr) := Sta.start evp (Or.inl (jj 19 _ rfl))
  obtain ⟨eL, evl⟩ := exa_v (Cond.before_iff.mp (jj 23 _ rfl))
  have SEL : Sta s s.heap "java/util/ImmutableCollections" "EMPTY_LIST" "Ljava/util/ImmutableCollections$ListN;" (.ref eL) := Sta.start evl (Or.inl (jj 22 _ rfl))
  obtain ⟨eE, eve⟩ := exa_v (Cond.before_iff.mp (jj 30 _ rfl))
  have SEE : Sta s s.heap "java/util/ImmutableCollections" "EMPTY" "Ljava/lang/Object;" (.ref eE) := Sta.start eve (Or.inl (jj 29 _ rfl))
  have AD : Sta s s.heap "java/lang/StringUTF16" "$assertionsDisabled" "Z" (.int 1) := Sta.start (own_steq (jj 40 _ rfl)) (Or.inl (jj 39 _ rfl))
  have HI : Sta s s.heap "java/lang/StringUTF16" "HI_BYTE_SHIFT" "I" (.int 0) := Sta.start (own_steq (jj 43 _ rfl)) (Or.inl (jj 42 _ rfl))
  have LO : Sta s s.heap "java/lang/StringUTF16" "LO_BYTE_SHIFT" "I" (.int 8) := Sta.start (own_steq (jj 46 _ rfl)) (Or.inl (jj 45 _ rfl))
  obtain ⟨cm, km, mr, m1, m2, m3, m4⟩ := hcalls.1
  obtain ⟨n, o, h1, h2, h3, _, L, rfl, ⟨rfl, N⟩, hq⟩ := rm0 l s _ hw tables_1 i0 i1 i2 i3  s.heap s.heap.size (Nat.le_refl _) cs dA pr eL eE ⟨hcs, VD, CS, AD, HI, LO, SD, SPR, SEL, SEE⟩ (Old.start s) mr ⟨cm, km, m1, m2, m3, m4⟩ p e ha hc hk s m _ below hf ((Spec.applies_iff_loose hf).mp happ).1 ⟨rfl, State.Warmed39.refl s, rfl⟩ trivial
  refine ⟨n, _, h1, h2, h3, hpost _ _ _ _ _ _ ⟨Cond.after_iff.mpr rfl, Cond.after_iff.mpr (eq_i res_at (Term.int_eval (1)) rfl), trivial⟩ ⟨hq.1, hq.2.1, (hq.2.2.sift fun y hy => Or.inr (N y hy)).mono (by decide) (by decide)⟩⟩
theorem main_1_1 : Claimed_1_1 := comes_1 fun _ _ _ _ _ _ h hF => ⟨h.1, hF⟩
theorem main_1_2 : Claimed_1_2 := comes_1 fun _ _ _ _ _ _ h hF => ⟨h.2.1, hF⟩
end Jvm.Pilot.@@N@@
namespace Jvm.Pilot.@@N@@
open Jvm Jvm.ClassFile Sem Op Lib Jvm.Free Jvm.Stand Jvm.Pilot.@@N@@.Jvm.D
/-! MADE BY PROGRAM (witnessworld.py) out of the Statement's table words and the real class files: 46 classes; the members and pool entries that the words name. The judged class is class 1, her method 1. -/
namespace start1
open Jvm.ClassFile
def u (s : String) : CpInfo := .utf8 (stringToUtf16 s)
/-- a pool by its gaps: so many unusable entries, then the entry; so many at the end -/
def gap : Nat → List CpInfo → List CpInfo
  | 0, r => r
  | n + 1, r => .unusable :: gap n r
def poolList (es : List (Nat × CpInfo)) (last : Nat) : List CpInfo := es.foldr (fun e r => gap e.1 (e.2 :: r)) (gap last [])
def pool (es : List (Nat × CpInfo)) (last : Nat) : Array CpInfo := ⟨poolList es last⟩
def fileOf (pool : Array CpInfo) (this : Nat) (attrs : Array Attribute := #[]) (ms : Array MethodInfo := #[]) (fl : Nat := 33) (sup : Nat := 0) (ifs : Array Nat := #[]) (fds : Array FieldInfo := #[]) : ClassFile where
  minorVersion := 0
  majorVersion := 65
  constantPool := pool
  accessFlags := fl
  thisClass := this
  superClass := sup
  interfaces := ifs
  fields := fds
  methods := ms
  attributes := attrs
def plain (name : String) (sup : Option ClassId) : Class where
  name := name
  kind := .ordinary
  loader := none
  accessFlags := 33
  super := sup
  interfaces := #[]
  cf := none
  fields := #[]
  methods := #[]
  instanceTypes := #[]
  staticTypes := #[]
  resolved := #[]
  callSites := []
  init := .initialized
  statics := none
  mirror := none

def pool0 : Array CpInfo := pool [(5, u "<init>"), (0, u "()V"), (1, .class_ 10), (1, u "java/lang/Object"), (0, u "getClass"), (0, u "()Ljava/lang/Class;"), (14, u "hashCode"), (0, u "()I")] 95

def k0c0 : Code := { maxStack := 0, maxLocals := 1, code := object_method_1_code, exceptionTable := #[], attributes := #[] }
def k0m0 : Method := { name := "<init>", desc := "()V", sig := { parameters := [], returnType := none }, accessFlags := 1, code := some k0c0 }
def k0m1 : Method := { name := "getClass", desc := "()Ljava/lang/Class;", sig := { parameters := [], returnType := some (.object "java/lang/Class") }, accessFlags := 273, code := none }
def k0m2 : Method := { name := "hashCode", desc := "()I", sig := { parameters := [], returnType := some .int }, accessFlags := 257, code := none }
/-- java/lang/Object -/
def k0 : Class := { plain "java/lang/Object" none with
  accessFlags := 33
  interfaces := #[]
  cf := some (fileOf pool0 8 #[] #[{ accessFlags := 1, nameIndex := 5, descriptorIndex := 6, attributes := #[] }, { accessFlags := 273, nameIndex := 11, descriptorIndex := 12, attributes := #[] }, { accessFlags := 257, nameIndex := 27, descriptorIndex := 28, attributes := #[] }] 33 0 #[] #[])
  fields := #[]
  methods := #[k0m0, k0m1, k0m2]
  instanceTypes := #[]
  staticTypes := #[]
  resolved := Array.replicate 124 none
  statics := none }

def pool1 : Array CpInfo := pool [(2, .class_ 4), (0, .nameAndType 5 6), (0, u "java/lang/Object"), (0, u "<init>"), (0, u "()V"), (0, .integer 2147483647), (0, .class_ 9), (0, u "java/util/ArrayList"), (0, .methodref 8 3), (0, .class_ 12), (0, u "java/util/HashSet"), (0, .methodref 11 3), (0, .methodref 15 16), (0, .class_ 17), (0, .nameAndType 18 19), (0, u "com/example/avocet/avocet/eval/JudgedRankingIsRelevantAtPinLaw"), (0, u "put"), (0, u "(Ljava/util/ArrayList;Ljava/util/HashSet;CII)V"), (0, .methodref 21 22), (0, .class_ 23), (0, .nameAndType 24 25), (0, u "java/lang/String"), (0, u "valueOf"), (0, u "(C)Ljava/lang/String;"), (0, .methodref 11 27), (0, .nameAndType 28 29), (0, u "add"), (0, u "(Ljava/lang/Object;)Z"), (0, .class_ 31), (0, u "com/example/avocet/avocet/eval/JudgedRanking"), (0, .methodref 30 33), (0, .nameAndType 5 34), (0, u "(Ljava/util/List;Ljava/util/Set;)V"), (0, .methodref 15 36), (0, .nameAndType 37 38), (0, u "check"), (0, u "(Lcom/example/avocet/avocet/eval/JudgedRanking;III)Z"), (0, .methodref 8 27), (0, .methodref 30 41), (0, .nameAndType 42 43), (0, u "isRelevantAt"), (0, u "(I)Z"), (2, u "law"), (0, u "(IIII)Z")] 5

def k1m0 : Method := { name := "<init>", desc := "()V", sig := { parameters := [], returnType := none }, accessFlags := 1, code := none }
def k1c1 : Code := { maxStack := 5, maxLocals := 9, code := code, exceptionTable := #[], attributes := #[] }
def k1m1 : Method := { name := "law", desc := "(IIII)Z", sig := { parameters := [.int, .int, .int, .int], returnType := some .boolean }, accessFlags := 9, code := some k1c1 }
def k1c2 : Code := { maxStack := 2, maxLocals := 6, code := method_3_code, exceptionTable := #[], attributes := #[] }
def k1m2 : Method := { name := "put", desc := "(Ljava/util/ArrayList;Ljava/util/HashSet;CII)V", sig := { parameters := [(.object "java/util/ArrayList"), (.object "java/util/HashSet"), .char, .int, .int], returnType := none }, accessFlags := 10, code := some k1c2 }
def k1c3 : Code := { maxStack := 3, maxLocals := 5, code := method_4_code, exceptionTable := #[], attributes := #[] }
def k1m3 : Method := { name := "check", desc := "(Lcom/example/avocet/avocet/eval/JudgedRanking;III)Z", sig := { parameters := [(.object "com/example/avocet/avocet/eval/JudgedRanking"), .int, .int, .int], returnType := some .boolean }, accessFlags := 10, code := some k1c3 }
/-- com/example/avocet/avocet/eval/JudgedRankingIsRelevantAtPinLaw -/
def k1 : Class := { plain "com/example/avocet/avocet/eval/JudgedRankingIsRelevantAtPinLaw" (some 0) with
  accessFlags := 49
  interfaces := #[]
  cf := some (fileOf pool1 15 #[] #[{ accessFlags := 1, nameIndex := 5, descriptorIndex := 6, attributes := #[] }, { accessFlags := 9, nameIndex := 46, descriptorIndex := 47, attributes := #[] }, { accessFlags := 10, nameIndex := 18, descriptorIndex := 19, attributes := #[] }, { accessFlags := 10, nameIndex := 37, descriptorIndex := 38, attributes := #[] }] 49 2 #[] #[])
  fields := #[]
  methods := #[k1m0, k1m1, k1m2, k1m3]
  instanceTypes := #[]
  staticTypes := #[]
  resolved := Array.replicate 53 none
  statics := none }

def pool2 : Array CpInfo := pool [(8, .class_ 10), (1, u "java/lang/Iterable"), (24, .class_ 36), (0, u "java/lang/Object")] 25

/-- java/lang/Iterable -/
def k2 : Class := { plain "java/lang/Iterable" (some 0) with
  accessFlags := 1537
  interfaces := #[]
  cf := some (fileOf pool2 8 #[] #[] 1537 35 #[] #[])
  fields := #[]
  methods := #[]
  instanceTypes := #[]
  staticTypes := #[]
  resolved := Array.replicate 62 none
  statics := none }

def pool3 : Array CpInfo := pool [(10, .class_ 12), (1, u "java/util/Collection"), (0, u "toArray"), (16, u "()Z"), (29, .class_ 61), (0, u "java/lang/Object"), (0, .class_ 63), (0, u "java/lang/Iterable"), (2, u "isEmpty"), (3, u "()[Ljava/lang/Object;")] 44

def k3m0 : Method := { name := "isEmpty", desc := "()Z", sig := { parameters := [], returnType := some .boolean }, accessFlags := 1025, code := none }
def k3m1 : Method := { name := "toArray", desc := "()[Ljava/lang/Object;", sig := { parameters := [], returnType := some (.array (.object "java/lang/Object")) }, accessFlags := 1025, code := none }
/-- java/util/Collection -/
def k3 : Class := { plain "java/util/Collection" (some 0) with
  accessFlags := 1537
  interfaces := #[2]
  cf := some (fileOf pool3 10 #[] #[{ accessFlags := 1025, nameIndex := 66, descriptorIndex := 30, attributes := #[] }, { accessFlags := 1025, nameIndex := 13, descriptorIndex := 70, attributes := #[] }] 1537 60 #[62] #[])
  fields := #[]
  methods := #[k3m0, k3m1]
  instanceTypes := #[]
  staticTypes := #[]
  resolved := Array.replicate 115 none
  statics := none }

def pool4 : Array CpInfo := pool [(1, .methodref 2 3), (0, .class_ 4), (0, .nameAndType 5 6), (0, u "java/lang/Object"), (0, u "<init>"), (0, u "()V"), (1, .class_ 10), (1, u "java/util/AbstractCollection"), (66, .class_ 78), (0, u "java/util/Collection")] 81

def k4c0 : Code := { maxStack := 1, maxLocals := 1, code := jdk_22_method_1_code, exceptionTable := #[], attributes := #[] }
def k4m0 : Method := { name := "<init>", desc := "()V", sig := { parameters := [], returnType := none }, accessFlags := 4, code := some k4c0 }
/-- java/util/AbstractCollection -/
def k4 : Class := { plain "java/util/AbstractCollection" (some 0) with
  accessFlags := 1057
  interfaces := #[3]
  cf := some (fileOf pool4 8 #[] #[{ accessFlags := 4, nameIndex := 5, descriptorIndex := 6, attributes := #[] }] 1057 2 #[77] #[])
  fields := #[]
  methods := #[k4m0]
  instanceTypes := #[]
  staticTypes := #[]
  resolved := Array.replicate 160 none
  statics := none }

def pool5 : Array CpInfo := pool [(8, .class_ 10), (1, u "java/util/SequencedCollection"), (15, .class_ 27), (0, u "java/lang/Object"), (0, .class_ 29), (0, u "java/util/Collection")] 27

/-- java/util/SequencedCollection -/
def k5 : Class := { plain "java/util/SequencedCollection" (some 0) with
  accessFlags := 1537
  interfaces := #[3]
  cf := some (fileOf pool5 8 #[] #[] 1537 26 #[28] #[])
  fields := #[]
  methods := #[]
  instanceTypes := #[]
  staticTypes := #[]
  resolved := Array.replicate 57 none
  statics := none }

def pool6 : Array CpInfo := pool [(8, .class_ 10), (1, u "java/util/List"), (20, u "(Ljava/lang/Object;)V"), (16, u "<init>"), (26, u "get"), (0, u "(I)Ljava/lang/Object;"), (2, u "size"), (0, u "()I"), (7, u "of"), (1, .fieldref 91 92), (0, .class_ 93), (0, .nameAndType 94 95), (0, u "java/util/ImmutableCollections"), (0, u "EMPTY_LIST"), (0, u "Ljava/util/ImmutableCollections$ListN;"), (0, .class_ 97), (0, u "java/util/ImmutableCollections$List12"), (0, .methodref 96 99), (0, .nameAndType 48 31), (0, .methodref 96 101), (0, .nameAndType 48 102), (0, u "(Ljava/lang/Object;Ljava/lang/Object;)V"), (0, .class_ 104), (0, u "java/lang/Object"), (3, u "([Ljava/lang/Object;)Ljava/util/List;"), (0, .methodref 91 110), (0, .nameAndType 111 108), (0, u "listFromArray"), (0, .methodref 91 113), (0, .nameAndType 114 115), (0, u "listCopy"), (0, u "(Ljava/util/Collection;)Ljava/util/List;"), (3, u "()Ljava/util/List;"), (0, .class_ 121), (0, u "java/util/SequencedCollection"), (112, u "copyOf")] 16

def k6m0 : Method := { name := "size", desc := "()I", sig := { parameters := [], returnType := some .int }, accessFlags := 1025, code := none }
def k6m1 : Method := { name := "get", desc := "(I)Ljava/lang/Object;", sig := { parameters := [.int], returnType := some (.object "java/lang/Object") }, accessFlags := 1025, code := none }
def k6c2 : Code := { maxStack := 1, maxLocals := 0, code := jdk_40_method_36_code, exceptionTable := #[], attributes := #[] }
def k6m2 : Method := { name := "of", desc := "()Ljava/util/List;", sig := { parameters := [], returnType := some (.object "java/util/List") }, accessFlags := 9, code := some k6c2 }
def k6c3 : Code := { maxStack := 5, maxLocals := 2, code := jdk_40_method_47_code, exceptionTable := #[], attributes := #[] }
def k6m3 : Method := { name := "of", desc := "([Ljava/lang/Object;)Ljava/util/List;", sig := { parameters := [(.array (.object "java/lang/Object"))], returnType := some (.object "java/util/List") }, accessFlags := 137, code := some k6c3 }
def k6c4 : Code := { maxStack := 1, maxLocals := 1, code := jdk_40_method_48_code, exceptionTable := #[], attributes := #[] }
def k6m4 : Method := { name := "copyOf", desc := "(Ljava/util/Collection;)Ljava/util/List;", sig := { parameters := [(.object "java/util/Collection")], returnType := some (.object "java/util/List") }, accessFlags := 9, code := some k6c4 }
/-- java/util/List -/
def k6 : Class := { plain "java/util/List" (some 0) with
  accessFlags := 1537
  interfaces := #[5]
  cf := some (fileOf pool6 8 #[] #[{ accessFlags := 1025, nameIndex := 79, descriptorIndex := 80, attributes := #[] }, { accessFlags := 1025, nameIndex := 75, descriptorIndex := 76, attributes := #[] }, { accessFlags := 9, nameIndex := 88, descriptorIndex := 119, attributes := #[] }, { accessFlags := 137, nameIndex := 88, descriptorIndex := 108, attributes := #[] }, { accessFlags := 9, nameIndex := 234, descriptorIndex := 115, attributes := #[] }] 1537 103 #[120] #[])
  fields := #[]
  methods := #[k6m0, k6m1, k6m2, k6m3, k6m4]
  instanceTypes := #[]
  staticTypes := #[]
  resolved := Array.replicate 251 none
  statics := none }

def pool7 : Array CpInfo := pool [(1, .methodref 2 3), (0, .class_ 4), (0, .nameAndType 5 6), (0, u "java/util/AbstractCollection"), (0, u "<init>"), (0, u "()V"), (0, .fieldref 8 9), (0, .class_ 10), (0, .nameAndType 11 12), (0, u "java/util/AbstractList"), (0, u "modCount"), (0, u "I"), (64, .class_ 78), (0, u "java/util/AbstractList$Itr"), (3, .class_ 83), (0, u "java/util/AbstractList$ListItr"), (9, .class_ 94), (0, u "java/util/AbstractList$RandomAccessSubList"), (3, .class_ 99), (0, u "java/util/AbstractList$SubList"), (33, .class_ 134), (0, u "java/util/List"), (73, .class_ 209), (0, u "java/util/AbstractList$SubList$1"), (0, .class_ 211), (0, u "java/util/AbstractList$RandomAccessSpliterator")] 6

def k7c0 : Code := { maxStack := 2, maxLocals := 1, code := jdk_39_method_1_code, exceptionTable := #[], attributes := #[] }
def k7m0 : Method := { name := "<init>", desc := "()V", sig := { parameters := [], returnType := none }, accessFlags := 4, code := some k7c0 }
/-- java/util/AbstractList -/
def k7 : Class := { plain "java/util/AbstractList" (some 4) with
  accessFlags := 1057
  interfaces := #[6]
  cf := some (fileOf pool7 8 #[.nestMembers #[93, 98, 208, 210, 82, 77]] #[{ accessFlags := 4, nameIndex := 5, descriptorIndex := 6, attributes := #[] }] 1057 2 #[133] #[{ accessFlags := 132, nameIndex := 11, descriptorIndex := 12, attributes := #[] }])
  fields := #[{ name := "modCount", type := .int, accessFlags := 132, slot := 0, constantValue := 0 }]
  methods := #[k7m0]
  instanceTypes := #[.int]
  staticTypes := #[]
  resolved := Array.replicate 218 none
  statics := none }

def pool8 : Array CpInfo := pool [(1, .class_ 2), (0, u "java/util/RandomAccess"), (0, .class_ 4), (0, u "java/lang/Object")] 2

/-- java/util/RandomAccess -/
def k8 : Class := { plain "java/util/RandomAccess" (some 0) with
  accessFlags := 1537
  interfaces := #[]
  cf := some (fileOf pool8 1 #[] #[] 1537 3 #[] #[])
  fields := #[]
  methods := #[]
  instanceTypes := #[]
  staticTypes := #[]
  resolved := Array.replicate 7 none
  statics := none }

def pool9 : Array CpInfo := pool [(1, .class_ 2), (0, u "java/lang/Cloneable"), (0, .class_ 4), (0, u "java/lang/Object")] 2

/-- java/lang/Cloneable -/
def k9 : Class := { plain "java/lang/Cloneable" (some 0) with
  accessFlags := 1537
  interfaces := #[]
  cf := some (fileOf pool9 1 #[] #[] 1537 3 #[] #[])
  fields := #[]
  methods := #[]
  instanceTypes := #[]
  staticTypes := #[]
  resolved := Array.replicate 7 none
  statics := none }

def pool10 : Array CpInfo := pool [(1, .class_ 2), (0, u "java/io/Serializable"), (0, .class_ 4), (0, u "java/lang/Object")] 2

/-- java/io/Serializable -/
def k10 : Class := { plain "java/io/Serializable" (some 0) with
  accessFlags := 1537
  interfaces := #[]
  cf := some (fileOf pool10 1 #[] #[] 1537 3 #[] #[])
  fields := #[]
  methods := #[]
  instanceTypes := #[]
  staticTypes := #[]
  resolved := Array.replicate 7 none
  statics := none }

def pool11 : Array CpInfo := pool [(1, .methodref 2 3), (0, .class_ 4), (0, .nameAndType 5 6), (0, u "java/util/AbstractList"), (0, u "<init>"), (0, u "()V"), (0, .class_ 8), (0, u "java/lang/Object"), (0, .fieldref 10 11), (0, .class_ 12), (0, .nameAndType 13 14), (0, u "java/util/ArrayList"), (0, u "elementData"), (0, u "[Ljava/lang/Object;"), (2, u "EMPTY_ELEMENTDATA"), (21, .fieldref 10 40), (0, .nameAndType 41 14), (0, u "DEFAULTCAPACITY_EMPTY_ELEMENTDATA"), (4, u "toArray"), (0, u "()[Ljava/lang/Object;"), (0, .fieldref 10 49), (0, .nameAndType 50 51), (0, u "size"), (0, u "I"), (6, .class_ 60), (1, u "java/util/Arrays"), (0, u "copyOf"), (1, .fieldref 10 64), (0, .nameAndType 65 51), (0, u "modCount"), (0, .methodref 58 67), (0, .nameAndType 61 68), (0, u "([Ljava/lang/Object;I)[Ljava/lang/Object;"), (0, .methodref 10 70), (0, .nameAndType 71 72), (0, u "grow"), (0, u "(I)[Ljava/lang/Object;"), (6, .methodref 80 81), (0, .class_ 82), (0, .nameAndType 83 84), (0, u "java/lang/Math"), (0, u "max"), (0, u "(II)I"), (11, u "(Ljava/lang/Object;)Z"), (21, .methodref 119 120), (0, .class_ 121), (0, .nameAndType 122 84), (0, u "java/util/Objects"), (0, u "checkIndex"), (0, .methodref 10 124), (0, .nameAndType 13 125), (0, u "(I)Ljava/lang/Object;"), (3, .methodref 10 130), (0, .nameAndType 71 47), (0, .methodref 10 132), (0, .nameAndType 133 134), (0, u "add"), (0, u "(Ljava/lang/Object;[Ljava/lang/Object;I)V"), (13, .class_ 149), (0, u "java/util/List"), (23, u "()Z"), (12, u "()I"), (75, .class_ 263), (0, u "java/util/ArrayList$ListItr"), (3, .class_ 268), (0, u "java/util/ArrayList$Itr"), (7, .class_ 277), (0, u "java/util/ArrayList$SubList"), (12, .class_ 291), (0, u "java/util/ArrayList$ArrayListSpliterator"), (37, .class_ 330), (0, u "java/util/RandomAccess"), (0, .class_ 332), (0, u "java/lang/Cloneable"), (0, .class_ 334), (0, u "java/io/Serializable"), (0, u "serialVersionUID"), (0, u "J"), (3, u "DEFAULT_CAPACITY"), (22, u "isEmpty"), (17, u "get"), (118, .class_ 501), (0, u "java/util/ArrayList$SubList$2"), (0, .class_ 503), (0, u "java/util/ArrayList$SubList$1")] 5

def k11c0 : Code := { maxStack := 2, maxLocals := 1, code := jdk_38_method_2_code, exceptionTable := #[], attributes := #[] }
def k11m0 : Method := { name := "<init>", desc := "()V", sig := { parameters := [], returnType := none }, accessFlags := 1, code := some k11c0 }
def k11c1 : Code := { maxStack := 4, maxLocals := 4, code := jdk_38_method_6_code, exceptionTable := #[], attributes := #[] }
def k11m1 : Method := { name := "grow", desc := "(I)[Ljava/lang/Object;", sig := { parameters := [.int], returnType := some (.array (.object "java/lang/Object")) }, accessFlags := 2, code := some k11c1 }
def k11c2 : Code := { maxStack := 3, maxLocals := 1, code := jdk_38_method_7_code, exceptionTable := #[], attributes := #[] }
def k11m2 : Method := { name := "grow", desc := "()[Ljava/lang/Object;", sig := { parameters := [], returnType := some (.array (.object "java/lang/Object")) }, accessFlags := 2, code := some k11c2 }
def k11c3 : Code := { maxStack := 1, maxLocals := 1, code := jdk_38_method_8_code, exceptionTable := #[], attributes := #[] }
def k11m3 : Method := { name := "size", desc := "()I", sig := { parameters := [], returnType := some .int }, accessFlags := 1, code := some k11c3 }
def k11c4 : Code := { maxStack := 1, maxLocals := 1, code := jdk_38_method_9_code, exceptionTable := #[], attributes := #[] }
def k11m4 : Method := { name := "isEmpty", desc := "()Z", sig := { parameters := [], returnType := some .boolean }, accessFlags := 1, code := some k11c4 }
def k11c5 : Code := { maxStack := 2, maxLocals := 1, code := jdk_38_method_16_code, exceptionTable := #[], attributes := #[] }
def k11m5 : Method := { name := "toArray", desc := "()[Ljava/lang/Object;", sig := { parameters := [], returnType := some (.array (.object "java/lang/Object")) }, accessFlags := 1, code := some k11c5 }
def k11c6 : Code := { maxStack := 2, maxLocals := 2, code := jdk_38_method_18_code, exceptionTable := #[], attributes := #[] }
def k11m6 : Method := { name := "elementData", desc := "(I)Ljava/lang/Object;", sig := { parameters := [.int], returnType := some (.object "java/lang/Object") }, accessFlags := 0, code := some k11c6 }
def k11c7 : Code := { maxStack := 2, maxLocals := 2, code := jdk_38_method_20_code, exceptionTable := #[], attributes := #[] }
def k11m7 : Method := { name := "get", desc := "(I)Ljava/lang/Object;", sig := { parameters := [.int], returnType := some (.object "java/lang/Object") }, accessFlags := 1, code := some k11c7 }
def k11c8 : Code := { maxStack := 3, maxLocals := 4, code := jdk_38_method_24_code, exceptionTable := #[], attributes := #[] }
def k11m8 : Method := { name := "add", desc := "(Ljava/lang/Object;[Ljava/lang/Object;I)V", sig := { parameters := [(.object "java/lang/Object"), (.array (.object "java/lang/Object")), .int], returnType := none }, accessFlags := 2, code := some k11c8 }
def k11c9 : Code := { maxStack := 4, maxLocals := 2, code := jdk_38_method_25_code, exceptionTable := #[], attributes := #[] }
def k11m9 : Method := { name := "add", desc := "(Ljava/lang/Object;)Z", sig := { parameters := [(.object "java/lang/Object")], returnType := some .boolean }, accessFlags := 1, code := some k11c9 }
/-- java/util/ArrayList -/
def k11 : Class := { plain "java/util/ArrayList" (some 7) with
  accessFlags := 33
  interfaces := #[6, 8, 9, 10]
  cf := some (fileOf pool11 10 #[.nestMembers #[290, 276, 500, 502, 262, 267]] #[{ accessFlags := 1, nameIndex := 5, descriptorIndex := 6, attributes := #[] }, { accessFlags := 2, nameIndex := 71, descriptorIndex := 72, attributes := #[] }, { accessFlags := 2, nameIndex := 71, descriptorIndex := 47, attributes := #[] }, { accessFlags := 1, nameIndex := 50, descriptorIndex := 186, attributes := #[] }, { accessFlags := 1, nameIndex := 363, descriptorIndex := 173, attributes := #[] }, { accessFlags := 1, nameIndex := 46, descriptorIndex := 47, attributes := #[] }, { accessFlags := 0, nameIndex := 13, descriptorIndex := 125, attributes := #[] }, { accessFlags := 1, nameIndex := 381, descriptorIndex := 125, attributes := #[] }, { accessFlags := 2, nameIndex := 133, descriptorIndex := 134, attributes := #[] }, { accessFlags := 1, nameIndex := 133, descriptorIndex := 96, attributes := #[] }] 33 2 #[148, 329, 331, 333] #[{ accessFlags := 26, nameIndex := 335, descriptorIndex := 336, attributes := #[] }, { accessFlags := 26, nameIndex := 340, descriptorIndex := 51, attributes := #[] }, { accessFlags := 26, nameIndex := 17, descriptorIndex := 14, attributes := #[] }, { accessFlags := 26, nameIndex := 41, descriptorIndex := 14, attributes := #[] }, { accessFlags := 128, nameIndex := 13, descriptorIndex := 14, attributes := #[] }, { accessFlags := 2, nameIndex := 50, descriptorIndex := 51, attributes := #[] }])
  fields := #[{ name := "serialVersionUID", type := .long, accessFlags := 26, slot := 0, constantValue := 0 }, { name := "DEFAULT_CAPACITY", type := .int, accessFlags := 26, slot := 1, constantValue := 0 }, { name := "EMPTY_ELEMENTDATA", type := (.array (.object "java/lang/Object")), accessFlags := 26, slot := 2, constantValue := 0 }, { name := "DEFAULTCAPACITY_EMPTY_ELEMENTDATA", type := (.array (.object "java/lang/Object")), accessFlags := 26, slot := 3, constantValue := 0 }, { name := "elementData", type := (.array (.object "java/lang/Object")), accessFlags := 128, slot := 1, constantValue := 0 }, { name := "size", type := .int, accessFlags := 2, slot := 2, constantValue := 0 }]
  methods := #[k11m0, k11m1, k11m2, k11m3, k11m4, k11m5, k11m6, k11m7, k11m8, k11m9]
  instanceTypes := #[.int, (.array (.object "java/lang/Object")), .int]
  staticTypes := #[.long, .int, (.array (.object "java/lang/Object")), (.array (.object "java/lang/Object"))]
  resolved := Array.replicate 509 none
  statics := some 0 }

def pool12 : Array CpInfo := pool [(26, .class_ 27), (0, u "java/lang/Object"), (5, .class_ 34), (0, u "java/util/Set"), (1, .class_ 38), (1, u "java/util/Collection"), (18, u "size"), (0, u "()I"), (0, u "contains"), (0, u "(Ljava/lang/Object;)Z")] 83

def k12m0 : Method := { name := "size", desc := "()I", sig := { parameters := [], returnType := some .int }, accessFlags := 1025, code := none }
def k12m1 : Method := { name := "contains", desc := "(Ljava/lang/Object;)Z", sig := { parameters := [(.object "java/lang/Object")], returnType := some .boolean }, accessFlags := 1025, code := none }
/-- java/util/Set -/
def k12 : Class := { plain "java/util/Set" (some 0) with
  accessFlags := 1537
  interfaces := #[3]
  cf := some (fileOf pool12 33 #[] #[{ accessFlags := 1025, nameIndex := 57, descriptorIndex := 58, attributes := #[] }, { accessFlags := 1025, nameIndex := 59, descriptorIndex := 60, attributes := #[] }] 1537 26 #[36] #[])
  fields := #[]
  methods := #[k12m0, k12m1]
  instanceTypes := #[]
  staticTypes := #[]
  resolved := Array.replicate 144 none
  statics := none }

def pool13 : Array CpInfo := pool [(1, .methodref 2 3), (0, .class_ 4), (0, .nameAndType 5 6), (0, u "java/util/AbstractCollection"), (0, u "<init>"), (0, u "()V"), (0, .class_ 8), (0, u "java/util/Set"), (7, .class_ 17), (0, u "java/util/AbstractSet")] 78

def k13c0 : Code := { maxStack := 1, maxLocals := 1, code := jdk_91_method_1_code, exceptionTable := #[], attributes := #[] }
def k13m0 : Method := { name := "<init>", desc := "()V", sig := { parameters := [], returnType := none }, accessFlags := 4, code := some k13c0 }
/-- java/util/AbstractSet -/
def k13 : Class := { plain "java/util/AbstractSet" (some 4) with
  accessFlags := 1057
  interfaces := #[12]
  cf := some (fileOf pool13 16 #[] #[{ accessFlags := 4, nameIndex := 5, descriptorIndex := 6, attributes := #[] }] 1057 2 #[7] #[])
  fields := #[]
  methods := #[k13m0]
  instanceTypes := #[]
  staticTypes := #[]
  resolved := Array.replicate 96 none
  statics := none }

def pool14 : Array CpInfo := pool [(1, .methodref 2 3), (0, .class_ 4), (0, .nameAndType 5 6), (0, u "java/util/AbstractSet"), (0, u "<init>"), (0, u "()V"), (0, .class_ 8), (0, u "java/util/HashMap"), (0, .methodref 7 3), (0, .fieldref 11 12), (0, .class_ 13), (0, .nameAndType 14 15), (0, u "java/util/HashSet"), (0, u "map"), (0, u "Ljava/util/HashMap;"), (2, .nameAndType 20 21), (1, u "size"), (0, u "()I"), (28, .class_ 52), (1, u "java/util/Set"), (2, .methodref 7 18), (4, .methodref 7 61), (0, .nameAndType 62 63), (0, u "containsKey"), (0, u "(Ljava/lang/Object;)Z"), (0, .fieldref 11 65), (0, .nameAndType 66 67), (0, u "PRESENT"), (0, u "Ljava/lang/Object;"), (0, .methodref 7 69), (0, .nameAndType 70 71), (0, u "put"), (0, u "(Ljava/lang/Object;Ljava/lang/Object;)Ljava/lang/Object;"), (154, .class_ 227), (0, u "java/lang/Cloneable"), (0, .class_ 229), (0, u "java/io/Serializable"), (0, u "serialVersionUID"), (0, u "J"), (24, u "contains"), (1, u "add")] 44

def k14c0 : Code := { maxStack := 3, maxLocals := 1, code := jdk_93_method_1_code, exceptionTable := #[], attributes := #[] }
def k14m0 : Method := { name := "<init>", desc := "()V", sig := { parameters := [], returnType := none }, accessFlags := 1, code := some k14c0 }
def k14c1 : Code := { maxStack := 1, maxLocals := 1, code := jdk_93_method_7_code, exceptionTable := #[], attributes := #[] }
def k14m1 : Method := { name := "size", desc := "()I", sig := { parameters := [], returnType := some .int }, accessFlags := 1, code := some k14c1 }
def k14c2 : Code := { maxStack := 2, maxLocals := 2, code := jdk_93_method_9_code, exceptionTable := #[], attributes := #[] }
def k14m2 : Method := { name := "contains", desc := "(Ljava/lang/Object;)Z", sig := { parameters := [(.object "java/lang/Object")], returnType := some .boolean }, accessFlags := 1, code := some k14c2 }
def k14c3 : Code := { maxStack := 3, maxLocals := 2, code := jdk_93_method_10_code, exceptionTable := #[], attributes := #[] }
def k14m3 : Method := { name := "add", desc := "(Ljava/lang/Object;)Z", sig := { parameters := [(.object "java/lang/Object")], returnType := some .boolean }, accessFlags := 1, code := some k14c3 }
/-- java/util/HashSet -/
def k14 : Class := { plain "java/util/HashSet" (some 13) with
  accessFlags := 33
  interfaces := #[12, 9, 10]
  cf := some (fileOf pool14 11 #[] #[{ accessFlags := 1, nameIndex := 5, descriptorIndex := 6, attributes := #[] }, { accessFlags := 1, nameIndex := 20, descriptorIndex := 21, attributes := #[] }, { accessFlags := 1, nameIndex := 256, descriptorIndex := 63, attributes := #[] }, { accessFlags := 1, nameIndex := 258, descriptorIndex := 63, attributes := #[] }] 33 2 #[50, 226, 228] #[{ accessFlags := 24, nameIndex := 230, descriptorIndex := 231, attributes := #[] }, { accessFlags := 128, nameIndex := 14, descriptorIndex := 15, attributes := #[] }, { accessFlags := 24, nameIndex := 66, descriptorIndex := 67, attributes := #[] }])
  fields := #[{ name := "serialVersionUID", type := .long, accessFlags := 24, slot := 0, constantValue := 0 }, { name := "map", type := (.object "java/util/HashMap"), accessFlags := 128, slot := 0, constantValue := 0 }, { name := "PRESENT", type := (.object "java/lang/Object"), accessFlags := 24, slot := 1, constantValue := 0 }]
  methods := #[k14m0, k14m1, k14m2, k14m3]
  instanceTypes := #[(.object "java/util/HashMap")]
  staticTypes := #[.long, (.object "java/lang/Object")]
  resolved := Array.replicate 303 none
  statics := some 1 }

def pool15 : Array CpInfo := pool [(2, .class_ 4), (1, u "java/util/Map"), (31, .class_ 37), (0, u "java/util/Map$Entry"), (55, .class_ 94), (0, u "java/lang/Object")] 168

/-- java/util/Map -/
def k15 : Class := { plain "java/util/Map" (some 0) with
  accessFlags := 1537
  interfaces := #[]
  cf := some (fileOf pool15 2 #[.nestMembers #[36]] #[] 1537 93 #[] #[])
  fields := #[]
  methods := #[]
  instanceTypes := #[]
  staticTypes := #[]
  resolved := Array.replicate 263 none
  statics := none }

def pool16 : Array CpInfo := pool [(1, .methodref 2 3), (0, .class_ 4), (0, .nameAndType 5 6), (0, u "java/lang/Object"), (0, u "<init>"), (0, u "()V"), (1, .class_ 10), (1, u "java/util/AbstractMap"), (42, .class_ 54), (0, u "java/util/Map"), (9, u "keySet"), (0, u "Ljava/util/Set;"), (0, .class_ 67), (0, u "java/util/AbstractMap$1"), (5, u "values"), (0, u "Ljava/util/Collection;"), (0, .class_ 76), (0, u "java/util/AbstractMap$2"), (104, .class_ 182), (0, u "java/util/AbstractMap$ViewCollection"), (0, .class_ 184), (0, u "java/util/AbstractMap$SimpleImmutableEntry"), (0, .class_ 186), (0, u "java/util/AbstractMap$SimpleEntry"), (0, .class_ 188), (0, u "java/util/AbstractMap$2$1"), (0, .class_ 190), (0, u "java/util/AbstractMap$1$1")] 5

def k16c0 : Code := { maxStack := 1, maxLocals := 1, code := jdk_71_method_1_code, exceptionTable := #[], attributes := #[] }
def k16m0 : Method := { name := "<init>", desc := "()V", sig := { parameters := [], returnType := none }, accessFlags := 4, code := some k16c0 }
/-- java/util/AbstractMap -/
def k16 : Class := { plain "java/util/AbstractMap" (some 0) with
  accessFlags := 1057
  interfaces := #[15]
  cf := some (fileOf pool16 8 #[.nestMembers #[181, 183, 185, 75, 187, 66, 189]] #[{ accessFlags := 4, nameIndex := 5, descriptorIndex := 6, attributes := #[] }] 1057 2 #[53] #[{ accessFlags := 128, nameIndex := 64, descriptorIndex := 65, attributes := #[] }, { accessFlags := 128, nameIndex := 73, descriptorIndex := 74, attributes := #[] }])
  fields := #[{ name := "keySet", type := (.object "java/util/Set"), accessFlags := 128, slot := 0, constantValue := 0 }, { name := "values", type := (.object "java/util/Collection"), accessFlags := 128, slot := 1, constantValue := 0 }]
  methods := #[k16m0]
  instanceTypes := #[(.object "java/util/Set"), (.object "java/util/Collection")]
  staticTypes := #[]
  resolved := Array.replicate 196 none
  statics := none }

def pool17 : Array CpInfo := pool [(1, .methodref 2 3), (0, .class_ 4), (0, .nameAndType 5 6), (0, u "java/lang/Object"), (0, u "hashCode"), (0, u "()I"), (26, u "(Ljava/lang/Object;)I"), (6, .class_ 41), (0, u "java/util/HashMap"), (1, .methodref 44 45), (0, .class_ 46), (0, .nameAndType 47 48), (0, u "java/util/AbstractMap"), (0, u "<init>"), (0, u "()V"), (32, .fieldref 40 82), (0, .nameAndType 83 84), (0, u "loadFactor"), (0, u "F"), (3, .fieldref 40 89), (0, .nameAndType 90 91), (0, u "threshold"), (0, u "I"), (0, .float 1061158912), (8, .class_ 103), (1, u "java/util/Map"), (0, u "size"), (0, .fieldref 40 106), (0, .nameAndType 107 108), (0, u "table"), (0, u "[Ljava/util/HashMap$Node;"), (8, .methodref 40 118), (0, .nameAndType 119 120), (0, u "resize"), (0, u "()[Ljava/util/HashMap$Node;"), (2, u "entrySet"), (25, .methodref 40 150), (0, .nameAndType 151 33), (0, u "hash"), (0, .methodref 40 153), (0, .nameAndType 154 155), (0, u "putVal"), (0, u "(ILjava/lang/Object;Ljava/lang/Object;ZZ)Ljava/lang/Object;"), (0, .fieldref 40 157), (0, .nameAndType 104 91), (0, .methodref 40 159), (0, .nameAndType 160 161), (0, u "getNode"), (0, u "(Ljava/lang/Object;)Ljava/util/HashMap$Node;"), (1, .class_ 165), (1, u "java/util/HashMap$Node"), (1, u "Ljava/lang/Object;"), (0, .fieldref 163 169), (0, .nameAndType 151 91), (0, .fieldref 163 171), (0, .nameAndType 172 167), (0, u "key"), (3, u "(Ljava/lang/Object;)Z"), (3, .class_ 181), (0, u "java/util/HashMap$TreeNode"), (4, .methodref 40 187), (0, .nameAndType 188 189), (0, u "newNode"), (0, u "(ILjava/lang/Object;Ljava/lang/Object;Ljava/util/HashMap$Node;)Ljava/util/HashMap$Node;"), (12, .fieldref 40 203), (0, .nameAndType 204 91), (0, u "modCount"), (0, .methodref 40 206), (0, .nameAndType 207 208), (0, u "afterNodeInsertion"), (0, u "(Z)V"), (33, u "Ljava/util/Set;"), (0, .class_ 244), (0, u "java/util/HashMap$KeySet"), (18, .class_ 264), (0, u "java/util/HashMap$Values"), (3, .class_ 269), (0, u "java/util/HashMap$EntrySet"), (17, u "(Ljava/lang/Object;Ljava/lang/Object;)Ljava/lang/Object;"), (58, .class_ 348), (1, u "java/util/HashMap$UnsafeHolder"), (26, .methodref 163 376), (0, .nameAndType 47 377), (0, u "(ILjava/lang/Object;Ljava/lang/Object;Ljava/util/HashMap$Node;)V"), (14, .class_ 393), (0, u "java/lang/Cloneable"), (0, .class_ 395), (0, u "java/io/Serializable"), (0, u "serialVersionUID"), (0, u "J"), (3, u "DEFAULT_INITIAL_CAPACITY"), (1, u "MAXIMUM_CAPACITY"), (0, u "DEFAULT_LOAD_FACTOR"), (0, u "TREEIFY_THRESHOLD"), (1, u "UNTREEIFY_THRESHOLD"), (1, u "MIN_TREEIFY_CAPACITY"), (59, u "containsKey"), (0, u "put"), (125, .class_ 597), (0, u "java/util/HashMap$EntrySpliterator"), (0, .class_ 599), (0, u "java/util/HashMap$ValueSpliterator"), (0, .class_ 601), (0, u "java/util/HashMap$KeySpliterator"), (0, .class_ 603), (0, u "java/util/HashMap$HashMapSpliterator"), (0, .class_ 605), (0, u "java/util/HashMap$EntryIterator"), (0, .class_ 607), (0, u "java/util/HashMap$ValueIterator"), (0, .class_ 609), (0, u "java/util/HashMap$KeyIterator"), (0, .class_ 611), (0, u "java/util/HashMap$HashIterator")] 17

def k17c0 : Code := { maxStack := 3, maxLocals := 2, code := jdk_69_method_1_code, exceptionTable := #[], attributes := #[] }
def k17m0 : Method := { name := "hash", desc := "(Ljava/lang/Object;)I", sig := { parameters := [(.object "java/lang/Object")], returnType := some .int }, accessFlags := 24, code := some k17c0 }
def k17c1 : Code := { maxStack := 2, maxLocals := 1, code := jdk_69_method_7_code, exceptionTable := #[], attributes := #[] }
def k17m1 : Method := { name := "<init>", desc := "()V", sig := { parameters := [], returnType := none }, accessFlags := 1, code := some k17c1 }
def k17c2 : Code := { maxStack := 1, maxLocals := 1, code := jdk_69_method_10_code, exceptionTable := #[], attributes := #[] }
def k17m2 : Method := { name := "size", desc := "()I", sig := { parameters := [], returnType := some .int }, accessFlags := 1, code := some k17c2 }
def k17c3 : Code := { maxStack := 4, maxLocals := 8, code := jdk_69_method_13_code, exceptionTable := #[], attributes := #[] }
def k17m3 : Method := { name := "getNode", desc := "(Ljava/lang/Object;)Ljava/util/HashMap$Node;", sig := { parameters := [(.object "java/lang/Object")], returnType := some (.object "java/util/HashMap$Node") }, accessFlags := 16, code := some k17c3 }
def k17c4 : Code := { maxStack := 2, maxLocals := 2, code := jdk_69_method_14_code, exceptionTable := #[], attributes := #[] }
def k17m4 : Method := { name := "containsKey", desc := "(Ljava/lang/Object;)Z", sig := { parameters := [(.object "java/lang/Object")], returnType := some .boolean }, accessFlags := 1, code := some k17c4 }
def k17c5 : Code := { maxStack := 6, maxLocals := 3, code := jdk_69_method_15_code, exceptionTable := #[], attributes := #[] }
def k17m5 : Method := { name := "put", desc := "(Ljava/lang/Object;Ljava/lang/Object;)Ljava/lang/Object;", sig := { parameters := [(.object "java/lang/Object"), (.object "java/lang/Object")], returnType := some (.object "java/lang/Object") }, accessFlags := 1, code := some k17c5 }
def k17c6 : Code := { maxStack := 7, maxLocals := 13, code := jdk_69_method_16_code, exceptionTable := #[], attributes := #[] }
def k17m6 : Method := { name := "putVal", desc := "(ILjava/lang/Object;Ljava/lang/Object;ZZ)Ljava/lang/Object;", sig := { parameters := [.int, (.object "java/lang/Object"), (.object "java/lang/Object"), .boolean, .boolean], returnType := some (.object "java/lang/Object") }, accessFlags := 16, code := some k17c6 }
def k17c7 : Code := { maxStack := 5, maxLocals := 14, code := jdk_69_method_17_code, exceptionTable := #[], attributes := #[] }
def k17m7 : Method := { name := "resize", desc := "()[Ljava/util/HashMap$Node;", sig := { parameters := [], returnType := some (.array (.object "java/util/HashMap$Node")) }, accessFlags := 16, code := some k17c7 }
def k17c8 : Code := { maxStack := 6, maxLocals := 5, code := jdk_69_method_46_code, exceptionTable := #[], attributes := #[] }
def k17m8 : Method := { name := "newNode", desc := "(ILjava/lang/Object;Ljava/lang/Object;Ljava/util/HashMap$Node;)Ljava/util/HashMap$Node;", sig := { parameters := [.int, (.object "java/lang/Object"), (.object "java/lang/Object"), (.object "java/util/HashMap$Node")], returnType := some (.object "java/util/HashMap$Node") }, accessFlags := 0, code := some k17c8 }
def k17c9 : Code := { maxStack := 0, maxLocals := 2, code := jdk_69_method_52_code, exceptionTable := #[], attributes := #[] }
def k17m9 : Method := { name := "afterNodeInsertion", desc := "(Z)V", sig := { parameters := [.boolean], returnType := none }, accessFlags := 0, code := some k17c9 }
/-- java/util/HashMap -/
def k17 : Class := { plain "java/util/HashMap" (some 16) with
  accessFlags := 33
  interfaces := #[15, 9, 10]
  cf := some (fileOf pool17 40 #[.nestMembers #[180, 596, 598, 600, 602, 604, 606, 608, 610, 346, 268, 263, 243, 163]] #[{ accessFlags := 24, nameIndex := 151, descriptorIndex := 33, attributes := #[] }, { accessFlags := 1, nameIndex := 47, descriptorIndex := 48, attributes := #[] }, { accessFlags := 1, nameIndex := 104, descriptorIndex := 6, attributes := #[] }, { accessFlags := 16, nameIndex := 160, descriptorIndex := 161, attributes := #[] }, { accessFlags := 1, nameIndex := 469, descriptorIndex := 176, attributes := #[] }, { accessFlags := 1, nameIndex := 470, descriptorIndex := 287, attributes := #[] }, { accessFlags := 16, nameIndex := 154, descriptorIndex := 155, attributes := #[] }, { accessFlags := 16, nameIndex := 119, descriptorIndex := 120, attributes := #[] }, { accessFlags := 0, nameIndex := 188, descriptorIndex := 189, attributes := #[] }, { accessFlags := 0, nameIndex := 207, descriptorIndex := 208, attributes := #[] }] 33 44 #[101, 392, 394] #[{ accessFlags := 26, nameIndex := 396, descriptorIndex := 397, attributes := #[] }, { accessFlags := 24, nameIndex := 401, descriptorIndex := 91, attributes := #[] }, { accessFlags := 24, nameIndex := 403, descriptorIndex := 91, attributes := #[] }, { accessFlags := 24, nameIndex := 404, descriptorIndex := 84, attributes := #[] }, { accessFlags := 24, nameIndex := 405, descriptorIndex := 91, attributes := #[] }, { accessFlags := 24, nameIndex := 407, descriptorIndex := 91, attributes := #[] }, { accessFlags := 24, nameIndex := 409, descriptorIndex := 91, attributes := #[] }, { accessFlags := 128, nameIndex := 107, descriptorIndex := 108, attributes := #[] }, { accessFlags := 128, nameIndex := 123, descriptorIndex := 242, attributes := #[] }, { accessFlags := 128, nameIndex := 104, descriptorIndex := 91, attributes := #[] }, { accessFlags := 128, nameIndex := 204, descriptorIndex := 91, attributes := #[] }, { accessFlags := 0, nameIndex := 90, descriptorIndex := 91, attributes := #[] }, { accessFlags := 16, nameIndex := 83, descriptorIndex := 84, attributes := #[] }])
  fields := #[{ name := "serialVersionUID", type := .long, accessFlags := 26, slot := 0, constantValue := 0 }, { name := "DEFAULT_INITIAL_CAPACITY", type := .int, accessFlags := 24, slot := 1, constantValue := 0 }, { name := "MAXIMUM_CAPACITY", type := .int, accessFlags := 24, slot := 2, constantValue := 0 }, { name := "DEFAULT_LOAD_FACTOR", type := .float, accessFlags := 24, slot := 3, constantValue := 0 }, { name := "TREEIFY_THRESHOLD", type := .int, accessFlags := 24, slot := 4, constantValue := 0 }, { name := "UNTREEIFY_THRESHOLD", type := .int, accessFlags := 24, slot := 5, constantValue := 0 }, { name := "MIN_TREEIFY_CAPACITY", type := .int, accessFlags := 24, slot := 6, constantValue := 0 }, { name := "table", type := (.array (.object "java/util/HashMap$Node")), accessFlags := 128, slot := 2, constantValue := 0 }, { name := "entrySet", type := (.object "java/util/Set"), accessFlags := 128, slot := 3, constantValue := 0 }, { name := "size", type := .int, accessFlags := 128, slot := 4, constantValue := 0 }, { name := "modCount", type := .int, accessFlags := 128, slot := 5, constantValue := 0 }, { name := "threshold", type := .int, accessFlags := 0, slot := 6, constantValue := 0 }, { name := "loadFactor", type := .float, accessFlags := 16, slot := 7, constantValue := 0 }]
  methods := #[k17m0, k17m1, k17m2, k17m3, k17m4, k17m5, k17m6, k17m7, k17m8, k17m9]
  instanceTypes := #[(.object "java/util/Set"), (.object "java/util/Collection"), (.array (.object "java/util/HashMap$Node")), (.object "java/util/Set"), .int, .int, .int, .float]
  staticTypes := #[.long, .int, .int, .float, .int, .int, .int]
  resolved := Array.replicate 629 none
  statics := none }

def pool18 : Array CpInfo := pool [(1, .class_ 2), (0, u "java/lang/Comparable"), (0, .class_ 4), (0, u "java/lang/Object")] 7

/-- java/lang/Comparable -/
def k18 : Class := { plain "java/lang/Comparable" (some 0) with
  accessFlags := 1537
  interfaces := #[]
  cf := some (fileOf pool18 1 #[] #[] 1537 3 #[] #[])
  fields := #[]
  methods := #[]
  instanceTypes := #[]
  staticTypes := #[]
  resolved := Array.replicate 12 none
  statics := none }

def pool19 : Array CpInfo := pool [(2, .class_ 4), (1, u "java/lang/CharSequence"), (42, .class_ 48), (0, u "java/lang/CharSequence$1CodePointIterator"), (10, .class_ 60), (0, u "java/lang/CharSequence$1CharIterator"), (5, .class_ 67), (0, u "java/lang/Object")] 63

/-- java/lang/CharSequence -/
def k19 : Class := { plain "java/lang/CharSequence" (some 0) with
  accessFlags := 1537
  interfaces := #[]
  cf := some (fileOf pool19 2 #[.nestMembers #[47, 59]] #[] 1537 66 #[] #[])
  fields := #[]
  methods := #[]
  instanceTypes := #[]
  staticTypes := #[]
  resolved := Array.replicate 131 none
  statics := none }

def pool20 : Array CpInfo := pool [(1, .class_ 2), (0, u "java/lang/constant/Constable"), (0, .class_ 4), (0, u "java/lang/Object")] 6

/-- java/lang/constant/Constable -/
def k20 : Class := { plain "java/lang/constant/Constable" (some 0) with
  accessFlags := 1537
  interfaces := #[]
  cf := some (fileOf pool20 1 #[] #[] 1537 3 #[] #[])
  fields := #[]
  methods := #[]
  instanceTypes := #[]
  staticTypes := #[]
  resolved := Array.replicate 11 none
  statics := none }

def pool21 : Array CpInfo := pool [(1, .class_ 2), (0, u "java/lang/constant/ConstantDesc"), (0, .class_ 4), (0, u "java/lang/Object")] 32

/-- java/lang/constant/ConstantDesc -/
def k21 : Class := { plain "java/lang/constant/ConstantDesc" (some 0) with
  accessFlags := 1537
  interfaces := #[]
  cf := some (fileOf pool21 1 #[] #[] 1537 3 #[] #[])
  fields := #[]
  methods := #[]
  instanceTypes := #[]
  staticTypes := #[]
  resolved := Array.replicate 37 none
  statics := none }

def pool22 : Array CpInfo := pool [(1, .methodref 2 3), (0, .class_ 4), (0, .nameAndType 5 6), (0, u "java/lang/Object"), (0, u "<init>"), (0, u "()V"), (2, .fieldref 10 11), (0, .class_ 12), (0, .nameAndType 13 14), (0, u "java/lang/String"), (0, u "value"), (0, u "[B"), (0, .fieldref 10 16), (0, .nameAndType 17 18), (0, u "coder"), (0, u "B"), (0, .fieldref 10 20), (0, .nameAndType 21 22), (0, u "hash"), (0, u "I"), (0, .fieldref 10 24), (0, .nameAndType 25 26), (0, u "hashIsZero"), (0, u "Z"), (11, .fieldref 10 39), (0, .nameAndType 40 26), (0, u "COMPACT_STRINGS"), (1, .class_ 44), (1, u "java/lang/StringUTF16"), (8, u "toBytes"), (53, .class_ 109), (1, u "java/lang/StringLatin1"), (32, u "()Z"), (66, .methodref 10 210), (0, .nameAndType 5 211), (0, u "([BB)V"), (122, u "()I"), (34, u "(C)Z"), (122, .methodref 10 493), (0, .nameAndType 494 142), (0, u "isLatin1"), (80, .class_ 576), (0, u "java/lang/CharSequence"), (22, u "CASE_INSENSITIVE_ORDER"), (0, u "Ljava/util/Comparator;"), (27, .methodref 107 629), (0, .nameAndType 630 631), (0, u "hashCode"), (0, u "([B)I"), (0, .methodref 42 629), (149, u "valueOf"), (0, u "(C)Ljava/lang/String;"), (231, .methodref 107 1016), (0, .nameAndType 1017 369), (0, u "canEncode"), (0, .methodref 107 1019), (0, .nameAndType 53 1020), (0, u "(C)[B"), (0, .methodref 42 1019), (79, u "serialPersistentFields"), (0, u "[Ljava/io/ObjectStreamField;"), (0, .class_ 1104), (0, u "java/lang/String$CaseInsensitiveComparator"), (1, .class_ 1107), (0, u "java/io/Serializable"), (0, .class_ 1109), (0, u "java/lang/Comparable"), (0, .class_ 1111), (0, u "java/lang/constant/Constable"), (0, .class_ 1113), (0, u "java/lang/constant/ConstantDesc"), (2, u "serialVersionUID"), (0, u "J"), (3, u "REPL"), (0, u "C"), (2, u "LATIN1"), (1, u "UTF16")] 323

def k22m0 : Method := { name := "<init>", desc := "()V", sig := { parameters := [], returnType := none }, accessFlags := 1, code := none }
def k22c1 : Code := { maxStack := 2, maxLocals := 2, code := jdk_42_method_78_code, exceptionTable := #[], attributes := #[] }
def k22m1 : Method := { name := "hashCode", desc := "()I", sig := { parameters := [], returnType := some .int }, accessFlags := 1, code := some k22c1 }
def k22c2 : Code := { maxStack := 4, maxLocals := 1, code := jdk_42_method_139_code, exceptionTable := #[], attributes := #[] }
def k22m2 : Method := { name := "valueOf", desc := "(C)Ljava/lang/String;", sig := { parameters := [.char], returnType := some (.object "java/lang/String") }, accessFlags := 9, code := some k22c2 }
def k22c3 : Code := { maxStack := 2, maxLocals := 3, code := jdk_42_method_151_code, exceptionTable := #[], attributes := #[] }
def k22m3 : Method := { name := "<init>", desc := "([BB)V", sig := { parameters := [(.array .byte), .byte], returnType := none }, accessFlags := 0, code := some k22c3 }
def k22c4 : Code := { maxStack := 1, maxLocals := 1, code := jdk_42_method_154_code, exceptionTable := #[], attributes := #[] }
def k22m4 : Method := { name := "isLatin1", desc := "()Z", sig := { parameters := [], returnType := some .boolean }, accessFlags := 0, code := some k22c4 }
/-- java/lang/String -/
def k22 : Class := { plain "java/lang/String" (some 0) with
  accessFlags := 49
  interfaces := #[10, 18, 19, 20, 21]
  cf := some (fileOf pool22 10 #[.nestMembers #[1103]] #[{ accessFlags := 1, nameIndex := 5, descriptorIndex := 6, attributes := #[] }, { accessFlags := 1, nameIndex := 630, descriptorIndex := 334, attributes := #[] }, { accessFlags := 9, nameIndex := 782, descriptorIndex := 783, attributes := #[] }, { accessFlags := 0, nameIndex := 5, descriptorIndex := 211, attributes := #[] }, { accessFlags := 0, nameIndex := 494, descriptorIndex := 142, attributes := #[] }] 49 2 #[1106, 1108, 575, 1110, 1112] #[{ accessFlags := 18, nameIndex := 13, descriptorIndex := 14, attributes := #[] }, { accessFlags := 18, nameIndex := 17, descriptorIndex := 18, attributes := #[] }, { accessFlags := 2, nameIndex := 21, descriptorIndex := 22, attributes := #[] }, { accessFlags := 2, nameIndex := 25, descriptorIndex := 26, attributes := #[] }, { accessFlags := 26, nameIndex := 1116, descriptorIndex := 1117, attributes := #[] }, { accessFlags := 24, nameIndex := 40, descriptorIndex := 26, attributes := #[] }, { accessFlags := 26, nameIndex := 1101, descriptorIndex := 1102, attributes := #[] }, { accessFlags := 26, nameIndex := 1121, descriptorIndex := 1122, attributes := #[] }, { accessFlags := 25, nameIndex := 599, descriptorIndex := 600, attributes := #[] }, { accessFlags := 24, nameIndex := 1125, descriptorIndex := 18, attributes := #[] }, { accessFlags := 24, nameIndex := 1127, descriptorIndex := 18, attributes := #[] }])
  fields := #[{ name := "value", type := (.array .byte), accessFlags := 18, slot := 0, constantValue := 0 }, { name := "coder", type := .byte, accessFlags := 18, slot := 1, constantValue := 0 }, { name := "hash", type := .int, accessFlags := 2, slot := 2, constantValue := 0 }, { name := "hashIsZero", type := .boolean, accessFlags := 2, slot := 3, constantValue := 0 }, { name := "serialVersionUID", type := .long, accessFlags := 26, slot := 0, constantValue := 0 }, { name := "COMPACT_STRINGS", type := .boolean, accessFlags := 24, slot := 1, constantValue := 0 }, { name := "serialPersistentFields", type := (.array (.object "java/io/ObjectStreamField")), accessFlags := 26, slot := 2, constantValue := 0 }, { name := "REPL", type := .char, accessFlags := 26, slot := 3, constantValue := 0 }, { name := "CASE_INSENSITIVE_ORDER", type := (.object "java/util/Comparator"), accessFlags := 25, slot := 4, constantValue := 0 }, { name := "LATIN1", type := .byte, accessFlags := 24, slot := 5, constantValue := 0 }, { name := "UTF16", type := .byte, accessFlags := 24, slot := 6, constantValue := 0 }]
  methods := #[k22m0, k22m1, k22m2, k22m3, k22m4]
  instanceTypes := #[(.array .byte), .byte, .int, .boolean]
  staticTypes := #[.long, .boolean, (.array (.object "java/io/ObjectStreamField")), .char, (.object "java/util/Comparator"), .byte, .byte]
  resolved := Array.replicate 1451 none
  statics := some 2 }

def pool23 : Array CpInfo := pool [(4, .class_ 6), (1, u "java/lang/Object"), (0, u "<init>"), (0, u "()V"), (5, .class_ 16), (1, u "java/lang/StringLatin1"), (40, u "([B)I"), (32, u "canEncode"), (14, u "(C)Z"), (15, u "$assertionsDisabled"), (0, u "Z"), (98, .class_ 223), (1, u "java/lang/StringLatin1$LinesSpliterator"), (74, u "hashCode"), (81, u "toBytes"), (1, u "(C)[B"), (7, .class_ 391), (0, u "java/lang/StringLatin1$CharsSpliterator")] 3

def k23m0 : Method := { name := "<init>", desc := "()V", sig := { parameters := [], returnType := none }, accessFlags := 0, code := none }
def k23c1 : Code := { maxStack := 2, maxLocals := 1, code := jdk_43_method_3_code, exceptionTable := #[], attributes := #[] }
def k23m1 : Method := { name := "canEncode", desc := "(C)Z", sig := { parameters := [.char], returnType := some .boolean }, accessFlags := 9, code := some k23c1 }
def k23c2 : Code := { maxStack := 5, maxLocals := 1, code := jdk_43_method_21_code, exceptionTable := #[], attributes := #[] }
def k23m2 : Method := { name := "hashCode", desc := "([B)I", sig := { parameters := [(.array .byte)], returnType := some .int }, accessFlags := 9, code := some k23c2 }
def k23c3 : Code := { maxStack := 4, maxLocals := 1, code := jdk_43_method_46_code, exceptionTable := #[], attributes := #[] }
def k23m3 : Method := { name := "toBytes", desc := "(C)[B", sig := { parameters := [.char], returnType := some (.array .byte) }, accessFlags := 9, code := some k23c3 }
/-- java/lang/StringLatin1 -/
def k23 : Class := { plain "java/lang/StringLatin1" (some 0) with
  accessFlags := 48
  interfaces := #[]
  cf := some (fileOf pool23 14 #[.nestMembers #[390, 221]] #[{ accessFlags := 0, nameIndex := 7, descriptorIndex := 8, attributes := #[] }, { accessFlags := 9, nameIndex := 90, descriptorIndex := 105, attributes := #[] }, { accessFlags := 9, nameIndex := 298, descriptorIndex := 57, attributes := #[] }, { accessFlags := 9, nameIndex := 380, descriptorIndex := 382, attributes := #[] }] 48 4 #[] #[{ accessFlags := 4120, nameIndex := 121, descriptorIndex := 122, attributes := #[] }])
  fields := #[{ name := "$assertionsDisabled", type := .boolean, accessFlags := 4120, slot := 0, constantValue := 0 }]
  methods := #[k23m0, k23m1, k23m2, k23m3]
  instanceTypes := #[]
  staticTypes := #[.boolean]
  resolved := Array.replicate 395 none
  statics := none }

def pool24 : Array CpInfo := pool [(23, .class_ 25), (1, u "java/util/Map$Entry"), (6, .class_ 34), (1, u "java/util/Map"), (34, .class_ 70), (0, u "java/lang/Object")] 107

/-- java/util/Map$Entry -/
def k24 : Class := { plain "java/util/Map$Entry" (some 0) with
  accessFlags := 1537
  interfaces := #[]
  cf := some (fileOf pool24 23 #[.nestHost 32] #[] 1537 69 #[] #[])
  fields := #[]
  methods := #[]
  instanceTypes := #[]
  staticTypes := #[]
  resolved := Array.replicate 178 none
  statics := none }

def pool25 : Array CpInfo := pool [(1, .methodref 2 3), (0, .class_ 4), (0, .nameAndType 5 6), (0, u "java/lang/Object"), (0, u "<init>"), (0, u "()V"), (0, .fieldref 8 9), (0, .class_ 10), (0, .nameAndType 11 12), (0, u "java/util/HashMap$Node"), (0, u "hash"), (0, u "I"), (0, .fieldref 8 14), (0, .nameAndType 15 16), (0, u "key"), (0, u "Ljava/lang/Object;"), (0, .fieldref 8 18), (0, .nameAndType 19 16), (0, u "value"), (0, .fieldref 8 21), (0, .nameAndType 22 23), (0, u "next"), (0, u "Ljava/util/HashMap$Node;"), (22, .class_ 47), (0, u "java/util/Map$Entry"), (15, u "(ILjava/lang/Object;Ljava/lang/Object;Ljava/util/HashMap$Node;)V"), (24, .class_ 89), (0, u "java/util/HashMap")] 5

def k25c0 : Code := { maxStack := 2, maxLocals := 5, code := jdk_70_method_1_code, exceptionTable := #[], attributes := #[] }
def k25m0 : Method := { name := "<init>", desc := "(ILjava/lang/Object;Ljava/lang/Object;Ljava/util/HashMap$Node;)V", sig := { parameters := [.int, (.object "java/lang/Object"), (.object "java/lang/Object"), (.object "java/util/HashMap$Node")], returnType := none }, accessFlags := 0, code := some k25c0 }
/-- java/util/HashMap$Node -/
def k25 : Class := { plain "java/util/HashMap$Node" (some 0) with
  accessFlags := 32
  interfaces := #[24]
  cf := some (fileOf pool25 8 #[.nestHost 88] #[{ accessFlags := 0, nameIndex := 5, descriptorIndex := 63, attributes := #[] }] 32 2 #[46] #[{ accessFlags := 16, nameIndex := 11, descriptorIndex := 12, attributes := #[] }, { accessFlags := 16, nameIndex := 15, descriptorIndex := 16, attributes := #[] }, { accessFlags := 0, nameIndex := 19, descriptorIndex := 16, attributes := #[] }, { accessFlags := 0, nameIndex := 22, descriptorIndex := 23, attributes := #[] }])
  fields := #[{ name := "hash", type := .int, accessFlags := 16, slot := 0, constantValue := 0 }, { name := "key", type := (.object "java/lang/Object"), accessFlags := 16, slot := 1, constantValue := 0 }, { name := "value", type := (.object "java/lang/Object"), accessFlags := 0, slot := 2, constantValue := 0 }, { name := "next", type := (.object "java/util/HashMap$Node"), accessFlags := 0, slot := 3, constantValue := 0 }]
  methods := #[k25m0]
  instanceTypes := #[.int, (.object "java/lang/Object"), (.object "java/lang/Object"), (.object "java/util/HashMap$Node")]
  staticTypes := #[]
  resolved := Array.replicate 95 none
  statics := none }

def pool26 : Array CpInfo := pool [(1, .methodref 2 3), (0, .class_ 4), (0, .nameAndType 5 6), (0, u "java/lang/Object"), (0, u "<init>"), (0, u "()V"), (0, .interfaceMethodref 8 9), (0, .class_ 10), (0, .nameAndType 11 12), (0, u "java/util/List"), (0, u "copyOf"), (0, u "(Ljava/util/Collection;)Ljava/util/List;"), (0, .fieldref 14 15), (0, .class_ 16), (0, .nameAndType 17 18), (0, u "com/example/avocet/avocet/eval/JudgedRanking"), (0, u "documents"), (0, u "Ljava/util/List;"), (0, .interfaceMethodref 8 20), (0, .nameAndType 21 22), (0, u "size"), (0, u "()I"), (0, .fieldref 14 24), (0, .nameAndType 25 26), (0, u "relevantFound"), (0, u "[I"), (0, .interfaceMethodref 8 28), (0, .nameAndType 29 30), (0, u "get"), (0, u "(I)Ljava/lang/Object;"), (0, .interfaceMethodref 32 33), (0, .class_ 34), (0, .nameAndType 35 36), (0, u "java/util/Set"), (0, u "contains"), (0, u "(Ljava/lang/Object;)Z"), (0, .interfaceMethodref 32 20), (0, .fieldref 14 39), (0, .nameAndType 40 41), (0, u "relevantCount"), (0, u "I"), (14, u "isRelevantAt"), (0, u "(I)Z"), (10, u "LEVEL_ROUNDING"), (0, u "D"), (3, u "(Ljava/util/List;Ljava/util/Set;)V")] 13

def k26c0 : Code := { maxStack := 5, maxLocals := 5, code := prog_15_method_1_code, exceptionTable := #[], attributes := #[] }
def k26m0 : Method := { name := "<init>", desc := "(Ljava/util/List;Ljava/util/Set;)V", sig := { parameters := [(.object "java/util/List"), (.object "java/util/Set")], returnType := none }, accessFlags := 1, code := some k26c0 }
def k26c1 : Code := { maxStack := 4, maxLocals := 2, code := prog_15_method_4_code, exceptionTable := #[], attributes := #[] }
def k26m1 : Method := { name := "isRelevantAt", desc := "(I)Z", sig := { parameters := [.int], returnType := some .boolean }, accessFlags := 1, code := some k26c1 }
/-- com/example/avocet/avocet/eval/JudgedRanking -/
def k26 : Class := { plain "com/example/avocet/avocet/eval/JudgedRanking" (some 0) with
  accessFlags := 49
  interfaces := #[]
  cf := some (fileOf pool26 14 #[] #[{ accessFlags := 1, nameIndex := 5, descriptorIndex := 73, attributes := #[] }, { accessFlags := 1, nameIndex := 56, descriptorIndex := 57, attributes := #[] }] 49 2 #[] #[{ accessFlags := 26, nameIndex := 68, descriptorIndex := 69, attributes := #[] }, { accessFlags := 18, nameIndex := 17, descriptorIndex := 18, attributes := #[] }, { accessFlags := 18, nameIndex := 25, descriptorIndex := 26, attributes := #[] }, { accessFlags := 18, nameIndex := 40, descriptorIndex := 41, attributes := #[] }])
  fields := #[{ name := "LEVEL_ROUNDING", type := .double, accessFlags := 26, slot := 0, constantValue := 0 }, { name := "documents", type := (.object "java/util/List"), accessFlags := 18, slot := 0, constantValue := 0 }, { name := "relevantFound", type := (.array .int), accessFlags := 18, slot := 1, constantValue := 0 }, { name := "relevantCount", type := .int, accessFlags := 18, slot := 2, constantValue := 0 }]
  methods := #[k26m0, k26m1]
  instanceTypes := #[(.object "java/util/List"), (.array .int), .int]
  staticTypes := #[.double]
  resolved := Array.replicate 87 none
  statics := none }

def pool27 : Array CpInfo := pool [(2, .class_ 4), (1, u "java/lang/Object"), (0, u "<init>"), (0, u "()V"), (3, .class_ 11), (0, u "java/util/ImmutableCollections$List12"), (0, .class_ 13), (0, u "java/util/ImmutableCollections$ListN"), (3, u "Z"), (0, .class_ 19), (0, u "java/util/List"), (0, .interfaceMethodref 21 22), (0, .class_ 23), (0, .nameAndType 24 25), (0, u "java/util/Collection"), (0, u "isEmpty"), (0, u "()Z"), (0, .interfaceMethodref 18 27), (0, .nameAndType 28 29), (0, u "of"), (0, u "()Ljava/util/List;"), (0, .interfaceMethodref 21 31), (0, .nameAndType 32 33), (0, u "toArray"), (0, u "()[Ljava/lang/Object;"), (0, .interfaceMethodref 18 35), (0, .nameAndType 28 36), (0, u "([Ljava/lang/Object;)Ljava/util/List;"), (0, .methodref 38 39), (0, .class_ 40), (0, .nameAndType 41 42), (0, u "java/util/Objects"), (0, u "requireNonNull"), (0, u "(Ljava/lang/Object;)Ljava/lang/Object;"), (0, .methodref 12 44), (0, .nameAndType 5 45), (0, u "([Ljava/lang/Object;Z)V"), (1, .class_ 49), (1, u "java/util/ImmutableCollections"), (0, u "$assertionsDisabled"), (5, u "[Ljava/lang/Object;"), (5, u "EMPTY_LIST"), (0, u "Ljava/util/ImmutableCollections$ListN;"), (8, u "EMPTY_LIST_NULLS"), (22, u "SALT32L"), (0, u "J"), (2, u "REVERSE"), (6, u "archivedObjects"), (2, u "EMPTY"), (0, u "Ljava/lang/Object;"), (0, .class_ 112), (0, u "java/util/ImmutableCollections$SetN"), (5, u "EMPTY_SET"), (0, u "Ljava/util/ImmutableCollections$SetN;"), (0, .class_ 121), (0, u "java/util/ImmutableCollections$MapN"), (3, u "EMPTY_MAP"), (0, u "Ljava/util/ImmutableCollections$MapN;"), (4, u "EXPAND_FACTOR"), (0, u "I"), (9, u "listCopy"), (0, u "(Ljava/util/Collection;)Ljava/util/List;"), (7, u "listFromArray"), (17, .class_ 170), (0, u "java/util/ImmutableCollections$MapN$MapNIterator"), (0, .class_ 172), (0, u "java/util/ImmutableCollections$MapN$1"), (0, .class_ 174), (0, u "java/util/ImmutableCollections$Map1"), (0, .class_ 176), (0, u "java/util/ImmutableCollections$AbstractImmutableMap"), (0, .class_ 178), (0, u "java/util/ImmutableCollections$SetN$SetNIterator"), (0, .class_ 180), (0, u "java/util/ImmutableCollections$Set12"), (0, .class_ 182), (0, u "java/util/ImmutableCollections$Set12$1"), (0, .class_ 184), (0, u "java/util/ImmutableCollections$AbstractImmutableSet"), (0, .class_ 186), (0, u "java/util/ImmutableCollections$SubList"), (0, .class_ 188), (0, u "java/util/ImmutableCollections$ListItr"), (0, .class_ 190), (0, u "java/util/ImmutableCollections$AbstractImmutableList"), (0, .class_ 192), (0, u "java/util/ImmutableCollections$AbstractImmutableCollection"), (0, .class_ 194), (0, u "java/util/ImmutableCollections$Access"), (0, .class_ 196), (0, u "java/util/ImmutableCollections$Access$1")] 16

def k27m0 : Method := { name := "<init>", desc := "()V", sig := { parameters := [], returnType := none }, accessFlags := 2, code := none }
def k27c1 : Code := { maxStack := 1, maxLocals := 2, code := jdk_56_method_3_code, exceptionTable := #[], attributes := #[] }
def k27m1 : Method := { name := "listCopy", desc := "(Ljava/util/Collection;)Ljava/util/List;", sig := { parameters := [(.object "java/util/Collection")], returnType := some (.object "java/util/List") }, accessFlags := 8, code := some k27c1 }
def k27c2 : Code := { maxStack := 4, maxLocals := 3, code := jdk_56_method_4_code, exceptionTable := #[], attributes := #[] }
def k27m2 : Method := { name := "listFromArray", desc := "([Ljava/lang/Object;)Ljava/util/List;", sig := { parameters := [(.array (.object "java/lang/Object"))], returnType := some (.object "java/util/List") }, accessFlags := 136, code := some k27c2 }
/-- java/util/ImmutableCollections -/
def k27 : Class := { plain "java/util/ImmutableCollections" (some 0) with
  accessFlags := 32
  interfaces := #[]
  cf := some (fileOf pool27 47 #[.nestMembers #[120, 169, 171, 173, 175, 111, 177, 179, 181, 183, 12, 10, 185, 187, 189, 191, 193, 195]] #[{ accessFlags := 2, nameIndex := 5, descriptorIndex := 6, attributes := #[] }, { accessFlags := 8, nameIndex := 142, descriptorIndex := 143, attributes := #[] }, { accessFlags := 136, nameIndex := 151, descriptorIndex := 36, attributes := #[] }] 32 2 #[] #[{ accessFlags := 26, nameIndex := 95, descriptorIndex := 96, attributes := #[] }, { accessFlags := 26, nameIndex := 99, descriptorIndex := 17, attributes := #[] }, { accessFlags := 10, nameIndex := 106, descriptorIndex := 56, attributes := #[] }, { accessFlags := 26, nameIndex := 109, descriptorIndex := 110, attributes := #[] }, { accessFlags := 24, nameIndex := 62, descriptorIndex := 63, attributes := #[] }, { accessFlags := 24, nameIndex := 72, descriptorIndex := 63, attributes := #[] }, { accessFlags := 24, nameIndex := 118, descriptorIndex := 119, attributes := #[] }, { accessFlags := 24, nameIndex := 125, descriptorIndex := 126, attributes := #[] }, { accessFlags := 24, nameIndex := 131, descriptorIndex := 132, attributes := #[] }, { accessFlags := 4120, nameIndex := 50, descriptorIndex := 17, attributes := #[] }])
  fields := #[{ name := "SALT32L", type := .long, accessFlags := 26, slot := 0, constantValue := 0 }, { name := "REVERSE", type := .boolean, accessFlags := 26, slot := 1, constantValue := 0 }, { name := "archivedObjects", type := (.array (.object "java/lang/Object")), accessFlags := 10, slot := 2, constantValue := 0 }, { name := "EMPTY", type := (.object "java/lang/Object"), accessFlags := 26, slot := 3, constantValue := 0 }, { name := "EMPTY_LIST", type := (.object "java/util/ImmutableCollections$ListN"), accessFlags := 24, slot := 4, constantValue := 0 }, { name := "EMPTY_LIST_NULLS", type := (.object "java/util/ImmutableCollections$ListN"), accessFlags := 24, slot := 5, constantValue := 0 }, { name := "EMPTY_SET", type := (.object "java/util/ImmutableCollections$SetN"), accessFlags := 24, slot := 6, constantValue := 0 }, { name := "EMPTY_MAP", type := (.object "java/util/ImmutableCollections$MapN"), accessFlags := 24, slot := 7, constantValue := 0 }, { name := "EXPAND_FACTOR", type := .int, accessFlags := 24, slot := 8, constantValue := 0 }, { name := "$assertionsDisabled", type := .boolean, accessFlags := 4120, slot := 9, constantValue := 0 }]
  methods := #[k27m0, k27m1, k27m2]
  instanceTypes := #[]
  staticTypes := #[.long, .boolean, (.array (.object "java/lang/Object")), (.object "java/lang/Object"), (.object "java/util/ImmutableCollections$ListN"), (.object "java/util/ImmutableCollections$ListN"), (.object "java/util/ImmutableCollections$SetN"), (.object "java/util/ImmutableCollections$MapN"), .int, .boolean]
  resolved := Array.replicate 213 none
  statics := some 3 }

def pool28 : Array CpInfo := pool [(1, .methodref 2 3), (0, .class_ 4), (0, .nameAndType 5 6), (0, u "java/util/AbstractCollection"), (0, u "<init>"), (0, u "()V"), (1, .class_ 10), (1, u "java/util/ImmutableCollections"), (2, .class_ 14), (0, u "java/util/ImmutableCollections$AbstractImmutableCollection")] 41

def k28c0 : Code := { maxStack := 1, maxLocals := 1, code := jdk_47_method_1_code, exceptionTable := #[], attributes := #[] }
def k28m0 : Method := { name := "<init>", desc := "()V", sig := { parameters := [], returnType := none }, accessFlags := 0, code := some k28c0 }
/-- java/util/ImmutableCollections$AbstractImmutableCollection -/
def k28 : Class := { plain "java/util/ImmutableCollections$AbstractImmutableCollection" (some 4) with
  accessFlags := 1056
  interfaces := #[]
  cf := some (fileOf pool28 13 #[.nestHost 8] #[{ accessFlags := 0, nameIndex := 5, descriptorIndex := 6, attributes := #[] }] 1056 2 #[] #[])
  fields := #[]
  methods := #[k28m0]
  instanceTypes := #[]
  staticTypes := #[]
  resolved := Array.replicate 56 none
  statics := none }

def pool29 : Array CpInfo := pool [(1, .methodref 2 3), (0, .class_ 4), (0, .nameAndType 5 6), (0, u "java/util/ImmutableCollections$AbstractImmutableCollection"), (0, u "<init>"), (0, u "()V"), (1, .class_ 10), (1, u "java/util/ImmutableCollections"), (3, .class_ 16), (1, u "java/util/ImmutableCollections$AbstractImmutableList"), (60, .class_ 78), (0, u "java/util/List"), (45, .class_ 125), (0, u "java/util/RandomAccess")] 70

def k29c0 : Code := { maxStack := 1, maxLocals := 1, code := jdk_46_method_1_code, exceptionTable := #[], attributes := #[] }
def k29m0 : Method := { name := "<init>", desc := "()V", sig := { parameters := [], returnType := none }, accessFlags := 0, code := some k29c0 }
/-- java/util/ImmutableCollections$AbstractImmutableList -/
def k29 : Class := { plain "java/util/ImmutableCollections$AbstractImmutableList" (some 28) with
  accessFlags := 1056
  interfaces := #[6, 8]
  cf := some (fileOf pool29 14 #[.nestHost 8] #[{ accessFlags := 0, nameIndex := 5, descriptorIndex := 6, attributes := #[] }] 1056 2 #[77, 124] #[])
  fields := #[]
  methods := #[k29m0]
  instanceTypes := #[]
  staticTypes := #[]
  resolved := Array.replicate 196 none
  statics := none }

def pool30 : Array CpInfo := pool [(1, .methodref 2 3), (0, .class_ 4), (0, .nameAndType 5 6), (0, u "java/util/ImmutableCollections$AbstractImmutableList"), (0, u "<init>"), (0, u "()V"), (0, .methodref 8 9), (0, .class_ 10), (0, .nameAndType 11 12), (0, u "java/util/Objects"), (0, u "requireNonNull"), (0, u "(Ljava/lang/Object;)Ljava/lang/Object;"), (0, .fieldref 14 15), (0, .class_ 16), (0, .nameAndType 17 18), (0, u "java/util/ImmutableCollections$List12"), (0, u "e0"), (0, u "Ljava/lang/Object;"), (0, .fieldref 20 21), (0, .class_ 22), (0, .nameAndType 23 18), (0, u "java/util/ImmutableCollections"), (0, u "EMPTY"), (0, .fieldref 14 25), (0, .nameAndType 26 18), (0, u "e1"), (43, .class_ 71), (0, u "java/io/Serializable"), (4, u "(Ljava/lang/Object;)V"), (8, u "(Ljava/lang/Object;Ljava/lang/Object;)V")] 39

def k30c0 : Code := { maxStack := 2, maxLocals := 2, code := jdk_44_method_1_code, exceptionTable := #[], attributes := #[] }
def k30m0 : Method := { name := "<init>", desc := "(Ljava/lang/Object;)V", sig := { parameters := [(.object "java/lang/Object")], returnType := none }, accessFlags := 0, code := some k30c0 }
def k30c1 : Code := { maxStack := 2, maxLocals := 3, code := jdk_44_method_2_code, exceptionTable := #[], attributes := #[] }
def k30m1 : Method := { name := "<init>", desc := "(Ljava/lang/Object;Ljava/lang/Object;)V", sig := { parameters := [(.object "java/lang/Object"), (.object "java/lang/Object")], returnType := none }, accessFlags := 0, code := some k30c1 }
/-- java/util/ImmutableCollections$List12 -/
def k30 : Class := { plain "java/util/ImmutableCollections$List12" (some 29) with
  accessFlags := 48
  interfaces := #[10]
  cf := some (fileOf pool30 14 #[.nestHost 20] #[{ accessFlags := 0, nameIndex := 5, descriptorIndex := 76, attributes := #[] }, { accessFlags := 0, nameIndex := 5, descriptorIndex := 85, attributes := #[] }] 48 2 #[70] #[{ accessFlags := 18, nameIndex := 17, descriptorIndex := 18, attributes := #[] }, { accessFlags := 18, nameIndex := 26, descriptorIndex := 18, attributes := #[] }])
  fields := #[{ name := "e0", type := (.object "java/lang/Object"), accessFlags := 18, slot := 0, constantValue := 0 }, { name := "e1", type := (.object "java/lang/Object"), accessFlags := 18, slot := 1, constantValue := 0 }]
  methods := #[k30m0, k30m1]
  instanceTypes := #[(.object "java/lang/Object"), (.object "java/lang/Object")]
  staticTypes := #[]
  resolved := Array.replicate 125 none
  statics := none }

def pool31 : Array CpInfo := pool [(1, .methodref 2 3), (0, .class_ 4), (0, .nameAndType 5 6), (0, u "java/util/ImmutableCollections$AbstractImmutableList"), (0, u "<init>"), (0, u "()V"), (0, .fieldref 8 9), (0, .class_ 10), (0, .nameAndType 11 12), (0, u "java/util/ImmutableCollections$ListN"), (0, u "elements"), (0, u "[Ljava/lang/Object;"), (0, .fieldref 8 14), (0, .nameAndType 15 16), (0, u "allowNulls"), (0, u "Z"), (42, .class_ 60), (0, u "java/io/Serializable"), (4, u "([Ljava/lang/Object;Z)V"), (48, .class_ 115), (0, u "java/util/ImmutableCollections")] 3

def k31c0 : Code := { maxStack := 2, maxLocals := 3, code := jdk_45_method_1_code, exceptionTable := #[], attributes := #[] }
def k31m0 : Method := { name := "<init>", desc := "([Ljava/lang/Object;Z)V", sig := { parameters := [(.array (.object "java/lang/Object")), .boolean], returnType := none }, accessFlags := 2, code := some k31c0 }
/-- java/util/ImmutableCollections$ListN -/
def k31 : Class := { plain "java/util/ImmutableCollections$ListN" (some 29) with
  accessFlags := 48
  interfaces := #[10]
  cf := some (fileOf pool31 8 #[.nestHost 114] #[{ accessFlags := 2, nameIndex := 5, descriptorIndex := 65, attributes := #[] }] 48 2 #[59] #[{ accessFlags := 18, nameIndex := 11, descriptorIndex := 12, attributes := #[] }, { accessFlags := 18, nameIndex := 15, descriptorIndex := 16, attributes := #[] }])
  fields := #[{ name := "elements", type := (.array (.object "java/lang/Object")), accessFlags := 18, slot := 0, constantValue := 0 }, { name := "allowNulls", type := .boolean, accessFlags := 18, slot := 1, constantValue := 0 }]
  methods := #[k31m0]
  instanceTypes := #[(.array (.object "java/lang/Object")), .boolean]
  staticTypes := #[]
  resolved := Array.replicate 119 none
  statics := none }

def pool32 : Array CpInfo := pool [(1, .class_ 2), (0, u "java/lang/Math"), (1, .class_ 6), (1, u "java/lang/Object"), (0, u "<init>"), (0, u "()V"), (89, .class_ 100), (1, u "java/lang/Math$RandomNumberGeneratorHolder"), (71, u "negativeZeroFloatBits"), (0, u "J"), (2, u "negativeZeroDoubleBits"), (21, u "max"), (2, u "min"), (43, u "$assertionsDisabled"), (0, u "Z"), (88, u "(II)I"), (2, u "twoToTheDoubleScaleDown"), (0, u "D"), (4, u "twoToTheDoubleScaleUp"), (9, u "E"), (3, u "PI"), (2, u "TAU"), (2, u "DEGREES_TO_RADIANS"), (0, u "RADIANS_TO_DEGREES")] 94

def k32m0 : Method := { name := "<init>", desc := "()V", sig := { parameters := [], returnType := none }, accessFlags := 2, code := none }
def k32c1 : Code := { maxStack := 2, maxLocals := 2, code := jdk_29_method_65_code, exceptionTable := #[], attributes := #[] }
def k32m1 : Method := { name := "max", desc := "(II)I", sig := { parameters := [.int, .int], returnType := some .int }, accessFlags := 9, code := some k32c1 }
def k32c2 : Code := { maxStack := 2, maxLocals := 2, code := jdk_29_method_69_code, exceptionTable := #[], attributes := #[] }
def k32m2 : Method := { name := "min", desc := "(II)I", sig := { parameters := [.int, .int], returnType := some .int }, accessFlags := 9, code := some k32c2 }
/-- java/lang/Math -/
def k32 : Class := { plain "java/lang/Math" (some 0) with
  accessFlags := 49
  interfaces := #[]
  cf := some (fileOf pool32 1 #[.nestMembers #[98]] #[{ accessFlags := 2, nameIndex := 7, descriptorIndex := 8, attributes := #[] }, { accessFlags := 9, nameIndex := 198, descriptorIndex := 335, attributes := #[] }, { accessFlags := 9, nameIndex := 201, descriptorIndex := 335, attributes := #[] }] 49 4 #[] #[{ accessFlags := 25, nameIndex := 354, descriptorIndex := 339, attributes := #[] }, { accessFlags := 25, nameIndex := 358, descriptorIndex := 339, attributes := #[] }, { accessFlags := 25, nameIndex := 361, descriptorIndex := 339, attributes := #[] }, { accessFlags := 26, nameIndex := 364, descriptorIndex := 339, attributes := #[] }, { accessFlags := 26, nameIndex := 365, descriptorIndex := 339, attributes := #[] }, { accessFlags := 26, nameIndex := 172, descriptorIndex := 173, attributes := #[] }, { accessFlags := 26, nameIndex := 176, descriptorIndex := 173, attributes := #[] }, { accessFlags := 8, nameIndex := 344, descriptorIndex := 339, attributes := #[] }, { accessFlags := 8, nameIndex := 338, descriptorIndex := 339, attributes := #[] }, { accessFlags := 4120, nameIndex := 245, descriptorIndex := 246, attributes := #[] }])
  fields := #[{ name := "E", type := .double, accessFlags := 25, slot := 0, constantValue := 0 }, { name := "PI", type := .double, accessFlags := 25, slot := 1, constantValue := 0 }, { name := "TAU", type := .double, accessFlags := 25, slot := 2, constantValue := 0 }, { name := "DEGREES_TO_RADIANS", type := .double, accessFlags := 26, slot := 3, constantValue := 0 }, { name := "RADIANS_TO_DEGREES", type := .double, accessFlags := 26, slot := 4, constantValue := 0 }, { name := "negativeZeroFloatBits", type := .long, accessFlags := 26, slot := 5, constantValue := 0 }, { name := "negativeZeroDoubleBits", type := .long, accessFlags := 26, slot := 6, constantValue := 0 }, { name := "twoToTheDoubleScaleUp", type := .double, accessFlags := 8, slot := 7, constantValue := 0 }, { name := "twoToTheDoubleScaleDown", type := .double, accessFlags := 8, slot := 8, constantValue := 0 }, { name := "$assertionsDisabled", type := .boolean, accessFlags := 4120, slot := 9, constantValue := 0 }]
  methods := #[k32m0, k32m1, k32m2]
  instanceTypes := #[]
  staticTypes := #[.double, .double, .double, .double, .double, .long, .long, .double, .double, .boolean]
  resolved := Array.replicate 460 none
  statics := none }

def pool33 : Array CpInfo := pool [(2, .class_ 4), (1, u "java/lang/Object"), (0, u "<init>"), (0, u "()V"), (7, .class_ 16), (1, u "java/util/Arrays"), (57, .class_ 76), (1, u "java/util/Arrays$NaturalOrder"), (9, .methodref 2 87), (0, .nameAndType 88 89), (0, u "getClass"), (0, u "()Ljava/lang/Class;"), (20, .class_ 111), (0, u "[Ljava/lang/Object;"), (1, .class_ 115), (1, u "java/util/Arrays$LegacyMergeSort"), (1, u "Z"), (32, .methodref 151 152), (0, .class_ 153), (0, .nameAndType 154 155), (0, u "java/lang/System"), (0, u "arraycopy"), (0, u "(Ljava/lang/Object;ILjava/lang/Object;II)V"), (144, .methodref 14 301), (0, .nameAndType 302 303), (0, u "copyOf"), (0, u "([Ljava/lang/Object;ILjava/lang/Class;)[Ljava/lang/Object;"), (0, .methodref 305 306), (0, .class_ 307), (0, .nameAndType 308 309), (0, u "java/lang/Math"), (0, u "min"), (0, u "(II)I"), (65, .class_ 376), (0, u "java/util/Arrays$ArrayList"), (68, u "$assertionsDisabled"), (269, u "MIN_ARRAY_SORT_GRAN"), (0, u "I"), (2, u "INSERTIONSORT_THRESHOLD"), (140, u "([Ljava/lang/Object;I)[Ljava/lang/Object;"), (114, .class_ 976), (0, u "java/util/Arrays$ArrayItr")] 52

def k33m0 : Method := { name := "<init>", desc := "()V", sig := { parameters := [], returnType := none }, accessFlags := 2, code := none }
def k33c1 : Code := { maxStack := 3, maxLocals := 2, code := jdk_65_method_119_code, exceptionTable := #[], attributes := #[] }
def k33m1 : Method := { name := "copyOf", desc := "([Ljava/lang/Object;I)[Ljava/lang/Object;", sig := { parameters := [(.array (.object "java/lang/Object")), .int], returnType := some (.array (.object "java/lang/Object")) }, accessFlags := 9, code := some k33c1 }
def k33c2 : Code := { maxStack := 6, maxLocals := 4, code := jdk_65_method_120_code, exceptionTable := #[], attributes := #[] }
def k33m2 : Method := { name := "copyOf", desc := "([Ljava/lang/Object;ILjava/lang/Class;)[Ljava/lang/Object;", sig := { parameters := [(.array (.object "java/lang/Object")), .int, (.object "java/lang/Class")], returnType := some (.array (.object "java/lang/Object")) }, accessFlags := 9, code := some k33c2 }
/-- java/util/Arrays -/
def k33 : Class := { plain "java/util/Arrays" (some 0) with
  accessFlags := 49
  interfaces := #[]
  cf := some (fileOf pool33 14 #[.nestMembers #[975, 375, 113, 74]] #[{ accessFlags := 2, nameIndex := 5, descriptorIndex := 6, attributes := #[] }, { accessFlags := 9, nameIndex := 302, descriptorIndex := 860, attributes := #[] }, { accessFlags := 9, nameIndex := 302, descriptorIndex := 303, attributes := #[] }] 49 2 #[] #[{ accessFlags := 26, nameIndex := 715, descriptorIndex := 716, attributes := #[] }, { accessFlags := 26, nameIndex := 719, descriptorIndex := 716, attributes := #[] }, { accessFlags := 4120, nameIndex := 445, descriptorIndex := 117, attributes := #[] }])
  fields := #[{ name := "MIN_ARRAY_SORT_GRAN", type := .int, accessFlags := 26, slot := 0, constantValue := 0 }, { name := "INSERTIONSORT_THRESHOLD", type := .int, accessFlags := 26, slot := 1, constantValue := 0 }, { name := "$assertionsDisabled", type := .boolean, accessFlags := 4120, slot := 2, constantValue := 0 }]
  methods := #[k33m0, k33m1, k33m2]
  instanceTypes := #[]
  staticTypes := #[.int, .int, .boolean]
  resolved := Array.replicate 1029 none
  statics := none }

def pool34 : Array CpInfo := pool [(2, .class_ 4), (1, u "java/lang/Object"), (0, u "<init>"), (0, u "()V"), (1, .class_ 10), (1, u "java/lang/System"), (0, u "allowSecurityManager"), (0, u "I"), (16, u "cons"), (0, u "Ljava/io/Console;"), (77, .class_ 110), (1, u "java/lang/System$CallersHolder"), (43, u "initialErrStream"), (0, u "Ljava/io/PrintStream;"), (19, u "security"), (0, u "Ljava/lang/SecurityManager;"), (31, .class_ 209), (0, u "java/lang/System$1"), (7, u "props"), (0, u "Ljava/util/Properties;"), (2, u "lineSeparator"), (0, u "Ljava/lang/String;"), (96, .class_ 321), (1, u "java/lang/System$LoggerFinder"), (5, .class_ 328), (0, u "java/lang/System$Logger"), (67, u "err"), (2, u "out"), (91, u "notSupportedJnuEncoding"), (15, u "in"), (17, u "initialIn"), (0, u "Ljava/io/InputStream;"), (35, u "bootLayer"), (0, u "Ljava/lang/ModuleLayer;"), (99, .class_ 664), (0, u "java/lang/System$2"), (9, u "NEVER"), (2, u "MAYBE"), (49, u "arraycopy"), (0, u "(Ljava/lang/Object;ILjava/lang/Object;II)V"), (72, .class_ 802), (0, u "java/lang/System$Logger$Level")] 31

def k34m0 : Method := { name := "<init>", desc := "()V", sig := { parameters := [], returnType := none }, accessFlags := 2, code := none }
def k34m1 : Method := { name := "arraycopy", desc := "(Ljava/lang/Object;ILjava/lang/Object;II)V", sig := { parameters := [(.object "java/lang/Object"), .int, (.object "java/lang/Object"), .int, .int], returnType := none }, accessFlags := 265, code := none }
/-- java/lang/System -/
def k34 : Class := { plain "java/lang/System" (some 0) with
  accessFlags := 49
  interfaces := #[]
  cf := some (fileOf pool34 8 #[.nestMembers #[319, 327, 801, 108, 663, 208]] #[{ accessFlags := 2, nameIndex := 5, descriptorIndex := 6, attributes := #[] }, { accessFlags := 265, nameIndex := 727, descriptorIndex := 728, attributes := #[] }] 49 2 #[] #[{ accessFlags := 25, nameIndex := 507, descriptorIndex := 526, attributes := #[] }, { accessFlags := 25, nameIndex := 399, descriptorIndex := 155, attributes := #[] }, { accessFlags := 25, nameIndex := 396, descriptorIndex := 155, attributes := #[] }, { accessFlags := 10, nameIndex := 525, descriptorIndex := 526, attributes := #[] }, { accessFlags := 26, nameIndex := 674, descriptorIndex := 12, attributes := #[] }, { accessFlags := 26, nameIndex := 677, descriptorIndex := 12, attributes := #[] }, { accessFlags := 10, nameIndex := 11, descriptorIndex := 12, attributes := #[] }, { accessFlags := 74, nameIndex := 175, descriptorIndex := 176, attributes := #[] }, { accessFlags := 10, nameIndex := 491, descriptorIndex := 222, attributes := #[] }, { accessFlags := 74, nameIndex := 29, descriptorIndex := 30, attributes := #[] }, { accessFlags := 74, nameIndex := 154, descriptorIndex := 155, attributes := #[] }, { accessFlags := 10, nameIndex := 217, descriptorIndex := 218, attributes := #[] }, { accessFlags := 10, nameIndex := 221, descriptorIndex := 222, attributes := #[] }, { accessFlags := 8, nameIndex := 562, descriptorIndex := 563, attributes := #[] }])
  fields := #[{ name := "in", type := (.object "java/io/InputStream"), accessFlags := 25, slot := 0, constantValue := 0 }, { name := "out", type := (.object "java/io/PrintStream"), accessFlags := 25, slot := 1, constantValue := 0 }, { name := "err", type := (.object "java/io/PrintStream"), accessFlags := 25, slot := 2, constantValue := 0 }, { name := "initialIn", type := (.object "java/io/InputStream"), accessFlags := 10, slot := 3, constantValue := 0 }, { name := "NEVER", type := .int, accessFlags := 26, slot := 4, constantValue := 0 }, { name := "MAYBE", type := .int, accessFlags := 26, slot := 5, constantValue := 0 }, { name := "allowSecurityManager", type := .int, accessFlags := 10, slot := 6, constantValue := 0 }, { name := "security", type := (.object "java/lang/SecurityManager"), accessFlags := 74, slot := 7, constantValue := 0 }, { name := "notSupportedJnuEncoding", type := (.object "java/lang/String"), accessFlags := 10, slot := 8, constantValue := 0 }, { name := "cons", type := (.object "java/io/Console"), accessFlags := 74, slot := 9, constantValue := 0 }, { name := "initialErrStream", type := (.object "java/io/PrintStream"), accessFlags := 74, slot := 10, constantValue := 0 }, { name := "props", type := (.object "java/util/Properties"), accessFlags := 10, slot := 11, constantValue := 0 }, { name := "lineSeparator", type := (.object "java/lang/String"), accessFlags := 10, slot := 12, constantValue := 0 }, { name := "bootLayer", type := (.object "java/lang/ModuleLayer"), accessFlags := 8, slot := 13, constantValue := 0 }]
  methods := #[k34m0, k34m1]
  instanceTypes := #[]
  staticTypes := #[(.object "java/io/InputStream"), (.object "java/io/PrintStream"), (.object "java/io/PrintStream"), (.object "java/io/InputStream"), .int, .int, .int, (.object "java/lang/SecurityManager"), (.object "java/lang/String"), (.object "java/io/Console"), (.object "java/io/PrintStream"), (.object "java/util/Properties"), (.object "java/lang/String"), (.object "java/lang/ModuleLayer")]
  resolved := Array.replicate 834 none
  statics := none }

def pool35 : Array CpInfo := pool [(2, .class_ 4), (1, u "java/lang/Object"), (0, u "<init>"), (0, u "()V"), (35, .class_ 44), (1, u "java/util/Objects"), (0, u "requireNonNull"), (0, u "(Ljava/lang/Object;)Ljava/lang/Object;"), (58, .methodref 106 107), (0, .class_ 108), (0, .nameAndType 109 110), (0, u "jdk/internal/util/Preconditions"), (0, u "checkIndex"), (0, u "(IILjava/util/function/BiFunction;)I"), (60, u "(II)I")] 12

def k35m0 : Method := { name := "<init>", desc := "()V", sig := { parameters := [], returnType := none }, accessFlags := 2, code := none }
def k35c1 : Code := { maxStack := 2, maxLocals := 1, code := jdk_31_method_10_code, exceptionTable := #[], attributes := #[] }
def k35m1 : Method := { name := "requireNonNull", desc := "(Ljava/lang/Object;)Ljava/lang/Object;", sig := { parameters := [(.object "java/lang/Object")], returnType := some (.object "java/lang/Object") }, accessFlags := 9, code := some k35c1 }
def k35c2 : Code := { maxStack := 3, maxLocals := 2, code := jdk_31_method_17_code, exceptionTable := #[], attributes := #[] }
def k35m2 : Method := { name := "checkIndex", desc := "(II)I", sig := { parameters := [.int, .int], returnType := some .int }, accessFlags := 9, code := some k35c2 }
/-- java/util/Objects -/
def k35 : Class := { plain "java/util/Objects" (some 0) with
  accessFlags := 49
  interfaces := #[]
  cf := some (fileOf pool35 42 #[] #[{ accessFlags := 2, nameIndex := 5, descriptorIndex := 6, attributes := #[] }, { accessFlags := 9, nameIndex := 45, descriptorIndex := 46, attributes := #[] }, { accessFlags := 9, nameIndex := 109, descriptorIndex := 171, attributes := #[] }] 49 2 #[] #[])
  fields := #[]
  methods := #[k35m0, k35m1, k35m2]
  instanceTypes := #[]
  staticTypes := #[]
  resolved := Array.replicate 184 none
  statics := none }

def pool36 : Array CpInfo := pool [(2, .class_ 4), (1, u "java/lang/Object"), (0, u "<init>"), (0, u "()V"), (17, .class_ 26), (1, u "jdk/internal/util/Preconditions"), (6, u "checkIndex"), (21, .class_ 56), (0, u "jdk/internal/util/Preconditions$4"), (57, .class_ 115), (0, u "jdk/internal/util/Preconditions$1"), (7, u "SIOOBE_FORMATTER"), (0, u "Ljava/util/function/BiFunction;"), (0, .class_ 126), (0, u "jdk/internal/util/Preconditions$2"), (3, u "AIOOBE_FORMATTER"), (0, .class_ 132), (0, u "jdk/internal/util/Preconditions$3"), (3, u "IOOBE_FORMATTER"), (41, u "(IILjava/util/function/BiFunction;)I")] 15

def k36m0 : Method := { name := "<init>", desc := "()V", sig := { parameters := [], returnType := none }, accessFlags := 1, code := none }
def k36c1 : Code := { maxStack := 3, maxLocals := 3, code := jdk_41_method_11_code, exceptionTable := #[], attributes := #[] }
def k36m1 : Method := { name := "checkIndex", desc := "(IILjava/util/function/BiFunction;)I", sig := { parameters := [.int, .int, (.object "java/util/function/BiFunction")], returnType := some .int }, accessFlags := 9, code := some k36c1 }
/-- jdk/internal/util/Preconditions -/
def k36 : Class := { plain "jdk/internal/util/Preconditions" (some 0) with
  accessFlags := 33
  interfaces := #[]
  cf := some (fileOf pool36 24 #[.nestMembers #[55, 131, 125, 114]] #[{ accessFlags := 1, nameIndex := 5, descriptorIndex := 6, attributes := #[] }, { accessFlags := 9, nameIndex := 33, descriptorIndex := 178, attributes := #[] }] 33 2 #[] #[{ accessFlags := 25, nameIndex := 123, descriptorIndex := 124, attributes := #[] }, { accessFlags := 25, nameIndex := 130, descriptorIndex := 124, attributes := #[] }, { accessFlags := 25, nameIndex := 136, descriptorIndex := 124, attributes := #[] }])
  fields := #[{ name := "SIOOBE_FORMATTER", type := (.object "java/util/function/BiFunction"), accessFlags := 25, slot := 0, constantValue := 0 }, { name := "AIOOBE_FORMATTER", type := (.object "java/util/function/BiFunction"), accessFlags := 25, slot := 1, constantValue := 0 }, { name := "IOOBE_FORMATTER", type := (.object "java/util/function/BiFunction"), accessFlags := 25, slot := 2, constantValue := 0 }]
  methods := #[k36m0, k36m1]
  instanceTypes := #[]
  staticTypes := #[(.object "java/util/function/BiFunction"), (.object "java/util/function/BiFunction"), (.object "java/util/function/BiFunction")]
  resolved := Array.replicate 194 none
  statics := some 4 }

def pool37 : Array CpInfo := pool [(6, .class_ 8), (1, u "java/lang/Object"), (0, u "<init>"), (0, u "()V"), (1, .class_ 14), (1, u "java/lang/StringUTF16"), (29, .fieldref 12 45), (0, .nameAndType 46 47), (0, u "$assertionsDisabled"), (0, u "Z"), (3, u "([B)I"), (7, .fieldref 12 60), (0, .nameAndType 61 62), (0, u "HI_BYTE_SHIFT"), (0, u "I"), (0, .fieldref 12 64), (0, .nameAndType 65 62), (0, u "LO_BYTE_SHIFT"), (5, .methodref 12 72), (0, .nameAndType 73 74), (0, u "getChar"), (0, u "([BI)C"), (36, .methodref 12 112), (0, .nameAndType 113 114), (0, u "putChar"), (0, u "([BII)V"), (6, u "toBytes"), (247, .class_ 371), (1, u "java/lang/StringUTF16$LinesSpliterator"), (58, u "MAX_LENGTH"), (44, u "(C)[B"), (31, u "hashCode"), (119, .class_ 628), (0, u "java/lang/StringUTF16$CodePointsSpliterator"), (0, .class_ 630), (0, u "java/lang/StringUTF16$CharsSpliterator")] 4

def k37m0 : Method := { name := "<init>", desc := "()V", sig := { parameters := [], returnType := none }, accessFlags := 0, code := none }
def k37c1 : Code := { maxStack := 4, maxLocals := 3, code := jdk_52_method_4_code, exceptionTable := #[], attributes := #[] }
def k37m1 : Method := { name := "putChar", desc := "([BII)V", sig := { parameters := [(.array .byte), .int, .int], returnType := none }, accessFlags := 8, code := some k37c1 }
def k37c2 : Code := { maxStack := 3, maxLocals := 2, code := jdk_52_method_5_code, exceptionTable := #[], attributes := #[] }
def k37m2 : Method := { name := "getChar", desc := "([BI)C", sig := { parameters := [(.array .byte), .int], returnType := some .char }, accessFlags := 8, code := some k37c2 }
def k37c3 : Code := { maxStack := 3, maxLocals := 2, code := jdk_52_method_24_code, exceptionTable := #[], attributes := #[] }
def k37m3 : Method := { name := "toBytes", desc := "(C)[B", sig := { parameters := [.char], returnType := some (.array .byte) }, accessFlags := 9, code := some k37c3 }
def k37c4 : Code := { maxStack := 5, maxLocals := 1, code := jdk_52_method_39_code, exceptionTable := #[], attributes := #[] }
def k37m4 : Method := { name := "hashCode", desc := "([B)I", sig := { parameters := [(.array .byte)], returnType := some .int }, accessFlags := 9, code := some k37c4 }
/-- java/lang/StringUTF16 -/
def k37 : Class := { plain "java/lang/StringUTF16" (some 0) with
  accessFlags := 48
  interfaces := #[]
  cf := some (fileOf pool37 12 #[.nestMembers #[627, 629, 369]] #[{ accessFlags := 0, nameIndex := 9, descriptorIndex := 10, attributes := #[] }, { accessFlags := 8, nameIndex := 113, descriptorIndex := 114, attributes := #[] }, { accessFlags := 8, nameIndex := 73, descriptorIndex := 74, attributes := #[] }, { accessFlags := 9, nameIndex := 121, descriptorIndex := 475, attributes := #[] }, { accessFlags := 9, nameIndex := 507, descriptorIndex := 51, attributes := #[] }] 48 6 #[] #[{ accessFlags := 26, nameIndex := 61, descriptorIndex := 62, attributes := #[] }, { accessFlags := 26, nameIndex := 65, descriptorIndex := 62, attributes := #[] }, { accessFlags := 24, nameIndex := 430, descriptorIndex := 62, attributes := #[] }, { accessFlags := 4120, nameIndex := 46, descriptorIndex := 47, attributes := #[] }])
  fields := #[{ name := "HI_BYTE_SHIFT", type := .int, accessFlags := 26, slot := 0, constantValue := 0 }, { name := "LO_BYTE_SHIFT", type := .int, accessFlags := 26, slot := 1, constantValue := 0 }, { name := "MAX_LENGTH", type := .int, accessFlags := 24, slot := 2, constantValue := 0 }, { name := "$assertionsDisabled", type := .boolean, accessFlags := 4120, slot := 3, constantValue := 0 }]
  methods := #[k37m0, k37m1, k37m2, k37m3, k37m4]
  instanceTypes := #[]
  staticTypes := #[.int, .int, .int, .boolean]
  resolved := Array.replicate 635 none
  statics := some 5 }

def pool38 : Array CpInfo := pool [(9, u "<init>"), (6, .class_ 18), (1, u "java/lang/Object"), (0, u "()V"), (1, .class_ 23), (1, u "jdk/internal/util/ArraysSupport"), (0, u "LOG2_ARRAY_LONG_INDEX_SCALE"), (0, u "I"), (2, u "U"), (0, u "Ljdk/internal/misc/Unsafe;"), (8, u "BIG_ENDIAN"), (0, u "Z"), (8, u "LOG2_BYTE_BIT_SIZE"), (4, u "LOG2_ARRAY_INT_INDEX_SCALE"), (54, u "JLA"), (0, u "Ljdk/internal/access/JavaLangAccess;"), (11, u "LOG2_ARRAY_BOOLEAN_INDEX_SCALE"), (9, u "LOG2_ARRAY_BYTE_INDEX_SCALE"), (5, u "LOG2_ARRAY_CHAR_INDEX_SCALE"), (5, u "LOG2_ARRAY_SHORT_INDEX_SCALE"), (18, u "LOG2_ARRAY_FLOAT_INDEX_SCALE"), (24, u "LOG2_ARRAY_DOUBLE_INDEX_SCALE"), (89, u "T_BOOLEAN"), (2, u "T_CHAR"), (1, u "T_FLOAT"), (1, u "T_DOUBLE"), (1, u "T_BYTE"), (1, u "T_SHORT"), (1, u "T_INT"), (1, u "T_LONG"), (1, u "SOFT_MAX_ARRAY_LENGTH")] 83

def k38m0 : Method := { name := "<init>", desc := "()V", sig := { parameters := [], returnType := none }, accessFlags := 2, code := none }
/-- jdk/internal/util/ArraysSupport -/
def k38 : Class := { plain "jdk/internal/util/ArraysSupport" (some 0) with
  accessFlags := 33
  interfaces := #[]
  cf := some (fileOf pool38 21 #[] #[{ accessFlags := 2, nameIndex := 9, descriptorIndex := 19, attributes := #[] }] 33 16 #[] #[{ accessFlags := 24, nameIndex := 28, descriptorIndex := 29, attributes := #[] }, { accessFlags := 26, nameIndex := 38, descriptorIndex := 39, attributes := #[] }, { accessFlags := 25, nameIndex := 121, descriptorIndex := 25, attributes := #[] }, { accessFlags := 25, nameIndex := 131, descriptorIndex := 25, attributes := #[] }, { accessFlags := 25, nameIndex := 137, descriptorIndex := 25, attributes := #[] }, { accessFlags := 25, nameIndex := 143, descriptorIndex := 25, attributes := #[] }, { accessFlags := 25, nameIndex := 53, descriptorIndex := 25, attributes := #[] }, { accessFlags := 25, nameIndex := 24, descriptorIndex := 25, attributes := #[] }, { accessFlags := 25, nameIndex := 162, descriptorIndex := 25, attributes := #[] }, { accessFlags := 25, nameIndex := 187, descriptorIndex := 25, attributes := #[] }, { accessFlags := 26, nameIndex := 48, descriptorIndex := 25, attributes := #[] }, { accessFlags := 25, nameIndex := 277, descriptorIndex := 25, attributes := #[] }, { accessFlags := 25, nameIndex := 280, descriptorIndex := 25, attributes := #[] }, { accessFlags := 25, nameIndex := 282, descriptorIndex := 25, attributes := #[] }, { accessFlags := 25, nameIndex := 284, descriptorIndex := 25, attributes := #[] }, { accessFlags := 25, nameIndex := 286, descriptorIndex := 25, attributes := #[] }, { accessFlags := 25, nameIndex := 288, descriptorIndex := 25, attributes := #[] }, { accessFlags := 25, nameIndex := 290, descriptorIndex := 25, attributes := #[] }, { accessFlags := 25, nameIndex := 292, descriptorIndex := 25, attributes := #[] }, { accessFlags := 26, nameIndex := 108, descriptorIndex := 109, attributes := #[] }, { accessFlags := 25, nameIndex := 294, descriptorIndex := 25, attributes := #[] }])
  fields := #[{ name := "U", type := (.object "jdk/internal/misc/Unsafe"), accessFlags := 24, slot := 0, constantValue := 0 }, { name := "BIG_ENDIAN", type := .boolean, accessFlags := 26, slot := 1, constantValue := 0 }, { name := "LOG2_ARRAY_BOOLEAN_INDEX_SCALE", type := .int, accessFlags := 25, slot := 2, constantValue := 0 }, { name := "LOG2_ARRAY_BYTE_INDEX_SCALE", type := .int, accessFlags := 25, slot := 3, constantValue := 0 }, { name := "LOG2_ARRAY_CHAR_INDEX_SCALE", type := .int, accessFlags := 25, slot := 4, constantValue := 0 }, { name := "LOG2_ARRAY_SHORT_INDEX_SCALE", type := .int, accessFlags := 25, slot := 5, constantValue := 0 }, { name := "LOG2_ARRAY_INT_INDEX_SCALE", type := .int, accessFlags := 25, slot := 6, constantValue := 0 }, { name := "LOG2_ARRAY_LONG_INDEX_SCALE", type := .int, accessFlags := 25, slot := 7, constantValue := 0 }, { name := "LOG2_ARRAY_FLOAT_INDEX_SCALE", type := .int, accessFlags := 25, slot := 8, constantValue := 0 }, { name := "LOG2_ARRAY_DOUBLE_INDEX_SCALE", type := .int, accessFlags := 25, slot := 9, constantValue := 0 }, { name := "LOG2_BYTE_BIT_SIZE", type := .int, accessFlags := 26, slot := 10, constantValue := 0 }, { name := "T_BOOLEAN", type := .int, accessFlags := 25, slot := 11, constantValue := 0 }, { name := "T_CHAR", type := .int, accessFlags := 25, slot := 12, constantValue := 0 }, { name := "T_FLOAT", type := .int, accessFlags := 25, slot := 13, constantValue := 0 }, { name := "T_DOUBLE", type := .int, accessFlags := 25, slot := 14, constantValue := 0 }, { name := "T_BYTE", type := .int, accessFlags := 25, slot := 15, constantValue := 0 }, { name := "T_SHORT", type := .int, accessFlags := 25, slot := 16, constantValue := 0 }, { name := "T_INT", type := .int, accessFlags := 25, slot := 17, constantValue := 0 }, { name := "T_LONG", type := .int, accessFlags := 25, slot := 18, constantValue := 0 }, { name := "JLA", type := (.object "jdk/internal/access/JavaLangAccess"), accessFlags := 26, slot := 19, constantValue := 0 }, { name := "SOFT_MAX_ARRAY_LENGTH", type := .int, accessFlags := 25, slot := 20, constantValue := 0 }]
  methods := #[k38m0]
  instanceTypes := #[]
  staticTypes := #[(.object "jdk/internal/misc/Unsafe"), .boolean, .int, .int, .int, .int, .int, .int, .int, .int, .int, .int, .int, .int, .int, .int, .int, .int, .int, (.object "jdk/internal/access/JavaLangAccess"), .int]
  resolved := Array.replicate 378 none
  statics := none }

def pool39 : Array CpInfo := pool [(1, u "java/lang/Class"), (0, .class_ 1), (0, u "java/lang/Object"), (0, .class_ 3)] 0

/-- java/lang/Class -/
def k39 : Class := { plain "java/lang/Class" (some 0) with
  accessFlags := 49
  interfaces := #[]
  cf := some (fileOf pool39 2 #[] #[] 49 4 #[] #[])
  fields := #[]
  methods := #[]
  instanceTypes := #[]
  staticTypes := #[]
  resolved := Array.replicate 5 none
  statics := none }

/-- the primitive byte -/
def k40 : Class := { plain "byte" none with kind := .primitive 'B', accessFlags := 0x411 }
/-- [B -/
def k41 : Class := { plain "[B" (some 0) with kind := .array 40 .byte, interfaces := #[9, 10], accessFlags := 1041 }

/-- the primitive int -/
def k42 : Class := { plain "int" none with kind := .primitive 'I', accessFlags := 0x411 }
/-- [I -/
def k43 : Class := { plain "[I" (some 0) with kind := .array 42 .int, interfaces := #[9, 10], accessFlags := 1041 }

/-- [Ljava/lang/Object; -/
def k44 : Class := { plain "[Ljava/lang/Object;" (some 0) with kind := .array 0 (.object "java/lang/Object"), interfaces := #[9, 10], accessFlags := 1041 , mirror := some 6 }

/-- [Ljava/util/HashMap$Node; -/
def k45 : Class := { plain "[Ljava/util/HashMap$Node;" (some 0) with kind := .array 25 (.object "java/util/HashMap$Node"), interfaces := #[9, 10], accessFlags := 1041 }

def heap : Heap := #[{ cls := 11, slots := #[.long 0, .int 0, .ref 9, .ref 10], vm := .statics 11 },
  { cls := 14, slots := #[.long 0, .ref 11], vm := .statics 14 },
  { cls := 22, slots := #[.long 0, .int 1, .null, .int 0, .null, .int 0, .int 0], vm := .statics 22 },
  { cls := 27, slots := #[.long 0, .int 0, .null, .ref 12, .ref 8, .null, .null, .null, .int 0, .int 1], vm := .statics 27 },
  { cls := 36, slots := #[.null, .null, .null], vm := .statics 36 },
  { cls := 37, slots := #[.int 0, .int 8, .int 0, .int 1], vm := .statics 37 },
  { cls := 39, slots := #[], vm := .mirror 44 },
  { cls := 44, slots := #[], vm := .none },
  { cls := 31, slots := #[.ref 7, .int 0], vm := .none },
  { cls := 44, slots := #[], vm := .none },
  { cls := 44, slots := #[], vm := .none },
  { cls := 0, slots := #[], vm := .none },
  { cls := 0, slots := #[], vm := .none }]
def classes : Array Class := #[k0, k1, k2, k3, k4, k5, k6, k7, k8, k9, k10, k11, k12, k13, k14, k15, k16, k17, k18, k19, k20, k21, k22, k23, k24, k25, k26, k27, k28, k29, k30, k31, k32, k33, k34, k35, k36, k37, k38, k39, k40, k41, k42, k43, k44, k45]
def interned : List (Array UInt16 × Addr) := []
def slotsUsed : Nat := 32
def theMethod : MethodId := ⟨1, 1⟩
def args0 : Array Value := #[.int 5, .int 5, .int 5, .int 5]
def aboutOver (below : List Frame) : State where
  vm := { classes := classes, interned := interned.toArray }
  heap := heap
  slotsUsed := slotsUsed
  threads := #[{ frames := .invoking theMethod args0 :: below }]
def below0 : List Frame := [.native { method := ⟨0, 0⟩, args := #[] }]
def about1 : State := aboutOver below0
def p0 : Program := .bare "" "" ""
def e0 : Env := launch0.env 0 0 0
theorem w_frames : about1.frames = Frame.invoking theMethod args0 :: below0 := rfl
set_option maxRecDepth 65536 in
theorem w_args : argsFit about1.vm theMethod args0 = true := by decide +kernel
set_option maxRecDepth 65536 in
theorem w_heap : heapFits about1 = true := by decide +kernel
set_option maxRecDepth 65536 in
theorem w_runnable : about1.curStatus? = some .runnable := by decide +kernel
set_option maxRecDepth 65536 in
theorem w_alone : about1.alone = true := by decide +kernel
set_option maxRecDepth 65536 in
theorem w_named : about1.methodNamed? x = some theMethod := by decide +kernel
set_option maxRecDepth 65536 in
theorem w_hears : about1.hears theMethod below0 = true := by decide +kernel
set_option maxRecDepth 65536 in
theorem w_ripe : about1.ripe theMethod args0 below0 = true := by decide +kernel
theorem w_running : about1.status = .running := rfl
set_option maxRecDepth 65536 in
theorem w_room : about1.hasRoom e0.platform room_1 = true :=
  launch0.hasRoom_least _ room_1 (by decide +kernel) (by decide +kernel) (by decide +kernel) (by decide +kernel) (by decide +kernel) (by decide +kernel)
theorem allAtoms_all (ts : List Jvm.Cond) (a : Array Jvm.Value) (st : Jvm.State) : (allAtoms ts).before a st = ts.all (fun c => c.before a st) := by
  induction ts with
  | nil => rfl
  | cons c t ih =>
    show (Jvm.Cond.and c (allAtoms t)).before a st = _
    rw [Jvm.Cond.before_and, ih, List.all_cons]
def words1 : List Jvm.Cond := Jvm.Cond.code x code maxLocals ret :: tables_1
/-- a 'code' word, met by the world's own term for the bytes: nothing is compared byte by byte -/
theorem code_word {y : MethodName} {bytes : ByteArray} {mx : Nat} {rt : Option FieldType} {a : Array Value} {s : State} {m : MethodId} {meth : Method} {c : Code} (h1 : s.methodNamed? y = some m) (h2 : s.vm.method? m = some meth) (h3 : meth.code = some c) (h4 : c.code = bytes)
    (h5 : (c.maxLocals == mx && c.exceptionTable.isEmpty && decide (c.maxStack ≤ mostOperands) && decide (meth.sig.returnType = rt) && !meth.locks && decide (parseMethodDescriptor y.desc = some meth.sig)) = true) : (Jvm.Cond.code y bytes mx rt).before a s = true := by
  simp only [Bool.and_eq_true, beq_iff_eq, Bool.not_eq_true', decide_eq_true_eq] at h5
  obtain ⟨⟨⟨⟨⟨g1, g2⟩, g3⟩, g4⟩, g5⟩, g6⟩ := h5
  simp [Cond.before, Cond.holds, Cond.value, h1, h2, h3, h4, g1, g2, g3, g4, g5, g6]
def isCode : Jvm.Cond → Bool
  | .code _ _ _ _ => true
  | _ => false
theorem all_split {L : List Jvm.Cond} {P : Jvm.Cond → Bool} (h1 : L.all (fun c => isCode c || P c) = true) (h2 : ∀ c ∈ L.filter isCode, P c = true) : L.all P = true := by
  refine List.all_eq_true.mpr fun c hc => ?_
  have h := List.all_eq_true.mp h1 c hc
  rcases Bool.eq_false_or_eq_true (isCode c) with hi | hi
  · exact h2 c (List.mem_filter.mpr ⟨hc, hi⟩)
  · simpa [hi] using h
set_option maxRecDepth 65536 in
theorem w_c0 : (Jvm.Cond.code x code maxLocals ret).before args0 about1 = true := code_word (m := ⟨1, 1⟩) (meth := k1m1) (c := k1c1) (by decide +kernel) rfl rfl rfl (by decide +kernel)
set_option maxRecDepth 65536 in
theorem w_c1 : (Jvm.Cond.code ({ cls := "java/util/ArrayList", name := "<init>", desc := "()V" } : Jvm.MethodName) jdk_38_method_2_code (1 : Nat) (Option.none : Option Jvm.ClassFile.FieldType)).before args0 about1 = true := code_word (m := ⟨11, 0⟩) (meth := k11m0) (c := k11c0) (by decide +kernel) rfl rfl rfl (by decide +kernel)
set_option maxRecDepth 65536 in
theorem w_c2 : (Jvm.Cond.code ({ cls := "java/util/AbstractList", name := "<init>", desc := "()V" } : Jvm.MethodName) jdk_39_method_1_code (1 : Nat) (Option.none : Option Jvm.ClassFile.FieldType)).before args0 about1 = true := code_word (m := ⟨7, 0⟩) (meth := k7m0) (c := k7c0) (by decide +kernel) rfl rfl rfl (by decide +kernel)
set_option maxRecDepth 65536 in
theorem w_c3 : (Jvm.Cond.code ({ cls := "java/util/AbstractCollection", name := "<init>", desc := "()V" } : Jvm.MethodName) jdk_22_method_1_code (1 : Nat) (Option.none : Option Jvm.ClassFile.FieldType)).before args0 about1 = true := code_word (m := ⟨4, 0⟩) (meth := k4m0) (c := k4c0) (by decide +kernel) rfl rfl rfl (by decide +kernel)
set_option maxRecDepth 65536 in
theorem w_c4 : (Jvm.Cond.code ({ cls := "java/lang/Object", name := "<init>", desc := "()V" } : Jvm.MethodName) object_method_1_code (1 : Nat) (Option.none : Option Jvm.ClassFile.FieldType)).before args0 about1 = true := code_word (m := ⟨0, 0⟩) (meth := k0m0) (c := k0c0) (by decide +kernel) rfl rfl rfl (by decide +kernel)
set_option maxRecDepth 65536 in
theorem w_c5 : (Jvm.Cond.code ({ cls := "java/util/HashSet", name := "<init>", desc := "()V" } : Jvm.MethodName) jdk_93_method_1_code (1 : Nat) (Option.none : Option Jvm.ClassFile.FieldType)).before args0 about1 = true := code_word (m := ⟨14, 0⟩) (meth := k14m0) (c := k14c0) (by decide +kernel) rfl rfl rfl (by decide +kernel)
set_option maxRecDepth 65536 in
theorem w_c6 : (Jvm.Cond.code ({ cls := "java/util/AbstractSet", name := "<init>", desc := "()V" } : Jvm.MethodName) jdk_91_method_1_code (1 : Nat) (Option.none : Option Jvm.ClassFile.FieldType)).before args0 about1 = true := code_word (m := ⟨13, 0⟩) (meth := k13m0) (c := k13c0) (by decide +kernel) rfl rfl rfl (by decide +kernel)
set_option maxRecDepth 65536 in
theorem w_c7 : (Jvm.Cond.code ({ cls := "java/util/HashMap", name := "<init>", desc := "()V" } : Jvm.MethodName) jdk_69_method_7_code (1 : Nat) (Option.none : Option Jvm.ClassFile.FieldType)).before args0 about1 = true := code_word (m := ⟨17, 1⟩) (meth := k17m1) (c := k17c1) (by decide +kernel) rfl rfl rfl (by decide +kernel)
set_option maxRecDepth 65536 in
theorem w_c8 : (Jvm.Cond.code ({ cls := "java/util/AbstractMap", name := "<init>", desc := "()V" } : Jvm.MethodName) jdk_71_method_1_code (1 : Nat) (Option.none : Option Jvm.ClassFile.FieldType)).before args0 about1 = true := code_word (m := ⟨16, 0⟩) (meth := k16m0) (c := k16c0) (by decide +kernel) rfl rfl rfl (by decide +kernel)
set_option maxRecDepth 65536 in
theorem w_c9 : (Jvm.Cond.code ({ cls := "java/lang/String", name := "valueOf", desc := "(C)Ljava/lang/String;" } : Jvm.MethodName) jdk_42_method_139_code (1 : Nat) (Option.some (Jvm.ClassFile.FieldType.object "java/lang/String"))).before args0 about1 = true := code_word (m := ⟨22, 2⟩) (meth := k22m2) (c := k22c2) (by decide +kernel) rfl rfl rfl (by decide +kernel)
set_option maxRecDepth 65536 in
theorem w_c10 : (Jvm.Cond.code ({ cls := "java/lang/StringLatin1", name := "canEncode", desc := "(C)Z" } : Jvm.MethodName) jdk_43_method_3_code (1 : Nat) (Option.some Jvm.ClassFile.FieldType.boolean)).before args0 about1 = true := code_word (m := ⟨23, 1⟩) (meth := k23m1) (c := k23c1) (by decide +kernel) rfl rfl rfl (by decide +kernel)
set_option maxRecDepth 65536 in
theorem w_c11 : (Jvm.Cond.code ({ cls := "java/lang/StringLatin1", name := "toBytes", desc := "(C)[B" } : Jvm.MethodName) jdk_43_method_46_code (1 : Nat) (Option.some (Jvm.ClassFile.FieldType.array Jvm.ClassFile.FieldType.byte))).before args0 about1 = true := code_word (m := ⟨23, 3⟩) (meth := k23m3) (c := k23c3) (by decide +kernel) rfl rfl rfl (by decide +kernel)
set_option maxRecDepth 65536 in
theorem w_c12 : (Jvm.Cond.code ({ cls := "java/lang/String", name := "<init>", desc := "([BB)V" } : Jvm.MethodName) jdk_42_method_151_code (3 : Nat) (Option.none : Option Jvm.ClassFile.FieldType)).before args0 about1 = true := code_word (m := ⟨22, 3⟩) (meth := k22m3) (c := k22c3) (by decide +kernel) rfl rfl rfl (by decide +kernel)
set_option maxRecDepth 65536 in
theorem w_c13 : (Jvm.Cond.code ({ cls := "java/util/HashSet", name := "add", desc := "(Ljava/lang/Object;)Z" } : Jvm.MethodName) jdk_93_method_10_code (2 : Nat) (Option.some Jvm.ClassFile.FieldType.boolean)).before args0 about1 = true := code_word (m := ⟨14, 3⟩) (meth := k14m3) (c := k14c3) (by decide +kernel) rfl rfl rfl (by decide +kernel)
set_option maxRecDepth 65536 in
theorem w_c14 : (Jvm.Cond.code ({ cls := "java/util/HashMap", name := "put", desc := "(Ljava/lang/Object;Ljava/lang/Object;)Ljava/lang/Object;" } : Jvm.MethodName) jdk_69_method_15_code (3 : Nat) (Option.some (Jvm.ClassFile.FieldType.object "java/lang/Object"))).before args0 about1 = true := code_word (m := ⟨17, 5⟩) (meth := k17m5) (c := k17c5) (by decide +kernel) rfl rfl rfl (by decide +kernel)
set_option maxRecDepth 65536 in
theorem w_c15 : (Jvm.Cond.code ({ cls := "java/util/HashMap", name := "hash", desc := "(Ljava/lang/Object;)I" } : Jvm.MethodName) jdk_69_method_1_code (2 : Nat) (Option.some Jvm.ClassFile.FieldType.int)).before args0 about1 = true := code_word (m := ⟨17, 0⟩) (meth := k17m0) (c := k17c0) (by decide +kernel) rfl rfl rfl (by decide +kernel)
set_option maxRecDepth 65536 in
theorem w_c16 : (Jvm.Cond.code ({ cls := "java/lang/String", name := "hashCode", desc := "()I" } : Jvm.MethodName) jdk_42_method_78_code (2 : Nat) (Option.some Jvm.ClassFile.FieldType.int)).before args0 about1 = true := code_word (m := ⟨22, 1⟩) (meth := k22m1) (c := k22c1) (by decide +kernel) rfl rfl rfl (by decide +kernel)
set_option maxRecDepth 65536 in
theorem w_c17 : (Jvm.Cond.code ({ cls := "java/lang/String", name := "isLatin1", desc := "()Z" } : Jvm.MethodName) jdk_42_method_154_code (1 : Nat) (Option.some Jvm.ClassFile.FieldType.boolean)).before args0 about1 = true := code_word (m := ⟨22, 4⟩) (meth := k22m4) (c := k22c4) (by decide +kernel) rfl rfl rfl (by decide +kernel)
set_option maxRecDepth 65536 in
theorem w_c18 : (Jvm.Cond.code ({ cls := "java/lang/StringLatin1", name := "hashCode", desc := "([B)I" } : Jvm.MethodName) jdk_43_method_21_code (1 : Nat) (Option.some Jvm.ClassFile.FieldType.int)).before args0 about1 = true := code_word (m := ⟨23, 2⟩) (meth := k23m2) (c := k23c2) (by decide +kernel) rfl rfl rfl (by decide +kernel)
set_option maxRecDepth 65536 in
theorem w_c19 : (Jvm.Cond.code ({ cls := "java/util/HashMap", name := "putVal", desc := "(ILjava/lang/Object;Ljava/lang/Object;ZZ)Ljava/lang/Object;" } : Jvm.MethodName) jdk_69_method_16_code (13 : Nat) (Option.some (Jvm.ClassFile.FieldType.object "java/lang/Object"))).before args0 about1 = true := code_word (m := ⟨17, 6⟩) (meth := k17m6) (c := k17c6) (by decide +kernel) rfl rfl rfl (by decide +kernel)
set_option maxRecDepth 65536 in
theorem w_c20 : (Jvm.Cond.code ({ cls := "java/util/HashMap", name := "resize", desc := "()[Ljava/util/HashMap$Node;" } : Jvm.MethodName) jdk_69_method_17_code (14 : Nat) (Option.some (Jvm.ClassFile.FieldType.array (Jvm.ClassFile.FieldType.object "java/util/HashMap$Node")))).before args0 about1 = true := code_word (m := ⟨17, 7⟩) (meth := k17m7) (c := k17c7) (by decide +kernel) rfl rfl rfl (by decide +kernel)
set_option maxRecDepth 65536 in
theorem w_c21 : (Jvm.Cond.code ({ cls := "java/util/HashMap", name := "newNode", desc := "(ILjava/lang/Object;Ljava/lang/Object;Ljava/util/HashMap$Node;)Ljava/util/HashMap$Node;" } : Jvm.MethodName) jdk_69_method_46_code (5 : Nat) (Option.some (Jvm.ClassFile.FieldType.object "java/util/HashMap$Node"))).before args0 about1 = true := code_word (m := ⟨17, 8⟩) (meth := k17m8) (c := k17c8) (by decide +kernel) rfl rfl rfl (by decide +kernel)
set_option maxRecDepth 65536 in
theorem w_c22 : (Jvm.Cond.code ({ cls := "java/util/HashMap$Node", name := "<init>", desc := "(ILjava/lang/Object;Ljava/lang/Object;Ljava/util/HashMap$Node;)V" } : Jvm.MethodName) jdk_70_method_1_code (5 : Nat) (Option.none : Option Jvm.ClassFile.FieldType)).before args0 about1 = true := code_word (m := ⟨25, 0⟩) (meth := k25m0) (c := k25c0) (by decide +kernel) rfl rfl rfl (by decide +kernel)
set_option maxRecDepth 65536 in
theorem w_c23 : (Jvm.Cond.code ({ cls := "java/util/HashMap", name := "afterNodeInsertion", desc := "(Z)V" } : Jvm.MethodName) jdk_69_method_52_code (2 : Nat) (Option.none : Option Jvm.ClassFile.FieldType)).before args0 about1 = true := code_word (m := ⟨17, 9⟩) (meth := k17m9) (c := k17c9) (by decide +kernel) rfl rfl rfl (by decide +kernel)
set_option maxRecDepth 65536 in
theorem w_c24 : (Jvm.Cond.code ({ cls := "com/example/avocet/avocet/eval/JudgedRanking", name := "<init>", desc := "(Ljava/util/List;Ljava/util/Set;)V" } : Jvm.MethodName) prog_15_method_1_code (5 : Nat) (Option.none : Option Jvm.ClassFile.FieldType)).before args0 about1 = true := code_word (m := ⟨26, 0⟩) (meth := k26m0) (c := k26c0) (by decide +kernel) rfl rfl rfl (by decide +kernel)
set_option maxRecDepth 65536 in
theorem w_c25 : (Jvm.Cond.code ({ cls := "java/util/List", name := "copyOf", desc := "(Ljava/util/Collection;)Ljava/util/List;" } : Jvm.MethodName) jdk_40_method_48_code (1 : Nat) (Option.some (Jvm.ClassFile.FieldType.object "java/util/List"))).before args0 about1 = true := code_word (m := ⟨6, 4⟩) (meth := k6m4) (c := k6c4) (by decide +kernel) rfl rfl rfl (by decide +kernel)
set_option maxRecDepth 65536 in
theorem w_c26 : (Jvm.Cond.code ({ cls := "java/util/ImmutableCollections", name := "listCopy", desc := "(Ljava/util/Collection;)Ljava/util/List;" } : Jvm.MethodName) jdk_56_method_3_code (2 : Nat) (Option.some (Jvm.ClassFile.FieldType.object "java/util/List"))).before args0 about1 = true := code_word (m := ⟨27, 1⟩) (meth := k27m1) (c := k27c1) (by decide +kernel) rfl rfl rfl (by decide +kernel)
set_option maxRecDepth 65536 in
theorem w_c27 : (Jvm.Cond.code ({ cls := "java/util/ArrayList", name := "isEmpty", desc := "()Z" } : Jvm.MethodName) jdk_38_method_9_code (1 : Nat) (Option.some Jvm.ClassFile.FieldType.boolean)).before args0 about1 = true := code_word (m := ⟨11, 4⟩) (meth := k11m4) (c := k11c4) (by decide +kernel) rfl rfl rfl (by decide +kernel)
set_option maxRecDepth 65536 in
theorem w_c28 : (Jvm.Cond.code ({ cls := "java/util/List", name := "of", desc := "()Ljava/util/List;" } : Jvm.MethodName) jdk_40_method_36_code (0 : Nat) (Option.some (Jvm.ClassFile.FieldType.object "java/util/List"))).before args0 about1 = true := code_word (m := ⟨6, 2⟩) (meth := k6m2) (c := k6c2) (by decide +kernel) rfl rfl rfl (by decide +kernel)
set_option maxRecDepth 65536 in
theorem w_c29 : (Jvm.Cond.code ({ cls := "java/util/ArrayList", name := "size", desc := "()I" } : Jvm.MethodName) jdk_38_method_8_code (1 : Nat) (Option.some Jvm.ClassFile.FieldType.int)).before args0 about1 = true := code_word (m := ⟨11, 3⟩) (meth := k11m3) (c := k11c3) (by decide +kernel) rfl rfl rfl (by decide +kernel)
set_option maxRecDepth 65536 in
theorem w_c30 : (Jvm.Cond.code ({ cls := "java/util/HashSet", name := "size", desc := "()I" } : Jvm.MethodName) jdk_93_method_7_code (1 : Nat) (Option.some Jvm.ClassFile.FieldType.int)).before args0 about1 = true := code_word (m := ⟨14, 1⟩) (meth := k14m1) (c := k14c1) (by decide +kernel) rfl rfl rfl (by decide +kernel)
set_option maxRecDepth 65536 in
theorem w_c31 : (Jvm.Cond.code ({ cls := "java/util/HashMap", name := "size", desc := "()I" } : Jvm.MethodName) jdk_69_method_10_code (1 : Nat) (Option.some Jvm.ClassFile.FieldType.int)).before args0 about1 = true := code_word (m := ⟨17, 2⟩) (meth := k17m2) (c := k17c2) (by decide +kernel) rfl rfl rfl (by decide +kernel)
set_option maxRecDepth 65536 in
theorem w_c32 : (Jvm.Cond.code ({ cls := "com/example/avocet/avocet/eval/JudgedRankingIsRelevantAtPinLaw", name := "check", desc := "(Lcom/example/avocet/avocet/eval/JudgedRanking;III)Z" } : Jvm.MethodName) method_4_code (5 : Nat) (Option.some Jvm.ClassFile.FieldType.boolean)).before args0 about1 = true := code_word (m := ⟨1, 3⟩) (meth := k1m3) (c := k1c3) (by decide +kernel) rfl rfl rfl (by decide +kernel)
set_option maxRecDepth 65536 in
theorem w_c33 : (Jvm.Cond.code ({ cls := "com/example/avocet/avocet/eval/JudgedRankingIsRelevantAtPinLaw", name := "put", desc := "(Ljava/util/ArrayList;Ljava/util/HashSet;CII)V" } : Jvm.MethodName) method_3_code (6 : Nat) (Option.none : Option Jvm.ClassFile.FieldType)).before args0 about1 = true := code_word (m := ⟨1, 2⟩) (meth := k1m2) (c := k1c2) (by decide +kernel) rfl rfl rfl (by decide +kernel)
set_option maxRecDepth 65536 in
theorem w_c34 : (Jvm.Cond.code ({ cls := "java/util/ArrayList", name := "add", desc := "(Ljava/lang/Object;)Z" } : Jvm.MethodName) jdk_38_method_25_code (2 : Nat) (Option.some Jvm.ClassFile.FieldType.boolean)).before args0 about1 = true := code_word (m := ⟨11, 9⟩) (meth := k11m9) (c := k11c9) (by decide +kernel) rfl rfl rfl (by decide +kernel)
set_option maxRecDepth 65536 in
theorem w_c35 : (Jvm.Cond.code ({ cls := "java/util/ArrayList", name := "add", desc := "(Ljava/lang/Object;[Ljava/lang/Object;I)V" } : Jvm.MethodName) jdk_38_method_24_code (4 : Nat) (Option.none : Option Jvm.ClassFile.FieldType)).before args0 about1 = true := code_word (m := ⟨11, 8⟩) (meth := k11m8) (c := k11c8) (by decide +kernel) rfl rfl rfl (by decide +kernel)
set_option maxRecDepth 65536 in
theorem w_c36 : (Jvm.Cond.code ({ cls := "java/util/ArrayList", name := "grow", desc := "()[Ljava/lang/Object;" } : Jvm.MethodName) jdk_38_method_7_code (1 : Nat) (Option.some (Jvm.ClassFile.FieldType.array (Jvm.ClassFile.FieldType.object "java/lang/Object")))).before args0 about1 = true := code_word (m := ⟨11, 2⟩) (meth := k11m2) (c := k11c2) (by decide +kernel) rfl rfl rfl (by decide +kernel)
set_option maxRecDepth 65536 in
theorem w_c37 : (Jvm.Cond.code ({ cls := "java/util/ArrayList", name := "grow", desc := "(I)[Ljava/lang/Object;" } : Jvm.MethodName) jdk_38_method_6_code (4 : Nat) (Option.some (Jvm.ClassFile.FieldType.array (Jvm.ClassFile.FieldType.object "java/lang/Object")))).before args0 about1 = true := code_word (m := ⟨11, 1⟩) (meth := k11m1) (c := k11c1) (by decide +kernel) rfl rfl rfl (by decide +kernel)
set_option maxRecDepth 65536 in
theorem w_c38 : (Jvm.Cond.code ({ cls := "java/lang/Math", name := "max", desc := "(II)I" } : Jvm.MethodName) jdk_29_method_65_code (2 : Nat) (Option.some Jvm.ClassFile.FieldType.int)).before args0 about1 = true := code_word (m := ⟨32, 1⟩) (meth := k32m1) (c := k32c1) (by decide +kernel) rfl rfl rfl (by decide +kernel)
set_option maxRecDepth 65536 in
theorem w_c39 : (Jvm.Cond.code ({ cls := "java/util/ArrayList", name := "toArray", desc := "()[Ljava/lang/Object;" } : Jvm.MethodName) jdk_38_method_16_code (1 : Nat) (Option.some (Jvm.ClassFile.FieldType.array (Jvm.ClassFile.FieldType.object "java/lang/Object")))).before args0 about1 = true := code_word (m := ⟨11, 5⟩) (meth := k11m5) (c := k11c5) (by decide +kernel) rfl rfl rfl (by decide +kernel)
set_option maxRecDepth 65536 in
theorem w_c40 : (Jvm.Cond.code ({ cls := "java/util/Arrays", name := "copyOf", desc := "([Ljava/lang/Object;I)[Ljava/lang/Object;" } : Jvm.MethodName) jdk_65_method_119_code (2 : Nat) (Option.some (Jvm.ClassFile.FieldType.array (Jvm.ClassFile.FieldType.object "java/lang/Object")))).before args0 about1 = true := code_word (m := ⟨33, 1⟩) (meth := k33m1) (c := k33c1) (by decide +kernel) rfl rfl rfl (by decide +kernel)
set_option maxRecDepth 65536 in
theorem w_c41 : (Jvm.Cond.code ({ cls := "java/util/Arrays", name := "copyOf", desc := "([Ljava/lang/Object;ILjava/lang/Class;)[Ljava/lang/Object;" } : Jvm.MethodName) jdk_65_method_120_code (4 : Nat) (Option.some (Jvm.ClassFile.FieldType.array (Jvm.ClassFile.FieldType.object "java/lang/Object")))).before args0 about1 = true := code_word (m := ⟨33, 2⟩) (meth := k33m2) (c := k33c2) (by decide +kernel) rfl rfl rfl (by decide +kernel)
set_option maxRecDepth 65536 in
theorem w_c42 : (Jvm.Cond.code ({ cls := "java/lang/Math", name := "min", desc := "(II)I" } : Jvm.MethodName) jdk_29_method_69_code (2 : Nat) (Option.some Jvm.ClassFile.FieldType.int)).before args0 about1 = true := code_word (m := ⟨32, 2⟩) (meth := k32m2) (c := k32c2) (by decide +kernel) rfl rfl rfl (by decide +kernel)
set_option maxRecDepth 65536 in
theorem w_c43 : (Jvm.Cond.code ({ cls := "java/util/List", name := "of", desc := "([Ljava/lang/Object;)Ljava/util/List;" } : Jvm.MethodName) jdk_40_method_47_code (2 : Nat) (Option.some (Jvm.ClassFile.FieldType.object "java/util/List"))).before args0 about1 = true := code_word (m := ⟨6, 3⟩) (meth := k6m3) (c := k6c3) (by decide +kernel) rfl rfl rfl (by decide +kernel)
set_option maxRecDepth 65536 in
theorem w_c44 : (Jvm.Cond.code ({ cls := "java/util/ImmutableCollections$List12", name := "<init>", desc := "(Ljava/lang/Object;Ljava/lang/Object;)V" } : Jvm.MethodName) jdk_44_method_2_code (3 : Nat) (Option.none : Option Jvm.ClassFile.FieldType)).before args0 about1 = true := code_word (m := ⟨30, 1⟩) (meth := k30m1) (c := k30c1) (by decide +kernel) rfl rfl rfl (by decide +kernel)
set_option maxRecDepth 65536 in
theorem w_c45 : (Jvm.Cond.code ({ cls := "java/util/ImmutableCollections$AbstractImmutableList", name := "<init>", desc := "()V" } : Jvm.MethodName) jdk_46_method_1_code (1 : Nat) (Option.none : Option Jvm.ClassFile.FieldType)).before args0 about1 = true := code_word (m := ⟨29, 0⟩) (meth := k29m0) (c := k29c0) (by decide +kernel) rfl rfl rfl (by decide +kernel)
set_option maxRecDepth 65536 in
theorem w_c46 : (Jvm.Cond.code ({ cls := "java/util/ImmutableCollections$AbstractImmutableCollection", name := "<init>", desc := "()V" } : Jvm.MethodName) jdk_47_method_1_code (1 : Nat) (Option.none : Option Jvm.ClassFile.FieldType)).before args0 about1 = true := code_word (m := ⟨28, 0⟩) (meth := k28m0) (c := k28c0) (by decide +kernel) rfl rfl rfl (by decide +kernel)
set_option maxRecDepth 65536 in
theorem w_c47 : (Jvm.Cond.code ({ cls := "java/util/Objects", name := "requireNonNull", desc := "(Ljava/lang/Object;)Ljava/lang/Object;" } : Jvm.MethodName) jdk_31_method_10_code (1 : Nat) (Option.some (Jvm.ClassFile.FieldType.object "java/lang/Object"))).before args0 about1 = true := code_word (m := ⟨35, 1⟩) (meth := k35m1) (c := k35c1) (by decide +kernel) rfl rfl rfl (by decide +kernel)
set_option maxRecDepth 65536 in
theorem w_c48 : (Jvm.Cond.code ({ cls := "java/util/ArrayList", name := "get", desc := "(I)Ljava/lang/Object;" } : Jvm.MethodName) jdk_38_method_20_code (2 : Nat) (Option.some (Jvm.ClassFile.FieldType.object "java/lang/Object"))).before args0 about1 = true := code_word (m := ⟨11, 7⟩) (meth := k11m7) (c := k11c7) (by decide +kernel) rfl rfl rfl (by decide +kernel)
set_option maxRecDepth 65536 in
theorem w_c49 : (Jvm.Cond.code ({ cls := "java/util/Objects", name := "checkIndex", desc := "(II)I" } : Jvm.MethodName) jdk_31_method_17_code (2 : Nat) (Option.some Jvm.ClassFile.FieldType.int)).before args0 about1 = true := code_word (m := ⟨35, 2⟩) (meth := k35m2) (c := k35c2) (by decide +kernel) rfl rfl rfl (by decide +kernel)
set_option maxRecDepth 65536 in
theorem w_c50 : (Jvm.Cond.code ({ cls := "jdk/internal/util/Preconditions", name := "checkIndex", desc := "(IILjava/util/function/BiFunction;)I" } : Jvm.MethodName) jdk_41_method_11_code (3 : Nat) (Option.some Jvm.ClassFile.FieldType.int)).before args0 about1 = true := code_word (m := ⟨36, 1⟩) (meth := k36m1) (c := k36c1) (by decide +kernel) rfl rfl rfl (by decide +kernel)
set_option maxRecDepth 65536 in
theorem w_c51 : (Jvm.Cond.code ({ cls := "java/util/ArrayList", name := "elementData", desc := "(I)Ljava/lang/Object;" } : Jvm.MethodName) jdk_38_method_18_code (2 : Nat) (Option.some (Jvm.ClassFile.FieldType.object "java/lang/Object"))).before args0 about1 = true := code_word (m := ⟨11, 6⟩) (meth := k11m6) (c := k11c6) (by decide +kernel) rfl rfl rfl (by decide +kernel)
set_option maxRecDepth 65536 in
theorem w_c52 : (Jvm.Cond.code ({ cls := "java/util/HashSet", name := "contains", desc := "(Ljava/lang/Object;)Z" } : Jvm.MethodName) jdk_93_method_9_code (2 : Nat) (Option.some Jvm.ClassFile.FieldType.boolean)).before args0 about1 = true := code_word (m := ⟨14, 2⟩) (meth := k14m2) (c := k14c2) (by decide +kernel) rfl rfl rfl (by decide +kernel)
set_option maxRecDepth 65536 in
theorem w_c53 : (Jvm.Cond.code ({ cls := "java/util/HashMap", name := "containsKey", desc := "(Ljava/lang/Object;)Z" } : Jvm.MethodName) jdk_69_method_14_code (2 : Nat) (Option.some Jvm.ClassFile.FieldType.boolean)).before args0 about1 = true := code_word (m := ⟨17, 4⟩) (meth := k17m4) (c := k17c4) (by decide +kernel) rfl rfl rfl (by decide +kernel)
set_option maxRecDepth 65536 in
theorem w_c54 : (Jvm.Cond.code ({ cls := "java/util/HashMap", name := "getNode", desc := "(Ljava/lang/Object;)Ljava/util/HashMap$Node;" } : Jvm.MethodName) jdk_69_method_13_code (8 : Nat) (Option.some (Jvm.ClassFile.FieldType.object "java/util/HashMap$Node"))).before args0 about1 = true := code_word (m := ⟨17, 3⟩) (meth := k17m3) (c := k17c3) (by decide +kernel) rfl rfl rfl (by decide +kernel)
set_option maxRecDepth 65536 in
theorem w_c55 : (Jvm.Cond.code ({ cls := "com/example/avocet/avocet/eval/JudgedRanking", name := "isRelevantAt", desc := "(I)Z" } : Jvm.MethodName) prog_15_method_4_code (2 : Nat) (Option.some Jvm.ClassFile.FieldType.boolean)).before args0 about1 = true := code_word (m := ⟨26, 1⟩) (meth := k26m1) (c := k26c1) (by decide +kernel) rfl rfl rfl (by decide +kernel)
set_option maxRecDepth 65536 in
theorem w_c56 : (Jvm.Cond.code ({ cls := "java/util/ImmutableCollections", name := "listFromArray", desc := "([Ljava/lang/Object;)Ljava/util/List;" } : Jvm.MethodName) jdk_56_method_4_code (3 : Nat) (Option.some (Jvm.ClassFile.FieldType.object "java/util/List"))).before args0 about1 = true := code_word (m := ⟨27, 2⟩) (meth := k27m2) (c := k27c2) (by decide +kernel) rfl rfl rfl (by decide +kernel)
set_option maxRecDepth 65536 in
theorem w_c57 : (Jvm.Cond.code ({ cls := "java/util/ImmutableCollections$ListN", name := "<init>", desc := "([Ljava/lang/Object;Z)V" } : Jvm.MethodName) jdk_45_method_1_code (3 : Nat) (Option.none : Option Jvm.ClassFile.FieldType)).before args0 about1 = true := code_word (m := ⟨31, 0⟩) (meth := k31m0) (c := k31c0) (by decide +kernel) rfl rfl rfl (by decide +kernel)
set_option maxRecDepth 65536 in
theorem w_c58 : (Jvm.Cond.code ({ cls := "java/util/ImmutableCollections$List12", name := "<init>", desc := "(Ljava/lang/Object;)V" } : Jvm.MethodName) jdk_44_method_1_code (2 : Nat) (Option.none : Option Jvm.ClassFile.FieldType)).before args0 about1 = true := code_word (m := ⟨30, 0⟩) (meth := k30m0) (c := k30c0) (by decide +kernel) rfl rfl rfl (by decide +kernel)
set_option maxRecDepth 65536 in
theorem w_c59 : (Jvm.Cond.code ({ cls := "java/lang/StringUTF16", name := "toBytes", desc := "(C)[B" } : Jvm.MethodName) jdk_52_method_24_code (2 : Nat) (Option.some (Jvm.ClassFile.FieldType.array Jvm.ClassFile.FieldType.byte))).before args0 about1 = true := code_word (m := ⟨37, 3⟩) (meth := k37m3) (c := k37c3) (by decide +kernel) rfl rfl rfl (by decide +kernel)
set_option maxRecDepth 65536 in
theorem w_c60 : (Jvm.Cond.code ({ cls := "java/lang/StringUTF16", name := "putChar", desc := "([BII)V" } : Jvm.MethodName) jdk_52_method_4_code (3 : Nat) (Option.none : Option Jvm.ClassFile.FieldType)).before args0 about1 = true := code_word (m := ⟨37, 1⟩) (meth := k37m1) (c := k37c1) (by decide +kernel) rfl rfl rfl (by decide +kernel)
set_option maxRecDepth 65536 in
theorem w_c61 : (Jvm.Cond.code ({ cls := "java/lang/StringUTF16", name := "hashCode", desc := "([B)I" } : Jvm.MethodName) jdk_52_method_39_code (1 : Nat) (Option.some Jvm.ClassFile.FieldType.int)).before args0 about1 = true := code_word (m := ⟨37, 4⟩) (meth := k37m4) (c := k37c4) (by decide +kernel) rfl rfl rfl (by decide +kernel)
set_option maxRecDepth 65536 in
theorem w_c62 : (Jvm.Cond.code ({ cls := "java/lang/StringUTF16", name := "getChar", desc := "([BI)C" } : Jvm.MethodName) jdk_52_method_5_code (2 : Nat) (Option.some Jvm.ClassFile.FieldType.char)).before args0 about1 = true := code_word (m := ⟨37, 2⟩) (meth := k37m2) (c := k37c2) (by decide +kernel) rfl rfl rfl (by decide +kernel)
def codes1 : List Jvm.Cond := [Jvm.Cond.code x code maxLocals ret, Jvm.Cond.code ({ cls := "java/util/ArrayList", name := "<init>", desc := "()V" } : Jvm.MethodName) jdk_38_method_2_code (1 : Nat) (Option.none : Option Jvm.ClassFile.FieldType), Jvm.Cond.code ({ cls := "java/util/AbstractList", name := "<init>", desc := "()V" } : Jvm.MethodName) jdk_39_method_1_code (1 : Nat) (Option.none : Option Jvm.ClassFile.FieldType), Jvm.Cond.code ({ cls := "java/util/AbstractCollection", name := "<init>", desc := "()V" } : Jvm.MethodName) jdk_22_method_1_code (1 : Nat) (Option.none : Option Jvm.ClassFile.FieldType), Jvm.Cond.code ({ cls := "java/lang/Object", name := "<init>", desc := "()V" } : Jvm.MethodName) object_method_1_code (1 : Nat) (Option.none : Option Jvm.ClassFile.FieldType), Jvm.Cond.code ({ cls := "java/util/HashSet", name := "<init>", desc := "()V" } : Jvm.MethodName) jdk_93_method_1_code (1 : Nat) (Option.none : Option Jvm.ClassFile.FieldType), Jvm.Cond.code ({ cls := "java/util/AbstractSet", name := "<init>", desc := "()V" } : Jvm.MethodName) jdk_91_method_1_code (1 : Nat) (Option.none : Option Jvm.ClassFile.FieldType), Jvm.Cond.code ({ cls := "java/util/HashMap", name := "<init>", desc := "()V" } : Jvm.MethodName) jdk_69_method_7_code (1 : Nat) (Option.none : Option Jvm.ClassFile.FieldType), Jvm.Cond.code ({ cls := "java/util/AbstractMap", name := "<init>", desc := "()V" } : Jvm.MethodName) jdk_71_method_1_code (1 : Nat) (Option.none : Option Jvm.ClassFile.FieldType), Jvm.Cond.code ({ cls := "java/lang/String", name := "valueOf", desc := "(C)Ljava/lang/String;" } : Jvm.MethodName) jdk_42_method_139_code (1 : Nat) (Option.some (Jvm.ClassFile.FieldType.object "java/lang/String")), Jvm.Cond.code ({ cls := "java/lang/StringLatin1", name := "canEncode", desc := "(C)Z" } : Jvm.MethodName) jdk_43_method_3_code (1 : Nat) (Option.some Jvm.ClassFile.FieldType.boolean), Jvm.Cond.code ({ cls := "java/lang/StringLatin1", name := "toBytes", desc := "(C)[B" } : Jvm.MethodName) jdk_43_method_46_code (1 : Nat) (Option.some (Jvm.ClassFile.FieldType.array Jvm.ClassFile.FieldType.byte)), Jvm.Cond.code ({ cls := "java/lang/String", name := "<init>", desc := "([BB)V" } : Jvm.MethodName) jdk_42_method_151_code (3 : Nat) (Option.none : Option Jvm.ClassFile.FieldType), Jvm.Cond.code ({ cls := "java/util/HashSet", name := "add", desc := "(Ljava/lang/Object;)Z" } : Jvm.MethodName) jdk_93_method_10_code (2 : Nat) (Option.some Jvm.ClassFile.FieldType.boolean), Jvm.Cond.code ({ cls := "java/util/HashMap", name := "put", desc := "(Ljava/lang/Object;Ljava/lang/Object;)Ljava/lang/Object;" } : Jvm.MethodName) jdk_69_method_15_code (3 : Nat) (Option.some (Jvm.ClassFile.FieldType.object "java/lang/Object")), Jvm.Cond.code ({ cls := "java/util/HashMap", name := "hash", desc := "(Ljava/lang/Object;)I" } : Jvm.MethodName) jdk_69_method_1_code (2 : Nat) (Option.some Jvm.ClassFile.FieldType.int), Jvm.Cond.code ({ cls := "java/lang/String", name := "hashCode", desc := "()I" } : Jvm.MethodName) jdk_42_method_78_code (2 : Nat) (Option.some Jvm.ClassFile.FieldType.int), Jvm.Cond.code ({ cls := "java/lang/String", name := "isLatin1", desc := "()Z" } : Jvm.MethodName) jdk_42_method_154_code (1 : Nat) (Option.some Jvm.ClassFile.FieldType.boolean), Jvm.Cond.code ({ cls := "java/lang/StringLatin1", name := "hashCode", desc := "([B)I" } : Jvm.MethodName) jdk_43_method_21_code (1 : Nat) (Option.some Jvm.ClassFile.FieldType.int), Jvm.Cond.code ({ cls := "java/util/HashMap", name := "putVal", desc := "(ILjava/lang/Object;Ljava/lang/Object;ZZ)Ljava/lang/Object;" } : Jvm.MethodName) jdk_69_method_16_code (13 : Nat) (Option.some (Jvm.ClassFile.FieldType.object "java/lang/Object")), Jvm.Cond.code ({ cls := "java/util/HashMap", name := "resize", desc := "()[Ljava/util/HashMap$Node;" } : Jvm.MethodName) jdk_69_method_17_code (14 : Nat) (Option.some (Jvm.ClassFile.FieldType.array (Jvm.ClassFile.FieldType.object "java/util/HashMap$Node"))), Jvm.Cond.code ({ cls := "java/util/HashMap", name := "newNode", desc := "(ILjava/lang/Object;Ljava/lang/Object;Ljava/util/HashMap$Node;)Ljava/util/HashMap$Node;" } : Jvm.MethodName) jdk_69_method_46_code (5 : Nat) (Option.some (Jvm.ClassFile.FieldType.object "java/util/HashMap$Node")), Jvm.Cond.code ({ cls := "java/util/HashMap$Node", name := "<init>", desc := "(ILjava/lang/Object;Ljava/lang/Object;Ljava/util/HashMap$Node;)V" } : Jvm.MethodName) jdk_70_method_1_code (5 : Nat) (Option.none : Option Jvm.ClassFile.FieldType), Jvm.Cond.code ({ cls := "java/util/HashMap", name := "afterNodeInsertion", desc := "(Z)V" } : Jvm.MethodName) jdk_69_method_52_code (2 : Nat) (Option.none : Option Jvm.ClassFile.FieldType), Jvm.Cond.code ({ cls := "com/example/avocet/avocet/eval/JudgedRanking", name := "<init>", desc := "(Ljava/util/List;Ljava/util/Set;)V" } : Jvm.MethodName) prog_15_method_1_code (5 : Nat) (Option.none : Option Jvm.ClassFile.FieldType), Jvm.Cond.code ({ cls := "java/util/List", name := "copyOf", desc := "(Ljava/util/Collection;)Ljava/util/List;" } : Jvm.MethodName) jdk_40_method_48_code (1 : Nat) (Option.some (Jvm.ClassFile.FieldType.object "java/util/List")), Jvm.Cond.code ({ cls := "java/util/ImmutableCollections", name := "listCopy", desc := "(Ljava/util/Collection;)Ljava/util/List;" } : Jvm.MethodName) jdk_56_method_3_code (2 : Nat) (Option.some (Jvm.ClassFile.FieldType.object "java/util/List")), Jvm.Cond.code ({ cls := "java/util/ArrayList", name := "isEmpty", desc := "()Z" } : Jvm.MethodName) jdk_38_method_9_code (1 : Nat) (Option.some Jvm.ClassFile.FieldType.boolean), Jvm.Cond.code ({ cls := "java/util/List", name := "of", desc := "()Ljava/util/List;" } : Jvm.MethodName) jdk_40_method_36_code (0 : Nat) (Option.some (Jvm.ClassFile.FieldType.object "java/util/List")), Jvm.Cond.code ({ cls := "java/util/ArrayList", name := "size", desc := "()I" } : Jvm.MethodName) jdk_38_method_8_code (1 : Nat) (Option.some Jvm.ClassFile.FieldType.int), Jvm.Cond.code ({ cls := "java/util/HashSet", name := "size", desc := "()I" } : Jvm.MethodName) jdk_93_method_7_code (1 : Nat) (Option.some Jvm.ClassFile.FieldType.int), Jvm.Cond.code ({ cls := "java/util/HashMap", name := "size", desc := "()I" } : Jvm.MethodName) jdk_69_method_10_code (1 : Nat) (Option.some Jvm.ClassFile.FieldType.int), Jvm.Cond.code ({ cls := "com/example/avocet/avocet/eval/JudgedRankingIsRelevantAtPinLaw", name := "check", desc := "(Lcom/example/avocet/avocet/eval/JudgedRanking;III)Z" } : Jvm.MethodName) method_4_code (5 : Nat) (Option.some Jvm.ClassFile.FieldType.boolean), Jvm.Cond.code ({ cls := "com/example/avocet/avocet/eval/JudgedRankingIsRelevantAtPinLaw", name := "put", desc := "(Ljava/util/ArrayList;Ljava/util/HashSet;CII)V" } : Jvm.MethodName) method_3_code (6 : Nat) (Option.none : Option Jvm.ClassFile.FieldType), Jvm.Cond.code ({ cls := "java/util/ArrayList", name := "add", desc := "(Ljava/lang/Object;)Z" } : Jvm.MethodName) jdk_38_method_25_code (2 : Nat) (Option.some Jvm.ClassFile.FieldType.boolean), Jvm.Cond.code ({ cls := "java/util/ArrayList", name := "add", desc := "(Ljava/lang/Object;[Ljava/lang/Object;I)V" } : Jvm.MethodName) jdk_38_method_24_code (4 : Nat) (Option.none : Option Jvm.ClassFile.FieldType), Jvm.Cond.code ({ cls := "java/util/ArrayList", name := "grow", desc := "()[Ljava/lang/Object;" } : Jvm.MethodName) jdk_38_method_7_code (1 : Nat) (Option.some (Jvm.ClassFile.FieldType.array (Jvm.ClassFile.FieldType.object "java/lang/Object"))), Jvm.Cond.code ({ cls := "java/util/ArrayList", name := "grow", desc := "(I)[Ljava/lang/Object;" } : Jvm.MethodName) jdk_38_method_6_code (4 : Nat) (Option.some (Jvm.ClassFile.FieldType.array (Jvm.ClassFile.FieldType.object "java/lang/Object"))), Jvm.Cond.code ({ cls := "java/lang/Math", name := "max", desc := "(II)I" } : Jvm.MethodName) jdk_29_method_65_code (2 : Nat) (Option.some Jvm.ClassFile.FieldType.int), Jvm.Cond.code ({ cls := "java/util/ArrayList", name := "toArray", desc := "()[Ljava/lang/Object;" } : Jvm.MethodName) jdk_38_method_16_code (1 : Nat) (Option.some (Jvm.ClassFile.FieldType.array (Jvm.ClassFile.FieldType.object "java/lang/Object"))), Jvm.Cond.code ({ cls := "java/util/Arrays", name := "copyOf", desc := "([Ljava/lang/Object;I)[Ljava/lang/Object;" } : Jvm.MethodName) jdk_65_method_119_code (2 : Nat) (Option.some (Jvm.ClassFile.FieldType.array (Jvm.ClassFile.FieldType.object "java/lang/Object"))), Jvm.Cond.code ({ cls := "java/util/Arrays", name := "copyOf", desc := "([Ljava/lang/Object;ILjava/lang/Class;)[Ljava/lang/Object;" } : Jvm.MethodName) jdk_65_method_120_code (4 : Nat) (Option.some (Jvm.ClassFile.FieldType.array (Jvm.ClassFile.FieldType.object "java/lang/Object"))), Jvm.Cond.code ({ cls := "java/lang/Math", name := "min", desc := "(II)I" } : Jvm.MethodName) jdk_29_method_69_code (2 : Nat) (Option.some Jvm.ClassFile.FieldType.int), Jvm.Cond.code ({ cls := "java/util/List", name := "of", desc := "([Ljava/lang/Object;)Ljava/util/List;" } : Jvm.MethodName) jdk_40_method_47_code (2 : Nat) (Option.some (Jvm.ClassFile.FieldType.object "java/util/List")), Jvm.Cond.code ({ cls := "java/util/ImmutableCollections$List12", name := "<init>", desc := "(Ljava/lang/Object;Ljava/lang/Object;)V" } : Jvm.MethodName) jdk_44_method_2_code (3 : Nat) (Option.none : Option Jvm.ClassFile.FieldType), Jvm.Cond.code ({ cls := "java/util/ImmutableCollections$AbstractImmutableList", name := "<init>", desc := "()V" } : Jvm.MethodName) jdk_46_method_1_code (1 : Nat) (Option.none : Option Jvm.ClassFile.FieldType), Jvm.Cond.code ({ cls := "java/util/ImmutableCollections$AbstractImmutableCollection", name := "<init>", desc := "()V" } : Jvm.MethodName) jdk_47_method_1_code (1 : Nat) (Option.none : Option Jvm.ClassFile.FieldType), Jvm.Cond.code ({ cls := "java/util/Objects", name := "requireNonNull", desc := "(Ljava/lang/Object;)Ljava/lang/Object;" } : Jvm.MethodName) jdk_31_method_10_code (1 : Nat) (Option.some (Jvm.ClassFile.FieldType.object "java/lang/Object")), Jvm.Cond.code ({ cls := "java/util/ArrayList", name := "get", desc := "(I)Ljava/lang/Object;" } : Jvm.MethodName) jdk_38_method_20_code (2 : Nat) (Option.some (Jvm.ClassFile.FieldType.object "java/lang/Object")), Jvm.Cond.code ({ cls := "java/util/Objects", name := "checkIndex", desc := "(II)I" } : Jvm.MethodName) jdk_31_method_17_code (2 : Nat) (Option.some Jvm.ClassFile.FieldType.int), Jvm.Cond.code ({ cls := "jdk/internal/util/Preconditions", name := "checkIndex", desc := "(IILjava/util/function/BiFunction;)I" } : Jvm.MethodName) jdk_41_method_11_code (3 : Nat) (Option.some Jvm.ClassFile.FieldType.int), Jvm.Cond.code ({ cls := "java/util/ArrayList", name := "elementData", desc := "(I)Ljava/lang/Object;" } : Jvm.MethodName) jdk_38_method_18_code (2 : Nat) (Option.some (Jvm.ClassFile.FieldType.object "java/lang/Object")), Jvm.Cond.code ({ cls := "java/util/HashSet", name := "contains", desc := "(Ljava/lang/Object;)Z" } : Jvm.MethodName) jdk_93_method_9_code (2 : Nat) (Option.some Jvm.ClassFile.FieldType.boolean), Jvm.Cond.code ({ cls := "java/util/HashMap", name := "containsKey", desc := "(Ljava/lang/Object;)Z" } : Jvm.MethodName) jdk_69_method_14_code (2 : Nat) (Option.some Jvm.ClassFile.FieldType.boolean), Jvm.Cond.code ({ cls := "java/util/HashMap", name := "getNode", desc := "(Ljava/lang/Object;)Ljava/util/HashMap$Node;" } : Jvm.MethodName) jdk_69_method_13_code (8 : Nat) (Option.some (Jvm.ClassFile.FieldType.object "java/util/HashMap$Node")), Jvm.Cond.code ({ cls := "com/example/avocet/avocet/eval/JudgedRanking", name := "isRelevantAt", desc := "(I)Z" } : Jvm.MethodName) prog_15_method_4_code (2 : Nat) (Option.some Jvm.ClassFile.FieldType.boolean), Jvm.Cond.code ({ cls := "java/util/ImmutableCollections", name := "listFromArray", desc := "([Ljava/lang/Object;)Ljava/util/List;" } : Jvm.MethodName) jdk_56_method_4_code (3 : Nat) (Option.some (Jvm.ClassFile.FieldType.object "java/util/List")), Jvm.Cond.code ({ cls := "java/util/ImmutableCollections$ListN", name := "<init>", desc := "([Ljava/lang/Object;Z)V" } : Jvm.MethodName) jdk_45_method_1_code (3 : Nat) (Option.none : Option Jvm.ClassFile.FieldType), Jvm.Cond.code ({ cls := "java/util/ImmutableCollections$List12", name := "<init>", desc := "(Ljava/lang/Object;)V" } : Jvm.MethodName) jdk_44_method_1_code (2 : Nat) (Option.none : Option Jvm.ClassFile.FieldType), Jvm.Cond.code ({ cls := "java/lang/StringUTF16", name := "toBytes", desc := "(C)[B" } : Jvm.MethodName) jdk_52_method_24_code (2 : Nat) (Option.some (Jvm.ClassFile.FieldType.array Jvm.ClassFile.FieldType.byte)), Jvm.Cond.code ({ cls := "java/lang/StringUTF16", name := "putChar", desc := "([BII)V" } : Jvm.MethodName) jdk_52_method_4_code (3 : Nat) (Option.none : Option Jvm.ClassFile.FieldType), Jvm.Cond.code ({ cls := "java/lang/StringUTF16", name := "hashCode", desc := "([B)I" } : Jvm.MethodName) jdk_52_method_39_code (1 : Nat) (Option.some Jvm.ClassFile.FieldType.int), Jvm.Cond.code ({ cls := "java/lang/StringUTF16", name := "getChar", desc := "([BI)C" } : Jvm.MethodName) jdk_52_method_5_code (2 : Nat) (Option.some Jvm.ClassFile.FieldType.char)]
set_option maxRecDepth 65536 in
theorem codes_eq : words1.filter isCode = codes1 := rfl
theorem w_codes : ∀ c ∈ words1.filter isCode, c.before args0 about1 = true := by
  rw [codes_eq]
  intro c hc
  simp only [codes1, List.mem_cons, List.not_mem_nil, or_false] at hc
  rcases hc with rfl | rfl | rfl | rfl | rfl | rfl | rfl | rfl | rfl | rfl | rfl | rfl | rfl | rfl | rfl | rfl | rfl | rfl | rfl | rfl | rfl | rfl | rfl | rfl | rfl | rfl | rfl | rfl | rfl | rfl | rfl | rfl | rfl | rfl | rfl | rfl | rfl | rfl | rfl | rfl | rfl | rfl | rfl | rfl | rfl | rfl | rfl | rfl | rfl | rfl | rfl | rfl | rfl | rfl | rfl | rfl | rfl | rfl | rfl | rfl | rfl | rfl | rfl
  · exact w_c0
  · exact w_c1
  · exact w_c2
  · exact w_c3
  · exact w_c4
  · exact w_c5
  · exact w_c6
  · exact w_c7
  · exact w_c8
  · exact w_c9
  · exact w_c10
  · exact w_c11
  · exact w_c12
  · exact w_c13
  · exact w_c14
  · exact w_c15
  · exact w_c16
  · exact w_c17
  · exact w_c18
  · exact w_c19
  · exact w_c20
  · exact w_c21
  · exact w_c22
  · exact w_c23
  · exact w_c24
  · exact w_c25
  · exact w_c26
  · exact w_c27
  · exact w_c28
  · exact w_c29
  · exact w_c30
  · exact w_c31
  · exact w_c32
  · exact w_c33
  · exact w_c34
  · exact w_c35
  · exact w_c36
  · exact w_c37
  · exact w_c38
  · exact w_c39
  · exact w_c40
  · exact w_c41
  · exact w_c42
  · exact w_c43
  · exact w_c44
  · exact w_c45
  · exact w_c46
  · exact w_c47
  · exact w_c48
  · exact w_c49
  · exact w_c50
  · exact w_c51
  · exact w_c52
  · exact w_c53
  · exact w_c54
  · exact w_c55
  · exact w_c56
  · exact w_c57
  · exact w_c58
  · exact w_c59
  · exact w_c60
  · exact w_c61
  · exact w_c62
set_option maxRecDepth 65536 in
theorem w_t1 : (words1.take 24).all (fun c => isCode c || c.before args0 about1) = true := by decide +kernel
set_option maxRecDepth 65536 in
theorem w_t2 : ((words1.drop 24).take 24).all (fun c => isCode c || c.before args0 about1) = true := by decide +kernel
set_option maxRecDepth 65536 in
theorem w_t3 : (((words1.drop 24).drop 24).take 24).all (fun c => isCode c || c.before args0 about1) = true := by decide +kernel
set_option maxRecDepth 65536 in
theorem w_t4 : ((((words1.drop 24).drop 24).drop 24).take 24).all (fun c => isCode c || c.before args0 about1) = true := by decide +kernel
set_option maxRecDepth 65536 in
theorem w_t5 : (((((words1.drop 24).drop 24).drop 24).drop 24).take 24).all (fun c => isCode c || c.before args0 about1) = true := by decide +kernel
set_option maxRecDepth 65536 in
theorem w_t6 : ((((((words1.drop 24).drop 24).drop 24).drop 24).drop 24).take 24).all (fun c => isCode c || c.before args0 about1) = true := by decide +kernel
set_option maxRecDepth 65536 in
theorem w_t7 : (((((((words1.drop 24).drop 24).drop 24).drop 24).drop 24).drop 24).take 24).all (fun c => isCode c || c.before args0 about1) = true := by decide +kernel
set_option maxRecDepth 65536 in
theorem w_t8 : ((((((((words1.drop 24).drop 24).drop 24).drop 24).drop 24).drop 24).drop 24).take 24).all (fun c => isCode c || c.before args0 about1) = true := by decide +kernel
set_option maxRecDepth 65536 in
theorem w_t9 : (((((((((words1.drop 24).drop 24).drop 24).drop 24).drop 24).drop 24).drop 24).drop 24).take 24).all (fun c => isCode c || c.before args0 about1) = true := by decide +kernel
set_option maxRecDepth 65536 in
theorem w_t10 : ((((((((((words1.drop 24).drop 24).drop 24).drop 24).drop 24).drop 24).drop 24).drop 24).drop 24).take 24).all (fun c => isCode c || c.before args0 about1) = true := by decide +kernel
set_option maxRecDepth 65536 in
theorem w_t11 : (((((((((((words1.drop 24).drop 24).drop 24).drop 24).drop 24).drop 24).drop 24).drop 24).drop 24).drop 24).take 24).all (fun c => isCode c || c.before args0 about1) = true := by decide +kernel
set_option maxRecDepth 65536 in
theorem w_t12 : ((((((((((((words1.drop 24).drop 24).drop 24).drop 24).drop 24).drop 24).drop 24).drop 24).drop 24).drop 24).drop 24).take 24).all (fun c => isCode c || c.before args0 about1) = true := by decide +kernel
set_option maxRecDepth 65536 in
theorem w_t13 : (((((((((((((words1.drop 24).drop 24).drop 24).drop 24).drop 24).drop 24).drop 24).drop 24).drop 24).drop 24).drop 24).drop 24).take 24).all (fun c => isCode c || c.before args0 about1) = true := by decide +kernel
set_option maxRecDepth 65536 in
theorem w_t14 : ((((((((((((((words1.drop 24).drop 24).drop 24).drop 24).drop 24).drop 24).drop 24).drop 24).drop 24).drop 24).drop 24).drop 24).drop 24).take 24).all (fun c => isCode c || c.before args0 about1) = true := by decide +kernel
set_option maxRecDepth 65536 in
theorem w_t15 : (((((((((((((((words1.drop 24).drop 24).drop 24).drop 24).drop 24).drop 24).drop 24).drop 24).drop 24).drop 24).drop 24).drop 24).drop 24).drop 24).take 24).all (fun c => isCode c || c.before args0 about1) = true := by decide +kernel
set_option maxRecDepth 65536 in
theorem w_t16 : ((((((((((((((((words1.drop 24).drop 24).drop 24).drop 24).drop 24).drop 24).drop 24).drop 24).drop 24).drop 24).drop 24).drop 24).drop 24).drop 24).drop 24).take 24).all (fun c => isCode c || c.before args0 about1) = true := by decide +kernel
set_option maxRecDepth 65536 in
theorem w_t17 : (((((((((((((((((words1.drop 24).drop 24).drop 24).drop 24).drop 24).drop 24).drop 24).drop 24).drop 24).drop 24).drop 24).drop 24).drop 24).drop 24).drop 24).drop 24).take 24).all (fun c => isCode c || c.before args0 about1) = true := by decide +kernel
set_option maxRecDepth 65536 in
theorem w_t18 : (((((((((((((((((words1.drop 24).drop 24).drop 24).drop 24).drop 24).drop 24).drop 24).drop 24).drop 24).drop 24).drop 24).drop 24).drop 24).drop 24).drop 24).drop 24).drop 24).all (fun c => isCode c || c.before args0 about1) = true := by decide +kernel
theorem w_tables : (allAtoms (Jvm.Cond.code x code maxLocals ret :: tables_1)).before args0 about1 = true := by
  rw [allAtoms_all]
  show words1.all (fun c => c.before args0 about1) = true
  refine all_split ?_ w_codes
  rw [← List.take_append_drop 24 words1, List.all_append, w_t1, ← List.take_append_drop 24 (words1.drop 24), List.all_append, w_t2, ← List.take_append_drop 24 ((words1.drop 24).drop 24), List.all_append, w_t3, ← List.take_append_drop 24 (((words1.drop 24).drop 24).drop 24), List.all_append, w_t4, ← List.take_append_drop 24 ((((words1.drop 24).drop 24).drop 24).drop 24), List.all_append, w_t5, ← List.take_append_drop 24 (((((words1.drop 24).drop 24).drop 24).drop 24).drop 24), List.all_append, w_t6, ← List.take_append_drop 24 ((((((words1.drop 24).drop 24).drop 24).drop 24).drop 24).drop 24), List.all_append, w_t7, ← List.take_append_drop 24 (((((((words1.drop 24).drop 24).drop 24).drop 24).drop 24).drop 24).drop 24), List.all_append, w_t8, ← List.take_append_drop 24 ((((((((words1.drop 24).drop 24).drop 24).drop 24).drop 24).drop 24).drop 24).drop 24), List.all_append, w_t9, ← List.take_append_drop 24 (((((((((words1.drop 24).drop 24).drop 24).drop 24).drop 24).drop 24).drop 24).drop 24).drop 24), List.all_append, w_t10, ← List.take_append_drop 24 ((((((((((words1.drop 24).drop 24).drop 24).drop 24).drop 24).drop 24).drop 24).drop 24).drop 24).drop 24), List.all_append, w_t11, ← List.take_append_drop 24 (((((((((((words1.drop 24).drop 24).drop 24).drop 24).drop 24).drop 24).drop 24).drop 24).drop 24).drop 24).drop 24), List.all_append, w_t12, ← List.take_append_drop 24 ((((((((((((words1.drop 24).drop 24).drop 24).drop 24).drop 24).drop 24).drop 24).drop 24).drop 24).drop 24).drop 24).drop 24), List.all_append, w_t13, ← List.take_append_drop 24 (((((((((((((words1.drop 24).drop 24).drop 24).drop 24).drop 24).drop 24).drop 24).drop 24).drop 24).drop 24).drop 24).drop 24).drop 24), List.all_append, w_t14, ← List.take_append_drop 24 ((((((((((((((words1.drop 24).drop 24).drop 24).drop 24).drop 24).drop 24).drop 24).drop 24).drop 24).drop 24).drop 24).drop 24).drop 24).drop 24), List.all_append, w_t15, ← List.take_append_drop 24 (((((((((((((((words1.drop 24).drop 24).drop 24).drop 24).drop 24).drop 24).drop 24).drop 24).drop 24).drop 24).drop 24).drop 24).drop 24).drop 24).drop 24), List.all_append, w_t16, ← List.take_append_drop 24 ((((((((((((((((words1.drop 24).drop 24).drop 24).drop 24).drop 24).drop 24).drop 24).drop 24).drop 24).drop 24).drop 24).drop 24).drop 24).drop 24).drop 24).drop 24), List.all_append, w_t17, w_t18]
  rfl
set_option maxRecDepth 65536 in
theorem w_rest : rest_1_c.before args0 about1 = true := by decide +kernel
set_option maxRecDepth 65536 in
theorem w_case : (Jvm.Cond.and given_1 narrow_1).before args0 about1 = true := by decide +kernel
theorem w_applies : (headSpec (Jvm.Cond.code x code maxLocals ret :: tables_1) room_1).applies x e0.platform about1 = true :=
  (Spec.applies_iff w_frames).mpr ⟨w_running, w_runnable, w_alone, w_named, w_hears, w_ripe, w_room, w_tables⟩
theorem atStart : AtStart classFile x code maxLocals ret World_1 tables_1 room_1 Calls_1 rest_1 Pre_1 launch0 p0 e0 about1 theMethod args0 below0 :=
  ⟨lists_1, trivial, launch0.admits_env _ _ _, launch0.least_env, fairChoices_fair.cas, fairChoices_fair.clock, w_frames, w_args, w_heap, w_applies, ⟨⟨44, k44, 6, by decide +kernel, rfl, rfl, _, rfl, rfl⟩, trivial⟩, w_rest, w_case⟩
end start1
theorem witness_1 : WitnessClaimed_1 := ⟨start1.p0, start1.e0, start1.about1, start1.theMethod, start1.args0, start1.below0, start1.atStart⟩
end Jvm.Pilot.@@N@@
